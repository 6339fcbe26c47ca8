import PyProof.Rows.All
import Wide.All
import OpenK.AllK
import Wide.FinOn
import PySem.Challenge.RW_mj0221_01
set_option Elab.async false
section
open PySem PySem.W PyProof.Rows
set_option Elab.async false
namespace Mine
/-- the functions of a row of statements, those of its classes too -/
def fnsIn : List Stmt → List Stmt
  | [] => []
  | .FunctionDef a b c d e f g h i j :: r => .FunctionDef a b c d e f g h i j :: fnsIn r
  | .ClassDef _ _ _ b _ _ _ _ _ _ _ :: r => fnsOne b (fnsIn r)
  | _ :: r => fnsIn r
where fnsOne : List Stmt → List Stmt → List Stmt
  | [], r => r
  | .FunctionDef a b c d e f g h i j :: l, r => .FunctionDef a b c d e f g h i j :: fnsOne l r
  | _ :: l, r => fnsOne l r
def fnAt : Nat → List Stmt → Arguments × List Stmt × Scope
  | 0, .FunctionDef _ a b _ _ _ s _ _ _ :: _ => (a, b, s)
  | 0, _ => (⟨[], [], none, [], [], none, []⟩, [], ⟨.function, [], false, false, []⟩)
  | n + 1, l => fnAt n l.tail
def stAt : Nat → List Stmt → Stmt
  | 0, s :: _ => s
  | 0, [] => .Pass ⟨0, 0, 0, 0⟩
  | n + 1, l => stAt n l.tail
set_option maxRecDepth 100000 in
/-- what the law reaches of the heap behind the top: the functions' parameters, bodies and scopes are read off the row's text -/
noncomputable def heapK : Params → Frag :=
  (by exact @fun a0 b0 s0 a1 b1 s1 a2 b2 s2 a3 b3 s3 a4 b4 s4 a5 b5 s5 a6 b6 s6 a7 b7 s7 a8 b8 s8 a9 b9 s9 a10 b10 s10 a11 b11 s11 a12 b12 s12 a13 b13 s13 a14 b14 s14 a15 b15 s15 a16 b16 s16 a17 b17 s17 a18 b18 s18 a19 b19 s19 a20 b20 s20 a21 b21 s21 a22 b22 s22 a23 b23 s23 a24 b24 s24 a25 b25 s25 _ _ _ _ _ _ _ _ _ _ _ _ _ _ _ _ _ _ _ _ _ _ _ _ _ _ P => ((
    ((nat_lit 2), ⟨.none, none, (.dict #[] 0), #[]⟩) ::
    ((nat_lit 3), ⟨(.type "dict"), none, (.dict #[⟨(PyData.keyHash P (Str.ofString "__name__")), (.str (Str.ofString "__name__") 165), (.str (Str.ofString "law_mj0221_01") 391)⟩, ⟨(PyData.keyHash P (Str.ofString "__doc__")), (.str (Str.ofString "__doc__") 166), .none⟩, ⟨(PyData.keyHash P (Str.ofString "__package__")), (.str (Str.ofString "__package__") 167), .none⟩, ⟨(PyData.keyHash P (Str.ofString "__loader__")), (.str (Str.ofString "__loader__") 168), (.builtin "__main__.__loader__#opaque")⟩, ⟨(PyData.keyHash P (Str.ofString "__spec__")), (.str (Str.ofString "__spec__") 169), .none⟩, ⟨(PyData.keyHash P (Str.ofString "__annotations__")), (.str (Str.ofString "__annotations__") 170), (.ref 6)⟩, ⟨(PyData.keyHash P (Str.ofString "__builtins__")), (.str (Str.ofString "__builtins__") 171), (.ref 4)⟩, ⟨(PyData.keyHash P (Str.ofString "__file__")), (.str (Str.ofString "__file__") 173), (.str (Str.ofString "/claim/cut.py") 172)⟩, ⟨(PyData.keyHash P (Str.ofString "__cached__")), (.str (Str.ofString "__cached__") 174), .none⟩, ⟨(PyData.keyHash P (Str.ofString "_wall")), (.str (Str.ofString "_wall") 193), (.ref 21)⟩, ⟨(PyData.keyHash P (Str.ofString "_NODE_OUT")), (.str (Str.ofString "_NODE_OUT") 198), (.int (-1) 197)⟩, ⟨(PyData.keyHash P (Str.ofString "_NODE_DONE")), (.str (Str.ofString "_NODE_DONE") 201), (.int (-2) 200)⟩, ⟨(PyData.keyHash P (Str.ofString "_NodeInfo")), (.str (Str.ofString "_NodeInfo") 238), (.ref 40)⟩, ⟨(PyData.keyHash P (Str.ofString "CycleError")), (.str (Str.ofString "CycleError") 256), (.ref 55)⟩, ⟨(PyData.keyHash P (Str.ofString "TopologicalSorter")), (.str (Str.ofString "TopologicalSorter") 375), (.ref 137)⟩, ⟨(PyData.keyHash P (Str.ofString "search_reverse")), (.str (Str.ofString "search_reverse") 390), (.ref 148)⟩, ⟨(PyData.keyHash P (Str.ofString "_law_hit")), (.str (Str.ofString "_law_hit") 403), (.ref 155)⟩, ⟨(PyData.keyHash P (Str.ofString "_law_finder")), (.str (Str.ofString "_law_finder") 411), (.ref 162)⟩, ⟨(PyData.keyHash P (Str.ofString "_law_row")), (.str (Str.ofString "_law_row") 417), (.ref 167)⟩, ⟨(PyData.keyHash P (Str.ofString "_law_stretches")), (.str (Str.ofString "_law_stretches") 423), (.ref 172)⟩, ⟨(PyData.keyHash P (Str.ofString "_law_span")), (.str (Str.ofString "_law_span") 432), (.ref 179)⟩, ⟨(PyData.keyHash P (Str.ofString "_law_all_needs")), (.str (Str.ofString "_law_all_needs") 443), (.ref 186)⟩, ⟨(PyData.keyHash P (Str.ofString "_law_one_need")), (.str (Str.ofString "_law_one_need") 455), (.ref 193)⟩, ⟨(PyData.keyHash P (Str.ofString "_law_groups")), (.str (Str.ofString "_law_groups") 465), (.ref 200)⟩, ⟨(PyData.keyHash P (Str.ofString "_law_most")), (.str (Str.ofString "_law_most") 471), (.ref 205)⟩, ⟨(PyData.keyHash P (Str.ofString "_law_answer_due")), (.str (Str.ofString "_law_answer_due") 477), (.ref 210)⟩, ⟨(PyData.keyHash P (Str.ofString "_law_told_right")), (.str (Str.ofString "_law_told_right") 487), (.ref 217)⟩, ⟨(PyData.keyHash P (Str.ofString "_law_groups_due")), (.str (Str.ofString "_law_groups_due") 493), (.ref 222)⟩, ⟨(PyData.keyHash P (Str.ofString "law")), (.str (Str.ofString "law") 506), (.ref 229)⟩] 29), #[]⟩) ::
    ((nat_lit 15), ⟨(.type "tuple"), none, (.seq #[] 0), #[]⟩) ::
    ((nat_lit 17), ⟨(.type "tuple"), none, (.seq #[(.str (Str.ofString "k") 190)] 0), #[]⟩) ::
    ((nat_lit 18), ⟨(.type "tuple"), none, (.seq #[] 0), #[]⟩) ::
    ((nat_lit 20), ⟨(.type "code"), none, (.fields #[(.str (Str.ofString "_wall") 187), (.str (Str.ofString "_wall") 188), (.str (Str.ofString "/claim/cut.py") 189), (.int 1 0), (.int 1 0), (.int 0 0), (.int 0 0), (.int 3 0), (.ref 15), (.bool Bool.true), (.int 181 0), (.ref 16), .none, (.ref 17), (.ref 18), (.ref 19), (.int 191 0), (.int 1 0), (.str (Str.ofString "/claim/cut.py") 192)]), #[]⟩) ::
    ((nat_lit 21), ⟨(.type "function"), none, (.func ⟨(Str.ofString "_wall"), (Str.ofString "_wall"), a0, (.stmts b0), s0, 3, [], .none, .none, .none, (.str (Str.ofString "__main__") 164), none, (.ref 20), .none, 0⟩), #[]⟩) ::
    ((nat_lit 29), ⟨(.type "tuple"), none, (.seq #[(.str (Str.ofString "node") 214), (.str (Str.ofString "npredecessors") 215), (.str (Str.ofString "successors") 216)] 0), #[]⟩) ::
    ((nat_lit 30), ⟨(.type "tuple"), none, (.seq #[] 0), #[]⟩) ::
    ((nat_lit 32), ⟨(.type "tuple"), none, (.seq #[(.str (Str.ofString "self") 221), (.str (Str.ofString "node") 222)] 0), #[]⟩) ::
    ((nat_lit 33), ⟨(.type "tuple"), none, (.seq #[] 0), #[]⟩) ::
    ((nat_lit 35), ⟨(.type "code"), none, (.fields #[(.str (Str.ofString "__init__") 218), (.str (Str.ofString "_NodeInfo.__init__") 219), (.str (Str.ofString "/claim/cut.py") 220), (.int 10 0), (.int 2 0), (.int 0 0), (.int 0 0), (.int 3 0), (.ref 30), (.bool Bool.true), (.int 181 0), (.ref 31), .none, (.ref 32), (.ref 33), (.ref 34), (.int 223 0), (.int 10 0), (.str (Str.ofString "/claim/cut.py") 224)]), #[]⟩) ::
    ((nat_lit 36), ⟨(.type "function"), none, (.func ⟨(Str.ofString "__init__"), (Str.ofString "_NodeInfo.__init__"), a1, (.stmts b1), s1, 3, [], .none, .none, .none, (.str (Str.ofString "cpy313.graphlib") 194), none, (.ref 35), .none, 0⟩), #[]⟩) ::
    ((nat_lit 37), ⟨(.type "tuple"), none, (.seq #[(.str (Str.ofString "node") 226), (.str (Str.ofString "npredecessors") 227), (.str (Str.ofString "successors") 228)] 0), #[]⟩) ::
    ((nat_lit 39), ⟨(.type "dict"), none, (.dict #[⟨(PyData.keyHash P (Str.ofString "__module__")), (.str (Str.ofString "__module__") 209), (.str (Str.ofString "cpy313.graphlib") 194)⟩, ⟨(PyData.keyHash P (Str.ofString "__firstlineno__")), (.str (Str.ofString "__firstlineno__") 213), (.int 7 212)⟩, ⟨(PyData.keyHash P (Str.ofString "__slots__")), (.str (Str.ofString "__slots__") 217), (.ref 29)⟩, ⟨(PyData.keyHash P (Str.ofString "__init__")), (.str (Str.ofString "__init__") 225), (.ref 36)⟩, ⟨(PyData.keyHash P (Str.ofString "__static_attributes__")), (.str (Str.ofString "__static_attributes__") 229), (.ref 37)⟩, ⟨(PyData.keyHash P (Str.ofString "node")), (.str (Str.ofString "node") 231), (.ref 41)⟩, ⟨(PyData.keyHash P (Str.ofString "npredecessors")), (.str (Str.ofString "npredecessors") 233), (.ref 42)⟩, ⟨(PyData.keyHash P (Str.ofString "successors")), (.str (Str.ofString "successors") 235), (.ref 43)⟩, ⟨(PyData.keyHash P (Str.ofString "__doc__")), (.str (Str.ofString "__doc__") 236), .none⟩] 5), #[]⟩) ::
    ((nat_lit 40), ⟨(.type "type"), none, (.cls ⟨(Str.ofString "_NodeInfo"), [(.type "object")], [(.ref 40), (.type "object")], 39, (Str.ofString "_NodeInfo"), Bool.false, [(Str.ofString "node"), (Str.ofString "npredecessors"), (Str.ofString "successors")], [], Bool.false, none, Bool.false⟩), #[none, none, (some (.str (Str.ofString "_NodeInfo") 202)), (some (.str (Str.ofString "_NodeInfo") 210)), (some (.builtin "object.__new__")), (some (.bool Bool.false))]⟩) ::
    ((nat_lit 41), ⟨(.type "member_descriptor"), none, (.fields #[(.str (Str.ofString "node") 230), (.ref 40), (.builtin "proto.slot"), (.builtin "proto.slot#set"), (.int 2 0)]), #[]⟩) ::
    ((nat_lit 42), ⟨(.type "member_descriptor"), none, (.fields #[(.str (Str.ofString "npredecessors") 232), (.ref 40), (.builtin "proto.slot"), (.builtin "proto.slot#set"), (.int 1 0)]), #[]⟩) ::
    ((nat_lit 43), ⟨(.type "member_descriptor"), none, (.fields #[(.str (Str.ofString "successors") 234), (.ref 40), (.builtin "proto.slot"), (.builtin "proto.slot#set"), (.int 0 0)]), #[]⟩) ::
    ((nat_lit 46), ⟨(.type "tuple"), none, (.seq #[(.type "ValueError")] 0), #[]⟩) ::
    ((nat_lit 53), ⟨(.type "tuple"), none, (.seq #[] 0), #[]⟩) ::
    ((nat_lit 54), ⟨(.type "dict"), none, (.dict #[⟨(PyData.keyHash P (Str.ofString "__module__")), (.str (Str.ofString "__module__") 246), (.str (Str.ofString "cpy313.graphlib") 194)⟩, ⟨(PyData.keyHash P (Str.ofString "__firstlineno__")), (.str (Str.ofString "__firstlineno__") 250), (.int 14 249)⟩, ⟨(PyData.keyHash P (Str.ofString "__static_attributes__")), (.str (Str.ofString "__static_attributes__") 251), (.ref 53)⟩, ⟨(PyData.keyHash P (Str.ofString "__weakref__")), (.str (Str.ofString "__weakref__") 253), (.ref 56)⟩, ⟨(PyData.keyHash P (Str.ofString "__doc__")), (.str (Str.ofString "__doc__") 254), .none⟩] 3), #[]⟩) ::
    ((nat_lit 55), ⟨(.type "type"), none, (.cls ⟨(Str.ofString "CycleError"), [(.type "ValueError")], [(.ref 55), (.type "ValueError"), (.type "Exception"), (.type "BaseException"), (.type "object")], 54, (Str.ofString "CycleError"), Bool.true, [], [], Bool.false, none, Bool.false⟩), #[(some (.ref 46)), none, (some (.str (Str.ofString "CycleError") 239)), (some (.str (Str.ofString "CycleError") 247)), (some (.builtin "ValueError.__new__")), (some (.bool Bool.true))]⟩) ::
    ((nat_lit 56), ⟨(.type "getset_descriptor"), none, (.fields #[(.str (Str.ofString "__weakref__") 252), (.ref 55), (.builtin "ExceptionGroup.__weakref__"), .none]), #[]⟩) ::
    ((nat_lit 66), ⟨(.type "tuple"), none, (.seq #[.none] 0), #[]⟩) ::
    ((nat_lit 67), ⟨(.type "tuple"), none, (.seq #[] 0), #[]⟩) ::
    ((nat_lit 69), ⟨(.type "tuple"), none, (.seq #[(.str (Str.ofString "self") 272), (.str (Str.ofString "graph") 273), (.str (Str.ofString "node") 274), (.str (Str.ofString "predecessors") 275)] 0), #[]⟩) ::
    ((nat_lit 70), ⟨(.type "tuple"), none, (.seq #[] 0), #[]⟩) ::
    ((nat_lit 72), ⟨(.type "code"), none, (.fields #[(.str (Str.ofString "__init__") 269), (.str (Str.ofString "TopologicalSorter.__init__") 270), (.str (Str.ofString "/claim/cut.py") 271), (.int 18 0), (.int 2 0), (.int 0 0), (.int 0 0), (.int 3 0), (.ref 67), (.bool Bool.true), (.int 181 0), (.ref 68), .none, (.ref 69), (.ref 70), (.ref 71), (.int 276 0), (.int 18 0), (.str (Str.ofString "/claim/cut.py") 277)]), #[]⟩) ::
    ((nat_lit 73), ⟨(.type "function"), none, (.func ⟨(Str.ofString "__init__"), (Str.ofString "TopologicalSorter.__init__"), a2, (.stmts b2), s2, 3, [], (.ref 66), .none, .none, (.str (Str.ofString "cpy313.graphlib") 194), none, (.ref 72), .none, 0⟩), #[]⟩) ::
    ((nat_lit 74), ⟨(.type "tuple"), none, (.seq #[] 0), #[]⟩) ::
    ((nat_lit 76), ⟨(.type "tuple"), none, (.seq #[(.str (Str.ofString "self") 282), (.str (Str.ofString "node") 283), (.str (Str.ofString "result") 284)] 0), #[]⟩) ::
    ((nat_lit 77), ⟨(.type "tuple"), none, (.seq #[] 0), #[]⟩) ::
    ((nat_lit 79), ⟨(.type "code"), none, (.fields #[(.str (Str.ofString "_get_nodeinfo") 279), (.str (Str.ofString "TopologicalSorter._get_nodeinfo") 280), (.str (Str.ofString "/claim/cut.py") 281), (.int 27 0), (.int 2 0), (.int 0 0), (.int 0 0), (.int 3 0), (.ref 74), (.bool Bool.true), (.int 181 0), (.ref 75), .none, (.ref 76), (.ref 77), (.ref 78), (.int 285 0), (.int 27 0), (.str (Str.ofString "/claim/cut.py") 286)]), #[]⟩) ::
    ((nat_lit 80), ⟨(.type "function"), none, (.func ⟨(Str.ofString "_get_nodeinfo"), (Str.ofString "TopologicalSorter._get_nodeinfo"), a3, (.stmts b3), s3, 3, [], .none, .none, .none, (.str (Str.ofString "cpy313.graphlib") 194), none, (.ref 79), .none, 0⟩), #[]⟩) ::
    ((nat_lit 81), ⟨(.type "tuple"), none, (.seq #[] 0), #[]⟩) ::
    ((nat_lit 83), ⟨(.type "tuple"), none, (.seq #[(.str (Str.ofString "self") 291), (.str (Str.ofString "node") 292), (.str (Str.ofString "predecessors") 293), (.str (Str.ofString "nodeinfo") 294), (.str (Str.ofString "pred") 295), (.str (Str.ofString "pred_info") 296)] 0), #[]⟩) ::
    ((nat_lit 84), ⟨(.type "tuple"), none, (.seq #[] 0), #[]⟩) ::
    ((nat_lit 86), ⟨(.type "code"), none, (.fields #[(.str (Str.ofString "add") 288), (.str (Str.ofString "TopologicalSorter.add") 289), (.str (Str.ofString "/claim/cut.py") 290), (.int 32 0), (.int 2 0), (.int 0 0), (.int 0 0), (.int 7 0), (.ref 81), (.bool Bool.true), (.int 181 0), (.ref 82), .none, (.ref 83), (.ref 84), (.ref 85), (.int 297 0), (.int 32 0), (.str (Str.ofString "/claim/cut.py") 298)]), #[]⟩) ::
    ((nat_lit 87), ⟨(.type "function"), none, (.func ⟨(Str.ofString "add"), (Str.ofString "TopologicalSorter.add"), a4, (.stmts b4), s4, 3, [], .none, .none, .none, (.str (Str.ofString "cpy313.graphlib") 194), none, (.ref 86), .none, 0⟩), #[]⟩) ::
    ((nat_lit 88), ⟨(.type "tuple"), none, (.seq #[] 0), #[]⟩) ::
    ((nat_lit 91), ⟨(.type "code"), none, (.fields #[(.str (Str.ofString "prepare") 300), (.str (Str.ofString "TopologicalSorter.prepare") 301), (.str (Str.ofString "/claim/cut.py") 302), (.int 41 0), (.int 1 0), (.int 0 0), (.int 0 0), (.int 3 0), (.ref 88), (.bool Bool.true), (.int 181 0), (.ref 89), .none, .none, .none, (.ref 90), (.int 303 0), (.int 41 0), (.str (Str.ofString "/claim/cut.py") 304)]), #[]⟩) ::
    ((nat_lit 92), ⟨(.type "function"), none, (.func ⟨(Str.ofString "prepare"), (Str.ofString "TopologicalSorter.prepare"), a5, (.stmts b5), s5, 3, [], .none, .none, .none, (.str (Str.ofString "cpy313.graphlib") 194), none, (.ref 91), .none, 0⟩), #[]⟩) ::
    ((nat_lit 93), ⟨(.type "tuple"), none, (.seq #[] 0), #[]⟩) ::
    ((nat_lit 95), ⟨(.type "tuple"), none, (.seq #[(.str (Str.ofString "self") 309), (.str (Str.ofString "result") 310), (.str (Str.ofString "n2i") 311), (.str (Str.ofString "node") 312)] 0), #[]⟩) ::
    ((nat_lit 96), ⟨(.type "tuple"), none, (.seq #[] 0), #[]⟩) ::
    ((nat_lit 98), ⟨(.type "code"), none, (.fields #[(.str (Str.ofString "get_ready") 306), (.str (Str.ofString "TopologicalSorter.get_ready") 307), (.str (Str.ofString "/claim/cut.py") 308), (.int 49 0), (.int 1 0), (.int 0 0), (.int 0 0), (.int 3 0), (.ref 93), (.bool Bool.true), (.int 181 0), (.ref 94), .none, (.ref 95), (.ref 96), (.ref 97), (.int 313 0), (.int 49 0), (.str (Str.ofString "/claim/cut.py") 314)]), #[]⟩) ::
    ((nat_lit 99), ⟨(.type "function"), none, (.func ⟨(Str.ofString "get_ready"), (Str.ofString "TopologicalSorter.get_ready"), a6, (.stmts b6), s6, 3, [], .none, .none, .none, (.str (Str.ofString "cpy313.graphlib") 194), none, (.ref 98), .none, 0⟩), #[]⟩) ::
    ((nat_lit 100), ⟨(.type "tuple"), none, (.seq #[] 0), #[]⟩) ::
    ((nat_lit 102), ⟨(.type "tuple"), none, (.seq #[(.str (Str.ofString "self") 319)] 0), #[]⟩) ::
    ((nat_lit 103), ⟨(.type "tuple"), none, (.seq #[] 0), #[]⟩) ::
    ((nat_lit 105), ⟨(.type "code"), none, (.fields #[(.str (Str.ofString "is_active") 316), (.str (Str.ofString "TopologicalSorter.is_active") 317), (.str (Str.ofString "/claim/cut.py") 318), (.int 60 0), (.int 1 0), (.int 0 0), (.int 0 0), (.int 3 0), (.ref 100), (.bool Bool.true), (.int 181 0), (.ref 101), .none, (.ref 102), (.ref 103), (.ref 104), (.int 320 0), (.int 60 0), (.str (Str.ofString "/claim/cut.py") 321)]), #[]⟩) ::
    ((nat_lit 106), ⟨(.type "function"), none, (.func ⟨(Str.ofString "is_active"), (Str.ofString "TopologicalSorter.is_active"), a7, (.stmts b7), s7, 3, [], .none, .none, .none, (.str (Str.ofString "cpy313.graphlib") 194), none, (.ref 105), .none, 0⟩), #[]⟩) ::
    ((nat_lit 107), ⟨(.type "tuple"), none, (.seq #[] 0), #[]⟩) ::
    ((nat_lit 109), ⟨(.type "tuple"), none, (.seq #[(.str (Str.ofString "self") 326)] 0), #[]⟩) ::
    ((nat_lit 110), ⟨(.type "tuple"), none, (.seq #[] 0), #[]⟩) ::
    ((nat_lit 112), ⟨(.type "code"), none, (.fields #[(.str (Str.ofString "__bool__") 323), (.str (Str.ofString "TopologicalSorter.__bool__") 324), (.str (Str.ofString "/claim/cut.py") 325), (.int 65 0), (.int 1 0), (.int 0 0), (.int 0 0), (.int 3 0), (.ref 107), (.bool Bool.true), (.int 181 0), (.ref 108), .none, (.ref 109), (.ref 110), (.ref 111), (.int 327 0), (.int 65 0), (.str (Str.ofString "/claim/cut.py") 328)]), #[]⟩) ::
    ((nat_lit 113), ⟨(.type "function"), none, (.func ⟨(Str.ofString "__bool__"), (Str.ofString "TopologicalSorter.__bool__"), a8, (.stmts b8), s8, 3, [], .none, .none, .none, (.str (Str.ofString "cpy313.graphlib") 194), none, (.ref 112), .none, 0⟩), #[]⟩) ::
    ((nat_lit 114), ⟨(.type "tuple"), none, (.seq #[] 0), #[]⟩) ::
    ((nat_lit 116), ⟨(.type "tuple"), none, (.seq #[(.str (Str.ofString "self") 333), (.str (Str.ofString "nodes") 334), (.str (Str.ofString "n2i") 335), (.str (Str.ofString "node") 336), (.str (Str.ofString "nodeinfo") 337), (.str (Str.ofString "stat") 338), (.str (Str.ofString "successor") 339), (.str (Str.ofString "successor_info") 340)] 0), #[]⟩) ::
    ((nat_lit 117), ⟨(.type "tuple"), none, (.seq #[] 0), #[]⟩) ::
    ((nat_lit 119), ⟨(.type "code"), none, (.fields #[(.str (Str.ofString "done") 330), (.str (Str.ofString "TopologicalSorter.done") 331), (.str (Str.ofString "/claim/cut.py") 332), (.int 68 0), (.int 1 0), (.int 0 0), (.int 0 0), (.int 7 0), (.ref 114), (.bool Bool.true), (.int 181 0), (.ref 115), .none, (.ref 116), (.ref 117), (.ref 118), (.int 341 0), (.int 68 0), (.str (Str.ofString "/claim/cut.py") 342)]), #[]⟩) ::
    ((nat_lit 120), ⟨(.type "function"), none, (.func ⟨(Str.ofString "done"), (Str.ofString "TopologicalSorter.done"), a9, (.stmts b9), s9, 3, [], .none, .none, .none, (.str (Str.ofString "cpy313.graphlib") 194), none, (.ref 119), .none, 0⟩), #[]⟩) ::
    ((nat_lit 121), ⟨(.type "tuple"), none, (.seq #[] 0), #[]⟩) ::
    ((nat_lit 123), ⟨(.type "tuple"), none, (.seq #[(.str (Str.ofString "self") 347), (.str (Str.ofString "n2i") 348), (.str (Str.ofString "stack") 349), (.str (Str.ofString "itstack") 350), (.str (Str.ofString "seen") 351), (.str (Str.ofString "node2stacki") 352), (.str (Str.ofString "node") 353)] 0), #[]⟩) ::
    ((nat_lit 124), ⟨(.type "tuple"), none, (.seq #[] 0), #[]⟩) ::
    ((nat_lit 126), ⟨(.type "code"), none, (.fields #[(.str (Str.ofString "_find_cycle") 344), (.str (Str.ofString "TopologicalSorter._find_cycle") 345), (.str (Str.ofString "/claim/cut.py") 346), (.int 91 0), (.int 1 0), (.int 0 0), (.int 0 0), (.int 3 0), (.ref 121), (.bool Bool.true), (.int 181 0), (.ref 122), .none, (.ref 123), (.ref 124), (.ref 125), (.int 354 0), (.int 91 0), (.str (Str.ofString "/claim/cut.py") 355)]), #[]⟩) ::
    ((nat_lit 127), ⟨(.type "function"), none, (.func ⟨(Str.ofString "_find_cycle"), (Str.ofString "TopologicalSorter._find_cycle"), a10, (.stmts b10), s10, 3, [], .none, .none, .none, (.str (Str.ofString "cpy313.graphlib") 194), none, (.ref 126), .none, 0⟩), #[]⟩) ::
    ((nat_lit 128), ⟨(.type "tuple"), none, (.seq #[] 0), #[]⟩) ::
    ((nat_lit 130), ⟨(.type "tuple"), none, (.seq #[(.str (Str.ofString "self") 360)] 0), #[]⟩) ::
    ((nat_lit 131), ⟨(.type "tuple"), none, (.seq #[] 0), #[]⟩) ::
    ((nat_lit 133), ⟨(.type "code"), none, (.fields #[(.str (Str.ofString "static_order") 357), (.str (Str.ofString "TopologicalSorter.static_order") 358), (.str (Str.ofString "/claim/cut.py") 359), (.int 120 0), (.int 1 0), (.int 0 0), (.int 0 0), (.int 3 0), (.ref 128), (.bool Bool.true), (.int 181 0), (.ref 129), .none, (.ref 130), (.ref 131), (.ref 132), (.int 361 0), (.int 120 0), (.str (Str.ofString "/claim/cut.py") 362)]), #[]⟩) ::
    ((nat_lit 134), ⟨(.type "function"), none, (.func ⟨(Str.ofString "static_order"), (Str.ofString "TopologicalSorter.static_order"), a11, (.stmts b11), s11, 3, [], .none, .none, .none, (.str (Str.ofString "cpy313.graphlib") 194), none, (.ref 133), .none, 0⟩), #[]⟩) ::
    ((nat_lit 135), ⟨(.type "tuple"), none, (.seq #[(.str (Str.ofString "_nfinished") 364), (.str (Str.ofString "_node2info") 365), (.str (Str.ofString "_npassedout") 366), (.str (Str.ofString "_ready_nodes") 367)] 0), #[]⟩) ::
    ((nat_lit 136), ⟨(.type "dict"), none, (.dict #[⟨(PyData.keyHash P (Str.ofString "__module__")), (.str (Str.ofString "__module__") 264), (.str (Str.ofString "cpy313.graphlib") 194)⟩, ⟨(PyData.keyHash P (Str.ofString "__firstlineno__")), (.str (Str.ofString "__firstlineno__") 268), (.int 16 267)⟩, ⟨(PyData.keyHash P (Str.ofString "__init__")), (.str (Str.ofString "__init__") 278), (.ref 73)⟩, ⟨(PyData.keyHash P (Str.ofString "_get_nodeinfo")), (.str (Str.ofString "_get_nodeinfo") 287), (.ref 80)⟩, ⟨(PyData.keyHash P (Str.ofString "add")), (.str (Str.ofString "add") 299), (.ref 87)⟩, ⟨(PyData.keyHash P (Str.ofString "prepare")), (.str (Str.ofString "prepare") 305), (.ref 92)⟩, ⟨(PyData.keyHash P (Str.ofString "get_ready")), (.str (Str.ofString "get_ready") 315), (.ref 99)⟩, ⟨(PyData.keyHash P (Str.ofString "is_active")), (.str (Str.ofString "is_active") 322), (.ref 106)⟩, ⟨(PyData.keyHash P (Str.ofString "__bool__")), (.str (Str.ofString "__bool__") 329), (.ref 113)⟩, ⟨(PyData.keyHash P (Str.ofString "done")), (.str (Str.ofString "done") 343), (.ref 120)⟩, ⟨(PyData.keyHash P (Str.ofString "_find_cycle")), (.str (Str.ofString "_find_cycle") 356), (.ref 127)⟩, ⟨(PyData.keyHash P (Str.ofString "static_order")), (.str (Str.ofString "static_order") 363), (.ref 134)⟩, ⟨(PyData.keyHash P (Str.ofString "__static_attributes__")), (.str (Str.ofString "__static_attributes__") 368), (.ref 135)⟩, ⟨(PyData.keyHash P (Str.ofString "__dict__")), (.str (Str.ofString "__dict__") 370), (.ref 138)⟩, ⟨(PyData.keyHash P (Str.ofString "__weakref__")), (.str (Str.ofString "__weakref__") 372), (.ref 139)⟩, ⟨(PyData.keyHash P (Str.ofString "__doc__")), (.str (Str.ofString "__doc__") 373), .none⟩] 4), #[]⟩) ::
    ((nat_lit 137), ⟨(.type "type"), none, (.cls ⟨(Str.ofString "TopologicalSorter"), [(.type "object")], [(.ref 137), (.type "object")], 136, (Str.ofString "TopologicalSorter"), Bool.true, [], [], Bool.false, none, Bool.false⟩), #[none, none, (some (.str (Str.ofString "TopologicalSorter") 257)), (some (.str (Str.ofString "TopologicalSorter") 265)), (some (.builtin "object.__new__")), (some (.bool Bool.true))]⟩) ::
    ((nat_lit 138), ⟨(.type "getset_descriptor"), none, (.fields #[(.str (Str.ofString "__dict__") 369), (.ref 137), (.builtin "function.__dict__"), (.builtin "function.__dict__#set")]), #[]⟩) ::
    ((nat_lit 139), ⟨(.type "getset_descriptor"), none, (.fields #[(.str (Str.ofString "__weakref__") 371), (.ref 137), (.builtin "ExceptionGroup.__weakref__"), .none]), #[]⟩) ::
    ((nat_lit 142), ⟨(.type "tuple"), none, (.seq #[] 0), #[]⟩) ::
    ((nat_lit 144), ⟨(.type "tuple"), none, (.seq #[(.str (Str.ofString "prog") 381), (.str (Str.ofString "chars") 382), (.str (Str.ofString "col") 383), (.str (Str.ofString "m") 384), (.str (Str.ofString "found") 385), (.str (Str.ofString "i") 386), (.str (Str.ofString "j") 387)] 0), #[]⟩) ::
    ((nat_lit 145), ⟨(.type "tuple"), none, (.seq #[] 0), #[]⟩) ::
    ((nat_lit 147), ⟨(.type "code"), none, (.fields #[(.str (Str.ofString "search_reverse") 378), (.str (Str.ofString "search_reverse") 379), (.str (Str.ofString "/claim/cut.py") 380), (.int 123 0), (.int 3 0), (.int 0 0), (.int 0 0), (.int 3 0), (.ref 142), (.bool Bool.true), (.int 181 0), (.ref 143), .none, (.ref 144), (.ref 145), (.ref 146), (.int 388 0), (.int 123 0), (.str (Str.ofString "/claim/cut.py") 389)]), #[]⟩) ::
    ((nat_lit 148), ⟨(.type "function"), none, (.func ⟨(Str.ofString "search_reverse"), (Str.ofString "search_reverse"), a12, (.stmts b12), s12, 3, [], .none, .none, .none, (.str (Str.ofString "cpy313.idlelib.searchengine") 376), none, (.ref 147), .none, 0⟩), #[]⟩) ::
    ((nat_lit 149), ⟨(.type "tuple"), none, (.seq #[] 0), #[]⟩) ::
    ((nat_lit 151), ⟨(.type "tuple"), none, (.seq #[(.str (Str.ofString "first") 396), (.str (Str.ofString "behind") 397), (.str (Str.ofString "hit") 398)] 0), #[]⟩) ::
    ((nat_lit 152), ⟨(.type "tuple"), none, (.seq #[(.str (Str.ofString "first") 399), (.str (Str.ofString "behind") 400)] 0), #[]⟩) ::
    ((nat_lit 154), ⟨(.type "code"), none, (.fields #[(.str (Str.ofString "_law_hit") 393), (.str (Str.ofString "_law_hit") 394), (.str (Str.ofString "/claim/cut.py") 395), (.int 139 0), (.int 2 0), (.int 0 0), (.int 0 0), (.int 3 0), (.ref 149), (.bool Bool.true), (.int 181 0), (.ref 150), .none, (.ref 151), (.ref 152), (.ref 153), (.int 401 0), (.int 139 0), (.str (Str.ofString "/claim/cut.py") 402)]), #[]⟩) ::
    ((nat_lit 155), ⟨(.type "function"), none, (.func ⟨(Str.ofString "_law_hit"), (Str.ofString "_law_hit"), a13, (.stmts b13), s13, 3, [], .none, .none, .none, (.str (Str.ofString "law_mj0221_01") 391), none, (.ref 154), .none, 0⟩), #[]⟩) ::
    ((nat_lit 156), ⟨(.type "tuple"), none, (.seq #[] 0), #[]⟩) ::
    ((nat_lit 158), ⟨(.type "tuple"), none, (.seq #[(.str (Str.ofString "search") 407), (.str (Str.ofString "prog") 408)] 0), #[]⟩) ::
    ((nat_lit 159), ⟨(.type "tuple"), none, (.seq #[] 0), #[]⟩) ::
    ((nat_lit 161), ⟨(.type "code"), none, (.fields #[(.str (Str.ofString "_law_finder") 404), (.str (Str.ofString "_law_finder") 405), (.str (Str.ofString "/claim/cut.py") 406), (.int 143 0), (.int 0 0), (.int 0 0), (.int 0 0), (.int 3 0), (.ref 156), (.bool Bool.true), (.int 181 0), (.ref 157), .none, (.ref 158), (.ref 159), (.ref 160), (.int 409 0), (.int 143 0), (.str (Str.ofString "/claim/cut.py") 410)]), #[]⟩) ::
    ((nat_lit 162), ⟨(.type "function"), none, (.func ⟨(Str.ofString "_law_finder"), (Str.ofString "_law_finder"), a14, (.stmts b14), s14, 3, [], .none, .none, .none, (.str (Str.ofString "law_mj0221_01") 391), none, (.ref 161), .none, 0⟩), #[]⟩) ::
    ((nat_lit 163), ⟨(.type "tuple"), none, (.seq #[] 0), #[]⟩) ::
    ((nat_lit 166), ⟨(.type "code"), none, (.fields #[(.str (Str.ofString "_law_row") 412), (.str (Str.ofString "_law_row") 413), (.str (Str.ofString "/claim/cut.py") 414), (.int 155 0), (.int 1 0), (.int 0 0), (.int 0 0), (.int 3 0), (.ref 163), (.bool Bool.true), (.int 181 0), (.ref 164), .none, .none, .none, (.ref 165), (.int 415 0), (.int 155 0), (.str (Str.ofString "/claim/cut.py") 416)]), #[]⟩) ::
    ((nat_lit 167), ⟨(.type "function"), none, (.func ⟨(Str.ofString "_law_row"), (Str.ofString "_law_row"), a15, (.stmts b15), s15, 3, [], .none, .none, .none, (.str (Str.ofString "law_mj0221_01") 391), none, (.ref 166), .none, 0⟩), #[]⟩) ::
    ((nat_lit 168), ⟨(.type "tuple"), none, (.seq #[] 0), #[]⟩) ::
    ((nat_lit 171), ⟨(.type "code"), none, (.fields #[(.str (Str.ofString "_law_stretches") 418), (.str (Str.ofString "_law_stretches") 419), (.str (Str.ofString "/claim/cut.py") 420), (.int 159 0), (.int 1 0), (.int 0 0), (.int 0 0), (.int 3 0), (.ref 168), (.bool Bool.true), (.int 181 0), (.ref 169), .none, .none, .none, (.ref 170), (.int 421 0), (.int 159 0), (.str (Str.ofString "/claim/cut.py") 422)]), #[]⟩) ::
    ((nat_lit 172), ⟨(.type "function"), none, (.func ⟨(Str.ofString "_law_stretches"), (Str.ofString "_law_stretches"), a16, (.stmts b16), s16, 3, [], .none, .none, .none, (.str (Str.ofString "law_mj0221_01") 391), none, (.ref 171), .none, 0⟩), #[]⟩) ::
    ((nat_lit 173), ⟨(.type "tuple"), none, (.seq #[] 0), #[]⟩) ::
    ((nat_lit 175), ⟨(.type "tuple"), none, (.seq #[(.str (Str.ofString "row") 427), (.str (Str.ofString "place") 428), (.str (Str.ofString "found") 429)] 0), #[]⟩) ::
    ((nat_lit 176), ⟨(.type "tuple"), none, (.seq #[] 0), #[]⟩) ::
    ((nat_lit 178), ⟨(.type "code"), none, (.fields #[(.str (Str.ofString "_law_span") 424), (.str (Str.ofString "_law_span") 425), (.str (Str.ofString "/claim/cut.py") 426), (.int 161 0), (.int 2 0), (.int 0 0), (.int 0 0), (.int 3 0), (.ref 173), (.bool Bool.true), (.int 181 0), (.ref 174), .none, (.ref 175), (.ref 176), (.ref 177), (.int 430 0), (.int 161 0), (.str (Str.ofString "/claim/cut.py") 431)]), #[]⟩) ::
    ((nat_lit 179), ⟨(.type "function"), none, (.func ⟨(Str.ofString "_law_span"), (Str.ofString "_law_span"), a17, (.stmts b17), s17, 3, [], .none, .none, .none, (.str (Str.ofString "law_mj0221_01") 391), none, (.ref 178), .none, 0⟩), #[]⟩) ::
    ((nat_lit 180), ⟨(.type "tuple"), none, (.seq #[] 0), #[]⟩) ::
    ((nat_lit 182), ⟨(.type "tuple"), none, (.seq #[(.str (Str.ofString "stretches") 436), (.str (Str.ofString "sorter") 437), (.str (Str.ofString "first") 438), (.str (Str.ofString "behind") 439), (.str (Str.ofString "other") 440)] 0), #[]⟩) ::
    ((nat_lit 183), ⟨(.type "tuple"), none, (.seq #[] 0), #[]⟩) ::
    ((nat_lit 185), ⟨(.type "code"), none, (.fields #[(.str (Str.ofString "_law_all_needs") 433), (.str (Str.ofString "_law_all_needs") 434), (.str (Str.ofString "/claim/cut.py") 435), (.int 164 0), (.int 1 0), (.int 0 0), (.int 0 0), (.int 3 0), (.ref 180), (.bool Bool.true), (.int 181 0), (.ref 181), .none, (.ref 182), (.ref 183), (.ref 184), (.int 441 0), (.int 164 0), (.str (Str.ofString "/claim/cut.py") 442)]), #[]⟩) ::
    ((nat_lit 186), ⟨(.type "function"), none, (.func ⟨(Str.ofString "_law_all_needs"), (Str.ofString "_law_all_needs"), a18, (.stmts b18), s18, 3, [], .none, .none, .none, (.str (Str.ofString "law_mj0221_01") 391), none, (.ref 185), .none, 0⟩), #[]⟩) ::
    ((nat_lit 187), ⟨(.type "tuple"), none, (.seq #[] 0), #[]⟩) ::
    ((nat_lit 189), ⟨(.type "tuple"), none, (.seq #[(.str (Str.ofString "row") 447), (.str (Str.ofString "stretches") 448), (.str (Str.ofString "sorter") 449), (.str (Str.ofString "first") 450), (.str (Str.ofString "behind") 451), (.str (Str.ofString "span") 452)] 0), #[]⟩) ::
    ((nat_lit 190), ⟨(.type "tuple"), none, (.seq #[] 0), #[]⟩) ::
    ((nat_lit 192), ⟨(.type "code"), none, (.fields #[(.str (Str.ofString "_law_one_need") 444), (.str (Str.ofString "_law_one_need") 445), (.str (Str.ofString "/claim/cut.py") 446), (.int 172 0), (.int 2 0), (.int 0 0), (.int 0 0), (.int 3 0), (.ref 187), (.bool Bool.true), (.int 181 0), (.ref 188), .none, (.ref 189), (.ref 190), (.ref 191), (.int 453 0), (.int 172 0), (.str (Str.ofString "/claim/cut.py") 454)]), #[]⟩) ::
    ((nat_lit 193), ⟨(.type "function"), none, (.func ⟨(Str.ofString "_law_one_need"), (Str.ofString "_law_one_need"), a19, (.stmts b19), s19, 3, [], .none, .none, .none, (.str (Str.ofString "law_mj0221_01") 391), none, (.ref 192), .none, 0⟩), #[]⟩) ::
    ((nat_lit 194), ⟨(.type "tuple"), none, (.seq #[] 0), #[]⟩) ::
    ((nat_lit 196), ⟨(.type "tuple"), none, (.seq #[(.str (Str.ofString "sorter") 459), (.str (Str.ofString "groups") 460), (.str (Str.ofString "group") 461), (.str (Str.ofString "node") 462)] 0), #[]⟩) ::
    ((nat_lit 197), ⟨(.type "tuple"), none, (.seq #[] 0), #[]⟩) ::
    ((nat_lit 199), ⟨(.type "code"), none, (.fields #[(.str (Str.ofString "_law_groups") 456), (.str (Str.ofString "_law_groups") 457), (.str (Str.ofString "/claim/cut.py") 458), (.int 181 0), (.int 1 0), (.int 0 0), (.int 0 0), (.int 3 0), (.ref 194), (.bool Bool.true), (.int 181 0), (.ref 195), .none, (.ref 196), (.ref 197), (.ref 198), (.int 463 0), (.int 181 0), (.str (Str.ofString "/claim/cut.py") 464)]), #[]⟩) ::
    ((nat_lit 200), ⟨(.type "function"), none, (.func ⟨(Str.ofString "_law_groups"), (Str.ofString "_law_groups"), a20, (.stmts b20), s20, 3, [], .none, .none, .none, (.str (Str.ofString "law_mj0221_01") 391), none, (.ref 199), .none, 0⟩), #[]⟩) ::
    ((nat_lit 201), ⟨(.type "tuple"), none, (.seq #[] 0), #[]⟩) ::
    ((nat_lit 204), ⟨(.type "code"), none, (.fields #[(.str (Str.ofString "_law_most") 466), (.str (Str.ofString "_law_most") 467), (.str (Str.ofString "/claim/cut.py") 468), (.int 190 0), (.int 2 0), (.int 0 0), (.int 0 0), (.int 3 0), (.ref 201), (.bool Bool.true), (.int 181 0), (.ref 202), .none, .none, .none, (.ref 203), (.int 469 0), (.int 190 0), (.str (Str.ofString "/claim/cut.py") 470)]), #[]⟩) ::
    ((nat_lit 205), ⟨(.type "function"), none, (.func ⟨(Str.ofString "_law_most"), (Str.ofString "_law_most"), a21, (.stmts b21), s21, 3, [], .none, .none, .none, (.str (Str.ofString "law_mj0221_01") 391), none, (.ref 204), .none, 0⟩), #[]⟩) ::
    ((nat_lit 206), ⟨(.type "tuple"), none, (.seq #[] 0), #[]⟩) ::
    ((nat_lit 209), ⟨(.type "code"), none, (.fields #[(.str (Str.ofString "_law_answer_due") 472), (.str (Str.ofString "_law_answer_due") 473), (.str (Str.ofString "/claim/cut.py") 474), (.int 195 0), (.int 3 0), (.int 0 0), (.int 0 0), (.int 3 0), (.ref 206), (.bool Bool.true), (.int 181 0), (.ref 207), .none, .none, .none, (.ref 208), (.int 475 0), (.int 195 0), (.str (Str.ofString "/claim/cut.py") 476)]), #[]⟩) ::
    ((nat_lit 210), ⟨(.type "function"), none, (.func ⟨(Str.ofString "_law_answer_due"), (Str.ofString "_law_answer_due"), a22, (.stmts b22), s22, 3, [], .none, .none, .none, (.str (Str.ofString "law_mj0221_01") 391), none, (.ref 209), .none, 0⟩), #[]⟩) ::
    ((nat_lit 211), ⟨(.type "tuple"), none, (.seq #[] 0), #[]⟩) ::
    ((nat_lit 213), ⟨(.type "tuple"), none, (.seq #[(.str (Str.ofString "row") 481), (.str (Str.ofString "stretches") 482), (.str (Str.ofString "most") 483), (.str (Str.ofString "place") 484)] 0), #[]⟩) ::
    ((nat_lit 214), ⟨(.type "tuple"), none, (.seq #[] 0), #[]⟩) ::
    ((nat_lit 216), ⟨(.type "code"), none, (.fields #[(.str (Str.ofString "_law_told_right") 478), (.str (Str.ofString "_law_told_right") 479), (.str (Str.ofString "/claim/cut.py") 480), (.int 200 0), (.int 3 0), (.int 0 0), (.int 0 0), (.int 3 0), (.ref 211), (.bool Bool.true), (.int 181 0), (.ref 212), .none, (.ref 213), (.ref 214), (.ref 215), (.int 485 0), (.int 200 0), (.str (Str.ofString "/claim/cut.py") 486)]), #[]⟩) ::
    ((nat_lit 217), ⟨(.type "function"), none, (.func ⟨(Str.ofString "_law_told_right"), (Str.ofString "_law_told_right"), a23, (.stmts b23), s23, 3, [], .none, .none, .none, (.str (Str.ofString "law_mj0221_01") 391), none, (.ref 216), .none, 0⟩), #[]⟩) ::
    ((nat_lit 218), ⟨(.type "tuple"), none, (.seq #[] 0), #[]⟩) ::
    ((nat_lit 221), ⟨(.type "code"), none, (.fields #[(.str (Str.ofString "_law_groups_due") 488), (.str (Str.ofString "_law_groups_due") 489), (.str (Str.ofString "/claim/cut.py") 490), (.int 205 0), (.int 2 0), (.int 0 0), (.int 0 0), (.int 3 0), (.ref 218), (.bool Bool.true), (.int 181 0), (.ref 219), .none, .none, .none, (.ref 220), (.int 491 0), (.int 205 0), (.str (Str.ofString "/claim/cut.py") 492)]), #[]⟩) ::
    ((nat_lit 222), ⟨(.type "function"), none, (.func ⟨(Str.ofString "_law_groups_due"), (Str.ofString "_law_groups_due"), a24, (.stmts b24), s24, 3, [], .none, .none, .none, (.str (Str.ofString "law_mj0221_01") 391), none, (.ref 221), .none, 0⟩), #[]⟩) ::
    ((nat_lit 223), ⟨(.type "tuple"), none, (.seq #[] 0), #[]⟩) ::
    ((nat_lit 225), ⟨(.type "tuple"), none, (.seq #[(.str (Str.ofString "script") 497), (.str (Str.ofString "row") 498), (.str (Str.ofString "stretches") 499), (.str (Str.ofString "most") 500), (.str (Str.ofString "due") 501), (.str (Str.ofString "full") 502), (.str (Str.ofString "single") 503)] 0), #[]⟩) ::
    ((nat_lit 226), ⟨(.type "tuple"), none, (.seq #[] 0), #[]⟩) ::
    ((nat_lit 228), ⟨(.type "code"), none, (.fields #[(.str (Str.ofString "law") 494), (.str (Str.ofString "law") 495), (.str (Str.ofString "/claim/cut.py") 496), (.int 207 0), (.int 1 0), (.int 0 0), (.int 0 0), (.int 3 0), (.ref 223), (.bool Bool.true), (.int 181 0), (.ref 224), .none, (.ref 225), (.ref 226), (.ref 227), (.int 504 0), (.int 207 0), (.str (Str.ofString "/claim/cut.py") 505)]), #[]⟩) ::
    ((nat_lit 229), ⟨(.type "function"), none, (.func ⟨(Str.ofString "law"), (Str.ofString "law"), a25, (.stmts b25), s25, 3, [], .none, .none, .none, (.str (Str.ofString "law_mj0221_01") 391), none, (.ref 228), .none, 0⟩), #[]⟩) :: []) : List (Nat × Obj))
  : ∀ {a0 : Arguments} {b0 : List Stmt} {s0 : Scope} {a1 : Arguments} {b1 : List Stmt} {s1 : Scope} {a2 : Arguments} {b2 : List Stmt} {s2 : Scope} {a3 : Arguments} {b3 : List Stmt} {s3 : Scope} {a4 : Arguments} {b4 : List Stmt} {s4 : Scope} {a5 : Arguments} {b5 : List Stmt} {s5 : Scope} {a6 : Arguments} {b6 : List Stmt} {s6 : Scope} {a7 : Arguments} {b7 : List Stmt} {s7 : Scope} {a8 : Arguments} {b8 : List Stmt} {s8 : Scope} {a9 : Arguments} {b9 : List Stmt} {s9 : Scope} {a10 : Arguments} {b10 : List Stmt} {s10 : Scope} {a11 : Arguments} {b11 : List Stmt} {s11 : Scope} {a12 : Arguments} {b12 : List Stmt} {s12 : Scope} {a13 : Arguments} {b13 : List Stmt} {s13 : Scope} {a14 : Arguments} {b14 : List Stmt} {s14 : Scope} {a15 : Arguments} {b15 : List Stmt} {s15 : Scope} {a16 : Arguments} {b16 : List Stmt} {s16 : Scope} {a17 : Arguments} {b17 : List Stmt} {s17 : Scope} {a18 : Arguments} {b18 : List Stmt} {s18 : Scope} {a19 : Arguments} {b19 : List Stmt} {s19 : Scope} {a20 : Arguments} {b20 : List Stmt} {s20 : Scope} {a21 : Arguments} {b21 : List Stmt} {s21 : Scope} {a22 : Arguments} {b22 : List Stmt} {s22 : Scope} {a23 : Arguments} {b23 : List Stmt} {s23 : Scope} {a24 : Arguments} {b24 : List Stmt} {s24 : Scope} {a25 : Arguments} {b25 : List Stmt} {s25 : Scope}, (a0, b0, s0) = fnAt 0 (fnsIn PySem.Challenge.pw_mj0221_01.main.body) → (a1, b1, s1) = fnAt 1 (fnsIn PySem.Challenge.pw_mj0221_01.main.body) → (a2, b2, s2) = fnAt 2 (fnsIn PySem.Challenge.pw_mj0221_01.main.body) → (a3, b3, s3) = fnAt 3 (fnsIn PySem.Challenge.pw_mj0221_01.main.body) → (a4, b4, s4) = fnAt 4 (fnsIn PySem.Challenge.pw_mj0221_01.main.body) → (a5, b5, s5) = fnAt 5 (fnsIn PySem.Challenge.pw_mj0221_01.main.body) → (a6, b6, s6) = fnAt 6 (fnsIn PySem.Challenge.pw_mj0221_01.main.body) → (a7, b7, s7) = fnAt 7 (fnsIn PySem.Challenge.pw_mj0221_01.main.body) → (a8, b8, s8) = fnAt 8 (fnsIn PySem.Challenge.pw_mj0221_01.main.body) → (a9, b9, s9) = fnAt 9 (fnsIn PySem.Challenge.pw_mj0221_01.main.body) → (a10, b10, s10) = fnAt 10 (fnsIn PySem.Challenge.pw_mj0221_01.main.body) → (a11, b11, s11) = fnAt 11 (fnsIn PySem.Challenge.pw_mj0221_01.main.body) → (a12, b12, s12) = fnAt 12 (fnsIn PySem.Challenge.pw_mj0221_01.main.body) → (a13, b13, s13) = fnAt 13 (fnsIn PySem.Challenge.pw_mj0221_01.main.body) → (a14, b14, s14) = fnAt 14 (fnsIn PySem.Challenge.pw_mj0221_01.main.body) → (a15, b15, s15) = fnAt 15 (fnsIn PySem.Challenge.pw_mj0221_01.main.body) → (a16, b16, s16) = fnAt 16 (fnsIn PySem.Challenge.pw_mj0221_01.main.body) → (a17, b17, s17) = fnAt 17 (fnsIn PySem.Challenge.pw_mj0221_01.main.body) → (a18, b18, s18) = fnAt 18 (fnsIn PySem.Challenge.pw_mj0221_01.main.body) → (a19, b19, s19) = fnAt 19 (fnsIn PySem.Challenge.pw_mj0221_01.main.body) → (a20, b20, s20) = fnAt 20 (fnsIn PySem.Challenge.pw_mj0221_01.main.body) → (a21, b21, s21) = fnAt 21 (fnsIn PySem.Challenge.pw_mj0221_01.main.body) → (a22, b22, s22) = fnAt 22 (fnsIn PySem.Challenge.pw_mj0221_01.main.body) → (a23, b23, s23) = fnAt 23 (fnsIn PySem.Challenge.pw_mj0221_01.main.body) → (a24, b24, s24) = fnAt 24 (fnsIn PySem.Challenge.pw_mj0221_01.main.body) → (a25, b25, s25) = fnAt 25 (fnsIn PySem.Challenge.pw_mj0221_01.main.body) → Params → Frag)
    (by conv => rhs; whnf)
    (by conv => rhs; whnf)
    (by conv => rhs; whnf)
    (by conv => rhs; whnf)
    (by conv => rhs; whnf)
    (by conv => rhs; whnf)
    (by conv => rhs; whnf)
    (by conv => rhs; whnf)
    (by conv => rhs; whnf)
    (by conv => rhs; whnf)
    (by conv => rhs; whnf)
    (by conv => rhs; whnf)
    (by conv => rhs; whnf)
    (by conv => rhs; whnf)
    (by conv => rhs; whnf)
    (by conv => rhs; whnf)
    (by conv => rhs; whnf)
    (by conv => rhs; whnf)
    (by conv => rhs; whnf)
    (by conv => rhs; whnf)
    (by conv => rhs; whnf)
    (by conv => rhs; whnf)
    (by conv => rhs; whnf)
    (by conv => rhs; whnf)
    (by conv => rhs; whnf)
    (by conv => rhs; whnf)
set_option maxRecDepth 100000 in
/-- the statements that the head holds to: all but the class _NodeInfo and the names laid anew -/
noncomputable def viewK : Program :=
  (by exact @fun x0 x2 x3 x4 x5 x6 x8 x10 x11 x12 x13 x14 x15 x16 x17 x18 x19 x20 x21 x22 _ _ _ _ _ _ _ _ _ _ _ _ _ _ _ _ _ _ _ _ => { PySem.Challenge.pw_mj0221_01 with main := { PySem.Challenge.pw_mj0221_01.main with body := [x0, x2, x3, x4, x5, x6, x8, x10, x11, x12, x13, x14, x15, x16, x17, x18, x19, x20, x21, x22] } }
  : ∀ {x0 x2 x3 x4 x5 x6 x8 x10 x11 x12 x13 x14 x15 x16 x17 x18 x19 x20 x21 x22 : Stmt}, x0 = stAt 0 PySem.Challenge.pw_mj0221_01.main.body → x2 = stAt 2 PySem.Challenge.pw_mj0221_01.main.body → x3 = stAt 3 PySem.Challenge.pw_mj0221_01.main.body → x4 = stAt 4 PySem.Challenge.pw_mj0221_01.main.body → x5 = stAt 5 PySem.Challenge.pw_mj0221_01.main.body → x6 = stAt 6 PySem.Challenge.pw_mj0221_01.main.body → x8 = stAt 8 PySem.Challenge.pw_mj0221_01.main.body → x10 = stAt 10 PySem.Challenge.pw_mj0221_01.main.body → x11 = stAt 11 PySem.Challenge.pw_mj0221_01.main.body → x12 = stAt 12 PySem.Challenge.pw_mj0221_01.main.body → x13 = stAt 13 PySem.Challenge.pw_mj0221_01.main.body → x14 = stAt 14 PySem.Challenge.pw_mj0221_01.main.body → x15 = stAt 15 PySem.Challenge.pw_mj0221_01.main.body → x16 = stAt 16 PySem.Challenge.pw_mj0221_01.main.body → x17 = stAt 17 PySem.Challenge.pw_mj0221_01.main.body → x18 = stAt 18 PySem.Challenge.pw_mj0221_01.main.body → x19 = stAt 19 PySem.Challenge.pw_mj0221_01.main.body → x20 = stAt 20 PySem.Challenge.pw_mj0221_01.main.body → x21 = stAt 21 PySem.Challenge.pw_mj0221_01.main.body → x22 = stAt 22 PySem.Challenge.pw_mj0221_01.main.body → Program)
    (by conv => rhs; whnf) (by conv => rhs; whnf) (by conv => rhs; whnf) (by conv => rhs; whnf) (by conv => rhs; whnf) (by conv => rhs; whnf) (by conv => rhs; whnf) (by conv => rhs; whnf) (by conv => rhs; whnf) (by conv => rhs; whnf) (by conv => rhs; whnf) (by conv => rhs; whnf) (by conv => rhs; whnf) (by conv => rhs; whnf) (by conv => rhs; whnf) (by conv => rhs; whnf) (by conv => rhs; whnf) (by conv => rhs; whnf) (by conv => rhs; whnf) (by conv => rhs; whnf)
noncomputable def fnsP : List Stmt := fnsIn PySem.Challenge.pw_mj0221_01.main.body
/-- the heap's other objects behind the top -/
noncomputable def restK : Params → List (Nat × Obj) := fun P =>
    ((nat_lit 0), PySem.W.boot_o_0 P) ::
    ((nat_lit 1), PySem.W.boot_o_1 P) ::
    ((nat_lit 4), PySem.W.boot_o_4 P) ::
    ((nat_lit 5), PySem.W.boot_o_5 P) ::
    ((nat_lit 6), PySem.W.boot_o_6 P) ::
    ((nat_lit 7), PySem.W.boot_o_7 P) ::
    ((nat_lit 8), PySem.W.boot_o_8 P) ::
    ((nat_lit 9), PySem.W.boot_o_9 P) ::
    ((nat_lit 10), PySem.W.boot_o_10 P) ::
    ((nat_lit 11), ⟨(.type "tuple"), none, (.seq #[] 0), #[]⟩) ::
    ((nat_lit 12), ⟨.none, none, (.fields #[(.int 1 0), (.int 0 0), (.ref 20), (.int 7 0), (.int 0 0), (.ref 27), (.int 14 0), (.int 0 0), (.ref 51), (.int 16 0), (.int 0 0), (.ref 64), (.int 123 0), (.int 0 0), (.ref 147), (.int 139 0), (.int 0 0), (.ref 154), (.int 143 0), (.int 0 0), (.ref 161), (.int 155 0), (.int 0 0), (.ref 166), (.int 159 0), (.int 0 0), (.ref 171), (.int 161 0), (.int 0 0), (.ref 178), (.int 164 0), (.int 0 0), (.ref 185), (.int 172 0), (.int 0 0), (.ref 192), (.int 181 0), (.int 0 0), (.ref 199), (.int 190 0), (.int 0 0), (.ref 204), (.int 195 0), (.int 0 0), (.ref 209), (.int 200 0), (.int 0 0), (.ref 216), (.int 205 0), (.int 0 0), (.ref 221), (.int 207 0), (.int 0 0), (.ref 228)]), #[]⟩) ::
    ((nat_lit 13), ⟨(.type "code"), none, (.fields #[(.str (Str.ofString "<module>") 182), (.str (Str.ofString "<module>") 183), (.str (Str.ofString "/claim/cut.py") 184), (.int 1 0), (.int 0 0), (.int 0 0), (.int 0 0), (.int 0 0), (.ref 11), (.bool Bool.false), (.int 181 0), (.ref 12), .none, .none, .none, .none, (.int 185 0), (.int 1 0), (.str (Str.ofString "/claim/cut.py") 186)]), #[]⟩) ::
    ((nat_lit 14), ⟨(.type "frame"), none, .plain, #[(some (.ref 13)), (some (.ref 3)), (some (.ref 3)), none, (some (.str (Str.ofString "__main__") 164)), none, (some (.ref 0))]⟩) ::
    ((nat_lit 16), ⟨.none, none, (.fields #[]), #[]⟩) ::
    ((nat_lit 19), ⟨.none, none, (.func ⟨(Str.ofString "_wall"), (Str.ofString "_wall"), (fnAt 0 fnsP).1, (.stmts (fnAt 0 fnsP).2.1), (fnAt 0 fnsP).2.2, 0, [], .none, .none, .none, .none, none, .none, .none, 0⟩), #[]⟩) ::
    ((nat_lit 22), ⟨(.type "tuple"), none, (.seq #[] 0), #[]⟩) ::
    ((nat_lit 23), ⟨(.type "builtin_function_or_method"), none, (.fields #[(.builtin "type.__prepare__"), (.type "type")]), #[]⟩) ::
    ((nat_lit 24), ⟨(.type "dict"), none, (.dict #[⟨(PyData.keyHash P (Str.ofString "__module__")), (.str (Str.ofString "__module__") 209), (.str (Str.ofString "cpy313.graphlib") 194)⟩, ⟨(PyData.keyHash P (Str.ofString "__qualname__")), (.str (Str.ofString "__qualname__") 211), (.str (Str.ofString "_NodeInfo") 210)⟩, ⟨(PyData.keyHash P (Str.ofString "__firstlineno__")), (.str (Str.ofString "__firstlineno__") 213), (.int 7 212)⟩, ⟨(PyData.keyHash P (Str.ofString "__slots__")), (.str (Str.ofString "__slots__") 217), (.ref 29)⟩, ⟨(PyData.keyHash P (Str.ofString "__init__")), (.str (Str.ofString "__init__") 225), (.ref 36)⟩, ⟨(PyData.keyHash P (Str.ofString "__static_attributes__")), (.str (Str.ofString "__static_attributes__") 229), (.ref 37)⟩] 6), #[]⟩) ::
    ((nat_lit 25), ⟨(.type "tuple"), none, (.seq #[] 0), #[]⟩) ::
    ((nat_lit 26), ⟨.none, none, (.fields #[(.int 10 0), (.int 4 0), (.ref 35)]), #[]⟩) ::
    ((nat_lit 27), ⟨(.type "code"), none, (.fields #[(.str (Str.ofString "_NodeInfo") 204), (.str (Str.ofString "_NodeInfo") 205), (.str (Str.ofString "/claim/cut.py") 206), (.int 7 0), (.int 0 0), (.int 0 0), (.int 0 0), (.int 0 0), (.ref 25), (.bool Bool.false), (.int 181 0), (.ref 26), .none, .none, .none, .none, (.int 207 0), (.int 7 0), (.str (Str.ofString "/claim/cut.py") 208)]), #[]⟩) ::
    ((nat_lit 28), ⟨(.type "frame"), none, .plain, #[(some (.ref 27)), (some (.ref 3)), (some (.ref 24)), none, (some (.str (Str.ofString "cpy313.graphlib") 194)), none, (some (.ref 0))]⟩) ::
    ((nat_lit 31), ⟨.none, none, (.fields #[]), #[]⟩) ::
    ((nat_lit 34), ⟨.none, none, (.func ⟨(Str.ofString "__init__"), (Str.ofString "_NodeInfo.__init__"), (fnAt 1 fnsP).1, (.stmts (fnAt 1 fnsP).2.1), (fnAt 1 fnsP).2.2, 0, [], .none, .none, .none, .none, none, .none, .none, 0⟩), #[]⟩) ::
    ((nat_lit 38), ⟨(.type "list"), none, (.seq #[(.str (Str.ofString "node") 214), (.str (Str.ofString "npredecessors") 215), (.str (Str.ofString "successors") 216)] 1), #[]⟩) ::
    ((nat_lit 44), ⟨(.type "super"), none, (.fields #[(.ref 40), (.ref 40), (.ref 40)]), #[]⟩) ::
    ((nat_lit 45), ⟨(.type "builtin_function_or_method"), none, (.fields #[(.builtin "object.__init_subclass__"), (.ref 40)]), #[]⟩) ::
    ((nat_lit 47), ⟨(.type "builtin_function_or_method"), none, (.fields #[(.builtin "type.__prepare__"), (.type "type")]), #[]⟩) ::
    ((nat_lit 48), ⟨(.type "dict"), none, (.dict #[⟨(PyData.keyHash P (Str.ofString "__module__")), (.str (Str.ofString "__module__") 246), (.str (Str.ofString "cpy313.graphlib") 194)⟩, ⟨(PyData.keyHash P (Str.ofString "__qualname__")), (.str (Str.ofString "__qualname__") 248), (.str (Str.ofString "CycleError") 247)⟩, ⟨(PyData.keyHash P (Str.ofString "__firstlineno__")), (.str (Str.ofString "__firstlineno__") 250), (.int 14 249)⟩, ⟨(PyData.keyHash P (Str.ofString "__static_attributes__")), (.str (Str.ofString "__static_attributes__") 251), (.ref 53)⟩] 4), #[]⟩) ::
    ((nat_lit 49), ⟨(.type "tuple"), none, (.seq #[] 0), #[]⟩) ::
    ((nat_lit 50), ⟨.none, none, (.fields #[]), #[]⟩) ::
    ((nat_lit 51), ⟨(.type "code"), none, (.fields #[(.str (Str.ofString "CycleError") 241), (.str (Str.ofString "CycleError") 242), (.str (Str.ofString "/claim/cut.py") 243), (.int 14 0), (.int 0 0), (.int 0 0), (.int 0 0), (.int 0 0), (.ref 49), (.bool Bool.false), (.int 181 0), (.ref 50), .none, .none, .none, .none, (.int 244 0), (.int 14 0), (.str (Str.ofString "/claim/cut.py") 245)]), #[]⟩) ::
    ((nat_lit 52), ⟨(.type "frame"), none, .plain, #[(some (.ref 51)), (some (.ref 3)), (some (.ref 48)), none, (some (.str (Str.ofString "cpy313.graphlib") 194)), none, (some (.ref 0))]⟩) ::
    ((nat_lit 57), ⟨(.type "super"), none, (.fields #[(.ref 55), (.ref 55), (.ref 55)]), #[]⟩) ::
    ((nat_lit 58), ⟨(.type "builtin_function_or_method"), none, (.fields #[(.builtin "object.__init_subclass__"), (.ref 55)]), #[]⟩) ::
    ((nat_lit 59), ⟨(.type "tuple"), none, (.seq #[] 0), #[]⟩) ::
    ((nat_lit 60), ⟨(.type "builtin_function_or_method"), none, (.fields #[(.builtin "type.__prepare__"), (.type "type")]), #[]⟩) ::
    ((nat_lit 61), ⟨(.type "dict"), none, (.dict #[⟨(PyData.keyHash P (Str.ofString "__module__")), (.str (Str.ofString "__module__") 264), (.str (Str.ofString "cpy313.graphlib") 194)⟩, ⟨(PyData.keyHash P (Str.ofString "__qualname__")), (.str (Str.ofString "__qualname__") 266), (.str (Str.ofString "TopologicalSorter") 265)⟩, ⟨(PyData.keyHash P (Str.ofString "__firstlineno__")), (.str (Str.ofString "__firstlineno__") 268), (.int 16 267)⟩, ⟨(PyData.keyHash P (Str.ofString "__init__")), (.str (Str.ofString "__init__") 278), (.ref 73)⟩, ⟨(PyData.keyHash P (Str.ofString "_get_nodeinfo")), (.str (Str.ofString "_get_nodeinfo") 287), (.ref 80)⟩, ⟨(PyData.keyHash P (Str.ofString "add")), (.str (Str.ofString "add") 299), (.ref 87)⟩, ⟨(PyData.keyHash P (Str.ofString "prepare")), (.str (Str.ofString "prepare") 305), (.ref 92)⟩, ⟨(PyData.keyHash P (Str.ofString "get_ready")), (.str (Str.ofString "get_ready") 315), (.ref 99)⟩, ⟨(PyData.keyHash P (Str.ofString "is_active")), (.str (Str.ofString "is_active") 322), (.ref 106)⟩, ⟨(PyData.keyHash P (Str.ofString "__bool__")), (.str (Str.ofString "__bool__") 329), (.ref 113)⟩, ⟨(PyData.keyHash P (Str.ofString "done")), (.str (Str.ofString "done") 343), (.ref 120)⟩, ⟨(PyData.keyHash P (Str.ofString "_find_cycle")), (.str (Str.ofString "_find_cycle") 356), (.ref 127)⟩, ⟨(PyData.keyHash P (Str.ofString "static_order")), (.str (Str.ofString "static_order") 363), (.ref 134)⟩, ⟨(PyData.keyHash P (Str.ofString "__static_attributes__")), (.str (Str.ofString "__static_attributes__") 368), (.ref 135)⟩] 14), #[]⟩) ::
    ((nat_lit 62), ⟨(.type "tuple"), none, (.seq #[] 0), #[]⟩) ::
    ((nat_lit 63), ⟨.none, none, (.fields #[(.int 18 0), (.int 4 0), (.ref 72), (.int 27 0), (.int 4 0), (.ref 79), (.int 32 0), (.int 4 0), (.ref 86), (.int 41 0), (.int 4 0), (.ref 91), (.int 49 0), (.int 4 0), (.ref 98), (.int 60 0), (.int 4 0), (.ref 105), (.int 65 0), (.int 4 0), (.ref 112), (.int 68 0), (.int 4 0), (.ref 119), (.int 91 0), (.int 4 0), (.ref 126), (.int 120 0), (.int 4 0), (.ref 133)]), #[]⟩) ::
    ((nat_lit 64), ⟨(.type "code"), none, (.fields #[(.str (Str.ofString "TopologicalSorter") 259), (.str (Str.ofString "TopologicalSorter") 260), (.str (Str.ofString "/claim/cut.py") 261), (.int 16 0), (.int 0 0), (.int 0 0), (.int 0 0), (.int 0 0), (.ref 62), (.bool Bool.false), (.int 181 0), (.ref 63), .none, .none, .none, .none, (.int 262 0), (.int 16 0), (.str (Str.ofString "/claim/cut.py") 263)]), #[]⟩) ::
    ((nat_lit 65), ⟨(.type "frame"), none, .plain, #[(some (.ref 64)), (some (.ref 3)), (some (.ref 61)), none, (some (.str (Str.ofString "cpy313.graphlib") 194)), none, (some (.ref 0))]⟩) ::
    ((nat_lit 68), ⟨.none, none, (.fields #[]), #[]⟩) ::
    ((nat_lit 71), ⟨.none, none, (.func ⟨(Str.ofString "__init__"), (Str.ofString "TopologicalSorter.__init__"), (fnAt 2 fnsP).1, (.stmts (fnAt 2 fnsP).2.1), (fnAt 2 fnsP).2.2, 0, [], .none, .none, .none, .none, none, .none, .none, 0⟩), #[]⟩) ::
    ((nat_lit 75), ⟨.none, none, (.fields #[]), #[]⟩) ::
    ((nat_lit 78), ⟨.none, none, (.func ⟨(Str.ofString "_get_nodeinfo"), (Str.ofString "TopologicalSorter._get_nodeinfo"), (fnAt 3 fnsP).1, (.stmts (fnAt 3 fnsP).2.1), (fnAt 3 fnsP).2.2, 0, [], .none, .none, .none, .none, none, .none, .none, 0⟩), #[]⟩) ::
    ((nat_lit 82), ⟨.none, none, (.fields #[]), #[]⟩) ::
    ((nat_lit 85), ⟨.none, none, (.func ⟨(Str.ofString "add"), (Str.ofString "TopologicalSorter.add"), (fnAt 4 fnsP).1, (.stmts (fnAt 4 fnsP).2.1), (fnAt 4 fnsP).2.2, 0, [], .none, .none, .none, .none, none, .none, .none, 0⟩), #[]⟩) ::
    ((nat_lit 89), ⟨.none, none, (.fields #[]), #[]⟩) ::
    ((nat_lit 90), ⟨.none, none, (.func ⟨(Str.ofString "prepare"), (Str.ofString "TopologicalSorter.prepare"), (fnAt 5 fnsP).1, (.stmts (fnAt 5 fnsP).2.1), (fnAt 5 fnsP).2.2, 0, [], .none, .none, .none, .none, none, .none, .none, 0⟩), #[]⟩) ::
    ((nat_lit 94), ⟨.none, none, (.fields #[]), #[]⟩) ::
    ((nat_lit 97), ⟨.none, none, (.func ⟨(Str.ofString "get_ready"), (Str.ofString "TopologicalSorter.get_ready"), (fnAt 6 fnsP).1, (.stmts (fnAt 6 fnsP).2.1), (fnAt 6 fnsP).2.2, 0, [], .none, .none, .none, .none, none, .none, .none, 0⟩), #[]⟩) ::
    ((nat_lit 101), ⟨.none, none, (.fields #[]), #[]⟩) ::
    ((nat_lit 104), ⟨.none, none, (.func ⟨(Str.ofString "is_active"), (Str.ofString "TopologicalSorter.is_active"), (fnAt 7 fnsP).1, (.stmts (fnAt 7 fnsP).2.1), (fnAt 7 fnsP).2.2, 0, [], .none, .none, .none, .none, none, .none, .none, 0⟩), #[]⟩) ::
    ((nat_lit 108), ⟨.none, none, (.fields #[]), #[]⟩) ::
    ((nat_lit 111), ⟨.none, none, (.func ⟨(Str.ofString "__bool__"), (Str.ofString "TopologicalSorter.__bool__"), (fnAt 8 fnsP).1, (.stmts (fnAt 8 fnsP).2.1), (fnAt 8 fnsP).2.2, 0, [], .none, .none, .none, .none, none, .none, .none, 0⟩), #[]⟩) ::
    ((nat_lit 115), ⟨.none, none, (.fields #[]), #[]⟩) ::
    ((nat_lit 118), ⟨.none, none, (.func ⟨(Str.ofString "done"), (Str.ofString "TopologicalSorter.done"), (fnAt 9 fnsP).1, (.stmts (fnAt 9 fnsP).2.1), (fnAt 9 fnsP).2.2, 0, [], .none, .none, .none, .none, none, .none, .none, 0⟩), #[]⟩) ::
    ((nat_lit 122), ⟨.none, none, (.fields #[]), #[]⟩) ::
    ((nat_lit 125), ⟨.none, none, (.func ⟨(Str.ofString "_find_cycle"), (Str.ofString "TopologicalSorter._find_cycle"), (fnAt 10 fnsP).1, (.stmts (fnAt 10 fnsP).2.1), (fnAt 10 fnsP).2.2, 0, [], .none, .none, .none, .none, none, .none, .none, 0⟩), #[]⟩) ::
    ((nat_lit 129), ⟨.none, none, (.fields #[]), #[]⟩) ::
    ((nat_lit 132), ⟨.none, none, (.func ⟨(Str.ofString "static_order"), (Str.ofString "TopologicalSorter.static_order"), (fnAt 11 fnsP).1, (.stmts (fnAt 11 fnsP).2.1), (fnAt 11 fnsP).2.2, 0, [], .none, .none, .none, .none, none, .none, .none, 0⟩), #[]⟩) ::
    ((nat_lit 140), ⟨(.type "super"), none, (.fields #[(.ref 137), (.ref 137), (.ref 137)]), #[]⟩) ::
    ((nat_lit 141), ⟨(.type "builtin_function_or_method"), none, (.fields #[(.builtin "object.__init_subclass__"), (.ref 137)]), #[]⟩) ::
    ((nat_lit 143), ⟨.none, none, (.fields #[]), #[]⟩) ::
    ((nat_lit 146), ⟨.none, none, (.func ⟨(Str.ofString "search_reverse"), (Str.ofString "search_reverse"), (fnAt 12 fnsP).1, (.stmts (fnAt 12 fnsP).2.1), (fnAt 12 fnsP).2.2, 0, [], .none, .none, .none, .none, none, .none, .none, 0⟩), #[]⟩) ::
    ((nat_lit 150), ⟨.none, none, (.fields #[]), #[]⟩) ::
    ((nat_lit 153), ⟨.none, none, (.func ⟨(Str.ofString "_law_hit"), (Str.ofString "_law_hit"), (fnAt 13 fnsP).1, (.stmts (fnAt 13 fnsP).2.1), (fnAt 13 fnsP).2.2, 0, [], .none, .none, .none, .none, none, .none, .none, 0⟩), #[]⟩) ::
    ((nat_lit 157), ⟨.none, none, (.fields #[]), #[]⟩) ::
    ((nat_lit 160), ⟨.none, none, (.func ⟨(Str.ofString "_law_finder"), (Str.ofString "_law_finder"), (fnAt 14 fnsP).1, (.stmts (fnAt 14 fnsP).2.1), (fnAt 14 fnsP).2.2, 0, [], .none, .none, .none, .none, none, .none, .none, 0⟩), #[]⟩) ::
    ((nat_lit 164), ⟨.none, none, (.fields #[]), #[]⟩) ::
    ((nat_lit 165), ⟨.none, none, (.func ⟨(Str.ofString "_law_row"), (Str.ofString "_law_row"), (fnAt 15 fnsP).1, (.stmts (fnAt 15 fnsP).2.1), (fnAt 15 fnsP).2.2, 0, [], .none, .none, .none, .none, none, .none, .none, 0⟩), #[]⟩) ::
    ((nat_lit 169), ⟨.none, none, (.fields #[]), #[]⟩) ::
    ((nat_lit 170), ⟨.none, none, (.func ⟨(Str.ofString "_law_stretches"), (Str.ofString "_law_stretches"), (fnAt 16 fnsP).1, (.stmts (fnAt 16 fnsP).2.1), (fnAt 16 fnsP).2.2, 0, [], .none, .none, .none, .none, none, .none, .none, 0⟩), #[]⟩) ::
    ((nat_lit 174), ⟨.none, none, (.fields #[]), #[]⟩) ::
    ((nat_lit 177), ⟨.none, none, (.func ⟨(Str.ofString "_law_span"), (Str.ofString "_law_span"), (fnAt 17 fnsP).1, (.stmts (fnAt 17 fnsP).2.1), (fnAt 17 fnsP).2.2, 0, [], .none, .none, .none, .none, none, .none, .none, 0⟩), #[]⟩) ::
    ((nat_lit 181), ⟨.none, none, (.fields #[]), #[]⟩) ::
    ((nat_lit 184), ⟨.none, none, (.func ⟨(Str.ofString "_law_all_needs"), (Str.ofString "_law_all_needs"), (fnAt 18 fnsP).1, (.stmts (fnAt 18 fnsP).2.1), (fnAt 18 fnsP).2.2, 0, [], .none, .none, .none, .none, none, .none, .none, 0⟩), #[]⟩) ::
    ((nat_lit 188), ⟨.none, none, (.fields #[]), #[]⟩) ::
    ((nat_lit 191), ⟨.none, none, (.func ⟨(Str.ofString "_law_one_need"), (Str.ofString "_law_one_need"), (fnAt 19 fnsP).1, (.stmts (fnAt 19 fnsP).2.1), (fnAt 19 fnsP).2.2, 0, [], .none, .none, .none, .none, none, .none, .none, 0⟩), #[]⟩) ::
    ((nat_lit 195), ⟨.none, none, (.fields #[]), #[]⟩) ::
    ((nat_lit 198), ⟨.none, none, (.func ⟨(Str.ofString "_law_groups"), (Str.ofString "_law_groups"), (fnAt 20 fnsP).1, (.stmts (fnAt 20 fnsP).2.1), (fnAt 20 fnsP).2.2, 0, [], .none, .none, .none, .none, none, .none, .none, 0⟩), #[]⟩) ::
    ((nat_lit 202), ⟨.none, none, (.fields #[]), #[]⟩) ::
    ((nat_lit 203), ⟨.none, none, (.func ⟨(Str.ofString "_law_most"), (Str.ofString "_law_most"), (fnAt 21 fnsP).1, (.stmts (fnAt 21 fnsP).2.1), (fnAt 21 fnsP).2.2, 0, [], .none, .none, .none, .none, none, .none, .none, 0⟩), #[]⟩) ::
    ((nat_lit 207), ⟨.none, none, (.fields #[]), #[]⟩) ::
    ((nat_lit 208), ⟨.none, none, (.func ⟨(Str.ofString "_law_answer_due"), (Str.ofString "_law_answer_due"), (fnAt 22 fnsP).1, (.stmts (fnAt 22 fnsP).2.1), (fnAt 22 fnsP).2.2, 0, [], .none, .none, .none, .none, none, .none, .none, 0⟩), #[]⟩) ::
    ((nat_lit 212), ⟨.none, none, (.fields #[]), #[]⟩) ::
    ((nat_lit 215), ⟨.none, none, (.func ⟨(Str.ofString "_law_told_right"), (Str.ofString "_law_told_right"), (fnAt 23 fnsP).1, (.stmts (fnAt 23 fnsP).2.1), (fnAt 23 fnsP).2.2, 0, [], .none, .none, .none, .none, none, .none, .none, 0⟩), #[]⟩) ::
    ((nat_lit 219), ⟨.none, none, (.fields #[]), #[]⟩) ::
    ((nat_lit 220), ⟨.none, none, (.func ⟨(Str.ofString "_law_groups_due"), (Str.ofString "_law_groups_due"), (fnAt 24 fnsP).1, (.stmts (fnAt 24 fnsP).2.1), (fnAt 24 fnsP).2.2, 0, [], .none, .none, .none, .none, none, .none, .none, 0⟩), #[]⟩) ::
    ((nat_lit 224), ⟨.none, none, (.fields #[]), #[]⟩) ::
    ((nat_lit 227), ⟨.none, none, (.func ⟨(Str.ofString "law"), (Str.ofString "law"), (fnAt 25 fnsP).1, (.stmts (fnAt 25 fnsP).2.1), (fnAt 25 fnsP).2.2, 0, [], .none, .none, .none, .none, none, .none, .none, 0⟩), #[]⟩) :: []
/-- two rows of entries, by their addresses, as one row of objects -/
def merge : Nat → Nat → List (Nat × Obj) → List (Nat × Obj) → List Obj
  | 0, _, _, _ => []
  | n + 1, i, (a, o) :: k, r => match Nat.beq a i, r with
    | true, r => o :: merge n (i + 1) k r
    | false, (_, o') :: r' => o' :: merge n (i + 1) ((a, o) :: k) r'
    | false, [] => []
  | n + 1, i, [], (_, o') :: r' => o' :: merge n (i + 1) [] r'
  | _ + 1, _, [], [] => []
noncomputable def heapZ (P : Params) : Heap := ⟨⟨merge 230 0 (heapK P) (restK P)⟩, {}⟩
abbrev asK : List Addr := [2, 3, 15, 17, 18, 20, 21, 29, 30, 32, 33, 35, 36, 37, 39, 40, 41, 42, 43, 46, 53, 54, 55, 56, 66, 67, 69, 70, 72, 73, 74, 76, 77, 79, 80, 81, 83, 84, 86, 87, 88, 91, 92, 93, 95, 96, 98, 99, 100, 102, 103, 105, 106, 107, 109, 110, 112, 113, 114, 116, 117, 119, 120, 121, 123, 124, 126, 127, 128, 130, 131, 133, 134, 135, 136, 137, 138, 139, 142, 144, 145, 147, 148, 149, 151, 152, 154, 155, 156, 158, 159, 161, 162, 163, 166, 167, 168, 171, 172, 173, 175, 176, 178, 179, 180, 182, 183, 185, 186, 187, 189, 190, 192, 193, 194, 196, 197, 199, 200, 201, 204, 205, 206, 209, 210, 211, 213, 214, 216, 217, 218, 221, 222, 223, 225, 226, 228, 229]
theorem asK_eq : ∀ P, asK = (heapK P).map (·.1) := fun _ => by kernel_rfl
end Mine
end
section
open PySem PySem.W PyProof.Rows
set_option Elab.async false
namespace Mine
set_option maxRecDepth 100000 in
theorem ranTop (w : World) (os : OsState) : topRun treeTable PySem.Challenge.rw_mj0221_01.row.prog w 11 (some (.ref 6)) 1505 ⟨boot_heap w.params, #[], boot_drawn, boot_toks, os⟩ (topStub PySem.Challenge.rw_mj0221_01.row.prog) = some ⟨heapZ w.params, #[], {}, 507, os⟩ := by
  kernel_rfl
set_option maxRecDepth 100000 in
theorem left : LeftO PySem.Challenge.rw_mj0221_01.row.prog viewK [Str.ofString "_NodeInfo"] (fun s => xlAt viewK [] s && recOk (RowW.records PySem.Challenge.rw_mj0221_01.row.toRowW) s) (Hook.obs (kmHook heapK asK asK_eq [150, 157])) (Hook.val (kmHook heapK asK asK_eq [150, 157])) 3096 := by
  refine LeftO.of_pieces (H₀ := boot_heap) (H₁ := heapZ) (gs₀ := #[]) (gs₁ := #[]) (d₀ := boot_drawn) (d₁ := {}) (k₀ := boot_toks) (k₁ := 507) (m₀ := 11) (ann := some (.ref 6)) (M := 1505) (boot_open ?e (by decide) ?f) ?s ranTop (by decide) ?l
  case e => kernel_rfl
  case f => intro s; kernel_rfl
  case s => intro w; kernel_rfl
  case l => intro w; kernel_rfl
set_option maxRecDepth 100000 in
theorem said : OpenLaw.wellSaid PySem.Challenge.rw_mj0221_01 = true := by kernel_rfl
end Mine
end
open PySem PySem.W PySem.Calls PyProof.Rows
namespace Mine
section
abbrev Led := List (Addr × Obj)
theorem News.sub {h₀ h : Heap} {L : Addr} {l l' : Led} (N : News h₀ L h l) (e : ∀ p ∈ l', p ∈ l) : News h₀ L h l' := fun p hp => N p (e p hp)
/-- the entries off the addresses -/
def offL (as : List Nat) (l : Led) : Led := l.filter fun p => decide (p.1 ∉ as)
theorem mem_offL {as : List Nat} {l : Led} {p : Addr × Obj} : p ∈ offL as l ↔ p ∈ l ∧ p.1 ∉ as := by simp [offL, List.mem_filter]
theorem offL_ne {as : List Nat} {l : Led} {a : Nat} (ha : a ∈ as) : ∀ p ∈ offL as l, p.1 ≠ a := fun p hp e => (mem_offL.mp hp).2 (by rw [e]; exact ha)
/-- what stands off the footprint stays -/
def Keeps (as : List Nat) (l l' : Led) : Prop := ∀ p ∈ l, p.1 ∉ as → p ∈ l'
theorem Keeps.refl {as : List Nat} {l : Led} : Keeps as l l := fun _ h _ => h
theorem Keeps.trans {as : List Nat} {l l' l'' : Led} (a : Keeps as l l') (b : Keeps as l' l'') : Keeps as l l'' := fun p h q => b p (a p h q) q
theorem Keeps.mono {as bs : List Nat} {l l' : Led} (a : Keeps as l l') (h : ∀ x ∈ as, x ∈ bs) : Keeps bs l l' := fun p hp q => a p hp fun z => q (h _ z)
section
variable {prog : Program} {w : World} {A : Around} {E : Value → Shared → Prop} {s : Shared} {h₀ : Heap} {L d : Addr} {o : Obj} {news : List (Addr × Obj)} {T : Type} [DecidableEq T] {knd : KeyKind prog w T} {kvs : List (T × Value)} {k : T} {key v : Value} {Q : Value → Shared → Prop}
theorem dget_some (N : News h₀ L s.heap news) (hp : (d, o) ∈ news) (hd : o.IsDictOf knd kvs) (lo : (d == sysModules) = false) (hkey : knd.is k key = true) (hl : valueAt kvs k = some v) (h : Q v { s with toks := s.toks + 1 }) :
    wpAny (model prog w) A (call (.builtin "dict.get") [.ref d, key]) Q E s := kdg_get1 N hp hd lo hkey (some v) hl h
theorem dget_none (N : News h₀ L s.heap news) (hp : (d, o) ∈ news) (hd : o.IsDictOf knd kvs) (lo : (d == sysModules) = false) (hkey : knd.is k key = true) (hl : valueAt kvs k = none) (h : Q .none { s with toks := s.toks + 1 }) :
    wpAny (model prog w) A (call (.builtin "dict.get") [.ref d, key]) Q E s := kdg_get1 N hp hd lo hkey none hl h
end
theorem allLt_mem {d : Nat} {l : List (Addr × Obj)} (h : AllLt d l) : ∀ p ∈ l, @LT.lt Nat instLTNat p.1 d := by
  induction l with
  | nil => intro p hp; cases hp
  | cons q r ih =>
    intro p hp
    rcases List.mem_cons.mp hp with e | hp
    · rw [e]; exact h.1
    · exact ih h.2 p hp
end
section
/-- the names that the top leaves loose, the tables hidden -/
noncomputable abbrev gLoose : List Str := looseW viewK [Str.ofString "_NodeInfo"] ++ (recsOf viewK).map (·.name) ++ (litsOf viewK).map (·.1) ++ (clssOf viewK (looseW viewK [Str.ofString "_NodeInfo"])).map (·.name)
/-- the goal hidden behind a Prop of its own while hypotheses are taken apart -/
theorem genC {G : Prop} (k : ∀ C : Prop, (G → C) → C) : G := k G id
/-- a contract of a def of the text -/
def Ctr (w : World) (f : Addr) (args : List Value) (dn ud : Nat) (news : Led) (Post : Value → Led → Prop) : Prop :=
  ∀ (mean : ExcName → Option Value) (mg mb : Str → Option Value) (dp un : Nat) (gd : Option (List Code)) (cn : Str) (nm : List (Str × NameKind)) (ig ic : Bool) (mo : List (Str × PySem.Const)) (a : Addr) (ccd : Value) (cl : List (Str × Addr)) (outer : List Env) (A₀ : Around) (base h₀ : Heap) (L : Addr) (m : Str → Option Value) (s : Shared) (Q E : Value → Shared → Prop),
    Below A₀ base outer h₀ → Fr h₀ L s.heap m → (heapK w.params).In h₀ → News h₀ L s.heap news →
    Top topProg gLoose mean mg mb h₀ → dp + dn < recursionLimit → un + ud < cLine →
    (∀ r news' h' tk', Fr h₀ L h' m → News h₀ L h' news' → Post r news' → Q r { s with heap := h', toks := tk' }) →
    wpAny (model PySem.Challenge.rw_mj0221_01.row.prog w) (ktrTop dp un gd cn (PySem.Scope.mk ScopeKind.function nm ig ic mo) L a ccd cl outer) (call (.ref f) args) Q E s
theorem ctr_use {w : World} {f : Addr} {args : List Value} {dn ud : Nat} {news : Led} {Post : Value → Led → Prop} {mean : ExcName → Option Value} {mg mb : Str → Option Value} {dp un : Nat} {gd : Option (List Code)} {cn : Str} {nm : List (Str × NameKind)} {ig ic : Bool} {mo : List (Str × PySem.Const)} {a : Addr} {ccd : Value} {cl : List (Str × Addr)} {outer : List Env} {A₀ : Around} {base h₀ : Heap} {L : Addr} {m : Str → Option Value} {s : Shared} {Q E : Value → Shared → Prop}
    (B : Below A₀ base outer h₀) (F : Fr h₀ L s.heap m) (X : (heapK w.params).In h₀) (N : News h₀ L s.heap news)
    (T : Top topProg gLoose mean mg mb h₀) (C : Ctr w f args dn ud news Post) (hd : dp + dn < recursionLimit) (hu : un + ud < cLine)
    (ret : ∀ r news' h' tk', Fr h₀ L h' m → News h₀ L h' news' → Post r news' → Q r { s with heap := h', toks := tk' }) :
    wpAny (model PySem.Challenge.rw_mj0221_01.row.prog w) (ktrTop dp un gd cn (PySem.Scope.mk ScopeKind.function nm ig ic mo) L a ccd cl outer) (call (.ref f) args) Q E s :=
  C _ _ _ _ _ _ _ _ _ _ _ _ _ _ _ _ _ _ _ _ _ _ _ B F X N T hd hu ret
theorem Ctr.mono {w : World} {f : Addr} {args : List Value} {dn ud : Nat} {news : Led} {Post Post' : Value → Led → Prop} (C : Ctr w f args dn ud news Post) (h : ∀ r n, Post r n → Post' r n) : Ctr w f args dn ud news Post' := by
  intro mean mg mb dp un gd cn nm ig ic mo a ccd cl outer A₀ base h₀ L m s Q E B F X N T hd hu ret
  exact ctr_use B F X N T C hd hu fun r n h' tk' F' N' p => ret r n h' tk' F' N' (h r n p)
theorem Ctr.sub {w : World} {f : Addr} {args : List Value} {dn ud : Nat} {news news₂ : Led} {Post : Value → Led → Prop} (C : Ctr w f args dn ud news₂ Post) (h : ∀ p ∈ news₂, p ∈ news) : Ctr w f args dn ud news Post := by
  intro mean mg mb dp un gd cn nm ig ic mo a ccd cl outer A₀ base h₀ L m s Q E B F X N T hd hu ret
  exact ctr_use B F X (News.sub N h) T C hd hu ret
/-- the walk halts here -/
def Halt (p : Prop) : Prop := p
theorem halt {p : Prop} (h : Halt p) : p := h
theorem Halt.go {p : Prop} (h : p) : Halt p := h
/-- one entry brought to the head -/
theorem News.foc {h₀ h : Heap} {L : Addr} {news : Led} {a : Addr} {o : Obj} (N : News h₀ L h news) (hm : (a, o) ∈ news) : News h₀ L h ((a, o) :: offL [a] news) :=
  News.sub N fun p hp => by
    rcases List.mem_cons.mp hp with e | hp
    · rw [e]; exact hm
    · exact (mem_offL.mp hp).1
theorem mem_foc {a : Addr} {o : Obj} {news : Led} {p : Addr × Obj} (hp : p ∈ news) (hne : p.1 ≠ a) : p ∈ (a, o) :: offL [a] news := by
  refine List.mem_cons_of_mem _ (mem_offL.mpr ⟨hp, ?_⟩)
  intro h; exact hne (List.mem_singleton.mp h)
/-- several entries brought to the head -/
theorem News.focs {h₀ h : Heap} {L : Addr} {news : Led} (l : Led) (N : News h₀ L h news) (hm : ∀ p ∈ l, p ∈ news) : News h₀ L h (l ++ offL (l.map (·.1)) news) :=
  News.sub N fun p hp => by
    rcases List.mem_append.mp hp with hp | hp
    · exact hm p hp
    · exact (mem_offL.mp hp).1
theorem News.uniq {h₀ h : Heap} {L : Addr} {news : Led} {a : Addr} {o o' : Obj} (N : News h₀ L h news) (h1 : (a, o) ∈ news) (h2 : (a, o') ∈ news) : o = o' := by
  have e1 := (N _ h1).1
  have e2 := (N _ h2).1
  exact Option.some.inj (e1.symm.trans e2)
theorem News.split {h₀ h : Heap} {L : Addr} {news : Led} {l : Led} (N : News h₀ L h news) (hm : ∀ p ∈ l, p ∈ news) : ∀ p ∈ news, p ∈ l ∨ p ∈ offL (l.map (·.1)) news := by
  intro p hp
  by_cases h : p.1 ∈ l.map (·.1)
  · left
    obtain ⟨q, hq, e⟩ := List.mem_map.mp h
    have : q = p := Prod.ext e (News.uniq (a := p.1) (o := q.2) (o' := p.2) N (by rw [← e]; exact hm q hq) hp)
    rw [← this]; exact hq
  · right; exact mem_offL.mpr ⟨hp, h⟩
theorem News.foc1 {h₀ h : Heap} {L : Addr} {news : Led} {a1 : Addr} {o1 : Obj} (N : News h₀ L h news) (e1 : (a1, o1) ∈ news) : News h₀ L h ((a1, o1) :: offL [a1] news) :=
  News.focs [(a1, o1)] N (by simp [e1])
theorem News.split1 {h₀ h : Heap} {L : Addr} {news : Led} {a1 : Addr} {o1 : Obj} (N : News h₀ L h news) (e1 : (a1, o1) ∈ news) : ∀ p ∈ news, p = (a1, o1) ∨ p ∈ offL [a1] news := fun p hp => by
  have := News.split (l := [(a1, o1)]) N (by simp [e1]) p hp
  simp only [List.mem_cons, List.not_mem_nil, or_false, List.map_cons, List.map_nil] at this
  exact this
theorem News.foc2 {h₀ h : Heap} {L : Addr} {news : Led} {a1 a2 : Addr} {o1 o2 : Obj} (N : News h₀ L h news) (e1 : (a1, o1) ∈ news) (e2 : (a2, o2) ∈ news) : News h₀ L h ((a1, o1) :: (a2, o2) :: offL [a1, a2] news) :=
  News.focs [(a1, o1), (a2, o2)] N (by simp [e1, e2])
theorem News.split2 {h₀ h : Heap} {L : Addr} {news : Led} {a1 a2 : Addr} {o1 o2 : Obj} (N : News h₀ L h news) (e1 : (a1, o1) ∈ news) (e2 : (a2, o2) ∈ news) : ∀ p ∈ news, p = (a1, o1) ∨ p = (a2, o2) ∨ p ∈ offL [a1, a2] news := fun p hp => by
  have := News.split (l := [(a1, o1), (a2, o2)]) N (by simp [e1, e2]) p hp
  simp only [List.mem_cons, List.not_mem_nil, or_false, List.map_cons, List.map_nil] at this
  simp only [or_assoc] at this; exact this
theorem News.foc3 {h₀ h : Heap} {L : Addr} {news : Led} {a1 a2 a3 : Addr} {o1 o2 o3 : Obj} (N : News h₀ L h news) (e1 : (a1, o1) ∈ news) (e2 : (a2, o2) ∈ news) (e3 : (a3, o3) ∈ news) : News h₀ L h ((a1, o1) :: (a2, o2) :: (a3, o3) :: offL [a1, a2, a3] news) :=
  News.focs [(a1, o1), (a2, o2), (a3, o3)] N (by simp [e1, e2, e3])
theorem News.split3 {h₀ h : Heap} {L : Addr} {news : Led} {a1 a2 a3 : Addr} {o1 o2 o3 : Obj} (N : News h₀ L h news) (e1 : (a1, o1) ∈ news) (e2 : (a2, o2) ∈ news) (e3 : (a3, o3) ∈ news) : ∀ p ∈ news, p = (a1, o1) ∨ p = (a2, o2) ∨ p = (a3, o3) ∨ p ∈ offL [a1, a2, a3] news := fun p hp => by
  have := News.split (l := [(a1, o1), (a2, o2), (a3, o3)]) N (by simp [e1, e2, e3]) p hp
  simp only [List.mem_cons, List.not_mem_nil, or_false, List.map_cons, List.map_nil] at this
  simp only [or_assoc] at this; exact this
theorem News.foc4 {h₀ h : Heap} {L : Addr} {news : Led} {a1 a2 a3 a4 : Addr} {o1 o2 o3 o4 : Obj} (N : News h₀ L h news) (e1 : (a1, o1) ∈ news) (e2 : (a2, o2) ∈ news) (e3 : (a3, o3) ∈ news) (e4 : (a4, o4) ∈ news) : News h₀ L h ((a1, o1) :: (a2, o2) :: (a3, o3) :: (a4, o4) :: offL [a1, a2, a3, a4] news) :=
  News.focs [(a1, o1), (a2, o2), (a3, o3), (a4, o4)] N (by simp [e1, e2, e3, e4])
theorem News.split4 {h₀ h : Heap} {L : Addr} {news : Led} {a1 a2 a3 a4 : Addr} {o1 o2 o3 o4 : Obj} (N : News h₀ L h news) (e1 : (a1, o1) ∈ news) (e2 : (a2, o2) ∈ news) (e3 : (a3, o3) ∈ news) (e4 : (a4, o4) ∈ news) : ∀ p ∈ news, p = (a1, o1) ∨ p = (a2, o2) ∨ p = (a3, o3) ∨ p = (a4, o4) ∨ p ∈ offL [a1, a2, a3, a4] news := fun p hp => by
  have := News.split (l := [(a1, o1), (a2, o2), (a3, o3), (a4, o4)]) N (by simp [e1, e2, e3, e4]) p hp
  simp only [List.mem_cons, List.not_mem_nil, or_false, List.map_cons, List.map_nil] at this
  simp only [or_assoc] at this; exact this
theorem News.foc5 {h₀ h : Heap} {L : Addr} {news : Led} {a1 a2 a3 a4 a5 : Addr} {o1 o2 o3 o4 o5 : Obj} (N : News h₀ L h news) (e1 : (a1, o1) ∈ news) (e2 : (a2, o2) ∈ news) (e3 : (a3, o3) ∈ news) (e4 : (a4, o4) ∈ news) (e5 : (a5, o5) ∈ news) : News h₀ L h ((a1, o1) :: (a2, o2) :: (a3, o3) :: (a4, o4) :: (a5, o5) :: offL [a1, a2, a3, a4, a5] news) :=
  News.focs [(a1, o1), (a2, o2), (a3, o3), (a4, o4), (a5, o5)] N (by simp [e1, e2, e3, e4, e5])
theorem News.split5 {h₀ h : Heap} {L : Addr} {news : Led} {a1 a2 a3 a4 a5 : Addr} {o1 o2 o3 o4 o5 : Obj} (N : News h₀ L h news) (e1 : (a1, o1) ∈ news) (e2 : (a2, o2) ∈ news) (e3 : (a3, o3) ∈ news) (e4 : (a4, o4) ∈ news) (e5 : (a5, o5) ∈ news) : ∀ p ∈ news, p = (a1, o1) ∨ p = (a2, o2) ∨ p = (a3, o3) ∨ p = (a4, o4) ∨ p = (a5, o5) ∨ p ∈ offL [a1, a2, a3, a4, a5] news := fun p hp => by
  have := News.split (l := [(a1, o1), (a2, o2), (a3, o3), (a4, o4), (a5, o5)]) N (by simp [e1, e2, e3, e4, e5]) p hp
  simp only [List.mem_cons, List.not_mem_nil, or_false, List.map_cons, List.map_nil] at this
  simp only [or_assoc] at this; exact this
theorem News.foc6 {h₀ h : Heap} {L : Addr} {news : Led} {a1 a2 a3 a4 a5 a6 : Addr} {o1 o2 o3 o4 o5 o6 : Obj} (N : News h₀ L h news) (e1 : (a1, o1) ∈ news) (e2 : (a2, o2) ∈ news) (e3 : (a3, o3) ∈ news) (e4 : (a4, o4) ∈ news) (e5 : (a5, o5) ∈ news) (e6 : (a6, o6) ∈ news) : News h₀ L h ((a1, o1) :: (a2, o2) :: (a3, o3) :: (a4, o4) :: (a5, o5) :: (a6, o6) :: offL [a1, a2, a3, a4, a5, a6] news) :=
  News.focs [(a1, o1), (a2, o2), (a3, o3), (a4, o4), (a5, o5), (a6, o6)] N (by simp [e1, e2, e3, e4, e5, e6])
theorem News.split6 {h₀ h : Heap} {L : Addr} {news : Led} {a1 a2 a3 a4 a5 a6 : Addr} {o1 o2 o3 o4 o5 o6 : Obj} (N : News h₀ L h news) (e1 : (a1, o1) ∈ news) (e2 : (a2, o2) ∈ news) (e3 : (a3, o3) ∈ news) (e4 : (a4, o4) ∈ news) (e5 : (a5, o5) ∈ news) (e6 : (a6, o6) ∈ news) : ∀ p ∈ news, p = (a1, o1) ∨ p = (a2, o2) ∨ p = (a3, o3) ∨ p = (a4, o4) ∨ p = (a5, o5) ∨ p = (a6, o6) ∨ p ∈ offL [a1, a2, a3, a4, a5, a6] news := fun p hp => by
  have := News.split (l := [(a1, o1), (a2, o2), (a3, o3), (a4, o4), (a5, o5), (a6, o6)]) N (by simp [e1, e2, e3, e4, e5, e6]) p hp
  simp only [List.mem_cons, List.not_mem_nil, or_false, List.map_cons, List.map_nil] at this
  simp only [or_assoc] at this; exact this
theorem News.ex {h₀ h : Heap} {L : Addr} {news : Led} {a : Addr} {f : Nat → Obj} (_N : News h₀ L h news) (q : ∃ n, (a, f n) ∈ news) : ∃ n, (a, f n) ∈ news := q
/-- a sorter's figures -/
structure SA where
  D : List Int
  np : Int → Int
  sc : Int → List Int
  rdl : Option (List Int)
  npo : Int
  nfi : Int
/-- where it lies -/
structure SG where
  dx : Nat
  n2i : Nat
  rd : Nat
  inf : Int → Nat
  idc : Int → Nat
  suc : Int → Nat
  tag : Nat → Nat × Int
abbrev infoObj (d l : Nat) (kv nv : Value) : Obj := { cls := .ref 40, dict := some d, slots := #[some kv, some nv, some (.ref l)] }
abbrev sDict (w : World) (t1 t2 t3 t4 : Tok) (a b c d : Value) (n : Nat) : Obj :=
  dictOf [⟨PyData.keyHash w.params (Str.ofString "_node2info"), .str (Str.ofString "_node2info") t1, a⟩, ⟨PyData.keyHash w.params (Str.ofString "_ready_nodes"), .str (Str.ofString "_ready_nodes") t2, b⟩,
    ⟨PyData.keyHash w.params (Str.ofString "_npassedout"), .str (Str.ofString "_npassedout") t3, c⟩, ⟨PyData.keyHash w.params (Str.ofString "_nfinished"), .str (Str.ofString "_nfinished") t4, d⟩] n
def rdv (g : SG) (a : SA) : Value := match a.rdl with | none => .none | some _ => .ref g.rd
def upd {T : Type} (f : Int → T) (k : Int) (v : T) : Int → T := fun j => if j = k then v else f j
theorem upd_same {T : Type} (f : Int → T) (k : Int) (v : T) : upd f k v k = v := by simp [upd]
theorem upd_ne {T : Type} {f : Int → T} {k j : Int} {v : T} (h : j ≠ k) : upd f k v j = f j := by simp [upd, h]
def tagU (t : Nat → Nat × Int) (x : Nat) (v : Nat × Int) : Nat → Nat × Int := fun y => if y = x then v else t y
theorem tagU_same {t : Nat → Nat × Int} {x : Nat} {v : Nat × Int} : tagU t x v x = v := by simp [tagU]
theorem tagU_ne {t : Nat → Nat × Int} {x y : Nat} {v : Nat × Int} (h : y ≠ x) : tagU t x v y = t y := by simp [tagU, h]
structure SAt (w : World) (sf : Nat) (g : SG) (a : SA) (R news : Led) : Prop where
  self : (sf, instObj 137 g.dx) ∈ news
  dict : ∃ t1 t2 t3 t4 t5 t6, (g.dx, sDict w t1 t2 t3 t4 (.ref g.n2i) (rdv g a) (.int a.npo t5) (.int a.nfi t6) 4) ∈ news
  tab : ∃ o : Obj, (g.n2i, o) ∈ news ∧ o.IsDictOf (PySem.intKind PySem.Challenge.rw_mj0221_01.row.prog w) (a.D.map fun k => (k, Value.ref (g.inf k)))
  lo : (g.n2i == sysModules) = false
  node : ∀ k ∈ a.D, ∃ t t', (g.inf k, infoObj (g.idc k) (g.suc k) (.int k t) (.int (a.np k) t')) ∈ news
  dct : ∀ k ∈ a.D, (g.idc k, dictOf [] 0) ∈ news
  sucs : ∀ k ∈ a.D, ∃ vs n, IntsAre vs (a.sc k) ∧ (g.suc k, listOf vs.toArray n) ∈ news
  rdy : ∀ l, a.rdl = some l → ∃ vs n, IntsAre vs l ∧ (g.rd, listOf vs.toArray n) ∈ news
  tself : g.tag sf = (0, 0)
  tdx : g.tag g.dx = (1, 0)
  tn2i : g.tag g.n2i = (2, 0)
  trd : a.rdl.isSome = true → g.tag g.rd = (3, 0)
  tinf : ∀ k ∈ a.D, g.tag (g.inf k) = (4, k)
  tidc : ∀ k ∈ a.D, g.tag (g.idc k) = (5, k)
  tsuc : ∀ k ∈ a.D, g.tag (g.suc k) = (6, k)
  dnodup : a.D.Nodup
  frame : ∀ p ∈ R, p ∈ news ∧ g.tag p.1 = (9, 0)
theorem tag_ne {g : SG} {x y : Nat} {s t : Nat × Int} (hx : g.tag x = s) (hy : g.tag y = t) (h : s ≠ t) : x ≠ y := fun e => h (by rw [← hx, ← hy, e])
section
variable {w : World} {sf : Nat} {g : SG} {a : SA} {R news news' : Led}
/-- the ledger changed at one address of the sorter's -/
structure Chg (x : Nat) (o : Obj) (news news' : Led) : Prop where
  keep : ∀ p ∈ news, p.1 ≠ x → p ∈ news'
  new : (x, o) ∈ news'
theorem Chg.ofN {h₀ h : Heap} {L : Addr} {x : Nat} {o : Obj} (_N : News h₀ L h news') (c : Chg x o news news') : Chg x o news news' := c
theorem SAt.chg {x : Nat} {o : Obj} (S : SAt w sf g a R news) (C : Chg x o news news') (hx : (g.tag x).1 ≠ 9) : ∀ p ∈ R, p ∈ news' ∧ g.tag p.1 = (9, 0) := fun p hp =>
  ⟨C.keep p (S.frame p hp).1 fun e => hx (by rw [← e, (S.frame p hp).2]), (S.frame p hp).2⟩
theorem SAt.setInfo {k v : Int} {t t' : Tok} (S : SAt w sf g a R news) (hk : k ∈ a.D) (C : Chg (g.inf k) (infoObj (g.idc k) (g.suc k) (.int k t) (.int v t')) news news') : SAt w sf g { a with np := upd a.np k v } R news' where
  self := C.keep _ S.self (tag_ne S.tself (S.tinf k hk) (by simp))
  dict := let ⟨t1, t2, t3, t4, t5, t6, h⟩ := S.dict; ⟨t1, t2, t3, t4, t5, t6, C.keep _ h (tag_ne S.tdx (S.tinf k hk) (by simp))⟩
  tab := let ⟨o, h, h2⟩ := S.tab; ⟨o, C.keep _ h (tag_ne S.tn2i (S.tinf k hk) (by simp)), h2⟩
  lo := S.lo
  node := fun j hj => by
    by_cases e : j = k
    · subst e; exact ⟨t, t', by simpa [upd_same] using C.new⟩
    · obtain ⟨u, u', h⟩ := S.node j hj
      exact ⟨u, u', by have q := C.keep _ h (tag_ne (S.tinf j hj) (S.tinf k hk) (by simp [e])); simpa [upd_ne e] using q⟩
  dct := fun j hj => C.keep _ (S.dct j hj) (tag_ne (S.tidc j hj) (S.tinf k hk) (by simp))
  sucs := fun j hj => let ⟨vs, n, h1, h2⟩ := S.sucs j hj; ⟨vs, n, h1, C.keep _ h2 (tag_ne (S.tsuc j hj) (S.tinf k hk) (by simp))⟩
  rdy := fun l hl => let ⟨vs, n, h1, h2⟩ := S.rdy l hl; ⟨vs, n, h1, C.keep _ h2 (tag_ne (S.trd (by rw [hl]; rfl)) (S.tinf k hk) (by simp))⟩
  tself := S.tself
  tdx := S.tdx
  tn2i := S.tn2i
  trd := S.trd
  tinf := S.tinf
  tidc := S.tidc
  tsuc := S.tsuc
  dnodup := S.dnodup
  frame := S.chg C (by rw [S.tinf k hk]; simp)
theorem SAt.setSuc {k : Int} {l : List Int} {vs : List Value} {n : Nat} (S : SAt w sf g a R news) (hk : k ∈ a.D) (hi : IntsAre vs l) (C : Chg (g.suc k) (listOf vs.toArray n) news news') : SAt w sf g { a with sc := upd a.sc k l } R news' where
  self := C.keep _ S.self (tag_ne S.tself (S.tsuc k hk) (by simp))
  dict := let ⟨t1, t2, t3, t4, t5, t6, h⟩ := S.dict; ⟨t1, t2, t3, t4, t5, t6, C.keep _ h (tag_ne S.tdx (S.tsuc k hk) (by simp))⟩
  tab := let ⟨o, h, h2⟩ := S.tab; ⟨o, C.keep _ h (tag_ne S.tn2i (S.tsuc k hk) (by simp)), h2⟩
  lo := S.lo
  node := fun j hj => let ⟨u, u', h⟩ := S.node j hj; ⟨u, u', C.keep _ h (tag_ne (S.tinf j hj) (S.tsuc k hk) (by simp))⟩
  dct := fun j hj => C.keep _ (S.dct j hj) (tag_ne (S.tidc j hj) (S.tsuc k hk) (by simp))
  sucs := fun j hj => by
    by_cases e : j = k
    · subst e; exact ⟨vs, n, by simpa [upd_same] using hi, C.new⟩
    · obtain ⟨us, n', h1, h2⟩ := S.sucs j hj
      exact ⟨us, n', by simpa [upd_ne e] using h1, C.keep _ h2 (tag_ne (S.tsuc j hj) (S.tsuc k hk) (by simp [e]))⟩
  rdy := fun l hl => let ⟨vs, n, h1, h2⟩ := S.rdy l hl; ⟨vs, n, h1, C.keep _ h2 (tag_ne (S.trd (by rw [hl]; rfl)) (S.tsuc k hk) (by simp))⟩
  tself := S.tself
  tdx := S.tdx
  tn2i := S.tn2i
  trd := S.trd
  tinf := S.tinf
  tidc := S.tidc
  tsuc := S.tsuc
  dnodup := S.dnodup
  frame := S.chg C (by rw [S.tsuc k hk]; simp)
theorem SAt.setDict {t1 t2 t3 t4 t5 t6 : Tok} {npo nfi : Int} (S : SAt w sf g a R news) (C : Chg g.dx (sDict w t1 t2 t3 t4 (.ref g.n2i) (rdv g a) (.int npo t5) (.int nfi t6) 4) news news') : SAt w sf g { a with npo := npo, nfi := nfi } R news' where
  self := C.keep _ S.self (tag_ne S.tself S.tdx (by simp))
  dict := ⟨t1, t2, t3, t4, t5, t6, C.new⟩
  tab := let ⟨o, h, h2⟩ := S.tab; ⟨o, C.keep _ h (tag_ne S.tn2i S.tdx (by simp)), h2⟩
  lo := S.lo
  node := fun j hj => let ⟨u, u', h⟩ := S.node j hj; ⟨u, u', C.keep _ h (tag_ne (S.tinf j hj) S.tdx (by simp))⟩
  dct := fun j hj => C.keep _ (S.dct j hj) (tag_ne (S.tidc j hj) S.tdx (by simp))
  sucs := fun j hj => let ⟨vs, n, h1, h2⟩ := S.sucs j hj; ⟨vs, n, h1, C.keep _ h2 (tag_ne (S.tsuc j hj) S.tdx (by simp))⟩
  rdy := fun l hl => let ⟨vs, n, h1, h2⟩ := S.rdy l hl; ⟨vs, n, h1, C.keep _ h2 (tag_ne (S.trd (by rw [hl]; rfl)) S.tdx (by simp))⟩
  tself := S.tself
  tdx := S.tdx
  tn2i := S.tn2i
  trd := S.trd
  tinf := S.tinf
  tidc := S.tidc
  tsuc := S.tsuc
  dnodup := S.dnodup
  frame := S.chg C (by rw [S.tdx]; simp)
theorem SAt.setRdy {l l₀ : List Int} {vs : List Value} {n : Nat} (S : SAt w sf g a R news) (h0 : a.rdl = some l₀) (hi : IntsAre vs l) (C : Chg g.rd (listOf vs.toArray n) news news') : SAt w sf g { a with rdl := some l } R news' :=
  have hr : g.tag g.rd = (3, 0) := S.trd (by rw [h0]; rfl)
  { self := C.keep _ S.self (tag_ne S.tself hr (by simp))
    dict := let ⟨t1, t2, t3, t4, t5, t6, h⟩ := S.dict; ⟨t1, t2, t3, t4, t5, t6, by have := C.keep _ h (tag_ne S.tdx hr (by simp)); simpa [rdv, h0] using this⟩
    tab := let ⟨o, h, h2⟩ := S.tab; ⟨o, C.keep _ h (tag_ne S.tn2i hr (by simp)), h2⟩
    lo := S.lo
    node := fun j hj => let ⟨u, u', h⟩ := S.node j hj; ⟨u, u', C.keep _ h (tag_ne (S.tinf j hj) hr (by simp))⟩
    dct := fun j hj => C.keep _ (S.dct j hj) (tag_ne (S.tidc j hj) hr (by simp))
    sucs := fun j hj => let ⟨vs, n, h1, h2⟩ := S.sucs j hj; ⟨vs, n, h1, C.keep _ h2 (tag_ne (S.tsuc j hj) hr (by simp))⟩
    rdy := fun l' hl => by
      obtain rfl : l = l' := by simpa using hl
      exact ⟨vs, n, hi, C.new⟩
    tself := S.tself
    tdx := S.tdx
    tn2i := S.tn2i
    trd := fun _ => hr
    tinf := S.tinf
    tidc := S.tidc
    tsuc := S.tsuc
    dnodup := S.dnodup
    frame := S.chg C (by rw [hr]; simp) }
/-- more stands in the ledger -/
theorem SAt.wk (S : SAt w sf g a R news) (h : ∀ p ∈ news, p ∈ news') : SAt w sf g a R news' where
  self := h _ S.self
  dict := let ⟨t1, t2, t3, t4, t5, t6, q⟩ := S.dict; ⟨t1, t2, t3, t4, t5, t6, h _ q⟩
  tab := let ⟨o, q, h2⟩ := S.tab; ⟨o, h _ q, h2⟩
  lo := S.lo
  node := fun j hj => let ⟨u, u', q⟩ := S.node j hj; ⟨u, u', h _ q⟩
  dct := fun j hj => h _ (S.dct j hj)
  sucs := fun j hj => let ⟨vs, n, h1, h2⟩ := S.sucs j hj; ⟨vs, n, h1, h _ h2⟩
  rdy := fun l hl => let ⟨vs, n, h1, h2⟩ := S.rdy l hl; ⟨vs, n, h1, h _ h2⟩
  tself := S.tself
  tdx := S.tdx
  tn2i := S.tn2i
  trd := S.trd
  tinf := S.tinf
  tidc := S.tidc
  tsuc := S.tsuc
  dnodup := S.dnodup
  frame := fun p hp => ⟨h _ (S.frame p hp).1, (S.frame p hp).2⟩
/-- the frame read smaller -/
theorem SAt.less {R' : Led} (S : SAt w sf g a R news) (h : ∀ p ∈ R', p ∈ R) : SAt w sf g a R' news := { S with frame := fun p hp => S.frame p (h p hp) }
/-- another tagging that agrees on the ledger -/
theorem SAt.retag {t : Nat → Nat × Int} (S : SAt w sf g a R news) (h : ∀ p ∈ news, t p.1 = g.tag p.1) : SAt w sf { g with tag := t } a R news where
  self := S.self
  dict := S.dict
  tab := S.tab
  lo := S.lo
  node := S.node
  dct := S.dct
  sucs := S.sucs
  rdy := S.rdy
  tself := (h _ S.self).trans S.tself
  tdx := let ⟨_, _, _, _, _, _, q⟩ := S.dict; (h _ q).trans S.tdx
  tn2i := let ⟨_, q, _⟩ := S.tab; (h _ q).trans S.tn2i
  trd := fun e => by
    obtain ⟨l, hl⟩ := Option.isSome_iff_exists.mp e
    obtain ⟨vs, n, _, h2⟩ := S.rdy l hl
    exact (h _ h2).trans (S.trd e)
  tinf := fun k hk => let ⟨_, _, q⟩ := S.node k hk; (h _ q).trans (S.tinf k hk)
  tidc := fun k hk => (h _ (S.dct k hk)).trans (S.tidc k hk)
  tsuc := fun k hk => let ⟨_, _, _, q⟩ := S.sucs k hk; (h _ q).trans (S.tsuc k hk)
  dnodup := S.dnodup
  frame := fun p hp => ⟨(S.frame p hp).1, (h _ (S.frame p hp).1).trans (S.frame p hp).2⟩
/-- a new object of the caller's goes into the frame -/
theorem SAt.more {x : Nat} {o : Obj} (S : SAt w sf g a R news) (hx : ∀ p ∈ news, @LT.lt Nat instLTNat p.1 x) : SAt w sf { g with tag := tagU g.tag x (9, 0) } a ((x, o) :: R) ((x, o) :: news) := by
  have S' := (S.retag (t := tagU g.tag x (9, 0)) fun p hp => tagU_ne (Nat.ne_of_lt (hx p hp))).wk (news' := (x, o) :: news) fun p hp => List.mem_cons_of_mem _ hp
  refine { S' with frame := fun p hp => ?_ }
  rcases List.mem_cons.mp hp with e | hp
  · rw [e]; exact ⟨.head _, tagU_same⟩
  · exact S'.frame p hp
/-- what is off the frame and off the sorter falls -/
theorem SAt.drop {x : Nat} (S : SAt w sf g a R news) (hx : g.tag x = (9, 0)) (hR : ∀ p ∈ R, p.1 ≠ x) : SAt w sf g a R (offL [x] news) := by
  have k : ∀ p ∈ news, p.1 ≠ x → p ∈ offL [x] news := fun p hp hne => mem_offL.mpr ⟨hp, fun h => hne (List.mem_singleton.mp h)⟩
  exact {
    self := k _ S.self (tag_ne S.tself hx (by simp))
    dict := let ⟨t1, t2, t3, t4, t5, t6, h⟩ := S.dict; ⟨t1, t2, t3, t4, t5, t6, k _ h (tag_ne S.tdx hx (by simp))⟩
    tab := let ⟨o, h, h2⟩ := S.tab; ⟨o, k _ h (tag_ne S.tn2i hx (by simp)), h2⟩
    lo := S.lo
    node := fun j hj => let ⟨u, u', h⟩ := S.node j hj; ⟨u, u', k _ h (tag_ne (S.tinf j hj) hx (by simp))⟩
    dct := fun j hj => k _ (S.dct j hj) (tag_ne (S.tidc j hj) hx (by simp))
    sucs := fun j hj => let ⟨vs, n, h1, h2⟩ := S.sucs j hj; ⟨vs, n, h1, k _ h2 (tag_ne (S.tsuc j hj) hx (by simp))⟩
    rdy := fun l hl => let ⟨vs, n, h1, h2⟩ := S.rdy l hl; ⟨vs, n, h1, k _ h2 (tag_ne (S.trd (by rw [hl]; rfl)) hx (by simp))⟩
    tself := S.tself
    tdx := S.tdx
    tn2i := S.tn2i
    trd := S.trd
    tinf := S.tinf
    tidc := S.tidc
    tsuc := S.tsuc
    dnodup := S.dnodup
    frame := fun p hp => ⟨k _ (S.frame p hp).1 (hR p hp), (S.frame p hp).2⟩ }
end
end
section
structure Framed {γ : Type} (Φ : γ → Led → Led → Prop) : Prop where
  sub : ∀ {x R n}, Φ x R n → ∀ p ∈ R, p ∈ n
  add : ∀ {x R n y o}, Φ x R n → (∀ p ∈ n, p.1 ≠ y) → Φ x ((y, o) :: R) ((y, o) :: n)
  drop : ∀ {x R n y o}, Φ x ((y, o) :: R) n → (∀ p ∈ R, p.1 ≠ y) → Φ x R (offL [y] n)
/-- a turn's end -/
def TEnd {γ : Type} (Φ : γ → Led → Led → Prop) (h₀ : Heap) (L : Addr) (R : Led) (Inv : (Str → Option Value) → γ → Prop) (s : Shared) (Q : Flow → Shared → Prop) (f : Flow) (s' : Shared) : Prop :=
  match f with
  | .ret v => Q (.ret v) s'
  | .brk => Q .next s'
  | _ => ∃ h' tk m' x' news', s' = { s with heap := h', toks := tk } ∧ Fr h₀ L h' m' ∧ News h₀ L h' news' ∧ Φ x' R news' ∧ Inv m' x'
theorem TEnd.next {γ : Type} {Φ : γ → Led → Led → Prop} {h₀ : Heap} {L : Addr} {R : Led} {Inv : (Str → Option Value) → γ → Prop} {s : Shared} {Q : Flow → Shared → Prop} {h' : Heap} {tk : Nat} {m' : Str → Option Value} {news' : Led} (x' : γ)
    (F : Fr h₀ L h' m') (N : News h₀ L h' news') (P : Φ x' R news') (I : Inv m' x') : TEnd Φ h₀ L R Inv s Q .next { s with heap := h', toks := tk } := ⟨h', tk, m', x', news', rfl, F, N, P, I⟩
theorem TEnd.cont {γ : Type} {Φ : γ → Led → Led → Prop} {h₀ : Heap} {L : Addr} {R : Led} {Inv : (Str → Option Value) → γ → Prop} {s : Shared} {Q : Flow → Shared → Prop} {h' : Heap} {tk : Nat} {m' : Str → Option Value} {news' : Led} (x' : γ)
    (F : Fr h₀ L h' m') (N : News h₀ L h' news') (P : Φ x' R news') (I : Inv m' x') : TEnd Φ h₀ L R Inv s Q .cont { s with heap := h', toks := tk } := ⟨h', tk, m', x', news', rfl, F, N, P, I⟩
section
variable {prog : Program} {w : World} {A : Around} {s : Shared} {env : Env} {h₀ : Heap} {E : Value → Shared → Prop} {Q : Flow → Shared → Prop} {target : Expr} {body : List Stmt} {m : Str → Option Value} {news : Led}
theorem own_eq {h h₁ : Heap} {fp : List Addr} {I : Addr} {oI : Obj} (hI : I ∈ fp) (hg : h₁.get? I = some oI) (hn : h.get? I = none) : (I, oI) ∈ ownOf h fp h₁ := mem_ownOf hI hn hg
theorem for_walk {γ : Type} {Φ : γ → Led → Led → Prop} (FΦ : Framed Φ) {R' : Result → Shared → Prop} {I : Addr} {fp : List Addr} {n : Nat} {P : Nat → Value → Prop} {St : Nat → Heap → Prop} {R : Led} {x₀ : γ} (Inv : Nat → (Str → Option Value) → γ → Prop)
    (W : Walks prog w A I fp [I] n P St) (hIf : I ∈ fp) (hfp : ∀ b ∈ fp, b = I ∨ (∃ o, h₀.get? b = some o) ∨ ∃ o, ∀ i m x R' n', (∀ p ∈ R, p ∈ R') → Inv i m x → Φ x R' n' → (b, o) ∈ n')
    (hLf : env.locals ∉ fp) (hI0 : h₀.get? I = none) (live : ∀ i h, St i h → ∃ o, h.get? I = some o) (hst : St 0 s.heap) (F : Fr h₀ env.locals s.heap m) (N : News h₀ env.locals s.heap news) (hnI : ∀ p ∈ news, p.1 ≠ I)
    (hgo : ∀ i (s' : Shared) v (Q' : Unit → Shared → Prop), P i v → St (i + 1) s'.heap → Q' () s' → wpAny (model prog w) A (letOwnedTupleGo target (.ref I) v) Q' (notedBy (model prog w) A env fun e s' => R' (.error e) s') s')
    (hΦ : Φ x₀ R news) (h0 : Inv 0 m x₀)
    (turn : ∀ i v m₁ x₁ R₁ news₁ h tk, i < n → P i v → Inv i m₁ x₁ → (∀ p ∈ R, p ∈ R₁) → Φ x₁ R₁ news₁ → Fr h₀ env.locals h m₁ → News h₀ env.locals h news₁ →
      wpAny (model prog w) A (assign target env v) (fun _ s₂ => wpAny (model prog w) A (execs body env) (TEnd Φ h₀ env.locals R₁ (Inv (i + 1)) { s with heap := h, toks := tk } Q) (notedBy (model prog w) A env fun e s' => R' (.error e) s') s₂) (notedBy (model prog w) A env fun e s' => R' (.error e) s') { s with heap := h, toks := tk })
    (hQ : ∀ f s', Q f s' → R' (.ok f) s')
    (done : ∀ m' x' news' h' tk, Inv n m' x' → Φ x' R news' → Fr h₀ env.locals h' m' → News h₀ env.locals h' news' → Q .next { s with heap := h', toks := tk }) :
    codeAny (model prog w) A (.forLoop target (.ref I) body [] env) R' s := by
  have hLI : env.locals ≠ I := fun e => hLf (e ▸ hIf)
  have hRI : ∀ p ∈ R, p.1 ≠ I := fun p hp => hnI p (FΦ.sub hΦ p hp)
  refine codeAny_forLoop_any
    (fun k s' => ∃ h' tk m' x' news' i, s' = { s with heap := h', toks := tk } ∧ St i h' ∧ Fr h₀ env.locals h' m' ∧ News h₀ env.locals h' news' ∧ (∀ p ∈ news', p.1 ≠ I) ∧ Φ x' R news' ∧ Inv i m' x' ∧ i ≤ n ∧ k = n + 1 - i) ?_ (n + 1)
    ⟨s.heap, s.toks, m, x₀, news, 0, rfl, hst, F, N, hnI, hΦ, h0, Nat.zero_le _, rfl⟩
  intro k s' hr92
  refine genC ?_
  intro C9 kC9
  obtain ⟨h', tk, m', x', news', i, rfl, hst', F', N', hnw', hΦ', hJ, hi, rfl⟩ := hr92
  refine kC9 ?_
  clear kC9 C9
  have next : ∀ h₁ : Heap, (∀ b o, b ∉ [I] → h'.get? b = some o → h₁.get? b = some o) → Fr h₀ env.locals h₁ m' ∧ News h₀ env.locals h₁ news' := fun h₁ hk₁ =>
    ⟨⟨F'.ns.at' fun o e => hk₁ _ o (by simpa using hLI) e, fun b o e => hk₁ b o (by intro hb; rw [List.mem_singleton.mp hb, hI0] at e; cases e) (F'.keep b o e), F'.above⟩, fun p hp => ⟨hk₁ _ _ (by simpa using hnw' p hp) (N' p hp).1, (N' p hp).2⟩⟩
  by_cases hlt : i < n
  · refine W.item i _ _ _ hlt hst' fun v h₁ tk₁ hP hst₁ hk₁ => ?_
    refine genC ?_
    intro C9 kC9
    obtain ⟨F₁, N₁⟩ := next h₁ hk₁
    obtain ⟨oI, hoI⟩ := live _ _ hst₁
    refine kC9 ?_
    clear kC9 C9
    have N₂ : News h₀ env.locals h₁ ((I, oI) :: news') := fun p hp => by
      rcases List.mem_cons.mp hp with e | hp
      · rw [e]; exact ⟨hoI, Ne.symm hLI, hI0⟩
      · exact N₁ p hp
    refine hgo i _ v _ hP hst₁ ?_
    refine wpAny_mono (turn i v m' x' ((I, oI) :: R) ((I, oI) :: news') h₁ tk₁ hlt hP hJ (fun p hp => List.mem_cons_of_mem _ hp) (FΦ.add hΦ' hnw') F₁ N₂)
      (fun _ s₂ h₂ => wpAny_mono h₂ (fun f s₃ h₃ => ?_) fun _ _ e => e) fun _ _ e => e
    have nx : (∃ h' tk m' x' news', s₃ = { ({ s with heap := h₁, toks := tk₁ } : Shared) with heap := h', toks := tk } ∧ Fr h₀ env.locals h' m' ∧ News h₀ env.locals h' news' ∧ Φ x' ((I, oI) :: R) news' ∧ Inv (i + 1) m' x') →
        ∃ m, m < n + 1 - i ∧ ∃ h' tk m' x' news' i, s₃ = { s with heap := h', toks := tk } ∧ St i h' ∧ Fr h₀ env.locals h' m' ∧ News h₀ env.locals h' news' ∧ (∀ p ∈ news', p.1 ≠ I) ∧ Φ x' R news' ∧ Inv i m' x' ∧ i ≤ n ∧ m = n + 1 - i := by
      intro hr90
      refine genC ?_
      intro C9 kC9
      obtain ⟨h₃', tk₃, m₂, x₂, news₂, rfl, F₃, N₃, hΦ₃, hJ₃⟩ := hr90
      refine kC9 ?_
      clear kC9 C9
      have hs₃ := FΦ.sub hΦ₃
      refine ⟨n + 1 - (i + 1), by omega, h₃', tk₃, m₂, x₂, offL [I] news₂, i + 1, rfl, ?_, F₃, (fun p hp => N₃ p (mem_offL.mp hp).1), (fun p hp e => (mem_offL.mp hp).2 (by simp [e])), FΦ.drop hΦ₃ hRI, hJ₃, hlt, rfl⟩
      refine W.frame _ _ _ hst₁ fun b hb o e => ?_
      rcases hfp b hb with rfl | ⟨o₀, h1⟩ | ⟨o₁, h1⟩
      · rw [hoI] at e; cases e; exact (N₃ _ (hs₃ _ (.head _))).1
      · have : o₀ = o := by have := F₁.keep b o₀ h1; rw [e] at this; exact (Option.some.inj this).symm
        exact this ▸ F₃.keep b o₀ h1
      · have h2 := (N₂ _ (List.mem_cons_of_mem _ (h1 _ _ _ _ _ (fun _ q => q) hJ hΦ'))).1
        rw [e] at h2; cases h2
        exact (N₃ _ (h1 _ _ _ _ _ (fun p q => List.mem_cons_of_mem _ q) hJ₃ hΦ₃)).1
    cases f with
    | ret v => exact hQ _ _ h₃
    | brk => exact hQ _ _ h₃
    | cont => exact nx h₃
    | next => exact nx h₃
  · have hin : i = n := by omega
    subst hin
    refine W.done _ _ _ hst' fun h₁ tk₁ hk₁ => wpAny_execs_nil ?_
    obtain ⟨F₁, N₁⟩ := next h₁ hk₁
    exact hQ _ _ (done m' x' news' h₁ tk₁ hJ hΦ' F₁ N₁)
def LoopM (prog : Program) (w : World) (A : Around) (env : Env) (target : Expr) (body : List Stmt) (Q : Flow → Shared → Prop) (E : Value → Shared → Prop) (it : Value) (s₂ : Shared) : Prop :=
  PassesOwn (model prog w) A env E → codeAny (model prog w) A (.forLoop target it body [] env) (fun r s' => match r with | .ok f => Q f s' | .error e => cameBackBy (model prog w) A env E e s') s₂
theorem For_M {iter : Expr} {pos : Pos}
    (h : wpAny (model prog w) A (eval iter env) (fun xv s₁ => wpAny (model prog w) A (pyIter xv) (fun it s₂ => LoopM prog w A env target body Q E it s₂) E s₁) E s)
    (hs : ∀ x, foldedSetIterable iter env x = pure x := by intro _; rfl)
    (hE : PassesOwn (model prog w) A env E := by passes_own) :
    wpAny (model prog w) A (exec (.For target iter body [] pos) env) Q E s :=
  wpAny_For (wpAny_mono h (fun xv s₁ h₁ => wpAny_mono h₁ (fun it s₂ h₂ => h₂ hE) fun _ _ e => e) fun _ _ e => e) hs
theorem iter_walk {γ : Type} {Φ : γ → Led → Led → Prop} (FΦ : Framed Φ) {v₀ : Value} {itO : Obj} {fp : List Addr} {n : Nat} {P : Nat → Value → Prop} {St : Nat → Heap → Prop} {R : Led} {x₀ : γ} (Inv : Nat → (Str → Option Value) → γ → Prop)
    (hit : ∀ Q' : Value → Shared → Prop, Q' (.ref s.heap.objs.size) { s with heap := s.heap.push itO } → wpAny (model prog w) A (pyIter v₀) Q' E s)
    (W : Walks prog w A s.heap.objs.size fp [s.heap.objs.size] n P St) (hIf : s.heap.objs.size ∈ fp) (hfp : ∀ b ∈ fp, b = s.heap.objs.size ∨ (∃ o, h₀.get? b = some o) ∨ ∃ o, ∀ i m x R' n', (∀ p ∈ R, p ∈ R') → Inv i m x → Φ x R' n' → (b, o) ∈ n')
    (live : ∀ i h, St i h → ∃ o, h.get? s.heap.objs.size = some o) (hst : St 0 (s.heap.push itO)) (F : Fr h₀ env.locals s.heap m) (N : News h₀ env.locals s.heap news)
    (hgo : ∀ i (s' : Shared) v (Q' : Unit → Shared → Prop) E', P i v → St (i + 1) s'.heap → Q' () s' → wpAny (model prog w) A (letOwnedTupleGo target (.ref s.heap.objs.size) v) Q' E' s')
    (hΦ : Φ x₀ R news) (h0 : Inv 0 m x₀)
    (turn : ∀ i v m₁ x₁ R₁ news₁ h tk, i < n → P i v → Inv i m₁ x₁ → (∀ p ∈ R, p ∈ R₁) → Φ x₁ R₁ news₁ → Fr h₀ env.locals h m₁ → News h₀ env.locals h news₁ →
      wpAny (model prog w) A (assign target env v) (fun _ s₂ => wpAny (model prog w) A (execs body env) (TEnd Φ h₀ env.locals R₁ (Inv (i + 1)) { s with heap := h, toks := tk } Q) E s₂) E { s with heap := h, toks := tk })
    (done : ∀ m' x' news' h' tk, Inv n m' x' → Φ x' R news' → Fr h₀ env.locals h' m' → News h₀ env.locals h' news' → Q .next { s with heap := h', toks := tk }) :
    wpAny (model prog w) A (pyIter v₀) (fun it s₂ => LoopM prog w A env target body Q E it s₂) E s := by
  refine hit _ ?_
  intro hE
  have hnew : ∀ p ∈ news, p.1 ≠ s.heap.objs.size := fun p hp => Nat.ne_of_lt (Heap.lt_size (N p hp).1)
  refine for_walk (Q := Q) FΦ Inv W hIf hfp ?_ (next_is_new F) live hst (F.push _) (fun p hp => ⟨Heap.get?_push_of_some _ (N p hp).1, (N p hp).2⟩) hnew
    (fun i s' v Q' a b c => hgo i s' v Q' _ a b c) hΦ h0 ?_ (fun _ _ q => q) done
  · intro hm
    rcases hfp _ hm with e | ⟨o, e⟩ | ⟨o, e⟩
    · exact absurd F.ns.lt (by rw [e]; exact Nat.lt_irrefl _)
    · exact absurd (Nat.lt_of_lt_of_le (Heap.lt_size e) F.above) (Nat.lt_irrefl _)
    · exact (N _ (e _ _ _ _ _ (fun _ q => q) h0 hΦ)).2.1 rfl
  · intro i v m₁ x₁ R₁ news₁ h tk hi hP hI hR hΦ₁ F₁ N₁
    exact wpAny_mono (turn i v m₁ x₁ R₁ news₁ h tk hi hP hI hR hΦ₁ F₁ N₁) (fun _ _ q => wpAny_passesOwn hE q) hE
theorem iter_list {γ : Type} {Φ : γ → Led → Led → Prop} (FΦ : Framed Φ) {l : Addr} {items : Array Value} {nn : Nat} {R : Led} {x₀ : γ} (hh : A.handled = none)
    (hl : (l, listOf items nn) ∈ R) (F : Fr h₀ env.locals s.heap m) (N : News h₀ env.locals s.heap news)
    (hgo : ∀ (I : Addr) i (s' : Shared) v (Q' : Unit → Shared → Prop) E', items[i]? = some v → s'.heap.IsListIter I l (i + 1) → Q' () s' → wpAny (model prog w) A (letOwnedTupleGo target (.ref I) v) Q' E' s')
    (Inv : Nat → (Str → Option Value) → γ → Prop) (hΦ : Φ x₀ R news) (h0 : Inv 0 m x₀)
    (turn : ∀ (i : Nat) v m₁ x₁ R₁ news₁ h tk, i < items.size → items[i]? = some v → Inv i m₁ x₁ → (∀ p ∈ R, p ∈ R₁) → Φ x₁ R₁ news₁ → Fr h₀ env.locals h m₁ → News h₀ env.locals h news₁ →
      wpAny (model prog w) A (assign target env v) (fun _ s₂ => wpAny (model prog w) A (execs body env) (TEnd Φ h₀ env.locals R₁ (Inv (i + 1)) { s with heap := h, toks := tk } Q) E s₂) E { s with heap := h, toks := tk })
    (done : ∀ m' x' news' h' tk, Inv items.size m' x' → Φ x' R news' → Fr h₀ env.locals h' m' → News h₀ env.locals h' news' → Q .next { s with heap := h', toks := tk }) :
    wpAny (model prog w) A (pyIter (.ref l)) (fun it s₂ => LoopM prog w A env target body Q E it s₂) E s := by
  have hls : s.heap.IsList l items := News.isList N (FΦ.sub hΦ _ hl)
  have hlt : l < s.heap.objs.size := Heap.lt_size (N _ (FΦ.sub hΦ _ hl)).1
  refine iter_walk FΦ Inv (fun Q' q => wpAny_pyIter_list hls q) (Walks.list (prog := prog) (w := w) hh s.heap.objs.size l (Nat.ne_of_lt hlt) items) (by simp) ?_ (fun i h st => let ⟨o, ho, _⟩ := st.1; ⟨o, ho⟩)
    ⟨⟨_, Heap.get?_push_size _ rfl, rfl, rfl⟩, hls.at fun o e => Heap.get?_push_of_some _ e⟩ F N (fun i s' v Q' E' hP st q => hgo _ i s' v Q' E' hP st.1 q) hΦ h0 turn done
  intro b hb
  rcases List.mem_cons.mp hb with e | hb
  · exact .inl e
  · rw [List.mem_singleton.mp hb]; exact .inr (.inr ⟨_, fun _ _ _ _ _ q _ f => FΦ.sub f _ (q _ hl)⟩)
theorem iter_listG {γ : Type} {Φ : γ → Led → Led → Prop} (FΦ : Framed Φ) {l : Addr} {items : Array Value} {nn : Nat} {R : Led} {x₀ : γ} (hh : A.handled = none)
    (Inv : Nat → (Str → Option Value) → γ → Prop) (hl : ∀ i m x R' n', (∀ p ∈ R, p ∈ R') → Inv i m x → Φ x R' n' → (l, listOf items nn) ∈ n') (F : Fr h₀ env.locals s.heap m) (N : News h₀ env.locals s.heap news)
    (hgo : ∀ (I : Addr) i (s' : Shared) v (Q' : Unit → Shared → Prop) E', items[i]? = some v → s'.heap.IsListIter I l (i + 1) → Q' () s' → wpAny (model prog w) A (letOwnedTupleGo target (.ref I) v) Q' E' s')
    (hΦ : Φ x₀ R news) (h0 : Inv 0 m x₀)
    (turn : ∀ (i : Nat) v m₁ x₁ R₁ news₁ h tk, i < items.size → items[i]? = some v → Inv i m₁ x₁ → (∀ p ∈ R, p ∈ R₁) → Φ x₁ R₁ news₁ → Fr h₀ env.locals h m₁ → News h₀ env.locals h news₁ →
      wpAny (model prog w) A (assign target env v) (fun _ s₂ => wpAny (model prog w) A (execs body env) (TEnd Φ h₀ env.locals R₁ (Inv (i + 1)) { s with heap := h, toks := tk } Q) E s₂) E { s with heap := h, toks := tk })
    (done : ∀ m' x' news' h' tk, Inv items.size m' x' → Φ x' R news' → Fr h₀ env.locals h' m' → News h₀ env.locals h' news' → Q .next { s with heap := h', toks := tk }) :
    wpAny (model prog w) A (pyIter (.ref l)) (fun it s₂ => LoopM prog w A env target body Q E it s₂) E s := by
  have hls : s.heap.IsList l items := News.isList N (hl _ _ _ _ _ (fun _ q => q) h0 hΦ)
  have hlt : l < s.heap.objs.size := Heap.lt_size (N _ (hl _ _ _ _ _ (fun _ q => q) h0 hΦ)).1
  refine iter_walk FΦ Inv (fun Q' q => wpAny_pyIter_list hls q) (Walks.list (prog := prog) (w := w) hh s.heap.objs.size l (Nat.ne_of_lt hlt) items) (by simp) ?_ (fun i h st => let ⟨o, ho, _⟩ := st.1; ⟨o, ho⟩)
    ⟨⟨_, Heap.get?_push_size _ rfl, rfl, rfl⟩, hls.at fun o e => Heap.get?_push_of_some _ e⟩ F N (fun i s' v Q' E' hP st q => hgo _ i s' v Q' E' hP st.1 q) hΦ h0 turn done
  intro b hb
  rcases List.mem_cons.mp hb with e | hb
  · exact .inl e
  · rw [List.mem_singleton.mp hb]; exact .inr (.inr ⟨_, hl⟩)
theorem iter_tuple {γ : Type} {Φ : γ → Led → Led → Prop} (FΦ : Framed Φ) {l : Addr} {items : Array Value} {nn : Nat} {R : Led} {x₀ : γ} (hh : A.handled = none)
    (hl : (l, ({ cls := .type "tuple", data := .seq items nn } : Obj)) ∈ R) (F : Fr h₀ env.locals s.heap m) (N : News h₀ env.locals s.heap news)
    (hgo : ∀ v v', letOwnedTupleGo target v v' = pure ())
    (Inv : Nat → (Str → Option Value) → γ → Prop) (hΦ : Φ x₀ R news) (h0 : Inv 0 m x₀)
    (turn : ∀ (i : Nat) v m₁ x₁ R₁ news₁ h tk, i < items.size → items[i]? = some v → Inv i m₁ x₁ → (∀ p ∈ R, p ∈ R₁) → Φ x₁ R₁ news₁ → Fr h₀ env.locals h m₁ → News h₀ env.locals h news₁ →
      wpAny (model prog w) A (assign target env v) (fun _ s₂ => wpAny (model prog w) A (execs body env) (TEnd Φ h₀ env.locals R₁ (Inv (i + 1)) { s with heap := h, toks := tk } Q) E s₂) E { s with heap := h, toks := tk })
    (done : ∀ m' x' news' h' tk, Inv items.size m' x' → Φ x' R news' → Fr h₀ env.locals h' m' → News h₀ env.locals h' news' → Q .next { s with heap := h', toks := tk }) :
    wpAny (model prog w) A (pyIter (.ref l)) (fun it s₂ => LoopM prog w A env target body Q E it s₂) E s := by
  have hls : s.heap.IsTuple l items := ⟨_, (N _ (FΦ.sub hΦ _ hl)).1, rfl, _, rfl⟩
  have hlt : l < s.heap.objs.size := Heap.lt_size (N _ (FΦ.sub hΦ _ hl)).1
  refine iter_walk FΦ Inv (fun Q' q => wpAny_pyIter_tuple hls q) (Walks.tuple (prog := prog) (w := w) hh s.heap.objs.size l (Nat.ne_of_lt hlt) items) (by simp) ?_ (fun i h st => let ⟨o, ho, _⟩ := st.1; ⟨o, ho⟩)
    ⟨⟨_, Heap.get?_push_size _ rfl, rfl, rfl⟩, hls.push _⟩ F N (fun i s' v Q' E' hP st q => by rw [hgo]; exact wpAny_pure q) hΦ h0 turn done
  intro b hb
  rcases List.mem_cons.mp hb with e | hb
  · exact .inl e
  · rw [List.mem_singleton.mp hb]; exact .inr (.inr ⟨_, fun _ _ _ _ _ q _ f => FΦ.sub f _ (q _ hl)⟩)
theorem iter_range {γ : Type} {Φ : γ → Led → Led → Prop} (FΦ : Framed Φ) {r : Addr} {a₀ b₀ c₀ : Int} {t₀ u₀ v₀ : Tok} {n : Nat} {R : Led} {x₀ : γ} (hh : A.handled = none)
    (hr : IsRange s.heap r a₀ b₀ c₀ t₀ u₀ v₀) (hsmall : Builtin.Range.small a₀ b₀ c₀ = true) (hn : Builtin.Range.rangeSize a₀ b₀ c₀ = (n : Int)) (F : Fr h₀ env.locals s.heap m) (N : News h₀ env.locals s.heap news)
    (hgo : ∀ v v', letOwnedTupleGo target v v' = pure ())
    (Inv : Nat → (Str → Option Value) → γ → Prop) (hΦ : Φ x₀ R news) (h0 : Inv 0 m x₀)
    (turn : ∀ (i : Nat) t m₁ x₁ R₁ news₁ h tk, i < n → Inv i m₁ x₁ → (∀ p ∈ R, p ∈ R₁) → Φ x₁ R₁ news₁ → Fr h₀ env.locals h m₁ → News h₀ env.locals h news₁ →
      wpAny (model prog w) A (assign target env (.int (a₀ + i * c₀) t)) (fun _ s₂ => wpAny (model prog w) A (execs body env) (TEnd Φ h₀ env.locals R₁ (Inv (i + 1)) { s with heap := h, toks := tk } Q) E s₂) E { s with heap := h, toks := tk })
    (done : ∀ m' x' news' h' tk, Inv n m' x' → Φ x' R news' → Fr h₀ env.locals h' m' → News h₀ env.locals h' news' → Q .next { s with heap := h', toks := tk }) :
    wpAny (model prog w) A (pyIter (.ref r)) (fun it s₂ => LoopM prog w A env target body Q E it s₂) E s := by
  refine iter_walk FΦ Inv (fun Q' q => wpAny_pyIter_range hr hsmall q) (Walks.range hh s.heap.objs.size a₀ c₀ n) (by simp) (fun b hb => .inl (List.mem_singleton.mp hb)) (fun i h st => ⟨_, st⟩)
    (by show IsRangeIter _ _ _ _ _; rw [hn]; simpa using Heap.get?_push_size _ rfl) F N (fun i s' v Q' E' hP st q => by rw [hgo]; exact wpAny_pure q) hΦ h0 ?_ done
  rintro i v m₁ x₁ R₁ news₁ h tk hi ⟨t, rfl⟩ hI hR hΦ₁ F₁ N₁
  exact turn i t m₁ x₁ R₁ news₁ h tk hi hI hR hΦ₁ F₁ N₁
theorem iter_keys {γ : Type} {Φ : γ → Led → Led → Prop} (FΦ : Framed Φ) {K : Type} [DecidableEq K] {knd : KeyKind prog w K} {kvs : List (K × Value)} {d : Addr} {o : Obj} {R : Led} {x₀ : γ} (hh : A.handled = none)
    (hl : (d, o) ∈ R) (hd : o.IsDictOf knd kvs) (lo : (d == sysModules) = false) (F : Fr h₀ env.locals s.heap m) (N : News h₀ env.locals s.heap news)
    (hgo : ∀ v v', letOwnedTupleGo target v v' = pure ())
    (Inv : Nat → (Str → Option Value) → γ → Prop) (hΦ : Φ x₀ R news) (h0 : Inv 0 m x₀)
    (turn : ∀ (i : Nat) k x v m₁ x₁ R₁ news₁ h tk, i < kvs.length → kvs[i]? = some (k, x) → knd.is k v = true → Inv i m₁ x₁ → (∀ p ∈ R, p ∈ R₁) → Φ x₁ R₁ news₁ → Fr h₀ env.locals h m₁ → News h₀ env.locals h news₁ →
      wpAny (model prog w) A (assign target env v) (fun _ s₂ => wpAny (model prog w) A (execs body env) (TEnd Φ h₀ env.locals R₁ (Inv (i + 1)) { s with heap := h, toks := tk } Q) E s₂) E { s with heap := h, toks := tk })
    (done : ∀ m' x' news' h' tk, Inv kvs.length m' x' → Φ x' R news' → Fr h₀ env.locals h' m' → News h₀ env.locals h' news' → Q .next { s with heap := h', toks := tk }) :
    wpAny (model prog w) A (pyIter (.ref d)) (fun it s₂ => LoopM prog w A env target body Q E it s₂) E s := by
  have hg := (N _ (FΦ.sub hΦ _ hl)).1
  refine genC ?_
  intro C9 kC9
  obtain ⟨es, ep, h1, h2, h3, h4, h5⟩ := hd
  refine kC9 ?_
  clear kC9 C9
  have hm : s.heap.DictAt knd d kvs ep := ⟨o, es, hg, h1, h2, h3, h4, h5⟩
  have hlt : d < s.heap.objs.size := Heap.lt_size hg
  refine iter_walk FΦ Inv (fun Q' q => wpAny_pyIter_dict lo hm q) (Walks.dictKeys (knd := knd) hh s.heap.objs.size d (Nat.ne_of_lt hlt) kvs ep) (by simp) ?_ (fun i h st => let ⟨o, ho, _⟩ := st.1; ⟨o, ho⟩)
    ⟨⟨_, Heap.get?_push_size _ rfl, rfl, rfl⟩, hm.at' fun o e => Heap.get?_push_of_some _ e⟩ F N (fun i s' v Q' E' hP st q => by rw [hgo]; exact wpAny_pure q) hΦ h0 ?_ done
  · intro b hb
    rcases List.mem_cons.mp hb with e | hb
    · exact .inl e
    · rw [List.mem_singleton.mp hb]; exact .inr (.inr ⟨_, fun _ _ _ _ _ q _ f => FΦ.sub f _ (q _ hl)⟩)
  · intro i v m₁ x₁ R₁ news₁ h tk hi hr99 hI hR hΦ₁ F₁ N₁
    refine genC ?_
    intro C9 kC9
    obtain ⟨k, x, hk, hv⟩ := hr99
    refine kC9 ?_
    clear kC9 C9
    exact turn i k x v m₁ x₁ R₁ news₁ h tk hi hk hv hI hR hΦ₁ F₁ N₁
end
/-- names of the frame that are known -/
def Pins (m : Str → Option Value) : List (Str × Value) → Prop
  | [] => True
  | (a, v) :: r => m a = some v ∧ Pins m r
def pinned (m : Str → Option Value) : List (Str × Value) → Str → Option Value
  | [] => m
  | (a, v) :: r => fun y => if y = a then some v else pinned m r y
theorem pinned_eq {m : Str → Option Value} : ∀ {l : List (Str × Value)}, Pins m l → m = pinned m l
  | [], _ => rfl
  | (a, v) :: r, h => by
    have ih := pinned_eq h.2
    funext y
    show m y = if y = a then some v else pinned m r y
    split
    · next e => rw [e]; exact h.1
    · rw [← ih]
theorem Fr.pin {h₀ h : Heap} {L : Addr} {m : Str → Option Value} {l : List (Str × Value)} (F : Fr h₀ L h m) (p : Pins m l) : Fr h₀ L h (pinned m l) := by rw [← pinned_eq p]; exact F
/-- the sorter as a framed state -/
def Sor (w : World) (sf : Nat) (a : SA) (R news : Led) : Prop := ∃ g, SAt w sf g a R news
theorem SAt.more' {w : World} {sf : Nat} {g : SG} {a : SA} {R news : Led} {x : Nat} {o : Obj} (S : SAt w sf g a R news) (hx : ∀ p ∈ news, p.1 ≠ x) : SAt w sf { g with tag := tagU g.tag x (9, 0) } a ((x, o) :: R) ((x, o) :: news) := by
  have S' := (S.retag (t := tagU g.tag x (9, 0)) fun p hp => tagU_ne (hx p hp)).wk (news' := (x, o) :: news) fun p hp => List.mem_cons_of_mem _ hp
  refine { S' with frame := fun p hp => ?_ }
  rcases List.mem_cons.mp hp with e | hp
  · rw [e]; exact ⟨.head _, tagU_same⟩
  · exact S'.frame p hp
theorem sor_framed {w : World} {sf : Nat} : Framed (Sor w sf) where
  sub := fun ⟨_, S⟩ p hp => (S.frame p hp).1
  add := fun ⟨_, S⟩ h => ⟨_, S.more' h⟩
  drop := fun ⟨g, S⟩ h => ⟨g, (S.less fun p hp => List.mem_cons_of_mem _ hp).drop (S.frame _ (.head _)).2 h⟩
theorem Fr.named {h₀ h : Heap} {L : Addr} {m : Str → Option Value} (_F : Fr h₀ L h m) (x : Str) {a : Addr} (_e : m x = some (.ref a)) : ∃ b, b = a := ⟨a, rfl⟩
/-- a frame alone -/
def Frm (_x : Unit) (R news : Led) : Prop := ∀ p ∈ R, p ∈ news
theorem frm_framed : Framed Frm where
  sub := fun h => h
  add := fun h _ p hp => by
    rcases List.mem_cons.mp hp with rfl | hp
    · exact .head _
    · exact List.mem_cons_of_mem _ (h p hp)
  drop := fun h hn p hp => mem_offL.mpr ⟨h p (List.mem_cons_of_mem _ hp), fun e => hn p hp (List.mem_singleton.mp e)⟩
section
variable {prog : Program} {w : World} {A : Around} {s : Shared} {env : Env} {E : Value → Shared → Prop} {Q : Flow → Shared → Prop} {test : Expr} {body orelse : List Stmt} {pos : Pos}
theorem While_M (J : Nat → Shared → Prop) (n : Nat) (h : J n s)
    (turn : ∀ n s, J n s → wpAny (model prog w) A (isTrue test env (eval test env)) (fun b s₂ =>
      if b = true then wpAny (model prog w) A (execs body env) (fun f s₃ => match f with
          | .next | .cont => ∃ m, m < n ∧ J m s₃
          | .brk => Q .next s₃
          | .ret v => Q (.ret v) s₃) E s₂
      else wpAny (model prog w) A (execs orelse env) Q E s₂) E s)
    (hE : PassesOwn (model prog w) A env E := by passes_own) : wpAny (model prog w) A (exec (.While test body orelse pos) env) Q E s := by
  refine wpAny_While (codeAny_whileLoop J (fun n s hJ => ?_) n h)
  refine wpAny_mono (turn n s hJ) (fun b s₂ h₂ => ?_) hE
  cases b with
  | true =>
    simp only [if_true] at h₂ ⊢
    refine wpAny_mono (wpAny_passesOwn hE h₂) (fun f s₃ h₃ => ?_) fun _ _ e => e
    cases f <;> exact h₃
  | false =>
    simp only [Bool.false_eq_true, if_false] at h₂ ⊢
    exact wpAny_passesOwn hE h₂
end
/-- the sorter, its places known -/
def SorG (w : World) (sf : Nat) (x : SA × SG) (R news : Led) : Prop := ∃ t, SAt w sf { x.2 with tag := t } x.1 R news
theorem sorG_framed {w : World} {sf : Nat} : Framed (SorG w sf) where
  sub := fun ⟨_, S⟩ p hp => (S.frame p hp).1
  add := fun ⟨_, S⟩ h => ⟨_, S.more' h⟩
  drop := fun ⟨g, S⟩ h => ⟨g, (S.less fun p hp => List.mem_cons_of_mem _ hp).drop (S.frame _ (.head _)).2 h⟩
/-- the sorter, and one successor list as it lies -/
def SorP (w : World) (sf : Nat) (k : Int) (o : Obj) (x : SA × SG) (R news : Led) : Prop := ∃ t, SAt w sf { x.2 with tag := t } x.1 R news ∧ k ∈ x.1.D ∧ (x.2.suc k, o) ∈ news
theorem sorP_framed {w : World} {sf : Nat} {k : Int} {o : Obj} : Framed (SorP w sf k o) where
  sub := fun ⟨_, S, _⟩ p hp => (S.frame p hp).1
  add := fun ⟨_, S, hk, hm⟩ h => ⟨_, S.more' h, hk, List.mem_cons_of_mem _ hm⟩
  drop := fun ⟨g, S, hk, hm⟩ h => ⟨g, (S.less fun p hp => List.mem_cons_of_mem _ hp).drop (S.frame _ (.head _)).2 h, hk, mem_offL.mpr ⟨hm, fun e => tag_ne (S.tsuc _ hk) (S.frame _ (.head _)).2 (by simp) (List.mem_singleton.mp e)⟩⟩
theorem SorG.of {w : World} {sf : Nat} {g : SG} {a : SA} {R news : Led} (S : SAt w sf g a R news) : SorG w sf (a, g) R news := ⟨g.tag, S⟩
theorem ints_at {vs : List Value} {ns : List Int} (h : IntsAre vs ns) {i : Nat} {v : Value} (hv : vs.toArray[i]? = some v) : ∃ k t, ns[i]? = some k ∧ v = .int k t := by
  have hi : i < vs.length := by
    simp at hv
    exact (List.getElem?_eq_some_iff.mp hv).1
  have hi' : i < ns.length := by rw [← h.length]; exact hi
  obtain ⟨t, hx⟩ := h.get i ns[i] (by simp [hi'])
  refine ⟨ns[i], t, by simp [hi'], ?_⟩
  simp at hv
  rw [hx] at hv
  exact (Option.some.inj hv).symm
end
section
abbrev tupObj (vs : Array Value) (n : Nat) : Obj := { cls := .type "tuple", data := .seq vs n }
theorem meets_bool_list (l : Addr) (o : Obj) (items : Array Value) (n : Nat) (hc : o.cls = .type "list") (hd : o.data = .seq items n) (hfit : (items.size : Int) < 2 ^ 63) :
    Meets (Builtin.«bool.__new__» ⟨[.type "bool", .ref l], []⟩) (fun _ R s => s.heap.get? l = some o ∧ R (.ok (.ret (.bool (!items.isEmpty)))) { s with toks := s.toks + 1 + 1 }) :=
  Meets.of_wp fun prog w A R s hs => by
    refine genC ?_
    intro C9 kC9
    obtain ⟨hp, g, d, tk, os⟩ := s
    obtain ⟨ht, hs⟩ := hs
    refine kC9 ?_
    clear kC9 C9
    have f1 := F.conv_sub_bool
    have hl : hp.IsList l items := ⟨o, ht, hc, n, hd⟩
    repeat (any_goals (first | assumption | (with_reducible refine wpAny_truthy_list hl hfit ?_) | wp_step))
    all_goals first | exact ⟨_, rfl, hs⟩ | exact hs | skip
section
variable {prog : Program} {w : World} {A : Around} {E : Value → Shared → Prop} {s : Shared} {h₀ : Heap} {L : Addr} {m : Str → Option Value} {news : Led}
theorem bool_list {l : Addr} {items : Array Value} {n : Nat} {Q : Value → Shared → Prop} (N : News h₀ L s.heap news) (hl : (l, listOf items n) ∈ news) (hfit : items.size ≤ 1000)
    (h : Q (.bool (!items.isEmpty)) { s with toks := s.toks + 1 + 1 }) : wpAny (model prog w) A (call (.type "bool") [.ref l]) Q E s :=
  call_bool_1 (meets_bool_list l (listOf items n) items n rfl rfl (by omega)) (show _ ∧ wants (fun obj s₁ => s₁.TypeIs obj "bool" ∧ Q obj s₁) E _ _ from ⟨(N _ hl).1, ⟨rfl, h⟩⟩)
theorem tup_list {l : Addr} {items : Array Value} {n : Nat} {Q : Value → Shared → Prop} (F : Fr h₀ L s.heap m) (N : News h₀ L s.heap news) (hl : (l, listOf items n) ∈ news) (hsz : items.size ≤ sizeLine)
    (h : ∀ D h', Fr h₀ L h' m → News h₀ L h' ((D, tupObj items 0) :: news) → (∀ p ∈ news, @LT.lt Nat instLTNat p.1 D) → Q (.ref D) { s with heap := h' }) : wpAny (model prog w) A (call (.type "tuple") [.ref l]) Q E s := by
  refine call_tuple_list (News.isList N hl) (fun h' hk => ?_) hsz
  have F' : Fr h₀ L h' m := F.keeps hk
  have N' : News h₀ L h' news := fun p hp => ⟨hk _ _ (N p hp).1, (N p hp).2⟩
  exact h _ _ (F'.push _) (N'.push F' _) fun p hp => Heap.lt_size (N' p hp).1
theorem list_clear {D : Addr} {its : Array Value} {n : Nat} {g : Obj → Led} {Q : Value → Shared → Prop} (F : Fr h₀ L s.heap m) (N : News h₀ L s.heap news) (U : UpdF D (listOf its n) news g) (hz : its.size ≤ sizeLine)
    (h : ∀ h' n', Fr h₀ L h' m → News h₀ L h' (g (listOf #[] n')) → Q .none { s with heap := h' }) : wpAny (model prog w) A (call (.builtin "list.clear") [.ref D]) Q E s := by
  refine genC ?_
  intro C9 kC9
  obtain ⟨pre, post, rfl, hg, a, c⟩ := U.split
  refine kC9 ?_
  clear kC9 C9
  have z := N (D, listOf its n) (List.mem_append.mpr (.inr (.head _)))
  refine call_meets PySem.F.slot_list_clear ⟨_, z.1, rfl⟩ PySem.F.entry_list_clear (PySem.F.args_list_clear_1 _) (PySem.AutoSeq1.list_clear_list_0 D its n hz) ⟨z.1, ?_⟩
  by_cases e : its.size = 0
  · exact h _ n (F.change (Heap.SameBut.update ..) z.2.1 z.2.2) (by rw [hg]; exact kl_turn0 (fun _ => #[]) N a c rfl (by simp [e]))
  · exact h _ (n + 1) (F.change (Heap.SameBut.update ..) z.2.1 z.2.2) (by rw [hg]; exact kl_turn (fun _ => #[]) N a c rfl (by simp; omega))
end
end
section
open PySem PySem.W PySem.Calls PyProof.Rows PyProof.Rows.LCg
section
variable {prog : Program} {w : World} {A : Around} {E : Value → Shared → Prop} {R : Result → Shared → Prop} {s : Shared}
theorem comp_loop {elt target iter : Expr} {ifs : List Expr} {scope : Scope} {pos : Pos} {it acc : Value} {env : Env} (I : Nat → Shared → Prop)
    (turn : ∀ n s, I n s → wpAny (model prog w) A (pyNext it) (fun r s₁ => match r with
      | none => R (.ok .next) s₁
      | some v => wpAny (model prog w) A (letOwnedTupleGo target it v) (fun _ s₀ => wpAny (model prog w) A (assign target env v) (fun _ s₂ =>
          wpAny (model prog w) A (forIn ifs true fun c r => if r = true then do let ok ← isTrue c env (eval c env); pure (ForInStep.yield ok) else pure (ForInStep.yield r)) (fun ok s₃ =>
            if ok = true then wpAny (model prog w) A (eval elt env) (fun x s₄ =>
              wpAny (model prog w) A (call (.builtin "list.append") [acc, x]) (fun _ s₅ => ∃ m, m < n ∧ I m s₅) (notedBy (model prog w) A env fun e s' => R (.error e) s') s₄) (notedBy (model prog w) A env fun e s' => R (.error e) s') s₃
            else ∃ m, m < n ∧ I m s₃) (notedBy (model prog w) A env fun e s' => R (.error e) s') s₂) (notedBy (model prog w) A env fun e s' => R (.error e) s') s₀) (notedBy (model prog w) A env fun e s' => R (.error e) s') s₁) (notedBy (model prog w) A env fun e s' => R (.error e) s') s)
    (n : Nat) (h : I n s) :
    codeAny (model prog w) A (.compLoop (.ListComp elt [⟨target, iter, ifs, 0⟩] scope pos) 0 it acc env) R s := by
  refine codeAny_loop rfl I (fun n s hI => ?_) n h
  show wpAny _ A ((compTurn (.ListComp elt [⟨target, iter, ifs, 0⟩] scope pos) 0 it acc env).onRaise (fun x => do noteFrame x env; theTreesLotGoes x)) _ _ s
  refine wpAny_noted ?_
  rw [compTurn_list]
  refine wpAny_bind (wpAny_standAt (wpAny_bind (wpAny_mono (turn n s hI) (fun r s₁ h₁ => ?_) fun _ _ h' => h')))
  cases r with
  | none => exact wpAny_pure h₁
  | some v =>
    refine wpAny_bind (wpAny_mono h₁ (fun _ s₀ h₀ => ?_) fun _ _ h' => h')
    refine wpAny_bind (wpAny_mono h₀ (fun _ s₂ h₂ => wpAny_bind (wpAny_mono h₂ (fun ok s₃ h₃ => ?_) fun _ _ h' => h')) fun _ _ h' => h')
    cases ok with
    | false => exact wpAny_pure ⟨rfl, h₃⟩
    | true =>
      exact wpAny_bind (wpAny_bind (wpAny_mono h₃ (fun x s₄ h₄ => wpAny_bind (wpAny_mono h₄ (fun _ s₅ h₅ => wpAny_pure (wpAny_pure ⟨rfl, h₅⟩)) fun _ _ h' => h')) fun _ _ h' => h'))
end
/-- off the three -/
def Off (I C D : Addr) (l : Led) : Prop := ∀ p ∈ l, p.1 ≠ I ∧ p.1 ≠ C ∧ p.1 ≠ D
/-- a turn's end -/
inductive CEnd (h₀ : Heap) (L : Addr) (m : Str → Option Value) (s : Shared) (I : Addr) (oI : Obj) (C : Addr) (oC : Obj) (D : Addr) (oD : Obj) (R : Led) (J : Led → Prop) (s' : Shared) : Prop
  | mk (h' : Heap) (tk : Nat) (K' all : Led) (_ : s' = { s with heap := h', toks := tk }) (_ : Fr h₀ L h' m) (_ : News h₀ L h' all) (_ : ∀ p ∈ (I, oI) :: (C, oC) :: (D, oD) :: (K' ++ R), p ∈ all) (_ : Off I C D K') (_ : J K') : CEnd h₀ L m s I oI C oC D oD R J s'
theorem CEnd.intro {h₀ : Heap} {L : Addr} {m : Str → Option Value} {s : Shared} {I : Addr} {oI : Obj} {C : Addr} {oC : Obj} {D : Addr} {oD : Obj} {R : Led} {J : Led → Prop} {h' : Heap} {tk : Nat} {all : Led} (K' : Led)
    (F : Fr h₀ L h' m) (N : News h₀ L h' all) (sub : ∀ p ∈ (I, oI) :: (C, oC) :: (D, oD) :: (K' ++ R), p ∈ all) (off : Off I C D K') (j : J K') : CEnd h₀ L m s I oI C oC D oD R J { s with heap := h', toks := tk } := ⟨h', tk, K', all, rfl, F, N, sub, off, j⟩
theorem cs_sub {a b c d : Addr × Obj} {K R : Led} : ∀ p ∈ a :: b :: c :: ((d :: K) ++ R), p ∈ d :: a :: b :: c :: (K ++ R) := by
  intro p hp
  simp only [List.mem_cons, List.mem_append, List.cons_append] at hp ⊢
  rcases hp with h | h | h | h | h | h
  · exact .inr (.inl h)
  · exact .inr (.inr (.inl h))
  · exact .inr (.inr (.inr (.inl h)))
  · exact .inl h
  · exact .inr (.inr (.inr (.inr (.inl h))))
  · exact .inr (.inr (.inr (.inr (.inr h))))
theorem Off.left {I C D : Addr} {K R : Led} (h : Off I C D (K ++ R)) : Off I C D K := fun p hp => h p (List.mem_append_left _ hp)
theorem Off.cons {I C D : Addr} {K : Led} {x : Addr} {o : Obj} (h : Off I C D K) (h1 : x ≠ I) (h2 : x ≠ C) (h3 : x ≠ D) : Off I C D ((x, o) :: K) := fun p hp => by
  rcases List.mem_cons.mp hp with rfl | hp
  · exact ⟨h1, h2, h3⟩
  · exact h p hp
theorem rng_true {T : Type} {p : Nat → Bool} {f : Nat → T} {i : Nat} (h : p i = true) : ((List.range (i + 1)).filter p).map f = ((List.range i).filter p).map f ++ [f i] := by
  rw [List.range_succ, List.filter_append, List.map_append]; simp [h]
theorem rng_false {T : Type} {p : Nat → Bool} {f : Nat → T} {i : Nat} (h : p i = false) : ((List.range (i + 1)).filter p).map f = ((List.range i).filter p).map f := by
  rw [List.range_succ, List.filter_append, List.map_append]; simp [h]
theorem tk_true {T U : Type} {p : T → Bool} {f : T → U} {l : List T} {x : T} {i : Nat} (e : l[i]? = some x) (h : p x = true) : ((l.take (i + 1)).filter p).map f = ((l.take i).filter p).map f ++ [f x] := by
  rw [List.take_add_one, e, List.filter_append, List.map_append]; simp [h]
theorem tk_false {T U : Type} {p : T → Bool} {f : T → U} {l : List T} {x : T} {i : Nat} (e : l[i]? = some x) (h : p x = false) : ((l.take (i + 1)).filter p).map f = ((l.take i).filter p).map f := by
  rw [List.take_add_one, e, List.filter_append, List.map_append]; simp [h]
section
variable {prog : Program} {w : World} {A : Around} {E : Value → Shared → Prop} {s : Shared} {h₀ : Heap} {L : Addr} {m : Str → Option Value} {env : Env} {elt target iter : Expr} {ifs : List Expr} {scope : Scope} {cl : List (Str × Addr)} {pos : Pos} {R : Led} {Q : Value → Shared → Prop}
def CompM (prog : Program) (w : World) (A : Around) (env : Env) (elt target iter : Expr) (ifs : List Expr) (scope : Scope) (cl : List (Str × Addr)) (pos : Pos) (Q : Value → Shared → Prop) (E : Value → Shared → Prop) (it : Value) (s₂ : Shared) : Prop :=
  wpAny (model prog w) A (newList []) (fun acc s₃ => wpAny (model prog w) A (newFunctionEnv scope env.globals cl [] env.qual none .none (some env)) (fun cenv s₄ =>
    codeAny (model prog w) A (.compStart (.ListComp elt [⟨target, iter, ifs, 0⟩] scope pos) 0 it acc { cenv with scope := relabel scope env }) (compPost (model prog w) A E none Q acc cenv.locals) s₄) E s₃) E s₂
theorem ListComp_M (hclos : closureFor scope env = pure cl) (hkind : scope.kind = .function) (hnames : ∀ y ∈ scope.names, y.2 = .local → scope.names.lookup y.1 = some .local)
    (h : wpAny (model prog w) A (eval iter env) (fun xv s₁ => wpAny (model prog w) A (pyIter xv) (fun it s₂ => CompM prog w A env elt target iter ifs scope cl pos Q E it s₂) E s₁) E s)
    (hs : ∀ x, foldedSetIterable iter env x = pure x := by intro _; rfl) :
    wpAny (model prog w) A (eval (.ListComp elt [⟨target, iter, ifs, 0⟩] scope pos) env) Q E s := by
  rw [eval_ListComp]
  exact wpAny_comprehension_free (use := none) rfl hs hclos hkind hnames (wpAny_mono h (fun xv s₁ h₁ => wpAny_mono h₁ (fun it s₂ h₂ => h₂) fun _ _ e => e) fun _ _ e => e)
theorem comp_core {I : Addr} {fp : List Addr} {n : Nat} {P : Nat → Value → Prop} {St : Nat → Heap → Prop} (AM : Nat → Value → (Str → Option Value) → Prop) (Inv : Nat → List Value → Led → Prop)
    (W : Walks prog w A I fp [I] n P St) (hsz : n ≤ sizeLine) (hIf : I ∈ fp) (hfp : ∀ b ∈ fp, b = I ∨ (∃ o, h₀.get? b = some o) ∨ ∃ o, (b, o) ∈ R) (live : ∀ i h, St i h → ∃ o, h.get? I = some o)
    (hcell : ∀ y ∈ scope.names, y.2 ≠ .cell) (hkind : scope.kind = .function) (hst : St 0 s.heap) (F : Fr h₀ L s.heap m) (N : News h₀ L s.heap R) (hIL : L ≠ I) (hI₀ : h₀.get? I = none) (hIn : I < s.heap.objs.size) (offI : ∀ p ∈ R, p.1 ≠ I)
    (hgo : ∀ i (s' : Shared) v (Q' : Unit → Shared → Prop) E', P i v → St (i + 1) s'.heap → Q' () s' → wpAny (model prog w) A (letOwnedTupleGo target (.ref I) v) Q' E' s')
    (hasg : ∀ C i v (s' : Shared) m' (Q' : Unit → Shared → Prop) E', P i v → s'.heap.Ns C m' → (∀ p ∈ R, s'.heap.get? p.1 = some p.2) →
      (∀ h' tk m'', AM i v m'' → h'.Ns C m'' → (∀ c o, c ≠ C → s'.heap.get? c = some o → h'.get? c = some o) → Q' () { s' with heap := h', toks := tk }) → wpAny (model prog w) A (assign target (compEnvC scope cl C env) v) Q' E' s')
    (h0 : Inv 0 [] [])
    (turn : ∀ i v oI C oC D ys K m₂ h tk E', i < n → P i v → Inv i ys K → AM i v m₂ → NsObj oC m₂ → Fr h₀ L h m → News h₀ L h ((I, oI) :: (C, oC) :: (D, lst ys) :: (K ++ R)) → Off I C D (K ++ R) → (@Ne Nat I C ∧ @Ne Nat I D ∧ @Ne Nat C D) →
      wpAny (model prog w) A (forIn ifs true fun c r => if r = true then do let ok ← isTrue c (compEnvC scope cl C env) (eval c (compEnvC scope cl C env)); pure (ForInStep.yield ok) else pure (ForInStep.yield r)) (fun ok s₃ =>
        if ok = true then wpAny (model prog w) A (eval elt (compEnvC scope cl C env)) (fun y s₄ => CEnd h₀ L m { s with heap := h, toks := tk } I oI C oC D (lst ys) R (Inv (i + 1) (ys ++ [y])) s₄) E' s₃
        else CEnd h₀ L m { s with heap := h, toks := tk } I oI C oC D (lst ys) R (Inv (i + 1) ys) s₃) E' { s with heap := h, toks := tk })
    (done : ∀ D ys K h tk, Inv n ys K → Fr h₀ L h m → News h₀ L h ((D, lst ys) :: (K ++ R)) → (∀ p ∈ K ++ R, p.1 ≠ D) → (∀ p ∈ R, @LT.lt Nat instLTNat p.1 D) → Q (.ref D) { s with heap := h, toks := tk }) :
    CompM prog w A env elt target iter ifs scope cl pos Q E (.ref I) s := by
  unfold CompM
  refine wpAny_newObj_type (wpAny_newFunctionEnv hcell (by intro y hy; simp at hy) (fun h₁ hns₁ hsb₁ => ?_) hkind)
  dsimp only at hns₁ hsb₁ ⊢
  generalize hH2 : s.heap.push { cls := .type "list", dict := none, data := .seq ([] : List Value).toArray } = H2 at hns₁ hsb₁ ⊢
  have hC : H2.objs.size = s.heap.objs.size + 1 := by rw [← hH2, Heap.size_push]
  have hDC : s.heap.objs.size ≠ H2.objs.size := by rw [hC]; exact Nat.ne_of_lt (Nat.lt_succ_self _)
  have below : ∀ b, b < s.heap.objs.size → b ≠ H2.objs.size ∧ b ≠ s.heap.objs.size := fun b hb => ⟨by rw [hC]; exact Nat.ne_of_lt (Nat.lt_succ_of_lt hb), Nat.ne_of_lt hb⟩
  have old : ∀ b o, s.heap.get? b = some o → h₁.get? b = some o := fun b o e => hsb₁.extBut b o (below b (Heap.lt_size e)).1 (Heap.get?_push_of_some _ (hH2 ▸ Heap.get?_push_of_some _ e))
  have hacc : h₁.get? s.heap.objs.size = some (lst []) := hsb₁.extBut _ _ hDC (Heap.get?_push_of_some _ (hH2 ▸ Heap.get?_push_size _ rfl))
  have hst₁ : St 0 h₁ := W.frame _ _ _ hst fun b _ o e => old b o e
  have fresh₀ : ∀ a, s.heap.objs.size ≤ a → h₀.get? a = none := fun a ha => by
    cases e : h₀.get? a with
    | none => rfl
    | some o' => exact absurd (Heap.lt_size (F.keep a o' e)) (Nat.not_lt.mpr ha)
  have hD₀ : h₀.get? s.heap.objs.size = none := fresh₀ _ (Nat.le_refl _)
  have hC₀ : h₀.get? H2.objs.size = none := fresh₀ _ (by rw [hC]; exact Nat.le_succ _)
  have hLlt : L < s.heap.objs.size := F.ns.lt
  have hDL : s.heap.objs.size ≠ L := Ne.symm (below L hLlt).2
  have hCL : H2.objs.size ≠ L := Ne.symm (below L hLlt).1
  have hCI : I ≠ H2.objs.size := (below I hIn).1
  have hDI : I ≠ s.heap.objs.size := (below I hIn).2
  have offR : Off I H2.objs.size s.heap.objs.size R := fun p hp => ⟨offI p hp, (below _ (Heap.lt_size (N p hp).1)).1, (below _ (Heap.lt_size (N p hp).1)).2⟩
  have loop : ∀ s₃ : Shared, s₃ = { s with heap := h₁, toks := s.toks + ([] : List (Str × Value)).length } →
      codeAny (model prog w) A (.compLoop (.ListComp elt [⟨target, iter, ifs, 0⟩] scope pos) 0 (.ref I) (.ref s.heap.objs.size) (compEnvC scope cl H2.objs.size env))
        (compPost (model prog w) A E none Q (.ref s.heap.objs.size) H2.objs.size) s₃ := by
    rintro s₃ rfl
    refine comp_loop
      (fun k s' => ∃ h' tk i ys m' K, s' = { s with heap := h', toks := tk } ∧ i ≤ n ∧ k = n + 1 - i ∧ ys.length ≤ i ∧ St i h' ∧ Fr h₀ L h' m ∧ h'.Ns H2.objs.size m' ∧ News h₀ L h' ((s.heap.objs.size, lst ys) :: (K ++ R)) ∧
        Off I H2.objs.size s.heap.objs.size K ∧ Inv i ys K) ?_ (n + 1)
      ⟨h₁, _, 0, [], _, [], rfl, Nat.zero_le _, rfl, Nat.le_refl _, hst₁, F.keeps old, hns₁, fun p hp => ?_, (fun _ h => nomatch h), h0⟩
    · intro k s' hr92
      refine genC ?_
      intro C9 kC9
      obtain ⟨h', tk, i, ys, m', K, rfl, hi, rfl, hyl, hst', F', hn', N', off', hJ⟩ := hr92
      refine kC9 ?_
      clear kC9 C9
      have offKR : Off I H2.objs.size s.heap.objs.size (K ++ R) := fun p hp => (List.mem_append.mp hp).elim (off' p) (offR p)
      by_cases hlt : i < n
      · refine W.item i _ _ _ hlt hst' fun v h₂ tk₂ hPv hst₂ hk₂ => ?_
        have hn₂ : h₂.Ns H2.objs.size m' := hn'.at' fun o e => hk₂ _ o (by simpa using Ne.symm hCI) e
        have F₂ : Fr h₀ L h₂ m := fr_but F' hk₂ hIL hI₀
        have N₂ : News h₀ L h₂ ((s.heap.objs.size, lst ys) :: (K ++ R)) := news_but N' hk₂ fun p hp => by
          rcases List.mem_cons.mp hp with rfl | hp
          · exact Ne.symm hDI
          · exact (offKR p hp).1
        refine hgo i _ v _ _ hPv hst₂ ?_
        refine hasg H2.objs.size i v _ m' _ _ hPv hn₂ (fun p hp => (N₂ p (List.mem_cons_of_mem _ (List.mem_append_right _ hp))).1) fun h₃ tk₃ m₃ hA₃ hn₃ hk₃ => ?_
        have hst₃ : St (i + 1) h₃ := W.frame _ _ _ hst₂ fun b hb o e => hk₃ b o (by
          rintro rfl
          rcases hfp _ hb with q | ⟨o', q⟩ | ⟨o', q⟩
          · exact hCI q.symm
          · rw [hC₀] at q; cases q
          · exact (offR _ q).2.1 rfl) e
        refine genC ?_
        intro C9 kC9
        obtain ⟨oI, heI⟩ := live _ _ hst₃
        obtain ⟨oC, heC, hoC⟩ := ns_obj hn₃
        refine kC9 ?_
        clear kC9 C9
        have F₃ : Fr h₀ L h₃ m := ⟨F₂.ns.at' fun o e => hk₃ L o (Ne.symm hCL) e, fun b o e => hk₃ b o (by rintro rfl; rw [hC₀] at e; cases e) (F₂.keep b o e), F₂.above⟩
        have N₃ : News h₀ L h₃ ((I, oI) :: (H2.objs.size, oC) :: (s.heap.objs.size, lst ys) :: (K ++ R)) := fun p hp => by
          rcases List.mem_cons.mp hp with rfl | hp
          · exact ⟨heI, Ne.symm hIL, hI₀⟩
          · rcases List.mem_cons.mp hp with rfl | hp
            · exact ⟨heC, hCL, hC₀⟩
            · have z := N₂ p hp
              refine ⟨hk₃ _ _ ?_ z.1, z.2⟩
              rcases List.mem_cons.mp hp with rfl | hp
              · exact hDC
              · exact (offKR p hp).2.1
        refine wpAny_mono (turn i v oI H2.objs.size oC s.heap.objs.size ys K m₃ h₃ tk₃ _ hlt hPv hJ hA₃ hoC F₃ N₃ offKR ⟨hCI, hDI, Ne.symm hDC⟩) (fun ok s₄ h₄ => ?_) fun _ _ e => e
        have st4 : ∀ h₄ all K', News h₀ L h₄ all → Fr h₀ L h₄ m → (∀ p ∈ (I, oI) :: (H2.objs.size, oC) :: (s.heap.objs.size, lst ys) :: (K' ++ R), p ∈ all) → St (i + 1) h₄ := fun h₄ all K' N₄ F₄ sub => by
          refine W.frame _ _ _ hst₃ fun b hb o e => ?_
          rcases hfp b hb with rfl | ⟨o₀, h1⟩ | ⟨o₁, h1⟩
          · rw [heI] at e; cases e; exact (N₄ _ (sub _ (.head _))).1
          · have : o₀ = o := by have := F₃.keep b o₀ h1; rw [e] at this; exact (Option.some.inj this).symm
            exact this ▸ F₄.keep b o₀ h1
          · have h2 := (N₃ (b, o₁) (List.mem_cons_of_mem _ (List.mem_cons_of_mem _ (List.mem_cons_of_mem _ (List.mem_append_right _ h1))))).1
            rw [e] at h2; cases h2
            exact (N₄ _ (sub _ (List.mem_cons_of_mem _ (List.mem_cons_of_mem _ (List.mem_cons_of_mem _ (List.mem_append_right _ h1)))))).1
        cases ok with
        | false =>
          refine genC ?_
          intro C9 kC9
          obtain ⟨h₄', tk₄, K', all, rfl, F₄, N₄, sub, off₄, J₄⟩ := h₄
          refine kC9 ?_
          clear kC9 C9
          refine ⟨n + 1 - (i + 1), by omega, h₄', tk₄, i + 1, ys, _, K', rfl, hlt, rfl, Nat.le_succ_of_le hyl, st4 _ _ _ N₄ F₄ sub, F₄, hoC.ns (N₄ _ (sub _ (List.mem_cons_of_mem _ (.head _)))).1, fun p hp => N₄ p (sub p (List.mem_cons_of_mem _ (List.mem_cons_of_mem _ hp))), off₄, J₄⟩
        | true =>
          refine wpAny_mono h₄ (fun y s₅ h₅ => ?_) fun _ _ e => e
          refine genC ?_
          intro C9 kC9
          obtain ⟨h₄', tk₄, K', all, rfl, F₄, N₄, sub, off₄, J₄⟩ := h₅
          refine kC9 ?_
          clear kC9 C9
          have zC := (N₄ _ (sub _ (List.mem_cons_of_mem _ (.head _)))).1
          have zD := (N₄ _ (sub _ (List.mem_cons_of_mem _ (List.mem_cons_of_mem _ (.head _))))).1
          have N₄' : News h₀ L h₄' (K' ++ R) := fun p hp => N₄ p (sub p (List.mem_cons_of_mem _ (List.mem_cons_of_mem _ (List.mem_cons_of_mem _ hp))))
          have off₄' : Off I H2.objs.size s.heap.objs.size (K' ++ R) := fun p hp => (List.mem_append.mp hp).elim (off₄ p) (offR p)
          refine append_at (hsz := by show ys.toArray.size ≤ sizeLine; rw [List.size_toArray]; exact Nat.le_trans hyl (Nat.le_trans hi hsz)) zD fun h₅ hs₅ hD₅ => ?_
          refine ⟨n + 1 - (i + 1), by omega, h₅, tk₄, i + 1, ys ++ [y], _, K', rfl, hlt, rfl, by rw [List.length_append, List.length_singleton]; omega, W.frame _ _ _ (st4 _ _ _ N₄ F₄ sub) fun b hb o e => hs₅.extBut b o (by
              rintro rfl
              rcases hfp _ hb with q | ⟨o', q⟩ | ⟨o', q⟩
              · exact hDI q.symm
              · rw [hD₀] at q; cases q
              · exact (offR _ q).2.2 rfl) e, F₄.change hs₅ hDL hD₀,
            (hoC.ns zC).sameBut hs₅ (Ne.symm hDC), fun p hp => ?_, off₄, J₄⟩
          rcases List.mem_cons.mp hp with rfl | hp
          · exact ⟨hD₅.trans (congrArg some (lst_snoc ys y)), hDL, hD₀⟩
          · exact ⟨hs₅.extBut _ _ (off₄' p hp).2.2 (N₄' p hp).1, (N₄' p hp).2⟩
      · obtain rfl : i = n := Nat.le_antisymm hi (Nat.not_lt.mp hlt)
        refine W.done _ _ _ hst' fun h₂ tk₂ hk₂ => ?_
        have N₂ : News h₀ L h₂ ((s.heap.objs.size, lst ys) :: (K ++ R)) := news_but N' hk₂ fun p hp => by
          rcases List.mem_cons.mp hp with rfl | hp
          · exact Ne.symm hDI
          · exact (offKR p hp).1
        refine ⟨m', hn'.at' fun o e => hk₂ _ o (by simpa using Ne.symm hCI) e, fun h'' hs'' => ?_⟩
        refine done _ ys K h'' tk₂ hJ ((fr_but F' hk₂ hIL hI₀).change hs'' hCL hC₀) (fun p hp => ?_) (fun p hp => (offKR p hp).2.2) (fun p hp => Heap.lt_size (N p hp).1)
        refine ⟨hs''.extBut _ _ ?_ (N₂ p hp).1, (N₂ p hp).2⟩
        rcases List.mem_cons.mp hp with rfl | hp
        · exact hDC
        · exact (offKR p hp).2.1
    · rcases List.mem_cons.mp hp with rfl | hp
      · exact ⟨hacc, hDL, hD₀⟩
      · exact ⟨old _ _ (N p hp).1, (N p hp).2⟩
  exact codeAny_compStart_list (loop _ rfl) (W.self 0 _ _ _ hst₁ (loop _ rfl))
theorem comp_iter {itO : Obj} {v₀ : Value} {fp : List Addr} {n : Nat} {P : Nat → Value → Prop} {St : Nat → Heap → Prop} (AM : Nat → Value → (Str → Option Value) → Prop) (Inv : Nat → List Value → Led → Prop)
    (hit : ∀ Q' : Value → Shared → Prop, Q' (.ref s.heap.objs.size) { s with heap := s.heap.push itO } → wpAny (model prog w) A (pyIter v₀) Q' E s)
    (W : Walks prog w A s.heap.objs.size fp [s.heap.objs.size] n P St) (hsz : n ≤ sizeLine) (hIf : s.heap.objs.size ∈ fp) (hfp : ∀ b ∈ fp, b = s.heap.objs.size ∨ (∃ o, h₀.get? b = some o) ∨ ∃ o, (b, o) ∈ R) (live : ∀ i h, St i h → ∃ o, h.get? s.heap.objs.size = some o)
    (hcell : ∀ y ∈ scope.names, y.2 ≠ .cell) (hkind : scope.kind = .function) (hst : St 0 (s.heap.push itO)) (F : Fr h₀ L s.heap m) (N : News h₀ L s.heap R)
    (hgo : ∀ i (s' : Shared) v (Q' : Unit → Shared → Prop) E', P i v → St (i + 1) s'.heap → Q' () s' → wpAny (model prog w) A (letOwnedTupleGo target (.ref s.heap.objs.size) v) Q' E' s')
    (hasg : ∀ C i v (s' : Shared) m' (Q' : Unit → Shared → Prop) E', P i v → s'.heap.Ns C m' → (∀ p ∈ R, s'.heap.get? p.1 = some p.2) →
      (∀ h' tk m'', AM i v m'' → h'.Ns C m'' → (∀ c o, c ≠ C → s'.heap.get? c = some o → h'.get? c = some o) → Q' () { s' with heap := h', toks := tk }) → wpAny (model prog w) A (assign target (compEnvC scope cl C env) v) Q' E' s')
    (h0 : Inv 0 [] [])
    (turn : ∀ i v I oI C oC D ys K m₂ h tk E', i < n → P i v → Inv i ys K → AM i v m₂ → NsObj oC m₂ → Fr h₀ L h m → News h₀ L h ((I, oI) :: (C, oC) :: (D, lst ys) :: (K ++ R)) → Off I C D (K ++ R) → (@Ne Nat I C ∧ @Ne Nat I D ∧ @Ne Nat C D) →
      wpAny (model prog w) A (forIn ifs true fun c r => if r = true then do let ok ← isTrue c (compEnvC scope cl C env) (eval c (compEnvC scope cl C env)); pure (ForInStep.yield ok) else pure (ForInStep.yield r)) (fun ok s₃ =>
        if ok = true then wpAny (model prog w) A (eval elt (compEnvC scope cl C env)) (fun y s₄ => CEnd h₀ L m { s with heap := h, toks := tk } I oI C oC D (lst ys) R (Inv (i + 1) (ys ++ [y])) s₄) E' s₃
        else CEnd h₀ L m { s with heap := h, toks := tk } I oI C oC D (lst ys) R (Inv (i + 1) ys) s₃) E' { s with heap := h, toks := tk })
    (done : ∀ D ys K h tk, Inv n ys K → Fr h₀ L h m → News h₀ L h ((D, lst ys) :: (K ++ R)) → (∀ p ∈ K ++ R, p.1 ≠ D) → (∀ p ∈ R, @LT.lt Nat instLTNat p.1 D) → Q (.ref D) { s with heap := h, toks := tk }) :
    wpAny (model prog w) A (pyIter v₀) (fun it s₂ => CompM prog w A env elt target iter ifs scope cl pos Q E it s₂) E s := by
  refine hit _ ?_
  exact comp_core (s := { s with heap := s.heap.push itO }) AM Inv W hsz hIf hfp live hcell hkind hst (F.push _) (fun p hp => ⟨Heap.get?_push_of_some _ (N p hp).1, (N p hp).2⟩) (Nat.ne_of_lt F.ns.lt) (next_is_new F)
    (by show s.heap.objs.size < (s.heap.push itO).objs.size; rw [Heap.size_push]; exact Nat.lt_succ_self _) (fun p hp => Nat.ne_of_lt (Heap.lt_size (N p hp).1)) hgo hasg h0 (fun i v oI C oC D ys K m₂ h tk E' => turn i v _ oI C oC D ys K m₂ h tk E') done
theorem asg_name {x : Str} {px : Pos} (hkind : scope.kind = .function) (hx : scope.names.lookup x = some .local) {C : Addr} {v : Value} {s' : Shared} {m' : Str → Option Value} {Q' : Unit → Shared → Prop} {E' : Value → Shared → Prop} (hn : s'.heap.Ns C m')
    (h : ∀ h' tk m'', m'' x = some v → h'.Ns C m'' → (∀ c o, c ≠ C → s'.heap.get? c = some o → h'.get? c = some o) → Q' () { s' with heap := h', toks := tk }) : wpAny (model prog w) A (assign (.Name x px) (compEnvC scope cl C env) v) Q' E' s' :=
  wpAny_assign_Name (wpAny_storeName_local (env := compEnvC scope cl C env) (lookup_relabel_local hx) hn (fun h' hn' hs' => h h' _ _ (by simp) hn' fun c o hc e => hs'.extBut c o hc e) (by simp [compEnvC, relabel, hkind]))
theorem comp_range {x : Str} {px : Pos} {r : Addr} {a₀ b₀ : Int} {t₀ u₀ v₀ : Tok} {n : Nat} (Inv : Nat → List Value → Led → Prop) (hh : A.handled = none) (ht : target = .Name x px)
    (hr : IsRange s.heap r a₀ b₀ 1 t₀ u₀ v₀) (hsmall : Builtin.Range.small a₀ b₀ 1 = true) (hn : Builtin.Range.rangeSize a₀ b₀ 1 = (n : Int)) (hsz : n ≤ sizeLine)
    (hcell : ∀ y ∈ scope.names, y.2 ≠ .cell) (hkind : scope.kind = .function) (hx : scope.names.lookup x = some .local) (F : Fr h₀ L s.heap m) (N : News h₀ L s.heap R) (h0 : Inv 0 [] [])
    (turn : ∀ i v I oI C oC D ys K m₂ h tk E', i < n → (∃ t, v = .int (a₀ + i) t) → Inv i ys K → m₂ x = some v → NsObj oC m₂ → Fr h₀ L h m → News h₀ L h ((I, oI) :: (C, oC) :: (D, lst ys) :: (K ++ R)) → Off I C D (K ++ R) → (@Ne Nat I C ∧ @Ne Nat I D ∧ @Ne Nat C D) →
      wpAny (model prog w) A (forIn ifs true fun c r => if r = true then do let ok ← isTrue c (compEnvC scope cl C env) (eval c (compEnvC scope cl C env)); pure (ForInStep.yield ok) else pure (ForInStep.yield r)) (fun ok s₃ =>
        if ok = true then wpAny (model prog w) A (eval elt (compEnvC scope cl C env)) (fun y s₄ => CEnd h₀ L m { s with heap := h, toks := tk } I oI C oC D (lst ys) R (Inv (i + 1) (ys ++ [y])) s₄) E' s₃
        else CEnd h₀ L m { s with heap := h, toks := tk } I oI C oC D (lst ys) R (Inv (i + 1) ys) s₃) E' { s with heap := h, toks := tk })
    (done : ∀ D ys K h tk, Inv n ys K → Fr h₀ L h m → News h₀ L h ((D, lst ys) :: (K ++ R)) → (∀ p ∈ K ++ R, p.1 ≠ D) → (∀ p ∈ R, @LT.lt Nat instLTNat p.1 D) → Q (.ref D) { s with heap := h, toks := tk }) :
    wpAny (model prog w) A (pyIter (.ref r)) (fun it s₂ => CompM prog w A env elt target iter ifs scope cl pos Q E it s₂) E s := by
  subst ht
  refine comp_iter (fun _ v m₂ => m₂ x = some v) Inv (fun Q' q => wpAny_pyIter_range hr hsmall q) (Walks.range hh s.heap.objs.size a₀ 1 n) hsz (by simp) (fun b hb => .inl (List.mem_singleton.mp hb)) (fun i h st => ⟨_, st⟩) hcell hkind
    (by show IsRangeIter _ _ _ _ _; rw [hn]; simpa using Heap.get?_push_size _ rfl) F N (fun _ _ _ _ _ _ _ q => wpAny_pure q) (fun C i v s' m' Q' E' _ hn' _ h => asg_name hkind hx hn' h) h0 ?_ done
  intro i v I oI C oC D ys K m₂ h tk E' hi hP
  refine turn i v I oI C oC D ys K m₂ h tk E' hi ?_
  obtain ⟨t, rfl⟩ := hP
  exact ⟨t, by rw [Int.mul_one]⟩
theorem comp_list {x : Str} {px : Pos} {l : Addr} {items : Array Value} {nn : Nat} (Inv : Nat → List Value → Led → Prop) (hh : A.handled = none) (ht : target = .Name x px)
    (hl : (l, listOf items nn) ∈ R) (hsz : items.size ≤ sizeLine)
    (hcell : ∀ y ∈ scope.names, y.2 ≠ .cell) (hkind : scope.kind = .function) (hx : scope.names.lookup x = some .local) (F : Fr h₀ L s.heap m) (N : News h₀ L s.heap R) (h0 : Inv 0 [] [])
    (turn : ∀ i v I oI C oC D ys K m₂ h tk E', i < items.size → items[i]? = some v → Inv i ys K → m₂ x = some v → NsObj oC m₂ → Fr h₀ L h m → News h₀ L h ((I, oI) :: (C, oC) :: (D, lst ys) :: (K ++ R)) → Off I C D (K ++ R) → (@Ne Nat I C ∧ @Ne Nat I D ∧ @Ne Nat C D) →
      wpAny (model prog w) A (forIn ifs true fun c r => if r = true then do let ok ← isTrue c (compEnvC scope cl C env) (eval c (compEnvC scope cl C env)); pure (ForInStep.yield ok) else pure (ForInStep.yield r)) (fun ok s₃ =>
        if ok = true then wpAny (model prog w) A (eval elt (compEnvC scope cl C env)) (fun y s₄ => CEnd h₀ L m { s with heap := h, toks := tk } I oI C oC D (lst ys) R (Inv (i + 1) (ys ++ [y])) s₄) E' s₃
        else CEnd h₀ L m { s with heap := h, toks := tk } I oI C oC D (lst ys) R (Inv (i + 1) ys) s₃) E' { s with heap := h, toks := tk })
    (done : ∀ D ys K h tk, Inv items.size ys K → Fr h₀ L h m → News h₀ L h ((D, lst ys) :: (K ++ R)) → (∀ p ∈ K ++ R, p.1 ≠ D) → (∀ p ∈ R, @LT.lt Nat instLTNat p.1 D) → Q (.ref D) { s with heap := h, toks := tk }) :
    wpAny (model prog w) A (pyIter (.ref l)) (fun it s₂ => CompM prog w A env elt target iter ifs scope cl pos Q E it s₂) E s := by
  subst ht
  have hls : s.heap.IsList l items := News.isList N hl
  have hlt : l < s.heap.objs.size := Heap.lt_size (N _ hl).1
  refine comp_iter (fun _ v m₂ => m₂ x = some v) Inv (fun Q' q => wpAny_pyIter_list hls q) (Walks.list (prog := prog) (w := w) hh s.heap.objs.size l (Nat.ne_of_lt hlt) items) hsz (by simp) ?_ (fun i h st => let ⟨o, ho, _⟩ := st.1; ⟨o, ho⟩) hcell hkind
    ⟨⟨_, Heap.get?_push_size _ rfl, rfl, rfl⟩, hls.at fun o e => Heap.get?_push_of_some _ e⟩ F N (fun _ _ _ _ _ _ _ q => wpAny_pure q) (fun C i v s' m' Q' E' _ hn' _ h => asg_name hkind hx hn' h) h0 turn done
  intro b hb
  rcases List.mem_cons.mp hb with e | hb
  · exact .inl e
  · rw [List.mem_singleton.mp hb]; exact .inr (.inr ⟨_, hl⟩)
/-- a list of pairs of ints -/
def PairsAt (S : Addr) (st : List (Int × Int)) (news : Led) : Prop :=
  ∃ (vs : List Value) (n : Nat), (S, listOf vs.toArray n) ∈ news ∧ vs.length = st.length ∧ ∀ (i : Nat) (a b : Int), st[i]? = some (a, b) → ∃ T ta tb n', vs[i]? = some (.ref T) ∧ (T, tupObj #[.int a ta, .int b tb] n') ∈ news
theorem PairsAt.mono {S : Addr} {st : List (Int × Int)} {news news' : Led} (h : PairsAt S st news) (k : ∀ p ∈ news, p ∈ news') : PairsAt S st news' := by
  obtain ⟨vs, n, h1, h2, h3⟩ := h
  exact ⟨vs, n, k _ h1, h2, fun i a b e => let ⟨T, ta, tb, n', q1, q2⟩ := h3 i a b e; ⟨T, ta, tb, n', q1, k _ q2⟩⟩
theorem comp_pairs {xa xb : Str} {pa pb tp : Pos} {kk : Nat} {l : Addr} {st : List (Int × Int)} (Inv : Nat → List Value → Led → Prop) (hh : A.handled = none) (ht : target = .Tuple [.Name xa pa, .Name xb pb] kk tp)
    (hl : PairsAt l st R) (hsz : st.length ≤ sizeLine) (hab : xa ≠ xb)
    (hcell : ∀ y ∈ scope.names, y.2 ≠ .cell) (hkind : scope.kind = .function) (hxa : scope.names.lookup xa = some .local) (hxb : scope.names.lookup xb = some .local) (F : Fr h₀ L s.heap m) (N : News h₀ L s.heap R) (h0 : Inv 0 [] [])
    (turn : ∀ i a b ta tb I oI C oC D ys K m₂ h tk E', i < st.length → st[i]? = some (a, b) → Inv i ys K → m₂ xa = some (.int a ta) → m₂ xb = some (.int b tb) → NsObj oC m₂ → Fr h₀ L h m → News h₀ L h ((I, oI) :: (C, oC) :: (D, lst ys) :: (K ++ R)) → Off I C D (K ++ R) → (@Ne Nat I C ∧ @Ne Nat I D ∧ @Ne Nat C D) →
      wpAny (model prog w) A (forIn ifs true fun c r => if r = true then do let ok ← isTrue c (compEnvC scope cl C env) (eval c (compEnvC scope cl C env)); pure (ForInStep.yield ok) else pure (ForInStep.yield r)) (fun ok s₃ =>
        if ok = true then wpAny (model prog w) A (eval elt (compEnvC scope cl C env)) (fun y s₄ => CEnd h₀ L m { s with heap := h, toks := tk } I oI C oC D (lst ys) R (Inv (i + 1) (ys ++ [y])) s₄) E' s₃
        else CEnd h₀ L m { s with heap := h, toks := tk } I oI C oC D (lst ys) R (Inv (i + 1) ys) s₃) E' { s with heap := h, toks := tk })
    (done : ∀ D ys K h tk, Inv st.length ys K → Fr h₀ L h m → News h₀ L h ((D, lst ys) :: (K ++ R)) → (∀ p ∈ K ++ R, p.1 ≠ D) → (∀ p ∈ R, @LT.lt Nat instLTNat p.1 D) → Q (.ref D) { s with heap := h, toks := tk }) :
    wpAny (model prog w) A (pyIter (.ref l)) (fun it s₂ => CompM prog w A env elt target iter ifs scope cl pos Q E it s₂) E s := by
  subst ht
  refine genC ?_
  intro C9 kC9
  obtain ⟨vs, nn, hl1, hl2, hl3⟩ := hl
  refine kC9 ?_
  clear kC9 C9
  have hls : s.heap.IsList l vs.toArray := News.isList N hl1
  have hlt : l < s.heap.objs.size := Heap.lt_size (N _ hl1).1
  have hsz' : vs.toArray.size = st.length := by rw [List.size_toArray, hl2]
  have W := Walks.list (prog := prog) (w := w) hh s.heap.objs.size l (Nat.ne_of_lt hlt) vs.toArray
  rw [hsz'] at W
  have at3 : ∀ (i : Nat) v, vs.toArray[i]? = some v → ∃ a b T ta tb n', st[i]? = some (a, b) ∧ v = .ref T ∧ (T, tupObj #[.int a ta, .int b tb] n') ∈ R := fun i v hv => by
    have hi : i < vs.length := by simp at hv; exact (List.getElem?_eq_some_iff.mp hv).1
    obtain ⟨⟨a, b⟩, hst⟩ : ∃ p, st[i]? = some p := ⟨st[i]'(by rw [← hl2]; exact hi), by simp [hl2 ▸ hi]⟩
    refine genC ?_
    intro C9 kC9
    obtain ⟨T, ta, tb, n', q1, q2⟩ := hl3 i a b hst
    refine kC9 ?_
    clear kC9 C9
    simp at hv
    rw [q1] at hv
    exact ⟨a, b, T, ta, tb, n', hst, (Option.some.inj hv).symm, q2⟩
  refine comp_iter (fun i v m₂ => ∃ a b ta tb, st[i]? = some (a, b) ∧ m₂ xa = some (.int a ta) ∧ m₂ xb = some (.int b tb)) Inv (fun Q' q => wpAny_pyIter_list hls q) W hsz (by simp) ?_ (fun i h st => let ⟨o, ho, _⟩ := st.1; ⟨o, ho⟩) hcell hkind
    ⟨⟨_, Heap.get?_push_size _ rfl, rfl, rfl⟩, hls.at fun o e => Heap.get?_push_of_some _ e⟩ F N ?_ ?_ h0 ?_ done
  · intro b hb
    rcases List.mem_cons.mp hb with e | hb
    · exact .inl e
    · rw [List.mem_singleton.mp hb]; exact .inr (.inr ⟨_, hl1⟩)
  · intro i s' v Q' E' hv hs q
    refine genC ?_
    intro C9 kC9
    obtain ⟨a, b, T, ta, tb, n', _, rfl, _⟩ := at3 i v hv
    refine kC9 ?_
    clear kC9 C9
    exact wpAny_letOwnedTupleGo_listiter hs.1 q
  · intro C i v s' m' Q' E' hv hn' hR h
    refine genC ?_
    intro C9 kC9
    obtain ⟨a, b, T, ta, tb, n', e1, rfl, e3⟩ := at3 i v hv
    refine kC9 ?_
    clear kC9 C9
    refine kcp_assign hh ⟨_, hR _ e3, rfl, _, rfl⟩ (env := compEnvC scope cl C env) (lookup_relabel_local hxa) (lookup_relabel_local hxb) (by simp [compEnvC, relabel, hkind]) hn' fun h' tk hn'' hk => ?_
    exact h h' tk _ ⟨a, b, ta, tb, e1, by simp [hab], by simp⟩ hn'' hk
  · intro i v I oI C oC D ys K m₂ h tk E' hi _ hI hr916
    refine genC ?_
    intro C9 kC9
    obtain ⟨a, b, ta, tb, e1, e2, e3⟩ := hr916
    refine kC9 ?_
    clear kC9 C9
    exact turn i a b ta tb I oI C oC D ys K m₂ h tk E' hi e1 hI e2 e3
end
end
section
def rowStr (ds : List Nat) : Str := ⟨(ds.map fun d => 48 + d).toArray⟩
def digit (ds : List Nat) (k : Int) : Int := ((ds[k.toNat]?).getD 0 : Nat)
theorem digit_nn (ds : List Nat) (k : Int) : 0 ≤ digit ds k := Int.natCast_nonneg _
theorem digit_le {ds : List Nat} (hd : ∀ d ∈ ds, d ≤ 4) (k : Int) : digit ds k ≤ 4 := by
  unfold digit
  cases h : ds[k.toNat]? with
  | none => simp
  | some d => simp; have := hd d (List.mem_of_getElem? h); omega
section
variable {prog : Program} {w : World} {A : Around} {E : Value → Shared → Prop} {s : Shared} {h₀ : Heap} {L : Addr} {m : Str → Option Value} {news : Led} {Q : Value → Shared → Prop} {ds : List Nat} {t u : Tok} {k : Int}
theorem row_length (ds : List Nat) : (rowStr ds).length = ds.length := by simp [rowStr, Str.length]
theorem row_len (hlen : ds.length ≤ 11) (h : ∀ t' tk, Q (.int ds.length t') { s with toks := tk }) : wpAny (model prog w) A (call (.builtin "len") [.str (rowStr ds) t]) Q E s :=
  P.len_str (by rw [row_length]; omega) (by rw [row_length]; exact h _ _)
theorem row_item {value slice : Expr} (h0 : 0 ≤ k) (h1 : k < ds.length) (hlen : ds.length ≤ 11) (h : ∀ t' tk, Q (.str ⟨#[48 + (digit ds k).toNat]⟩ t') { s with toks := tk })
    (hs : subscripted slice false (.str (rowStr ds) t) (.int k u) = operate [.str (rowStr ds) t, .int k u] (getItem (.str (rowStr ds) t) (.int k u)) := by with_unfolding_all rfl) (hg : ∀ r, letTemporaryGo value (.str (rowStr ds) t) r = pure () := by intro _; with_unfolding_all rfl) :
    wpAny (model prog w) A (subscriptTail value slice (.str (rowStr ds) t) (.int k u)) Q E s := by
  refine subscriptTail_builtin (typeIs_str s _ t) F.slot_str_getitem.lookup (P.getItem_str (c := 48 + (digit ds k).toNat) ?_ ?_ (h _ _)) hs hg
  · simp; omega
  · have hlt : k.toNat < ds.length := by omega
    have e : ds[k.toNat]? = some ds[k.toNat] := by simp [hlt]
    have e1 : seqIndex? k (rowStr ds).length = some k.toNat := by
      rw [row_length]
      unfold seqIndex?
      have h2 : ¬ k < 0 := by omega
      simp only [if_neg h2]
      have h3 : (decide (0 ≤ k) && decide (k < (ds.length : Int))) = true := by simp [h0, h1]
      rw [if_pos h3]
    rw [e1]
    simp [rowStr, digit, e]
theorem digit_text {d : Nat} (hd : d ≤ 4) : PySem.intText? ⟨#[48 + d]⟩ = some (d : Int) := by
  have : d = 0 ∨ d = 1 ∨ d = 2 ∨ d = 3 ∨ d = 4 := by omega
  rcases this with rfl | rfl | rfl | rfl | rfl <;> decide +kernel
theorem int_digit (hd : ∀ d ∈ ds, d ≤ 4) (h : ∀ t' tk, Q (.int (digit ds k) t') { s with toks := tk }) : wpAny (model prog w) A (call (.type "int") [.str ⟨#[48 + (digit ds k).toNat]⟩ t]) Q E s := by
  have h1 := digit_nn ds k
  have h2 := digit_le hd k
  refine KIN.call_text (n := digit ds k) ?_ (by show 1 ≤ 640; omega) (h _ _)
  have := digit_text (d := (digit ds k).toNat) (by omega)
  rw [this, Int.toNat_of_nonneg h1]
theorem row_at (h0 : 0 ≤ k) (h1 : k < ds.length) : Txt.item (rowStr ds) k = ⟨#[48 + (digit ds k).toNat]⟩ := by
  have hlt : k.toNat < ds.length := by omega
  have e : ds[k.toNat]? = some ds[k.toNat] := by simp [hlt]
  have h2 : ¬ k < 0 := by omega
  have e1 : seqIndex? k (rowStr ds).length = some k.toNat := by
    rw [row_length]
    unfold seqIndex?
    simp only [if_neg h2]
    have h3 : (decide (0 ≤ k) && decide (k < (ds.length : Int))) = true := by simp [h0, h1]
    rw [if_pos h3]
  have e2 : Txt.charAt (rowStr ds) k = some (48 + (digit ds k).toNat) := by
    unfold Txt.charAt
    rw [e1]
    simp [rowStr, digit, e]
  unfold Txt.item
  rw [e2]
  rfl
theorem int_item (hd : ∀ d ∈ ds, d ≤ 4) (h0 : 0 ≤ k) (h1 : k < ds.length) (h : ∀ t' tk, Q (.int (digit ds k) t') { s with toks := tk }) : wpAny (model prog w) A (call (.type "int") [.str (Txt.item (rowStr ds) k) t]) Q E s := by
  rw [row_at h0 h1]
  exact int_digit hd h
theorem ints_item {value slice : Expr} {l : Addr} {vs : List Value} {ms : List Int} {n : Nat} {x : Int} (N : News h₀ L s.heap news) (hm : (l, listOf vs.toArray n) ∈ news) (hi : IntsAre vs ms) (h0 : 0 ≤ k) (hb : k < 1000) (hk : ms[k.toNat]? = some x) (h : ∀ t', Q (.int x t') s)
    (hs : subscripted slice false (.ref l) (.int k u) = operate [.ref l, .int k u] (getItem (.ref l) (.int k u)) := by with_unfolding_all rfl) (hg : ∀ r, letTemporaryGo value (.ref l) r = pure () := by intro _; with_unfolding_all rfl) :
    wpAny (model prog w) A (subscriptTail value slice (.ref l) (.int k u)) Q E s := by
  have hl := News.isList N hm
  obtain ⟨t', e⟩ := hi.get k.toNat x hk
  exact subscriptTail_builtin hl.typeIs slot_list_getitem.lookup (wpAny_getItem_list hl h0 (by omega) (by simpa using e) (h t')) hs hg
end
end
section
set_option maxRecDepth 100000
abbrev iterObj (l : Addr) (i : Nat) : Obj := { cls := .type "list_iterator", data := .fields #[.ref l, .int i 0] }
abbrev methNext (I : Addr) : Obj := { cls := .type "method-wrapper", data := .fields #[.builtin "list_iterator.__next__", .ref I] }
theorem tyo_next : typeOf (.builtin "list_iterator.__next__") = pure (.type "wrapper_descriptor") := by show builtinType _ = _; rw [builtinType_eq_fast]; kernel_rfl
theorem slot_li_ga : Slot "list_iterator" "__getattribute__" "object.__getattribute__" :=
  .of (owner := "object") (n := "__getattribute__") (by rw [typeLookup_type, builtinLookup_eq_fast]; kernel_rfl) (by decide +kernel) (by decide +kernel) (by decide +kernel)
    (by first | exact .inl (by decide +kernel) | exact .inr (by decide +kernel)) (by rw [isSubtype_type]; kernel_rfl)
theorem slot_wd_get : Slot "wrapper_descriptor" "__get__" "wrapper_descriptor.__get__" :=
  .of (owner := "wrapper_descriptor") (n := "__get__") (by rw [typeLookup_type, builtinLookup_eq_fast]; kernel_rfl) (by decide +kernel) (by decide +kernel) (by decide +kernel)
    (by first | exact .inl (by decide +kernel) | exact .inr (by decide +kernel)) (by rw [isSubtype_type]; kernel_rfl)
theorem entry_ga : entryFor table "object.__getattribute__" = some Builtin.«object.__getattribute__» := entryFor_of_tree (by kernel_rfl)
theorem entry_wd_get : entryFor table "wrapper_descriptor.__get__" = some Builtin.«wrapper_descriptor.__get__» := entryFor_of_tree (by kernel_rfl)
theorem args_ga (a b : Value) : argsOk "object.__getattribute__" ⟨[a, b], []⟩ := by unfold argsOk; kernel_rfl
theorem args_wd_get (a b c : Value) : argsOk "wrapper_descriptor.__get__" ⟨[a, b, c], []⟩ := by unfold argsOk; kernel_rfl
theorem lk_next : typeLookup (.type "list_iterator") "__next__" = pure (some (.builtin "list_iterator.__next__")) := by rw [typeLookup_type, builtinLookup_eq_fast]; kernel_rfl
theorem lk_wd_set : typeLookup (.type "wrapper_descriptor") "__set__" = pure none := by rw [typeLookup_type, builtinLookup_eq_fast]; kernel_rfl
theorem lk_wd_del : typeLookup (.type "wrapper_descriptor") "__delete__" = pure none := by rw [typeLookup_type, builtinLookup_eq_fast]; kernel_rfl
theorem owner_next : (".".intercalate ("list_iterator.__next__".cutAt '.').dropLast) = "list_iterator" := by
  have e0 : "list_iterator.__next__".cutAt '.' = ["list_iterator", "__next__"] := by first | rfl | decide +kernel
  rw [e0]; decide +kernel
theorem sub_li : isSubtype (.type "list_iterator") (.type "list_iterator") = pure true := by rw [isSubtype_type]; kernel_rfl
section
variable {prog : Program} {w : World} {A : Around} {E : Value → Shared → Prop} {h : Heap} {g : Array GenState} {d : Drawn} {t : Nat} {os : OsState} {a : Addr} {l : Addr} {i : Nat}
theorem next_get {R : Result → Shared → Prop} (hx : h.get? a = some (iterObj l i)) (hq : R (.ok (.ret (.ref h.objs.size))) ⟨h.push (methNext a), g, d, t, os⟩) :
    codeAny (model prog w) A (.call (.builtin "wrapper_descriptor.__get__") ⟨[.builtin "list_iterator.__next__", .ref a, .type "list_iterator"], []⟩) R ⟨h, g, d, t, os⟩ := by
  have hT : (⟨h, g, d, t, os⟩ : Shared).TypeIs (.ref a) "list_iterator" := ⟨_, hx, rfl⟩
  have hT5 : (⟨h, g, d, t, os⟩ : Shared).TypeIs (.builtin "list_iterator.__next__") "wrapper_descriptor" := tyo_next
  have f8 : isSubtype (.type "list_iterator") (.type (".".intercalate ("list_iterator.__next__".cutAt '.').dropLast)) = pure true := by rw [owner_next]; exact sub_li
  refine codeAny_call_builtin slot_wd_get.plain entry_wd_get (slot_wd_get.check _ _ _ _ _ _ _ _ hT5 (args_wd_get _ _ _) ?_)
  repeat (any_goals (first | assumption | wp_step))
theorem next_entry {tk : Tok} {Q : Fin → Shared → Prop} (hx : h.get? a = some (iterObj l i)) (hq : Q (.done (.ret (.ref h.objs.size))) ⟨h.push (methNext a), g, d, t, os⟩) :
    wpAny (model prog w) A (Builtin.«object.__getattribute__» ⟨[.ref a, .str "__next__" tk], []⟩) Q E ⟨h, g, d, t, os⟩ := by
  have hT : (⟨h, g, d, t, os⟩ : Shared).TypeIs (.ref a) "list_iterator" := ⟨_, hx, rfl⟩
  have hT5 : (⟨h, g, d, t, os⟩ : Shared).TypeIs (.builtin "list_iterator.__next__") "wrapper_descriptor" := tyo_next
  have f4 := lk_next
  have f5 := tyo_next
  have f6 := slot_wd_get.lookup
  have f7 := lk_wd_set
  have f8 := lk_wd_del
  repeat (any_goals (first | assumption | wp_step))
  refine next_get hx ?_
  repeat (any_goals (first | assumption | wp_step))
theorem next_call {tk : Tok} {R : Result → Shared → Prop} (hx : h.get? a = some (iterObj l i)) (hq : R (.ok (.ret (.ref h.objs.size))) ⟨h.push (methNext a), g, d, t, os⟩) :
    codeAny (model prog w) A (.call (.builtin "object.__getattribute__") ⟨[.ref a, .str "__next__" tk], []⟩) R ⟨h, g, d, t, os⟩ :=
  codeAny_call_builtin slot_li_ga.plain entry_ga (slot_li_ga.check _ _ _ _ _ _ _ _ (show (⟨h, g, d, t, os⟩ : Shared).TypeIs (.ref a) "list_iterator" from ⟨_, hx, rfl⟩) (args_ga _ _) (next_entry hx hq))
theorem next_by {tk : Tok} {fill expr : Bool} {Q : Value → Shared → Prop} (hx : h.get? a = some (iterObj l i)) (hq : Q (.ref h.objs.size) ⟨h.push (methNext a), g, d, t, os⟩) :
    wpAny (model prog w) A (getAttrBy (.ref a) (.str "__next__" tk) fill expr) Q E ⟨h, g, d, t, os⟩ := by
  have hT : (⟨h, g, d, t, os⟩ : Shared).TypeIs (.ref a) "list_iterator" := ⟨_, hx, rfl⟩
  have f2 := slot_li_ga.lookup
  have f3 := slot_li_ga.bind (.ref a)
  have hx0 : (expr && onTheHeap (Value.builtin "object.__getattribute__")) = false := by cases expr <;> rfl
  repeat (any_goals (first | assumption | wp_step))
  refine next_call hx ?_
  repeat (any_goals (first | assumption | wp_step))
theorem next_attr {expr : Bool} {Q : Value → Shared → Prop} (hx : h.get? a = some (iterObj l i)) (hq : Q (.ref h.objs.size) ⟨h.push (methNext a), g, d, t + 1, os⟩) :
    wpAny (model prog w) A (getAttr (.ref a) "__next__" expr) Q E ⟨h, g, d, t, os⟩ := by
  unfold getAttr
  repeat (any_goals (first | assumption | with_reducible apply next_by hx | wp_step))
theorem wrap_code {me : Addr} {R : Result → Shared → Prop} {s : Shared} (ho : s.heap.get? me = some (methNext a))
    (hq : wpAny (model prog w) A.in1 (Builtin.«list_iterator.__next__» ⟨[.ref a], []⟩) (fun f s' => match f with | .done r => R (.ok r) s' | .again c' => c'.quiet = true ∧ codeAny (model prog w) A c' R s') (fun e s' => R (.error e) s') s) :
    codeAny (model prog w) A (.call (.ref me) ⟨[], []⟩) R s := by
  refine genC ?_
  intro C9 kC9
  obtain ⟨hh, g, dr, t, os⟩ := s
  refine kC9 ?_
  clear kC9 C9
  refine codeAny_of_tree ?_
  show wpAny _ _ (callAny (.ref me) _) _ _ _
  dsimp only at ho
  refine nd_load ho ?_
  have hck : checkBoundCall "list_iterator.__next__" ⟨[.ref a], []⟩ = pure () := by
    unfold checkBoundCall
    kernel_rfl
  show wpAny _ _ (checkBoundCall "list_iterator.__next__" ⟨[.ref a], []⟩ >>= fun _ => again (Code.builtin "list_iterator.__next__" ⟨[.ref a], []⟩)) _ _ _
  rw [hck]
  refine wpAny_bind (wpAny_pure ?_)
  refine wpAny_pure ⟨plainId_quiet slot_listiter_next.plain _, codeAny_builtin entry_listiter_next ?_⟩
  rw [Around.under_plainId slot_listiter_next.plain _]
  exact hq
theorem wrap_item {me it l : Addr} {i : Nat} {items : Array Value} {x : Value} {s : Shared} {Q : Value → Shared → Prop} (ho : s.heap.get? me = some (methNext it)) (hi : s.heap.get? it = some (iterObj l i)) (hl : s.heap.IsList l items) (hx : items[i]? = some x)
    (hQ : ∀ h', h'.get? it = some (iterObj l (i + 1)) → Heap.SameBut it s.heap h' → Q x { s with heap := h' }) : wpAny (model prog w) A (call (.ref me) []) Q E s := by
  refine genC ?_
  intro C9 kC9
  obtain ⟨ol, hol, _, nl, hdl⟩ := hl
  refine kC9 ?_
  clear kC9 C9
  refine wpAny_call (wrap_code ho ?_)
  show wpAny _ _ (field (.ref it) 0 >>= _) _ _ s
  refine wpAny_bind (wpAny_field hi rfl (x := .ref l) rfl ?_)
  show wpAny _ _ (if (Value.ref l == Value.none) = true then _ else _) _ _ s
  rw [if_neg (show ¬ ((Value.ref l == Value.none) = true) from Bool.false_ne_true)]
  show wpAny _ _ (field (.ref it) 1 >>= _) _ _ s
  refine wpAny_bind (wpAny_field hi rfl (x := .int i 0) rfl ?_)
  show wpAny _ _ (seqItems? (.ref l) >>= _) _ _ s
  refine wpAny_bind (wpAny_seqItems hol hdl ?_)
  simp only [Int.toNat_natCast, hx]
  refine wpAny_bind (wpAny_setField hi rfl (by simp) (wpAny_pure (hQ _ ?_ (Heap.SameBut.update ..))))
  rw [Heap.get?_update_self _ hi (Obj.isFreed_of_fields (Obj.data_mapFields rfl _))]
  rfl
theorem wrap_end {me it l : Addr} {i : Nat} {items : Array Value} {s : Shared} {Q : Value → Shared → Prop} (hh : A.handled = none) (ho : s.heap.get? me = some (methNext it)) (hi : s.heap.get? it = some (iterObj l i)) (hl : s.heap.IsList l items) (hx : items[i]? = none)
    (hQ : ∀ h₁ h' e, Heap.SameBut it s.heap h₁ → Heap.NewExcOf h₁ h' e "StopIteration" → E (.ref e) { s with heap := h' }) : wpAny (model prog w) A (call (.ref me) []) Q E s := by
  refine genC ?_
  intro C9 kC9
  obtain ⟨ol, hol, _, nl, hdl⟩ := hl
  refine kC9 ?_
  clear kC9 C9
  refine wpAny_call (wrap_code ho ?_)
  show wpAny _ _ (field (.ref it) 0 >>= _) _ _ s
  refine wpAny_bind (wpAny_field hi rfl (x := .ref l) rfl ?_)
  show wpAny _ _ (if (Value.ref l == Value.none) = true then _ else _) _ _ s
  rw [if_neg (show ¬ ((Value.ref l == Value.none) = true) from Bool.false_ne_true)]
  show wpAny _ _ (field (.ref it) 1 >>= _) _ _ s
  refine wpAny_bind (wpAny_field hi rfl (x := .int i 0) rfl ?_)
  show wpAny _ _ (seqItems? (.ref l) >>= _) _ _ s
  refine wpAny_bind (wpAny_seqItems hol hdl ?_)
  simp only [Int.toNat_natCast, hx]
  refine wpAny_bind (wpAny_rule (wpAny_bind (wpAny_setField hi rfl (by simp) ?_)))
  show wpAny _ _ (newExc (.type "StopIteration") [] >>= _) _ _ _
  refine wpAny_bind ?_
  simp only [newExc, newTuple]
  refine wpAny_bind (wpAny_newObj_type ?_ (by size_fits))
  refine wpAny_bind (m := firstArgMember _ _) (wpAny_of_eq (a := Value.none) (by first | rfl | (simp only [firstArgMember]; rfl)) ?_)
  refine wpAny_newObj_type ?_ (by size_fits)
  simp only [raiseNew]
  refine wpAny_bind (wpAny_handled ?_)
  rw [show A.in1.handled = none from hh]
  refine wpAny_bind (wpAny_pure (wpAny_throw ?_))
  refine hQ (s.heap.update it _) _ _ (Heap.SameBut.update ..) ⟨fun b o e => Heap.get?_push_of_some _ (Heap.get?_push_of_some _ e), ?_, ⟨_, _, Heap.get?_push_size _ rfl, rfl, rfl, rfl⟩⟩
  refine Heap.get?_none_of_le ?_
  rw [Heap.size_push]
  exact Nat.le_succ _
theorem callWith_W {me it : Addr} {s : Shared} {h₀ : Heap} {L : Addr} {news : Led} {env : Env} {pos : Pos} {Q : Value → Shared → Prop} (N : News h₀ L s.heap news) (hm : (me, methNext it) ∈ news) (h : wpAny (model prog w) A (call (.ref me) []) Q E s) :
    wpAny (model prog w) A (callWith pos (.ref me) [] (backTo pos (starEach [] env)) []) Q E s :=
  callWith_of (P := fun h => h.get? me = some (methNext it)) rfl (fun h X => ⟨.machine, .inr (.inl rfl), (Looks.ld (part := none) X).andThen .now⟩) (evalArgs_nil3 ⟨(N _ hm).1, h⟩)
theorem iter_call {l : Addr} {items : Array Value} {nn : Nat} {s : Shared} {h₀ : Heap} {L : Addr} {m : Str → Option Value} {news : Led} {Q : Value → Shared → Prop} (F : Fr h₀ L s.heap m) (N : News h₀ L s.heap news) (hp : (l, listOf items nn) ∈ news)
    (h : ∀ (I : Addr) h', Fr h₀ L h' m → News h₀ L h' ((I, iterObj l 0) :: news) → (∀ p ∈ news, @LT.lt Nat instLTNat p.1 I) → Q (.ref I) { s with heap := h' }) :
    wpAny (model prog w) A (call (.builtin "iter") [.ref l]) Q E s := by
  refine call_function_entry (by decide +kernel) (by decide +kernel) kdk_entry_iter (kdk_args_iter _) ?_
  unfold Builtin.«iter»
  refine wpAny_bind (m := someArgs "iter" 1 2 _) (wpAny_of_eq (a := [Value.ref l]) (by first | rfl | kernel_rfl!) ?_)
  show wpAny _ _ (pyIter (.ref l) >>= _) _ _ _
  refine wpAny_bind (wpAny_pyIter_list (News.isList N hp) ?_)
  exact wpAny_pure ⟨_, rfl, h _ _ (F.push _) (News.push F N _ rfl) (fun q hq => Heap.lt_size (N q hq).1)⟩
theorem next_attrN {I l : Addr} {i : Nat} {expr : Bool} {s : Shared} {h₀ : Heap} {L : Addr} {m : Str → Option Value} {news : Led} {Q : Value → Shared → Prop} (F : Fr h₀ L s.heap m) (N : News h₀ L s.heap news) (hp : (I, iterObj l i) ∈ news)
    (h : ∀ (M : Addr) h', Fr h₀ L h' m → News h₀ L h' ((M, methNext I) :: news) → (∀ p ∈ news, @LT.lt Nat instLTNat p.1 M) → Q (.ref M) { s with heap := h', toks := s.toks + 1 }) :
    wpAny (model prog w) A (getAttr (.ref I) "__next__" expr) Q E s := by
  refine genC ?_
  intro C9 kC9
  obtain ⟨hp', g, d, t, os⟩ := s
  refine kC9 ?_
  clear kC9 C9
  exact next_attr (N _ hp).1 (h _ _ (F.push _) (News.push F N _ rfl) (fun q hq => Heap.lt_size (N q hq).1))
end
end
section
open PySem PySem.W PySem.Calls PyProof.Rows PyProof.Rows.LCg Builtin Builtin.ObjectAttr
set_option maxRecDepth 100000
theorem slot_fn_sa : Slot "function" "__setattr__" "object.__setattr__" :=
  .of (owner := "object") (n := "__setattr__") (by rw [typeLookup_type, builtinLookup_eq_fast]; kernel_rfl) (by decide +kernel) (by decide +kernel) (by decide +kernel)
    (by first | exact .inl (by decide +kernel) | exact .inr (by decide +kernel)) (by rw [isSubtype_type]; kernel_rfl)
theorem fn_mro : mroOf (.type "function") = pure [.type "function", .type "object"] := by first | kernel_rfl | rfl
theorem fn_refuse (self : Value) : refuseLoop self "__setattr__" [.type "function", .type "object"] = pure () := by first | kernel_rfl | rfl
theorem fn_span : typeLookup (.type "function") "span" = pure none := by rw [typeLookup_type, builtinLookup_eq_fast]; kernel_rfl
theorem fn_search : typeLookup (.type "function") "search" = pure none := by rw [typeLookup_type, builtinLookup_eq_fast]; kernel_rfl
theorem fn_hasDict : typeHasDict (.type "function") = true := by decide +kernel
abbrev fnObj (d : Option Addr) (fd : FuncData) (sl : Array (Option Value)) : Obj := ⟨.type "function", d, .func fd, sl⟩
section
variable {prog : Program} {w : World} {A : Around} {E : Value → Shared → Prop} {s : Shared} {h₀ : Heap} {L : Addr} {m : Str → Option Value} {news : Led}
theorem fn_store {f : Addr} {fd : FuncData} {sl : Array (Option Value)} {name : Str} {tk : Tok} {v : Value} {b : Bool} {Q : Fin → Shared → Prop} (hx : s.heap.get? f = some (fnObj none fd sl))
    (h : Q (.done (.ret .none)) { s with heap := ((s.heap.push { cls := .type "dict", data := .dict #[] }).update f fun o => { o with dict := some s.heap.objs.size }).update s.heap.objs.size (Obj.putName name (PyData.keyHash w.params name) (.str name s.toks) v), toks := s.toks + 1 }) :
    wpAny (model prog w) A (storeInOwnDict (.ref f) (.type "function") (.str name tk) name v b) Q E s := by
  have hd : (s.heap.push { cls := .type "dict", data := .dict #[] }).get? s.heap.objs.size = some { cls := .type "dict", data := .dict #[] } := Heap.get?_push_size _ rfl
  have hne : s.heap.objs.size ≠ f := Nat.ne_of_gt (Heap.lt_size hx)
  have hd2 : ((s.heap.push { cls := .type "dict", data := .dict #[] }).update f fun o => { o with dict := some s.heap.objs.size }).get? s.heap.objs.size = some { cls := .type "dict", data := .dict #[] } := (Heap.get?_update_other _ _ (Ne.symm hne)).trans hd
  unfold storeInOwnDict
  refine wpAny_bind (wpAny_pure ?_)
  rw [if_neg (by decide)]
  refine wpAny_bind ?_
  show wpAny _ _ (instanceDict f true) _ _ _
  unfold instanceDict
  refine wpAny_bind (wpAny_loadPart hx ?_)
  dsimp only
  rw [fn_hasDict]
  simp only [Bool.not_true, Bool.or_self, Bool.false_eq_true, if_false]
  refine wpAny_bind (wpAny_alloc ?_)
  refine wpAny_bind (wpAny_update (Heap.get?_push_of_some _ hx) ?_)
  refine wpAny_pure ?_
  refine wpAny_bind (wpAny_pure ?_)
  have hd3 := Heap.get?_update_self (Obj.putName name (PyData.keyHash w.params name) (.str name s.toks) v) hd2 rfl
  refine wpAny_bind ?_
  unfold nsSet
  refine wpAny_bind (wpAny_bind (wpAny_askSetting (wpAny_pure (wpAny_bind (wpAny_mkText (wpAny_bind (wpAny_loadPart hd2 ?_)))))))
  dsimp only
  rw [aRefKeyMayBeTheName_at]
  simp only [List.any_toArray, Array.any_empty, List.any_nil, Bool.not_false, Bool.and_false, Bool.false_eq_true, if_false]
  refine wpAny_updatePart hd2 ?_
  refine wpAny_bind (wpAny_lookBehind hd3 (by rw [putName_dict (es := [])]; exact pastItsLine_dict (by rw [sizeLine_eq]; show 1 ≤ _; omega)) ?_)
  exact wpAny_pure h
theorem args_sa (a b c : Value) : argsOk "object.__setattr__" ⟨[a, b, c], []⟩ := PySem.F.store_object.args a b c
theorem fn_set0 {f : Addr} {fd : FuncData} {sl : Array (Option Value)} {name : Str} {v : Value} {Q : Unit → Shared → Prop} (hx : s.heap.get? f = some (fnObj none fd sl)) (hl : typeLookup (.type "function") name = pure none)
    (h : Q () { s with heap := ((s.heap.push { cls := .type "dict", data := .dict #[] }).update f fun o => { o with dict := some s.heap.objs.size }).update s.heap.objs.size (Obj.putName name (PyData.keyHash w.params name) (.str name (s.toks + 1)) v), toks := s.toks + 1 + 1 }) :
    wpAny (model prog w) A (setAttr (.ref f) name v) Q E s := by
  have hT : ({ s with toks := s.toks + 1 } : Shared).TypeIs (.ref f) "function" := ⟨_, hx, rfl⟩
  unfold setAttr
  refine wpAny_bind (wpAny_mkText ?_)
  refine wpAny_bind (wpAny_callSpecial?_slot hT slot_fn_sa (wpAny_call ?_))
  refine codeAny_call_builtin slot_fn_sa.plain PySem.F.store_object.entry (slot_fn_sa.check _ _ _ _ _ _ _ _ hT (args_sa _ _ _) ?_)
  rw [osa_eq, refuse_eq]
  refine wpAny_bind (wpAny_bind (wpAny_typeOf hT (wpAny_bind ?_)))
  rw [fn_mro]
  refine wpAny_pure ?_
  rw [fn_refuse]
  refine wpAny_pure (wpAny_bind (wpAny_typeOf hT (wpAny_bind ?_)))
  rw [hl]
  refine wpAny_pure (wpAny_bind (wpAny_pure ?_))
  exact fn_store (s := { s with toks := s.toks + 1 }) hx (wpAny_pure h)
theorem fn_set {f : Addr} {fd : FuncData} {sl : Array (Option Value)} {name : Str} {v : Value} {Q : Unit → Shared → Prop} (F : Fr h₀ L s.heap m) (N : News h₀ L s.heap news) (hm : (f, fnObj none fd sl) ∈ news) (hl : typeLookup (.type "function") name = pure none)
    (h : ∀ (d : Addr) h' t n, Fr h₀ L h' m → News h₀ L h' ((d, dictOf [⟨PyData.keyHash w.params name, .str name t, v⟩] n) :: (f, fnObj (some d) fd sl) :: offL [f] news) → (∀ p ∈ news, @LT.lt Nat instLTNat p.1 d) → Q () { s with heap := h', toks := s.toks + 1 + 1 }) :
    wpAny (model prog w) A (setAttr (.ref f) name v) Q E s := by
  have hx := (N _ hm).1
  refine fn_set0 hx hl (h s.heap.objs.size _ (s.toks + 1) (putN name [] 0) ?_ ?_ fun p hp => Heap.lt_size (N p hp).1)
  · exact ((F.push _).change (Heap.SameBut.update ..) (N _ hm).2.1 (N _ hm).2.2).change (Heap.SameBut.update ..) (Nat.ne_of_gt F.ns.lt) (next_is_new F)
  · have hne : s.heap.objs.size ≠ f := Nat.ne_of_gt (Heap.lt_size hx)
    intro p hp
    rcases List.mem_cons.mp hp with rfl | hp
    · refine ⟨?_, Nat.ne_of_gt F.ns.lt, next_is_new F⟩
      have hd : (s.heap.push { cls := .type "dict", data := .dict #[] }).get? s.heap.objs.size = some { cls := .type "dict", data := .dict #[] } := Heap.get?_push_size _ rfl
      have hd2 : ((s.heap.push { cls := .type "dict", data := .dict #[] }).update f fun o => { o with dict := some s.heap.objs.size }).get? s.heap.objs.size = some { cls := .type "dict", data := .dict #[] } := (Heap.get?_update_other _ _ (Ne.symm hne)).trans hd
      rw [Heap.get?_update_self (Obj.putName name (PyData.keyHash w.params name) (.str name (s.toks + 1)) v) hd2 rfl, putName_dict (es := [])]
      rfl
    · rcases List.mem_cons.mp hp with rfl | hp
      · refine ⟨?_, (N _ hm).2⟩
        rw [Heap.get?_update_other _ _ hne]
        exact Heap.get?_update_self _ (Heap.get?_push_of_some _ hx) rfl
      · have q := mem_offL.mp hp
        have h1 := (N p q.1).1
        refine ⟨?_, (N p q.1).2⟩
        rw [Heap.get?_update_other _ _ (Nat.ne_of_gt (Heap.lt_size h1)), Heap.get?_update_other _ _ (fun e => q.2 (by simp [e]))]
        exact Heap.get?_push_of_some _ h1
theorem fn_setU {f : Addr} {fd : FuncData} {sl : Array (Option Value)} {name : Str} {v : Value} {g : Obj → Led} {Q : Unit → Shared → Prop} (F : Fr h₀ L s.heap m) (N : News h₀ L s.heap news) (U : UpdF f (fnObj none fd sl) news g) (hl : typeLookup (.type "function") name = pure none)
    (h : ∀ (d : Addr) h' t n, Fr h₀ L h' m → News h₀ L h' ((d, dictOf [⟨PyData.keyHash w.params name, .str name t, v⟩] n) :: g (fnObj (some d) fd sl)) → (∀ p ∈ news, @LT.lt Nat instLTNat p.1 d) → Q () { s with heap := h', toks := s.toks + 1 + 1 }) :
    wpAny (model prog w) A (setAttr (.ref f) name v) Q E s := by
  refine genC ?_
  intro C9 kC9
  obtain ⟨own, rest, rfl, hg, h1, h2⟩ := U.split
  refine kC9 ?_
  clear kC9 C9
  refine fn_set F N (List.mem_append_right _ (.head _)) hl fun d h' t n F' N' l => h d h' t n F' (News.sub N' fun p hp => ?_) l
  rcases List.mem_cons.mp hp with rfl | hp
  · exact .head _
  · refine .tail _ ?_
    rw [hg] at hp
    rcases List.mem_append.mp hp with hp | hp
    · exact .tail _ (mem_offL.mpr ⟨List.mem_append_left _ hp, by simpa using h1 p hp⟩)
    · rcases List.mem_cons.mp hp with rfl | hp
      · exact .head _
      · exact .tail _ (mem_offL.mpr ⟨List.mem_append_right _ (.tail _ hp), by simpa using h2 p hp⟩)
end
end
section
open PySem PySem.W PySem.Calls PyProof.Rows PyProof.Rows.LCg Builtin Builtin.ObjectAttr
set_option maxRecDepth 100000
theorem slot_fn_ga : Slot "function" "__getattribute__" "object.__getattribute__" :=
  .of (owner := "object") (n := "__getattribute__") (by rw [typeLookup_type, builtinLookup_eq_fast]; kernel_rfl) (by decide +kernel) (by decide +kernel) (by decide +kernel)
    (by first | exact .inl (by decide +kernel) | exact .inr (by decide +kernel)) (by rw [isSubtype_type]; kernel_rfl)
section
variable {prog : Program} {w : World} {A : Around} {E : Value → Shared → Prop} {h : Heap} {g : Array GenState} {d : Drawn} {t : Nat} {os : OsState} {a dx : Addr} {fd : FuncData} {sl : Array (Option Value)} {name : Str} {vr : Addr} {m : Str → Option Value}
theorem fnget_entry {tk : Tok} {Q : Fin → Shared → Prop} (hx : h.get? a = some (fnObj (some dx) fd sl)) (hn : h.Ns dx m) (hv : m name = some (.ref vr)) (hl : typeLookup (.type "function") name = pure none) (hq : Q (.done (.ret (.ref vr))) ⟨h, g, d, t, os⟩) :
    wpAny (model prog w) A (Builtin.«object.__getattribute__» ⟨[.ref a, .str name tk], []⟩) Q E ⟨h, g, d, t, os⟩ := by
  have hT : (⟨h, g, d, t, os⟩ : Shared).TypeIs (.ref a) "function" := ⟨_, hx, rfl⟩
  repeat (any_goals (first | assumption | ((with_reducible refine wpAny_nsGet hn ?_); rw [hv]) | wp_step))
theorem fnget_by {tk : Tok} {fill expr : Bool} {Q : Value → Shared → Prop} (hx : h.get? a = some (fnObj (some dx) fd sl)) (hn : h.Ns dx m) (hv : m name = some (.ref vr)) (hl : typeLookup (.type "function") name = pure none) (hq : Q (.ref vr) ⟨h, g, d, t, os⟩) :
    wpAny (model prog w) A (getAttrBy (.ref a) (.str name tk) fill expr) Q E ⟨h, g, d, t, os⟩ := by
  have hT : (⟨h, g, d, t, os⟩ : Shared).TypeIs (.ref a) "function" := ⟨_, hx, rfl⟩
  have f2 := slot_fn_ga.lookup
  have f3 := slot_fn_ga.bind (.ref a)
  have hx0 : (expr && onTheHeap (Value.builtin "object.__getattribute__")) = false := by cases expr <;> rfl
  repeat (any_goals (first | assumption | wp_step))
  refine codeAny_call_builtin slot_fn_ga.plain entry_ga (slot_fn_ga.check _ _ _ _ _ _ _ _ hT (args_ga _ _) (fnget_entry hx hn hv hl ?_))
  repeat (any_goals (first | assumption | wp_step))
theorem fnget_attr {expr : Bool} {Q : Value → Shared → Prop} (hx : h.get? a = some (fnObj (some dx) fd sl)) (hn : h.Ns dx m) (hv : m name = some (.ref vr)) (hl : typeLookup (.type "function") name = pure none) (hq : Q (.ref vr) ⟨h, g, d, t + 1, os⟩) :
    wpAny (model prog w) A (getAttr (.ref a) name expr) Q E ⟨h, g, d, t, os⟩ := by
  unfold getAttr
  repeat (any_goals (first | assumption | with_reducible apply fnget_by hx hn hv hl | wp_step))
theorem fn_noGetattr : typeLookup (.type "function") "__getattr__" = pure none := by rw [typeLookup_type, builtinLookup_eq_fast]; kernel_rfl
theorem fnget_meth {pl : Sem Bool} {Q : Value × List Value → Shared → Prop} (hx : h.get? a = some (fnObj (some dx) fd sl)) (hn : h.Ns dx m) (hv : m name = some (.ref vr)) (hl : typeLookup (.type "function") name = pure none) (hq : Q (.ref vr, []) ⟨h, g, d, t + 1, os⟩) :
    wpAny (model prog w) A (getMethod (.ref a) name pl) Q E ⟨h, g, d, t, os⟩ := by
  have hT : (⟨h, g, d, t, os⟩ : Shared).TypeIs (.ref a) "function" := ⟨_, hx, rfl⟩
  unfold getMethod
  refine wpAny_bind (wpAny_specialOf hT slot_fn_ga.lookup ?_)
  show wpAny _ A (if (Manifest.canonical "object.__getattribute__" != "object.__getattribute__") = true then _ else _) Q E _
  rw [if_neg (by decide +kernel)]
  refine wpAny_bind (wpAny_specialOf hT fn_noGetattr ?_)
  refine wpAny_bind (wpAny_specialOf hT hl ?_)
  exact wpAny_bind (fnget_attr hx hn hv hl (wpAny_pure hq))
end
section
variable {prog : Program} {w : World} {A : Around} {E : Value → Shared → Prop} {s : Shared} {h₀ : Heap} {L : Addr} {m : Str → Option Value} {news : Led}
theorem fn_meth {f d v : Addr} {fd : FuncData} {sl : Array (Option Value)} {name : Str} {t : Tok} {n : Nat} {pl : Sem Bool} {Q : Value × List Value → Shared → Prop} (N : News h₀ L s.heap news) (hm : (f, fnObj (some d) fd sl) ∈ news) (hd : (d, dictOf [⟨PyData.keyHash w.params name, .str name t, .ref v⟩] n) ∈ news) (hl : typeLookup (.type "function") name = pure none)
    (h : Q (.ref v, []) { s with toks := s.toks + 1 }) : wpAny (model prog w) A (getMethod (.ref f) name pl) Q E s := by
  refine genC ?_
  intro C9 kC9
  obtain ⟨hp, g, dr, t, os⟩ := s
  refine kC9 ?_
  clear kC9 C9
  refine fnget_meth (m := nsFind #[⟨PyData.keyHash w.params name, .str name _, .ref v⟩]) (N _ hm).1 ⟨_, _, _, (N _ hd).1, rfl, ?_, fun _ => rfl⟩ ?_ hl h
  · intro e he
    have := List.mem_singleton.mp (Array.mem_toList_iff.mpr he)
    rw [this]; exact ⟨_, _, rfl⟩
  · simp [nsFind, findBy, Value.isStr]
theorem fn_nobool : typeLookup (.type "function") "__bool__" = pure none := by rw [typeLookup_type, builtinLookup_eq_fast]; kernel_rfl
theorem fn_nolen : typeLookup (.type "function") "__len__" = pure none := by rw [typeLookup_type, builtinLookup_eq_fast]; kernel_rfl
theorem fn_truthy {f : Addr} {d : Option Addr} {fd : FuncData} {sl : Array (Option Value)} {Q : Bool → Shared → Prop} (N : News h₀ L s.heap news) (hm : (f, fnObj d fd sl) ∈ news) (h : Q true s) : wpAny (model prog w) A (truthy (.ref f)) Q E s := by
  have hT : s.TypeIs (.ref f) "function" := ⟨_, (N _ hm).1, rfl⟩
  unfold truthy
  refine wpAny_bind (wpAny_callSpecial?_none hT fn_nobool ?_)
  refine wpAny_bind (wpAny_specialOf hT fn_nolen ?_)
  exact wpAny_pure h
end
end
section
set_option maxRecDepth 100000
abbrev frs (l : List Env) : List Addr := l.filterMap (·.frame)
theorem so_fill {S : List Addr} {h₀ g' : Heap} (hS : ∀ b ∈ S, ∃ o sl, h₀.get? b = some o ∧ g'.get? b = some { o with slots := sl }) : ∃ h₀', Heap.SlotsOnly S h₀ h₀' ∧ ∀ b ∈ S, h₀'.get? b = g'.get? b := by
  induction S with
  | nil => exact ⟨h₀, .refl .., fun b hb => nomatch hb⟩
  | cons b r ih =>
    obtain ⟨h₁, s₁, e₁⟩ := ih fun c hc => hS c (List.mem_cons_of_mem _ hc)
    by_cases hb : b ∈ r
    · exact ⟨h₁, s₁.mono fun c hc => List.mem_cons_of_mem _ hc, fun c hc => by
        rcases List.mem_cons.mp hc with rfl | hc
        · exact e₁ _ hb
        · exact e₁ _ hc⟩
    · obtain ⟨o, sl, h1, h2⟩ := hS b (.head _)
      have h3 : h₁.get? b = some o := (s₁.2.1 b hb).trans h1
      have u := Heap.SlotsOnly.update h3 (fun _ => sl)
      refine ⟨_, (s₁.mono fun c hc => List.mem_cons_of_mem _ hc).trans (u.mono fun c hc => by rw [List.mem_singleton.mp hc]; exact .head _), fun c hc => ?_⟩
      by_cases e : c = b
      · subst e
        rw [h2]
        refine Heap.get?_update_self _ h3 ?_
        have hx := (Heap.get?_some_iff.mp h3).2
        obtain ⟨c, d, dt, s0⟩ := o
        cases dt <;> first | rfl | (simp [Obj.isFreed] at hx)
      · rcases List.mem_cons.mp hc with q | hc
        · exact absurd q e
        · rw [u.2.1 c (by simpa using e)]; exact e₁ c hc
theorem Below.so {A₀ : Around} {base h₀ h₀' : Heap} {outer : List Env} (B : Below A₀ base outer h₀) (s : Heap.SlotsOnly (frs outer) h₀ h₀') : Below A₀ base outer h₀' :=
  ⟨B.stack, fun b o e => by
    rw [s.2.1 b fun hb => by rw [(B.frames.mem hb).1] at e; cases e]; exact B.stays b o e, B.frames.of_slotsOnly s⟩
def LeaveS (outer : List Env) (h₀ : Heap) (L : Addr) (m : Str → Option Value) (l : List Env) (g : Heap) (R : Result → Shared → Prop) (v : Value) (s' : Shared) : Prop :=
  ∃ g' L' m' news', Heap.SlotsOnly (frs l) g g' ∧ Fr g' L' s'.heap m' ∧ News g' L' s'.heap news' ∧ (∀ h₀', Heap.SlotsOnly (frs outer) h₀ h₀' → Fr h₀' L s'.heap m → News h₀' L s'.heap news' → R (.ok (.ret v)) s')
section
variable {prog : Program} {w : World} {A A₀ : Around} {E : Value → Shared → Prop} {s : Shared} {K : Frag} {L : Addr} {h₀ base : Heap} {m mg mb : Str → Option Value} {news : List (Addr × Obj)} {p : Program} {loose : List Str} {mean : ExcName → Option Value}
theorem code_S {env : Env} {outer : List Env} {R : Result → Shared → Prop} {name qual : Str} {params : Arguments} {body : List Stmt} {scope : Scope} {dV kV doc pm cdv ct oc : Value} {an od : Option Addr} {osl : Array (Option Value)} {f : Addr} {args : Args} {binds : List (Str × Value)}
    (B : Below A₀ base outer h₀) (F : Fr h₀ L s.heap m) (X₀ : K.In h₀) (N : News h₀ L s.heap news) (T : Top p loose mean mg mb h₀) (hA : A.frames = some (env :: outer)) (hf : env.frame = some L) (hke : env.scope.kind = .function)
    (ho : K.lookup f = some ⟨oc, od, .func (fnOf name qual params body scope dV kV doc pm an cdv ct), osl⟩) (hcd : codeIn K cdv qual = true) (hroom : A.depth < recursionLimit)
    (hbind : BindsTo s (fnOf name qual params body scope dV kV doc pm an cdv ct) args binds) (hloc : ∀ y ∈ binds, scope.names.lookup y.1 = some .local)
    (h : ∀ g L' h₁, Fr g L' h₁ (fun y => binds.reverse.lookup y) → News g L' h₁ news → Below A base (env :: outer) g → K.In g → Top p loose mean mg mb g →
      wpAny (model prog w) (A.deeper (envOf qual scope L' f cdv)) (execs body (envOf qual scope L' f cdv))
        (fun fl s' => LeaveS outer h₀ L m (env :: outer) g R (match fl with | .ret v => v | _ => .none) s')
        (fun e s' => wpAny (model prog w) (A.deeper (envOf qual scope L' f cdv)) (leaving (envOf qual scope L' f cdv) e) (fun _ s'' => R (.error e) s'') (fun e' s'' => R (.error e') s'') s')
        { s with heap := h₁, toks := s.toks + binds.length })
    (hco : scope.isCoroutine = false) (hgen : scope.isGenerator = false) (hk : scope.kind = .function)
    (hcell : ∀ x ∈ scope.names, x.2 ≠ .cell) : codeAny (model prog w) A (.call (.ref f) args) R s := by
  have X := X₀.keeps F.keep
  refine genC ?_
  intro C9 kC9
  obtain ⟨FG, BG, st, -⟩ := groundX (R := R) B F N hA hf hke
  refine kC9 ?_
  clear kC9 C9
  refine codeAny_call_def (fd := fnX name qual params body scope [] dV kV doc pm an cdv ct) (body := body) (binds := binds) hroom (X _ _ ho) rfl (T.nolimit.keeps F.keep) (codeRec_of X hcd) rfl hbind hcell hloc (fun h₁ hns hk₁ => ?_) hco hgen hk
  refine wpAny_mono (h _ s.heap.objs.size h₁ ⟨hns, fun b o e => hk₁ b o (of_hideAll _ e), Nat.le_of_eq (hideAll_size _ _)⟩
    (fun p hp => ⟨hk₁ _ _ (N p hp).1, Nat.ne_of_lt (Heap.lt_size (N p hp).1), hideAll_none _ (List.mem_map_of_mem hp)⟩) BG (X₀.keeps st) (T.keeps st)) (fun fl s' hl => ?_) fun _ _ y => y
  generalize hideAll s.heap (news.map (·.1)) = g at FG BG st hl
  refine genC ?_
  intro C9 kC9
  obtain ⟨g', L', m', news', so, F', N', k⟩ := hl
  refine kC9 ?_
  clear kC9 C9
  have hLS : frs (env :: outer) = L :: frs outer := by simp [frs, List.filterMap_cons, hf]
  rw [hLS] at so
  have low : ∀ b o, h₀.get? b = some o → b ≠ L := fun b o e => Nat.ne_of_lt (Nat.lt_of_lt_of_le (Heap.lt_size e) F.above)
  obtain ⟨h₀', s₀, e₀⟩ := so_fill (S := frs outer) (h₀ := h₀) (g' := g') fun b hb => by
    refine genC ?_
    intro C9 kC9
    obtain ⟨_, o, ho, _⟩ := B.frames.mem hb
    obtain ⟨sl, q⟩ := so.2.2 b o (st b o ho)
    refine kC9 ?_
    clear kC9 C9
    exact ⟨o, sl, ho, q⟩
  have keep : ∀ b o, h₀'.get? b = some o → g'.get? b = some o := fun b o e => by
    by_cases hb : b ∈ frs outer
    · rw [← e₀ b hb]; exact e
    · rw [s₀.2.1 b hb] at e
      rw [so.2.1 b (by intro q; rcases List.mem_cons.mp q with q | q; exact low b o e q; exact hb q)]
      exact st b o e
  refine genC ?_
  intro C9 kC9
  obtain ⟨oL, es, ep, hL, hLd, hLk, hLf⟩ := FG.ns
  obtain ⟨sl, hL'⟩ := so.2.2 L oL hL
  refine kC9 ?_
  clear kC9 C9
  refine k h₀' s₀ ⟨⟨_, es, ep, F'.keep _ _ hL', hLd, hLk, hLf⟩, fun b o e => F'.keep b o (keep b o e), by rw [s₀.1]; exact F.above⟩ fun p hp => ⟨(N' p hp).1, fun q => ?_, ?_⟩
  · have := (N' p hp).2.2; rw [q, hL'] at this; cases this
  · cases q : h₀'.get? p.1 with
    | none => rfl
    | some o => have := (N' p hp).2.2; rw [keep _ _ q] at this; cases this
theorem caught_S {outer : List Env} {h₁ g : Heap} {s' : Shared} {a e : Addr} {name : Str} {scope : Scope} {cd : Value} {t : Expr} {b₀ : Stmt} {suite : List Stmt} {pos : Pos} {rest : List ExceptHandler} {Q : Flow → Shared → Prop} {X T : String} {A₁ : Around}
    (B : Below A₁ base outer g) (F : Fr g L h₁ m) (N : News g L h₁ news) (hx : Heap.NewExcOf h₁ s'.heap e X)
    (hexc : isSubtype (.type T) (.type "BaseException") = pure true) (hnt : isSubtype (.type ((Manifest.find? T).elim "type" fun y => y.metatype)) (.type "tuple") = pure false) (hsub : isSubtype (.type X) (.type T) = pure true)
    (hname : ∀ (g' h' : Heap) (Q' : Value → Shared → Prop) E', Heap.SlotsOnly (frs outer) g g' → Fr g' L h' m → Q' (.type T) { s' with heap := h' } →
      wpAny (model prog w) ((A₁.deeper (envOf name scope L a cd)).mark (some (.ref e))) (eval t (envOf name scope L a cd)) Q' E' { s' with heap := h' })
    (k : ∀ g' h', Heap.SlotsOnly (frs outer) g g' → Fr g' L h' m → News g' L h' news → wpAny (model prog w) ((A₁.deeper (envOf name scope L a cd)).mark (some (.ref e))) (execs (b₀ :: suite) (envOf name scope L a cd)) Q E { s' with heap := h' })
    (hk : scope.kind = .function := by rfl)
    (hE : PassesOwnAt (model prog w) ((A₁.deeper (envOf name scope L a cd)).mark (some (.ref e))) (A₁.deeper (envOf name scope L a cd)) (envOf name scope L a cd) E := by passes_own) :
    wpAny (model prog w) (A₁.deeper (envOf name scope L a cd)) (noteFrame (.ref e) (envOf name scope L a cd))
      (fun _ s₂ => wpAny (model prog w) (A₁.deeper (envOf name scope L a cd)) (setFlight (.ref e) none) (fun _ s₃ =>
        wpAny (model prog w) (A₁.deeper (envOf name scope L a cd)) (handleBy (.ref e) (envOf name scope L a cd) (.ExceptHandler (some t) none (b₀ :: suite) pos :: rest)) Q E s₃) E s₂) E s' := by
  refine genC ?_
  intro C9 kC9
  obtain ⟨oL, esL, epL, hL, hLd, hLk, hLf⟩ := F.ns
  obtain ⟨ob, vs, he, hcls, hd, h1⟩ := hx.there
  refine kC9 ?_
  clear kC9 C9
  have hLn : ∀ vs, oL.data ≠ .fields vs := fun vs q => by rw [hLd] at q; cases q
  have hkind : scope.kind ≠ .module := by rw [hk]; decide
  -- all but the frames
  have hg : ∀ b o, g.get? b = some o → b ≠ L := fun b o e => Nat.ne_of_lt (Nat.lt_of_lt_of_le (Heap.lt_size e) F.above)
  let bs := hideAll h₁ (L :: frs outer)
  have bs1 : ∀ b o, h₁.get? b = some o → b ≠ L → b ∉ frs outer → bs.get? b = some o := fun b o e n1 n2 => hideAll_get _ e (by intro q; rcases List.mem_cons.mp q with q | q; exact n1 q; exact n2 q)
  have bs0 : ∀ b, b ∈ L :: frs outer → bs.get? b = none := fun b hb => hideAll_none _ hb
  have ff : ∀ {h : Heap}, (∀ b o, h₁.get? b = some o → (∀ vs, o.data ≠ .fields vs) → ∃ o', h.get? b = some o' ∧ ∀ vs, o'.data ≠ .fields vs) → h.FunFrames bs (envOf name scope L a cd :: outer) := fun {h} kp => by
    refine ⟨hkind, ⟨L, ?_⟩, ?_⟩
    · obtain ⟨o', q1, q2⟩ := kp L oL hL hLn
      exact ⟨o', rfl, bs0 L (.head _), q1, q2⟩
    · have rec9 : ∀ l : List Env, (∀ b ∈ frs l, b ∈ frs outer) → g.FunFrames base l → h.FunFrames bs l := by
        intro l
        induction l with
        | nil => intro _ _; trivial
        | cons env r ih =>
          intro hs hl
          refine genC ?_
          intro C9 kC9
          obtain ⟨hk', ⟨L', o, hf, hn, ho, hdd⟩, hr⟩ := hl
          refine kC9 ?_
          clear kC9 C9
          have hm : L' ∈ frs (env :: r) := by simp [frs, List.filterMap_cons, hf]
          refine genC ?_
          intro C9 kC9
          obtain ⟨o', q1, q2⟩ := kp L' o (F.keep _ _ ho) hdd
          refine kC9 ?_
          clear kC9 C9
          refine ⟨hk', ⟨L', o', hf, bs0 L' (List.mem_cons_of_mem _ (hs _ hm)), q1, q2⟩, ih (fun b hb => hs b ?_) hr⟩
          simp only [frs, List.filterMap_cons, hf]
          exact List.mem_cons_of_mem _ hb
      exact rec9 outer (fun _ q => q) B.frames
  have hkb : bs.StaysIn s'.heap := fun b o q => hx.keeps b o (of_hideAll _ q)
  have hen : bs.get? e = none := by
    cases q : bs.get? e with
    | none => rfl
    | some o => have := of_hideAll _ q; rw [hx.new] at this; cases this
  have h0 : ∃ a0, vs[0]? = some a0 := by
    have hsz : 1 < vs.size := (Array.getElem?_eq_some_iff.mp h1).1
    exact ⟨vs[0], by simp [Nat.lt_trans Nat.zero_lt_one hsz]⟩
  obtain ⟨a0, h0⟩ := h0
  unfold noteFrame
  simp only [show (envOf name scope L a cd).frame = some L from rfl]
  refine wpAny_bind (wpAny_field he hd h1 ?_)
  rw [if_neg (by decide)]
  refine wpAny_entryW (a0 := a0) (Around.frames_deeper B.stack) (ff fun b o q1 q2 => ⟨o, hx.keeps b o q1, q2⟩) rfl he hkb hen hd (Array.getElem?_eq_some_iff.mp h1).1 h0 fun h₂ hN => ?_
  refine genC ?_
  intro C9 kC9
  obtain ⟨n1, n2, n3, n4⟩ := hN
  refine kC9 ?_
  clear kC9 C9
  have n4' : ∀ b o, h₁.get? b = some o → (∀ vs, o.data ≠ .fields vs) → ∃ sl, h₂.get? b = some { o with slots := sl } := fun b o q1 q2 => n4 b o (hx.keeps b o q1) q2
  refine wpAny_setFlight_noneW n1 n2 n3 fun h₃ p1 p2 p3 p4 => ?_
  -- what every later heap keeps
  have fin : ∀ h : Heap, bs.StaysIn h → (∀ b o, h₂.get? b = some o → (∀ vs, o.data ≠ .fields vs) → h.get? b = some o) → ∃ g', Heap.SlotsOnly (frs outer) g g' ∧ Fr g' L h m ∧ News g' L h news := by
    intro h kb kf
    have up : ∀ b o, h₁.get? b = some o → (∀ vs, o.data ≠ .fields vs) → ∃ sl, h.get? b = some { o with slots := sl } := fun b o q1 q2 => by
      obtain ⟨sl, q⟩ := n4' b o q1 q2
      exact ⟨sl, kf _ _ q fun vs => q2 vs⟩
    obtain ⟨g', so, eg⟩ := so_fill (S := frs outer) (h₀ := g) (g' := h) fun b hb => by
      refine genC ?_
      intro C9 kC9
      obtain ⟨_, o, ho, hdd⟩ := B.frames.mem hb
      obtain ⟨sl, q⟩ := up b o (F.keep _ _ ho) hdd
      refine kC9 ?_
      clear kC9 C9
      exact ⟨o, sl, ho, q⟩
    obtain ⟨sl, hL'⟩ := up L oL hL hLn
    refine ⟨g', so, ⟨⟨_, esL, epL, hL', hLd, hLk, hLf⟩, fun b o q => ?_, by rw [so.1]; exact F.above⟩, fun p hp => ?_⟩
    · by_cases hb : b ∈ frs outer
      · rw [← eg b hb]; exact q
      · rw [so.2.1 b hb] at q
        exact kb b o (bs1 b o (F.keep b o q) (hg b o q) hb)
    · obtain ⟨r1, r2, r3⟩ := N p hp
      have hb : p.1 ∉ frs outer := fun hb => by
        refine genC ?_
        intro C9 kC9
        obtain ⟨_, o, ho, _⟩ := B.frames.mem hb
        refine kC9 ?_
        clear kC9 C9
        rw [r3] at ho; cases ho
      exact ⟨kb _ _ (bs1 _ _ r1 r2 hb), r2, by rw [so.2.1 _ hb]; exact r3⟩
  refine genC ?_
  intro C9 kC9
  obtain ⟨g₃, so₃, F₃, N₃⟩ := fin h₃ p1 p4
  refine kC9 ?_
  clear kC9 C9
  refine wpAny_handleBy_builtin (X := X) (T := T) (b := true) hexc hnt hsub (hname g₃ h₃ _ _ so₃ F₃ ⟨rfl, ?_, ?_⟩)
  · obtain ⟨oe, _, _, _, _, q1, q2, _⟩ := p3
    exact ⟨oe, q1, q2.1.trans hcls⟩
  · rw [if_pos rfl]
    refine wpAny_setFlight_noneW (s := { s' with heap := h₃ }) p1 p2 p3.at fun h₄ q1 q2 q3 q4 => ?_
    refine genC ?_
    intro C9 kC9
    obtain ⟨g₄, so₄, F₄, N₄⟩ := fin h₄ q1 fun b o r1 r2 => q4 b o (p4 b o r1 r2) r2
    refine kC9 ?_
    clear kC9 C9
    exact wpAny_passesOwnAt hE (k g₄ h₄ so₄ F₄ N₄)
end
end
section
set_option maxRecDepth 100000
/-- a contract of a def that may turn the outer frames' slots -/
def CtrS (w : World) (f : Addr) (args : List Value) (dn ud : Nat) (news : Led) (Post : Value → Led → Prop) : Prop :=
  ∀ (mean : ExcName → Option Value) (mg mb : Str → Option Value) (dp un : Nat) (gd : Option (List Code)) (cn : Str) (nm : List (Str × NameKind)) (ig ic : Bool) (mo : List (Str × PySem.Const)) (a : Addr) (ccd : Value) (cl : List (Str × Addr)) (outer : List Env) (A₀ : Around) (base h₀ : Heap) (L : Addr) (m : Str → Option Value) (s : Shared) (Q E : Value → Shared → Prop),
    Below A₀ base outer h₀ → Fr h₀ L s.heap m → (heapK w.params).In h₀ → News h₀ L s.heap news →
    Top topProg gLoose mean mg mb h₀ → (heapK w.params).In base → Top topProg gLoose mean mg mb base → dp + dn < recursionLimit → un + ud < cLine →
    (∀ r news' h' tk' h₀', Heap.SlotsOnly (frs outer) h₀ h₀' → Fr h₀' L h' m → News h₀' L h' news' → Post r news' → Q r { s with heap := h', toks := tk' }) →
    wpAny (model PySem.Challenge.rw_mj0221_01.row.prog w) (ktrTop dp un gd cn (PySem.Scope.mk ScopeKind.function nm ig ic mo) L a ccd cl outer) (call (.ref f) args) Q E s
theorem ctrS_use {w : World} {f : Addr} {args : List Value} {dn ud : Nat} {news : Led} {Post : Value → Led → Prop} {mean : ExcName → Option Value} {mg mb : Str → Option Value} {dp un : Nat} {gd : Option (List Code)} {cn : Str} {nm : List (Str × NameKind)} {ig ic : Bool} {mo : List (Str × PySem.Const)} {a : Addr} {ccd : Value} {cl : List (Str × Addr)} {outer : List Env} {A₀ : Around} {base h₀ : Heap} {L : Addr} {m : Str → Option Value} {s : Shared} {Q E : Value → Shared → Prop}
    (B : Below A₀ base outer h₀) (F : Fr h₀ L s.heap m) (X : (heapK w.params).In h₀) (N : News h₀ L s.heap news)
    (T : Top topProg gLoose mean mg mb h₀) (XB : (heapK w.params).In base) (TB : Top topProg gLoose mean mg mb base) (C : CtrS w f args dn ud news Post) (hd : dp + dn < recursionLimit) (hu : un + ud < cLine)
    (ret : ∀ r news' h' tk' h₀', Heap.SlotsOnly (frs outer) h₀ h₀' → Below A₀ base outer h₀' → (heapK w.params).In h₀' → Top topProg gLoose mean mg mb h₀' → Fr h₀' L h' m → News h₀' L h' news' → Post r news' → Q r { s with heap := h', toks := tk' }) :
    wpAny (model PySem.Challenge.rw_mj0221_01.row.prog w) (ktrTop dp un gd cn (PySem.Scope.mk ScopeKind.function nm ig ic mo) L a ccd cl outer) (call (.ref f) args) Q E s :=
  C _ _ _ _ _ _ _ _ _ _ _ _ _ _ _ _ _ _ _ _ _ _ _ B F X N T XB TB hd hu fun r news' h' tk' h₀' so F' N' P => ret r news' h' tk' h₀' so (Below.so B so) (XB.keeps (Below.so B so).stays) (TB.keeps (Below.so B so).stays) F' N' P
theorem CtrS.mono {w : World} {f : Addr} {args : List Value} {dn ud : Nat} {news : Led} {Post Post' : Value → Led → Prop} (C : CtrS w f args dn ud news Post) (h : ∀ r n, Post r n → Post' r n) : CtrS w f args dn ud news Post' := by
  intro mean mg mb dp un gd cn nm ig ic mo a ccd cl outer A₀ base h₀ L m s Q E B F X N T XB TB hd hu ret
  exact ctrS_use B F X N T XB TB C hd hu fun r n h' tk' h₀' so _ _ _ F' N' p => ret r n h' tk' h₀' so F' N' (h r n p)
theorem slotsOnly_nil {h h' : Heap} (s : Heap.SlotsOnly [] h h') : ∀ b, h'.get? b = h.get? b := fun b => s.2.1 b (by simp)
theorem Fr.so_nil {h₀ h₀' h : Heap} {L : Addr} {m : Str → Option Value} (s : Heap.SlotsOnly [] h₀ h₀') (F : Fr h₀' L h m) : Fr h₀ L h m :=
  ⟨F.ns, fun b o e => F.keep b o (by rw [slotsOnly_nil s]; exact e), by rw [← s.1]; exact F.above⟩
theorem News.so_nil {h₀ h₀' h : Heap} {L : Addr} {news : Led} (s : Heap.SlotsOnly [] h₀ h₀') (N : News h₀' L h news) : News h₀ L h news :=
  fun p hp => ⟨(N p hp).1, (N p hp).2.1, by rw [← slotsOnly_nil s]; exact (N p hp).2.2⟩
theorem leaveS_at {outer : List Env} {h₀ : Heap} {L : Addr} {m : Str → Option Value} {l : List Env} {g g' : Heap} {R : Result → Shared → Prop} {v : Value} {s' : Shared} {L' : Addr} {m' : Str → Option Value} {news' : Led}
    (so : Heap.SlotsOnly (frs l) g g') (F : Fr g' L' s'.heap m') (N : News g' L' s'.heap news') (k : ∀ h₀', Heap.SlotsOnly (frs outer) h₀ h₀' → Fr h₀' L s'.heap m → News h₀' L s'.heap news' → R (.ok (.ret v)) s') : LeaveS outer h₀ L m l g R v s' := ⟨g', L', m', news', so, F, N, k⟩
/-- a turn's end, the base turned -/
def TEndS {γ : Type} (Φ : γ → Led → Led → Prop) (HB : Heap → Prop) (L : Addr) (R : Led) (Inv : (Str → Option Value) → γ → Prop) (s : Shared) (Q : Flow → Shared → Prop) (f : Flow) (s' : Shared) : Prop :=
  match f with
  | .ret v => Q (.ret v) s'
  | .brk => Q .next s'
  | _ => ∃ h₀ h' tk m' x' news', HB h₀ ∧ s' = { s with heap := h', toks := tk } ∧ Fr h₀ L h' m' ∧ News h₀ L h' news' ∧ Φ x' R news' ∧ Inv m' x'
theorem TEndS.next {γ : Type} {Φ : γ → Led → Led → Prop} {HB : Heap → Prop} {h₀ : Heap} {L : Addr} {R : Led} {Inv : (Str → Option Value) → γ → Prop} {s : Shared} {Q : Flow → Shared → Prop} {h' : Heap} {tk : Nat} {m' : Str → Option Value} {news' : Led} (x' : γ) (hb : HB h₀)
    (F : Fr h₀ L h' m') (N : News h₀ L h' news') (P : Φ x' R news') (I : Inv m' x') : TEndS Φ HB L R Inv s Q .next { s with heap := h', toks := tk } := ⟨h₀, h', tk, m', x', news', hb, rfl, F, N, P, I⟩
theorem TEndS.cont {γ : Type} {Φ : γ → Led → Led → Prop} {HB : Heap → Prop} {h₀ : Heap} {L : Addr} {R : Led} {Inv : (Str → Option Value) → γ → Prop} {s : Shared} {Q : Flow → Shared → Prop} {h' : Heap} {tk : Nat} {m' : Str → Option Value} {news' : Led} (x' : γ) (hb : HB h₀)
    (F : Fr h₀ L h' m') (N : News h₀ L h' news') (P : Φ x' R news') (I : Inv m' x') : TEndS Φ HB L R Inv s Q .cont { s with heap := h', toks := tk } := ⟨h₀, h', tk, m', x', news', hb, rfl, F, N, P, I⟩
section
variable {prog : Program} {w : World} {A : Around} {s : Shared} {env : Env} {h₀ : Heap} {HB : Heap → Prop} {E : Value → Shared → Prop} {Q : Flow → Shared → Prop} {target : Expr} {body : List Stmt} {m : Str → Option Value} {news : Led}
theorem for_walkS {γ : Type} {Φ : γ → Led → Led → Prop} (FΦ : Framed Φ) {R' : Result → Shared → Prop} {I : Addr} {fp : List Addr} {n : Nat} {P : Nat → Value → Prop} {St : Nat → Heap → Prop} {R : Led} {x₀ : γ} (Inv : Nat → (Str → Option Value) → γ → Prop)
    (W : Walks prog w A I fp [I] n P St) (hIf : I ∈ fp) (hfp : ∀ b ∈ fp, b = I ∨ ∃ o, ∀ i m x R' n', (∀ p ∈ R, p ∈ R') → Inv i m x → Φ x R' n' → (b, o) ∈ n')
    (hLf : env.locals ∉ fp) (hI0 : ∀ h, HB h → h.get? I = none) (live : ∀ i h, St i h → ∃ o, h.get? I = some o) (hst : St 0 s.heap) (hb : HB h₀) (F : Fr h₀ env.locals s.heap m) (N : News h₀ env.locals s.heap news) (hnI : ∀ p ∈ news, p.1 ≠ I)
    (hgo : ∀ i (s' : Shared) v (Q' : Unit → Shared → Prop), P i v → St (i + 1) s'.heap → Q' () s' → wpAny (model prog w) A (letOwnedTupleGo target (.ref I) v) Q' (notedBy (model prog w) A env fun e s' => R' (.error e) s') s')
    (hΦ : Φ x₀ R news) (h0 : Inv 0 m x₀)
    (turn : ∀ h₀ i v m₁ x₁ R₁ news₁ h tk, HB h₀ → i < n → P i v → Inv i m₁ x₁ → (∀ p ∈ R, p ∈ R₁) → Φ x₁ R₁ news₁ → Fr h₀ env.locals h m₁ → News h₀ env.locals h news₁ →
      wpAny (model prog w) A (assign target env v) (fun _ s₂ => wpAny (model prog w) A (execs body env) (TEndS Φ HB env.locals R₁ (Inv (i + 1)) { s with heap := h, toks := tk } Q) (notedBy (model prog w) A env fun e s' => R' (.error e) s') s₂) (notedBy (model prog w) A env fun e s' => R' (.error e) s') { s with heap := h, toks := tk })
    (hQ : ∀ f s', Q f s' → R' (.ok f) s')
    (done : ∀ h₀ m' x' news' h' tk, HB h₀ → Inv n m' x' → Φ x' R news' → Fr h₀ env.locals h' m' → News h₀ env.locals h' news' → Q .next { s with heap := h', toks := tk }) :
    codeAny (model prog w) A (.forLoop target (.ref I) body [] env) R' s := by
  have hLI : env.locals ≠ I := fun e => hLf (e ▸ hIf)
  have hRI : ∀ p ∈ R, p.1 ≠ I := fun p hp => hnI p (FΦ.sub hΦ p hp)
  refine codeAny_forLoop_any
    (fun k s' => ∃ h₀ h' tk m' x' news' i, HB h₀ ∧ s' = { s with heap := h', toks := tk } ∧ St i h' ∧ Fr h₀ env.locals h' m' ∧ News h₀ env.locals h' news' ∧ (∀ p ∈ news', p.1 ≠ I) ∧ Φ x' R news' ∧ Inv i m' x' ∧ i ≤ n ∧ k = n + 1 - i) ?_ (n + 1)
    ⟨h₀, s.heap, s.toks, m, x₀, news, 0, hb, rfl, hst, F, N, hnI, hΦ, h0, Nat.zero_le _, rfl⟩
  clear hb F N
  intro k s' hr92
  refine genC ?_
  intro C9 kC9
  obtain ⟨h₀, h', tk, m', x', news', i, hb, rfl, hst', F', N', hnw', hΦ', hJ, hi, rfl⟩ := hr92
  refine kC9 ?_
  clear kC9 C9
  have hI0' := hI0 _ hb
  have next : ∀ h₁ : Heap, (∀ b o, b ∉ [I] → h'.get? b = some o → h₁.get? b = some o) → Fr h₀ env.locals h₁ m' ∧ News h₀ env.locals h₁ news' := fun h₁ hk₁ =>
    ⟨⟨F'.ns.at' fun o e => hk₁ _ o (by simpa using hLI) e, fun b o e => hk₁ b o (by intro hb; rw [List.mem_singleton.mp hb, hI0'] at e; cases e) (F'.keep b o e), F'.above⟩, fun p hp => ⟨hk₁ _ _ (by simpa using hnw' p hp) (N' p hp).1, (N' p hp).2⟩⟩
  by_cases hlt : i < n
  · refine W.item i _ _ _ hlt hst' fun v h₁ tk₁ hP hst₁ hk₁ => ?_
    refine genC ?_
    intro C9 kC9
    obtain ⟨F₁, N₁⟩ := next h₁ hk₁
    obtain ⟨oI, hoI⟩ := live _ _ hst₁
    refine kC9 ?_
    clear kC9 C9
    have N₂ : News h₀ env.locals h₁ ((I, oI) :: news') := fun p hp => by
      rcases List.mem_cons.mp hp with e | hp
      · rw [e]; exact ⟨hoI, Ne.symm hLI, hI0'⟩
      · exact N₁ p hp
    refine hgo i _ v _ hP hst₁ ?_
    refine wpAny_mono (turn h₀ i v m' x' ((I, oI) :: R) ((I, oI) :: news') h₁ tk₁ hb hlt hP hJ (fun p hp => List.mem_cons_of_mem _ hp) (FΦ.add hΦ' hnw') F₁ N₂)
      (fun _ s₂ h₂ => wpAny_mono h₂ (fun f s₃ h₃ => ?_) fun _ _ e => e) fun _ _ e => e
    have nx : (∃ h₀ h' tk m' x' news', HB h₀ ∧ s₃ = { ({ s with heap := h₁, toks := tk₁ } : Shared) with heap := h', toks := tk } ∧ Fr h₀ env.locals h' m' ∧ News h₀ env.locals h' news' ∧ Φ x' ((I, oI) :: R) news' ∧ Inv (i + 1) m' x') →
        ∃ m, m < n + 1 - i ∧ ∃ h₀ h' tk m' x' news' i, HB h₀ ∧ s₃ = { s with heap := h', toks := tk } ∧ St i h' ∧ Fr h₀ env.locals h' m' ∧ News h₀ env.locals h' news' ∧ (∀ p ∈ news', p.1 ≠ I) ∧ Φ x' R news' ∧ Inv i m' x' ∧ i ≤ n ∧ m = n + 1 - i := by
      intro hr90
      refine genC ?_
      intro C9 kC9
      obtain ⟨h₀₃, h₃', tk₃, m₂, x₂, news₂, hb₃, rfl, F₃, N₃, hΦ₃, hJ₃⟩ := hr90
      refine kC9 ?_
      clear kC9 C9
      have hs₃ := FΦ.sub hΦ₃
      refine ⟨n + 1 - (i + 1), by omega, h₀₃, h₃', tk₃, m₂, x₂, offL [I] news₂, i + 1, hb₃, rfl, ?_, F₃, (fun p hp => N₃ p (mem_offL.mp hp).1), (fun p hp e => (mem_offL.mp hp).2 (by simp [e])), FΦ.drop hΦ₃ hRI, hJ₃, hlt, rfl⟩
      refine W.frame _ _ _ hst₁ fun b hb o e => ?_
      rcases hfp b hb with rfl | ⟨o₁, h1⟩
      · rw [hoI] at e; cases e; exact (N₃ _ (hs₃ _ (.head _))).1
      · have h2 := (N₂ _ (List.mem_cons_of_mem _ (h1 _ _ _ _ _ (fun _ q => q) hJ hΦ'))).1
        rw [e] at h2; cases h2
        exact (N₃ _ (h1 _ _ _ _ _ (fun p q => List.mem_cons_of_mem _ q) hJ₃ hΦ₃)).1
    cases f with
    | ret v => exact hQ _ _ h₃
    | brk => exact hQ _ _ h₃
    | cont => exact nx h₃
    | next => exact nx h₃
  · have hin : i = n := by omega
    subst hin
    refine W.done _ _ _ hst' fun h₁ tk₁ hk₁ => wpAny_execs_nil ?_
    obtain ⟨F₁, N₁⟩ := next h₁ hk₁
    exact hQ _ _ (done h₀ m' x' news' h₁ tk₁ hb hJ hΦ' F₁ N₁)
theorem iter_walkS {γ : Type} {Φ : γ → Led → Led → Prop} (FΦ : Framed Φ) {v₀ : Value} {itO : Obj} {fp : List Addr} {n : Nat} {P : Nat → Value → Prop} {St : Nat → Heap → Prop} {R : Led} {x₀ : γ} (Inv : Nat → (Str → Option Value) → γ → Prop)
    (hit : ∀ Q' : Value → Shared → Prop, Q' (.ref s.heap.objs.size) { s with heap := s.heap.push itO } → wpAny (model prog w) A (pyIter v₀) Q' E s)
    (W : Walks prog w A s.heap.objs.size fp [s.heap.objs.size] n P St) (hIf : s.heap.objs.size ∈ fp) (hfp : ∀ b ∈ fp, b = s.heap.objs.size ∨ ∃ o, ∀ i m x R' n', (∀ p ∈ R, p ∈ R') → Inv i m x → Φ x R' n' → (b, o) ∈ n')
    (live : ∀ i h, St i h → ∃ o, h.get? s.heap.objs.size = some o) (hst : St 0 (s.heap.push itO)) (hb : HB h₀) (hHB : ∀ h, HB h → h.objs.size = h₀.objs.size) (F : Fr h₀ env.locals s.heap m) (N : News h₀ env.locals s.heap news)
    (hgo : ∀ i (s' : Shared) v (Q' : Unit → Shared → Prop) E', P i v → St (i + 1) s'.heap → Q' () s' → wpAny (model prog w) A (letOwnedTupleGo target (.ref s.heap.objs.size) v) Q' E' s')
    (hΦ : Φ x₀ R news) (h0 : Inv 0 m x₀)
    (turn : ∀ h₀ i v m₁ x₁ R₁ news₁ h tk, HB h₀ → i < n → P i v → Inv i m₁ x₁ → (∀ p ∈ R, p ∈ R₁) → Φ x₁ R₁ news₁ → Fr h₀ env.locals h m₁ → News h₀ env.locals h news₁ →
      wpAny (model prog w) A (assign target env v) (fun _ s₂ => wpAny (model prog w) A (execs body env) (TEndS Φ HB env.locals R₁ (Inv (i + 1)) { s with heap := h, toks := tk } Q) E s₂) E { s with heap := h, toks := tk })
    (done : ∀ h₀ m' x' news' h' tk, HB h₀ → Inv n m' x' → Φ x' R news' → Fr h₀ env.locals h' m' → News h₀ env.locals h' news' → Q .next { s with heap := h', toks := tk }) :
    wpAny (model prog w) A (pyIter v₀) (fun it s₂ => LoopM prog w A env target body Q E it s₂) E s := by
  refine hit _ ?_
  intro hE
  have hnew : ∀ p ∈ news, p.1 ≠ s.heap.objs.size := fun p hp => Nat.ne_of_lt (Heap.lt_size (N p hp).1)
  refine for_walkS (Q := Q) FΦ Inv W hIf hfp ?_ (fun h hh => ?_) live hst hb (F.push _) (fun p hp => ⟨Heap.get?_push_of_some _ (N p hp).1, (N p hp).2⟩) hnew
    (fun i s' v Q' a b c => hgo i s' v Q' _ a b c) hΦ h0 ?_ (fun _ _ q => q) done
  · intro hm
    rcases hfp _ hm with e | ⟨o, e⟩
    · exact absurd F.ns.lt (by rw [e]; exact Nat.lt_irrefl _)
    · exact (N _ (e _ _ _ _ _ (fun _ q => q) h0 hΦ)).2.1 rfl
  · cases q : h.get? s.heap.objs.size with
    | none => rfl
    | some o =>
      have l1 := Heap.lt_size q
      have l2 := F.above
      have l3 := F.ns.lt
      rw [hHB h hh] at l1
      exact absurd (Nat.lt_of_lt_of_le l1 l2) (Nat.not_lt_of_lt l3)
  · intro h₀ i v m₁ x₁ R₁ news₁ h tk hb hi hP hI hR hΦ₁ F₁ N₁
    exact wpAny_mono (turn h₀ i v m₁ x₁ R₁ news₁ h tk hb hi hP hI hR hΦ₁ F₁ N₁) (fun _ _ q => wpAny_passesOwn hE q) hE
theorem iter_keysS {γ : Type} {Φ : γ → Led → Led → Prop} (FΦ : Framed Φ) {K : Type} [DecidableEq K] {knd : KeyKind prog w K} {kvs : List (K × Value)} {d : Addr} {o : Obj} {R : Led} {x₀ : γ} (hh : A.handled = none)
    (hl : (d, o) ∈ R) (hd : o.IsDictOf knd kvs) (lo : (d == sysModules) = false) (hb : HB h₀) (hHB : ∀ h, HB h → h.objs.size = h₀.objs.size) (F : Fr h₀ env.locals s.heap m) (N : News h₀ env.locals s.heap news)
    (hgo : ∀ v v', letOwnedTupleGo target v v' = pure ())
    (Inv : Nat → (Str → Option Value) → γ → Prop) (hΦ : Φ x₀ R news) (h0 : Inv 0 m x₀)
    (turn : ∀ h₀ (i : Nat) k x v m₁ x₁ R₁ news₁ h tk, HB h₀ → i < kvs.length → kvs[i]? = some (k, x) → knd.is k v = true → Inv i m₁ x₁ → (∀ p ∈ R, p ∈ R₁) → Φ x₁ R₁ news₁ → Fr h₀ env.locals h m₁ → News h₀ env.locals h news₁ →
      wpAny (model prog w) A (assign target env v) (fun _ s₂ => wpAny (model prog w) A (execs body env) (TEndS Φ HB env.locals R₁ (Inv (i + 1)) { s with heap := h, toks := tk } Q) E s₂) E { s with heap := h, toks := tk })
    (done : ∀ h₀ m' x' news' h' tk, HB h₀ → Inv kvs.length m' x' → Φ x' R news' → Fr h₀ env.locals h' m' → News h₀ env.locals h' news' → Q .next { s with heap := h', toks := tk }) :
    wpAny (model prog w) A (pyIter (.ref d)) (fun it s₂ => LoopM prog w A env target body Q E it s₂) E s := by
  have hg := (N _ (FΦ.sub hΦ _ hl)).1
  refine genC ?_
  intro C9 kC9
  obtain ⟨es, ep, h1, h2, h3, h4, h5⟩ := hd
  refine kC9 ?_
  clear kC9 C9
  have hm : s.heap.DictAt knd d kvs ep := ⟨o, es, hg, h1, h2, h3, h4, h5⟩
  have hlt : d < s.heap.objs.size := Heap.lt_size hg
  refine iter_walkS FΦ Inv (fun Q' q => wpAny_pyIter_dict lo hm q) (Walks.dictKeys (knd := knd) hh s.heap.objs.size d (Nat.ne_of_lt hlt) kvs ep) (by simp) ?_ (fun i h st => let ⟨o, ho, _⟩ := st.1; ⟨o, ho⟩)
    ⟨⟨_, Heap.get?_push_size _ rfl, rfl, rfl⟩, hm.at' fun o e => Heap.get?_push_of_some _ e⟩ hb hHB F N (fun i s' v Q' E' hP st q => by rw [hgo]; exact wpAny_pure q) hΦ h0 ?_ done
  · intro b hb
    rcases List.mem_cons.mp hb with e | hb
    · exact .inl e
    · rw [List.mem_singleton.mp hb]; exact .inr ⟨_, fun _ _ _ _ _ q _ f => FΦ.sub f _ (q _ hl)⟩
  · intro h₀ i v m₁ x₁ R₁ news₁ h tk hb hi hr911 hI hR hΦ₁ F₁ N₁
    refine genC ?_
    intro C9 kC9
    obtain ⟨k, x, hk, hv⟩ := hr911
    refine kC9 ?_
    clear kC9 C9
    exact turn h₀ i k x v m₁ x₁ R₁ news₁ h tk hb hi hk hv hI hR hΦ₁ F₁ N₁
end
end
section
open PySem PySem.W PySem.Calls PyProof.Rows PyProof.Rows.LCg
abbrev cellObj (v : Option Value) : Obj := { cls := .type "cell", data := .cell v }
section
variable {prog : Program} {w : World} {A : Around} {E : Value → Shared → Prop} {s : Shared} {h₀ : Heap} {L : Addr} {m : Str → Option Value} {env : Env} {elt target iter : Expr} {ifs : List Expr} {scope : Scope} {cl : List (Str × Addr)} {pos : Pos} {R : Led} {Q : Value → Shared → Prop}
/-- a comprehension whose one name lies in a cell -/
theorem comp_coreK {x : Str} {px : Pos} {I : Addr} {n : Nat} {P : Nat → Value → Prop} {St : Nat → Heap → Prop} (Inv : Nat → List Value → Led → Prop) (ht : target = .Name x px)
    (W : Walks prog w A I [I] [I] n P St) (hsz : n ≤ sizeLine) (live : ∀ i h, St i h → ∃ o, h.get? I = some o)
    (hcf : ∀ n, cellsFrom n scope.names cl = (x, n) :: cl) (hpc : ∀ h, pushCells h scope.names = h.push (cellObj none)) (hx : scope.names.lookup x = some .cell) (hkind : scope.kind = .function)
    (hkx : ∀ c C, (compEnvC scope c C env).kindOf x = some .cell) (hst : St 0 s.heap) (F : Fr h₀ L s.heap m) (N : News h₀ L s.heap R) (hIL : L ≠ I) (hI₀ : h₀.get? I = none) (hIn : I < s.heap.objs.size) (offI : ∀ p ∈ R, p.1 ≠ I)
    (hgo : ∀ i (s' : Shared) v (Q' : Unit → Shared → Prop) E', P i v → St (i + 1) s'.heap → Q' () s' → wpAny (model prog w) A (letOwnedTupleGo target (.ref I) v) Q' E' s')
    (h0 : Inv 0 [] [])
    (turn : ∀ i v oI C oC Ck oK D ys K h tk E', i < n → P i v → Inv i ys K → NsObj oC (fun _ => none) → oK.data = .cell (some v) → Fr h₀ L h m → News h₀ L h ((I, oI) :: (C, oC) :: (D, lst ys) :: (K ++ (Ck, oK) :: R)) → Off I C D (K ++ (Ck, oK) :: R) → (@Ne Nat I C ∧ @Ne Nat I D ∧ @Ne Nat C D) → (∀ p ∈ K, p.1 ≠ Ck) → (∀ p ∈ R, p.1 ≠ Ck) →
      wpAny (model prog w) A (forIn ifs true fun c r => if r = true then do let ok ← isTrue c (compEnvC scope ((x, Ck) :: cl) C env) (eval c (compEnvC scope ((x, Ck) :: cl) C env)); pure (ForInStep.yield ok) else pure (ForInStep.yield r)) (fun ok s₃ =>
        if ok = true then wpAny (model prog w) A (eval elt (compEnvC scope ((x, Ck) :: cl) C env)) (fun y s₄ => CEnd h₀ L m { s with heap := h, toks := tk } I oI C oC D (lst ys) ((Ck, oK) :: R) (fun K' => Inv (i + 1) (ys ++ [y]) K' ∧ ∀ p ∈ K', p.1 ≠ Ck) s₄) E' s₃
        else CEnd h₀ L m { s with heap := h, toks := tk } I oI C oC D (lst ys) ((Ck, oK) :: R) (fun K' => Inv (i + 1) ys K' ∧ ∀ p ∈ K', p.1 ≠ Ck) s₃) E' { s with heap := h, toks := tk })
    (done : ∀ D ys K h tk, Inv n ys K → Fr h₀ L h m → News h₀ L h ((D, lst ys) :: (K ++ R)) → (∀ p ∈ K ++ R, p.1 ≠ D) → (∀ p ∈ R, @LT.lt Nat instLTNat p.1 D) → Q (.ref D) { s with heap := h, toks := tk }) :
    CompM prog w A env elt target iter ifs scope cl pos Q E (.ref I) s := by
  subst ht
  unfold CompM
  refine wpAny_newObj_type ?_
  generalize hH2 : s.heap.push { cls := .type "list", dict := none, data := .seq ([] : List Value).toArray } = H2
  simp only [newFunctionEnv, Option.isSome_some, if_true]
  refine wpAny_bind (wpAny_alloc ?_)
  refine wpAny_bind (wpAny_layCells _ (fun name kind cells => by cases hkc : kind == NameKind.cell <;> simp [hkc]) _ _ _ _ ?_)
  dsimp only
  rw [hcf, hpc]
  rw [List.forIn_nil]
  refine wpAny_bind (wpAny_pure (wpAny_pure ?_))
  dsimp only
  have hC : H2.objs.size = s.heap.objs.size + 1 := by rw [← hH2, Heap.size_push]
  rw [Heap.size_push]
  generalize hh₁ : (H2.push { cls := Value.type "dict", data := Data.dict #[] }).push (cellObj none) = h₁
  have hDC : s.heap.objs.size ≠ H2.objs.size := by rw [hC]; exact Nat.ne_of_lt (Nat.lt_succ_self _)
  have hCK : H2.objs.size ≠ H2.objs.size + 1 := Nat.ne_of_lt (Nat.lt_succ_self _)
  have hDK : s.heap.objs.size ≠ H2.objs.size + 1 := by rw [hC]; omega
  have below : ∀ b, b < s.heap.objs.size → b ≠ H2.objs.size ∧ b ≠ s.heap.objs.size ∧ b ≠ H2.objs.size + 1 := fun b hb => ⟨by rw [hC]; omega, by omega, by rw [hC]; omega⟩
  have old : ∀ b o, s.heap.get? b = some o → h₁.get? b = some o := fun b o e => hh₁ ▸ Heap.get?_push_of_some _ (Heap.get?_push_of_some _ (hH2 ▸ Heap.get?_push_of_some _ e))
  have hacc : h₁.get? s.heap.objs.size = some (lst []) := hh₁ ▸ Heap.get?_push_of_some _ (Heap.get?_push_of_some _ (hH2 ▸ Heap.get?_push_size _ rfl))
  have hns₁ : h₁.Ns H2.objs.size (fun _ => none) := hh₁ ▸ (Heap.Ns.new H2 (.type "dict")).keeps (fun b o e => Heap.get?_push_of_some _ e)
  have hcell : h₁.get? (H2.objs.size + 1) = some (cellObj none) := by
    have := Heap.get?_push_size (H2.push { cls := Value.type "dict", data := Data.dict #[] }) (o := cellObj none) rfl
    rw [Heap.size_push] at this
    rw [← hh₁]; exact this
  have hst₁ : St 0 h₁ := W.frame _ _ _ hst fun b _ o e => old b o e
  have fresh₀ : ∀ a, s.heap.objs.size ≤ a → h₀.get? a = none := fun a ha => by
    cases e : h₀.get? a with
    | none => rfl
    | some o' => exact absurd (Heap.lt_size (F.keep a o' e)) (Nat.not_lt.mpr ha)
  have hD₀ : h₀.get? s.heap.objs.size = none := fresh₀ _ (Nat.le_refl _)
  have hC₀ : h₀.get? H2.objs.size = none := fresh₀ _ (by rw [hC]; exact Nat.le_succ _)
  have hK₀ : h₀.get? (H2.objs.size + 1) = none := fresh₀ _ (by rw [hC]; omega)
  have hLlt : L < s.heap.objs.size := F.ns.lt
  have hDL : s.heap.objs.size ≠ L := Ne.symm (below L hLlt).2.1
  have hCL : H2.objs.size ≠ L := Ne.symm (below L hLlt).1
  have hKL : H2.objs.size + 1 ≠ L := Ne.symm (below L hLlt).2.2
  have hCI : I ≠ H2.objs.size := (below I hIn).1
  have hDI : I ≠ s.heap.objs.size := (below I hIn).2.1
  have hKI : I ≠ H2.objs.size + 1 := (below I hIn).2.2
  have offR : Off I H2.objs.size s.heap.objs.size R := fun p hp => ⟨offI p hp, (below _ (Heap.lt_size (N p hp).1)).1, (below _ (Heap.lt_size (N p hp).1)).2.1⟩
  have offRK : ∀ p ∈ R, p.1 ≠ H2.objs.size + 1 := fun p hp => (below _ (Heap.lt_size (N p hp).1)).2.2
  have loop : ∀ s₃ : Shared, s₃ = { s with heap := h₁ } →
      codeAny (model prog w) A (.compLoop (.ListComp elt [⟨.Name x px, iter, ifs, 0⟩] scope pos) 0 (.ref I) (.ref s.heap.objs.size) (compEnvC scope ((x, H2.objs.size + 1) :: cl) H2.objs.size env))
        (compPost (model prog w) A E none Q (.ref s.heap.objs.size) H2.objs.size) s₃ := by
    rintro s₃ rfl
    refine comp_loop
      (fun k s' => ∃ h' tk i ys K oK, s' = { s with heap := h', toks := tk } ∧ i ≤ n ∧ k = n + 1 - i ∧ ys.length ≤ i ∧ St i h' ∧ Fr h₀ L h' m ∧ h'.Ns H2.objs.size (fun _ => none) ∧ News h₀ L h' ((s.heap.objs.size, lst ys) :: (K ++ (H2.objs.size + 1, oK) :: R)) ∧
        (∃ v, oK.data = .cell v) ∧ Off I H2.objs.size s.heap.objs.size K ∧ (∀ p ∈ K, p.1 ≠ H2.objs.size + 1) ∧ Inv i ys K) ?_ (n + 1)
      ⟨h₁, s.toks, 0, [], [], cellObj none, rfl, Nat.zero_le _, rfl, Nat.le_refl _, hst₁, F.keeps old, hns₁, fun p hp => ?_, ⟨none, rfl⟩, (fun _ h => nomatch h), (fun _ h => nomatch h), h0⟩
    · intro k s' hr92
      refine genC ?_
      intro C9 kC9
      obtain ⟨h', tk, i, ys, K, oK, rfl, hi, rfl, hyl, hst', F', hn', N', ⟨vK, hvK⟩, off', offK, hJ⟩ := hr92
      refine kC9 ?_
      clear kC9 C9
      have offKR : Off I H2.objs.size s.heap.objs.size (K ++ (H2.objs.size + 1, oK) :: R) := fun p hp => by
        rcases List.mem_append.mp hp with hp | hp
        · exact off' p hp
        · rcases List.mem_cons.mp hp with rfl | hp
          · exact ⟨Ne.symm hKI, Ne.symm hCK, Ne.symm hDK⟩
          · exact offR p hp
      by_cases hlt : i < n
      · refine W.item i _ _ _ hlt hst' fun v h₂ tk₂ hPv hst₂ hk₂ => ?_
        have hn₂ : h₂.Ns H2.objs.size (fun _ => none) := hn'.at' fun o e => hk₂ _ o (by simpa using Ne.symm hCI) e
        have F₂ : Fr h₀ L h₂ m := fr_but F' hk₂ hIL hI₀
        have N₂ : News h₀ L h₂ ((s.heap.objs.size, lst ys) :: (K ++ (H2.objs.size + 1, oK) :: R)) := news_but N' hk₂ fun p hp => by
          rcases List.mem_cons.mp hp with rfl | hp
          · exact Ne.symm hDI
          · exact (offKR p hp).1
        refine hgo i _ v _ _ hPv hst₂ ?_
        have hcK := (N₂ (H2.objs.size + 1, oK) (List.mem_cons_of_mem _ (List.mem_append_right _ (.head _)))).1
        refine wpAny_assign_Name (wpAny_storeName_cell (env := compEnvC scope ((x, H2.objs.size + 1) :: cl) H2.objs.size env) (c := H2.objs.size + 1) hkind (hkx _ _) (by show List.lookup x ((x, H2.objs.size + 1) :: cl) = _; rw [List.lookup_cons]; simp) ⟨oK, hcK, hvK⟩ fun h₃ hv₃ hs₃ => ?_)
        refine genC ?_
        intro C9 kC9
        obtain ⟨oK', hK', hdK'⟩ := hv₃
        refine kC9 ?_
        clear kC9 C9
        have hk₃ : ∀ b o, b ≠ H2.objs.size + 1 → h₂.get? b = some o → h₃.get? b = some o := fun b o hb e => hs₃.extBut b o hb e
        have hst₃ : St (i + 1) h₃ := W.frame _ _ _ hst₂ fun b hb o e => hk₃ b o (by rw [List.mem_singleton.mp hb]; exact hKI) e
        have hn₃ : h₃.Ns H2.objs.size (fun _ => none) := hn₂.at' fun o e => hk₃ _ o hCK e
        refine genC ?_
        intro C9 kC9
        obtain ⟨oI, heI⟩ := live _ _ hst₃
        obtain ⟨oC, heC, hoC⟩ := ns_obj hn₃
        refine kC9 ?_
        clear kC9 C9
        have F₃ : Fr h₀ L h₃ m := ⟨F₂.ns.at' fun o e => hk₃ L o (Ne.symm hKL) e, fun b o e => hk₃ b o (by rintro rfl; rw [hK₀] at e; cases e) (F₂.keep b o e), F₂.above⟩
        have N₃ : News h₀ L h₃ ((I, oI) :: (H2.objs.size, oC) :: (s.heap.objs.size, lst ys) :: (K ++ (H2.objs.size + 1, oK') :: R)) := fun p hp => by
          rcases List.mem_cons.mp hp with rfl | hp
          · exact ⟨heI, Ne.symm hIL, hI₀⟩
          · rcases List.mem_cons.mp hp with rfl | hp
            · exact ⟨heC, hCL, hC₀⟩
            · rcases List.mem_cons.mp hp with rfl | hp
              · have z := N₂ _ (.head _)
                exact ⟨hk₃ _ _ hDK z.1, z.2⟩
              · rcases List.mem_append.mp hp with hp | hp
                · have z := N₂ p (List.mem_cons_of_mem _ (List.mem_append_left _ hp))
                  exact ⟨hk₃ _ _ (offK p hp) z.1, z.2⟩
                · rcases List.mem_cons.mp hp with rfl | hp
                  · exact ⟨hK', hKL, hK₀⟩
                  · have z := N₂ p (List.mem_cons_of_mem _ (List.mem_append_right _ (.tail _ hp)))
                    exact ⟨hk₃ _ _ (offRK p hp) z.1, z.2⟩
        have offKR' : Off I H2.objs.size s.heap.objs.size (K ++ (H2.objs.size + 1, oK') :: R) := fun p hp => by
          rcases List.mem_append.mp hp with hp | hp
          · exact off' p hp
          · rcases List.mem_cons.mp hp with rfl | hp
            · exact ⟨Ne.symm hKI, Ne.symm hCK, Ne.symm hDK⟩
            · exact offR p hp
        refine wpAny_mono (turn i v oI H2.objs.size oC (H2.objs.size + 1) oK' s.heap.objs.size ys K h₃ tk₂ _ hlt hPv hJ hoC hdK' F₃ N₃ offKR' ⟨hCI, hDI, Ne.symm hDC⟩ offK offRK) (fun ok s₄ h₄ => ?_) fun _ _ e => e
        have st4 : ∀ h₄ all K', News h₀ L h₄ all → (∀ p ∈ (I, oI) :: (H2.objs.size, oC) :: (s.heap.objs.size, lst ys) :: (K' ++ (H2.objs.size + 1, oK') :: R), p ∈ all) → St (i + 1) h₄ := fun h₄ all K' N₄ sub => by
          refine W.frame _ _ _ hst₃ fun b hb o e => ?_
          rw [List.mem_singleton.mp hb] at e ⊢
          rw [heI] at e; cases e; exact (N₄ _ (sub _ (.head _))).1
        cases ok with
        | false =>
          refine genC ?_
          intro C9 kC9
          obtain ⟨h₄', tk₄, K', all, rfl, F₄, N₄, sub, off₄, J₄, offK₄⟩ := h₄
          refine kC9 ?_
          clear kC9 C9
          exact ⟨n + 1 - (i + 1), by omega, h₄', tk₄, i + 1, ys, K', oK', rfl, hlt, rfl, Nat.le_succ_of_le hyl, st4 _ _ _ N₄ sub, F₄, hoC.ns (N₄ _ (sub _ (List.mem_cons_of_mem _ (.head _)))).1, fun p hp => N₄ p (sub p (List.mem_cons_of_mem _ (List.mem_cons_of_mem _ hp))), ⟨_, hdK'⟩, off₄, offK₄, J₄⟩
        | true =>
          refine wpAny_mono h₄ (fun y s₅ h₅ => ?_) fun _ _ e => e
          refine genC ?_
          intro C9 kC9
          obtain ⟨h₄', tk₄, K', all, rfl, F₄, N₄, sub, off₄, J₄, offK₄⟩ := h₅
          refine kC9 ?_
          clear kC9 C9
          have zC := (N₄ _ (sub _ (List.mem_cons_of_mem _ (.head _)))).1
          have zD := (N₄ _ (sub _ (List.mem_cons_of_mem _ (List.mem_cons_of_mem _ (.head _))))).1
          have N₄' : News h₀ L h₄' (K' ++ (H2.objs.size + 1, oK') :: R) := fun p hp => N₄ p (sub p (List.mem_cons_of_mem _ (List.mem_cons_of_mem _ (List.mem_cons_of_mem _ hp))))
          have off₄' : ∀ p ∈ K' ++ (H2.objs.size + 1, oK') :: R, p.1 ≠ s.heap.objs.size := fun p hp => by
            rcases List.mem_append.mp hp with hp | hp
            · exact (off₄ p hp).2.2
            · rcases List.mem_cons.mp hp with rfl | hp
              · exact Ne.symm hDK
              · exact (offR p hp).2.2
          refine append_at (hsz := by show ys.toArray.size ≤ sizeLine; rw [List.size_toArray]; exact Nat.le_trans hyl (Nat.le_trans hi hsz)) zD fun h₅ hs₅ hD₅ => ?_
          refine ⟨n + 1 - (i + 1), by omega, h₅, tk₄, i + 1, ys ++ [y], K', oK', rfl, hlt, rfl, by rw [List.length_append, List.length_singleton]; omega, W.frame _ _ _ (st4 _ _ _ N₄ sub) fun b hb o e => hs₅.extBut b o (by
              rw [List.mem_singleton.mp hb]; exact hDI) e, F₄.change hs₅ hDL hD₀,
            (hoC.ns zC).sameBut hs₅ (Ne.symm hDC), fun p hp => ?_, ⟨_, hdK'⟩, off₄, offK₄, J₄⟩
          rcases List.mem_cons.mp hp with rfl | hp
          · exact ⟨hD₅.trans (congrArg some (lst_snoc ys y)), hDL, hD₀⟩
          · exact ⟨hs₅.extBut _ _ (off₄' p hp) (N₄' p hp).1, (N₄' p hp).2⟩
      · obtain rfl : i = n := Nat.le_antisymm hi (Nat.not_lt.mp hlt)
        refine W.done _ _ _ hst' fun h₂ tk₂ hk₂ => ?_
        have N₂ : News h₀ L h₂ ((s.heap.objs.size, lst ys) :: (K ++ (H2.objs.size + 1, oK) :: R)) := news_but N' hk₂ fun p hp => by
          rcases List.mem_cons.mp hp with rfl | hp
          · exact Ne.symm hDI
          · exact (offKR p hp).1
        refine ⟨_, hn'.at' fun o e => hk₂ _ o (by simpa using Ne.symm hCI) e, fun h'' hs'' => ?_⟩
        refine done _ ys K h'' tk₂ hJ ((fr_but F' hk₂ hIL hI₀).change hs'' hCL hC₀) (fun p hp => ?_) (fun p hp => ?_) (fun p hp => Heap.lt_size (N p hp).1)
        · have hp' : p ∈ (s.heap.objs.size, lst ys) :: (K ++ (H2.objs.size + 1, oK) :: R) := by
            simp only [List.mem_cons, List.mem_append] at hp ⊢
            rcases hp with h | h | h
            · exact .inl h
            · exact .inr (.inl h)
            · exact .inr (.inr (.inr h))
          refine ⟨hs''.extBut _ _ ?_ (N₂ p hp').1, (N₂ p hp').2⟩
          rcases List.mem_cons.mp hp' with rfl | hp'
          · exact hDC
          · exact (offKR p hp').2.1
        · rcases List.mem_append.mp hp with hp | hp
          · exact (off' p hp).2.2
          · exact (offR p hp).2.2
    · rcases List.mem_cons.mp hp with rfl | hp
      · exact ⟨hacc, hDL, hD₀⟩
      · rcases List.mem_cons.mp hp with rfl | hp
        · exact ⟨hcell, hKL, hK₀⟩
        · exact ⟨old _ _ (N p hp).1, (N p hp).2⟩
  exact codeAny_compStart_list (loop _ rfl) (W.self 0 _ _ _ hst₁ (loop _ rfl))
theorem comp_rangeK {x : Str} {px : Pos} {r : Addr} {a₀ b₀ : Int} {t₀ u₀ v₀ : Tok} {n : Nat} (Inv : Nat → List Value → Led → Prop) (hh : A.handled = none) (ht : target = .Name x px)
    (hr : IsRange s.heap r a₀ b₀ 1 t₀ u₀ v₀) (hsmall : Builtin.Range.small a₀ b₀ 1 = true) (hn : Builtin.Range.rangeSize a₀ b₀ 1 = (n : Int)) (hsz : n ≤ sizeLine)
    (hcf : ∀ n, cellsFrom n scope.names cl = (x, n) :: cl) (hpc : ∀ h, pushCells h scope.names = h.push (cellObj none)) (hx : scope.names.lookup x = some .cell) (hkind : scope.kind = .function)
    (hkx : ∀ c C, (compEnvC scope c C env).kindOf x = some .cell) (F : Fr h₀ L s.heap m) (N : News h₀ L s.heap R) (h0 : Inv 0 [] [])
    (turn : ∀ i v I oI C oC Ck oK D ys K h tk E', i < n → (∃ t, v = .int (a₀ + i) t) → Inv i ys K → NsObj oC (fun _ => none) → oK.data = .cell (some v) → Fr h₀ L h m → News h₀ L h ((I, oI) :: (C, oC) :: (D, lst ys) :: (K ++ (Ck, oK) :: R)) → Off I C D (K ++ (Ck, oK) :: R) → (@Ne Nat I C ∧ @Ne Nat I D ∧ @Ne Nat C D) → (∀ p ∈ K, p.1 ≠ Ck) → (∀ p ∈ R, p.1 ≠ Ck) →
      wpAny (model prog w) A (forIn ifs true fun c r => if r = true then do let ok ← isTrue c (compEnvC scope ((x, Ck) :: cl) C env) (eval c (compEnvC scope ((x, Ck) :: cl) C env)); pure (ForInStep.yield ok) else pure (ForInStep.yield r)) (fun ok s₃ =>
        if ok = true then wpAny (model prog w) A (eval elt (compEnvC scope ((x, Ck) :: cl) C env)) (fun y s₄ => CEnd h₀ L m { s with heap := h, toks := tk } I oI C oC D (lst ys) ((Ck, oK) :: R) (fun K' => Inv (i + 1) (ys ++ [y]) K' ∧ ∀ p ∈ K', p.1 ≠ Ck) s₄) E' s₃
        else CEnd h₀ L m { s with heap := h, toks := tk } I oI C oC D (lst ys) ((Ck, oK) :: R) (fun K' => Inv (i + 1) ys K' ∧ ∀ p ∈ K', p.1 ≠ Ck) s₃) E' { s with heap := h, toks := tk })
    (done : ∀ D ys K h tk, Inv n ys K → Fr h₀ L h m → News h₀ L h ((D, lst ys) :: (K ++ R)) → (∀ p ∈ K ++ R, p.1 ≠ D) → (∀ p ∈ R, @LT.lt Nat instLTNat p.1 D) → Q (.ref D) { s with heap := h, toks := tk }) :
    wpAny (model prog w) A (pyIter (.ref r)) (fun it s₂ => CompM prog w A env elt target iter ifs scope cl pos Q E it s₂) E s := by
  refine wpAny_pyIter_range hr hsmall ?_
  refine comp_coreK (s := { s with heap := s.heap.push _ }) (I := s.heap.objs.size) Inv ht (Walks.range hh s.heap.objs.size a₀ 1 n) hsz (fun i h st => ⟨_, st⟩) hcf hpc hx hkind hkx
    (by show IsRangeIter _ _ _ _ _; rw [hn]; simpa using Heap.get?_push_size _ rfl) (F.push _) (fun p hp => ⟨Heap.get?_push_of_some _ (N p hp).1, (N p hp).2⟩) (Nat.ne_of_lt F.ns.lt) (next_is_new F)
    (by show s.heap.objs.size < (s.heap.push _).objs.size; rw [Heap.size_push]; exact Nat.lt_succ_self _) (fun p hp => Nat.ne_of_lt (Heap.lt_size (N p hp).1))
    (fun i s' v Q' E' _ _ q => by subst ht; exact wpAny_pure q) h0 (fun i v oI C oC Ck oK D ys K h tk E' hi hP => ?_) done
  refine turn i v _ oI C oC Ck oK D ys K h tk E' hi ?_
  obtain ⟨t, rfl⟩ := hP
  exact ⟨t, by rw [Int.mul_one]⟩
end
end
section
open PySem PySem.W PySem.Calls PyProof.Rows PyProof.Rows.LCg
set_option maxRecDepth 100000
abbrev valsView (d : Addr) : Obj := { cls := .type "dict_values", data := .fields #[.ref d] }
section
variable {prog : Program} {w : World} {A : Around} {s : Shared} {env : Env} {h₀ : Heap} {L : Addr} {E : Value → Shared → Prop} {Q : Value → Shared → Prop} {elt target iter : Expr} {ifs : List Expr} {scope : Scope} {cl : List (Str × Addr)} {pos : Pos} {m : Str → Option Value} {R : Led}
theorem comp_values {x : Str} {px : Pos} {d vw : Addr} {o : Obj} {K : Type} [DecidableEq K] {knd : KeyKind prog w K} {kvs : List (K × Value)} (Inv : Nat → List Value → Led → Prop) (hh : A.handled = none) (ht : target = .Name x px)
    (hv : (vw, valsView d) ∈ R) (hl : (d, o) ∈ R) (hd : o.IsDictOf knd kvs) (hsz : kvs.length ≤ sizeLine)
    (hcell : ∀ y ∈ scope.names, y.2 ≠ .cell) (hkind : scope.kind = .function) (hx : scope.names.lookup x = some .local) (F : Fr h₀ L s.heap m) (N : News h₀ L s.heap R) (h0 : Inv 0 [] [])
    (turn : ∀ i v I oI C oC D ys K m₂ h tk E', i < kvs.length → (∃ k, kvs[i]? = some (k, v)) → Inv i ys K → m₂ x = some v → NsObj oC m₂ → Fr h₀ L h m → News h₀ L h ((I, oI) :: (C, oC) :: (D, lst ys) :: (K ++ R)) → Off I C D (K ++ R) → (@Ne Nat I C ∧ @Ne Nat I D ∧ @Ne Nat C D) →
      wpAny (model prog w) A (forIn ifs true fun c r => if r = true then do let ok ← isTrue c (compEnvC scope cl C env) (eval c (compEnvC scope cl C env)); pure (ForInStep.yield ok) else pure (ForInStep.yield r)) (fun ok s₃ =>
        if ok = true then wpAny (model prog w) A (eval elt (compEnvC scope cl C env)) (fun y s₄ => CEnd h₀ L m { s with heap := h, toks := tk } I oI C oC D (lst ys) R (Inv (i + 1) (ys ++ [y])) s₄) E' s₃
        else CEnd h₀ L m { s with heap := h, toks := tk } I oI C oC D (lst ys) R (Inv (i + 1) ys) s₃) E' { s with heap := h, toks := tk })
    (done : ∀ D ys K h tk, Inv kvs.length ys K → Fr h₀ L h m → News h₀ L h ((D, lst ys) :: (K ++ R)) → (∀ p ∈ K ++ R, p.1 ≠ D) → (∀ p ∈ R, @LT.lt Nat instLTNat p.1 D) → Q (.ref D) { s with heap := h, toks := tk }) :
    wpAny (model prog w) A (pyIter (.ref vw)) (fun it s₂ => CompM prog w A env elt target iter ifs scope cl pos Q E it s₂) E s := by
  subst ht
  have hg := (N _ hl).1
  refine genC ?_
  intro C9 kC9
  obtain ⟨es, ep, h1, h2, h3, h4, h5⟩ := hd
  refine kC9 ?_
  clear kC9 C9
  have hm : s.heap.DictAt knd d kvs ep := ⟨o, es, hg, h1, h2, h3, h4, h5⟩
  have hvv : s.heap.IsValuesView vw d := ⟨_, (N _ hv).1, rfl, rfl⟩
  have hlt : d < s.heap.objs.size := Heap.lt_size hg
  refine comp_iter (fun _ v m₂ => m₂ x = some v) Inv (fun Q' q => wpAny_pyIter_values hvv hm q) (Walks.dictValues (knd := knd) hh s.heap.objs.size d (Nat.ne_of_lt hlt) kvs ep) hsz (by simp) ?_ (fun i h st => let ⟨o, ho, _⟩ := st.1; ⟨o, ho⟩) hcell hkind
    ⟨⟨_, Heap.get?_push_size _ rfl, rfl, rfl⟩, hm.push _⟩ F N (fun _ _ _ _ _ _ _ q => wpAny_pure q) (fun C i v s' m' Q' E' _ hn' _ h => asg_name hkind hx hn' h) h0 turn done
  intro b hb
  rcases List.mem_cons.mp hb with e | hb
  · exact .inl e
  · rw [List.mem_singleton.mp hb]; exact .inr (.inr ⟨_, hl⟩)
end
end
section
set_option maxRecDepth 100000
section
variable {prog : Program} {w : World} {A : Around} {E : Value → Shared → Prop} {s : Shared}
theorem sorted_tup {h₀ : Heap} {L : Addr} {m : Str → Option Value} {news : Led} {l : Addr} {vs : List Value} {ns : List Int} {n : Nat} {Q : Value → Shared → Prop}
    (F : Fr h₀ L s.heap m) (N : News h₀ L s.heap news) (hl : (l, tupObj vs.toArray n) ∈ news) (hI : IntsAre vs ns) (h64 : vs.length < 64)
    (h : ∀ (D : Addr) (vs' : List Value) (ns' : List Int) (e : Nat) (h' : Heap), Fr h₀ L h' m → News h₀ L h' ((D, listOf vs'.toArray e) :: news) → (∀ p ∈ news, @LT.lt Nat instLTNat p.1 D) →
      IntsAre vs' ns' → ns'.Perm ns → ns'.Pairwise (· ≤ ·) → Q (.ref D) { s with heap := h' }) :
    wpAny (model prog w) A (call (.builtin "sorted") [.ref l]) Q E s := by
  refine Calls.call_function_entry kind_sorted plain_sorted entry_sorted (args_sorted1 _) ?_
  unfold Builtin.«sorted»
  refine wpAny_bind (m := checkCount "sorted" 1 1 _) (wpAny_pure ?_)
  refine wpAny_bind (wpAny_collect_seq l (T := "tuple") (.inr rfl) (N _ hl).1 rfl rfl (fun h₁ k₁ => ?_) (by rw [sizeLine_eq, List.size_toArray]; omega))
  have F₁ : Fr h₀ L h₁ m := F.kept k₁
  have N₁ : News h₀ L h₁ news := fun p hp => ⟨k₁ _ _ (N p hp).1, (N p hp).2⟩
  refine wpAny_bind (wpAny_newList ?_)
  have hoL : (h₁.push (seqObj "list" vs.toArray 0)).get? h₁.objs.size = some (seqObj "list" vs.toArray 0) := Heap.get?_push_size _ rfl
  show wpAny _ _ _ _ _ { s with heap := h₁.push (seqObj "list" vs.toArray 0) }
  refine wpAny_bind (wpAny_holding (wpAny_call_entry slot_list_sort ⟨_, hoL, rfl⟩ entry_list_sort (list_sort_tree hoL hI h64 fun out ns' a1 a2 a3 => ⟨_, rfl, ?_⟩) (args_list_sort _)))
  have old : ∀ b o, h₁.get? b = some o → (sortedHeap (h₁.push (seqObj "list" vs.toArray 0)) h₁.objs.size vs out).get? b = some o := fun b o hb => by
    have hlt := Heap.lt_size hb
    rw [sortedHeap_old (Nat.ne_of_lt hlt) (by rw [size_push']; exact Nat.lt_succ_of_lt hlt), Heap.get?_push_ne _ _ _ (Nat.ne_of_lt hlt)]
    exact hb
  obtain ⟨e, he⟩ := sortedHeap_at (out := out) hoL
  exact wpAny_pure ⟨_, rfl, h _ out.toList ns' e _ (F₁.kept old) (N₁.kept_cons F₁ old (Nat.le_refl _) he) (fun p hp => Heap.lt_size (N₁ p hp).1) a1 a2 a3⟩
end
end
local macro_rules | `(tactic| k_room) => `(tactic| ktr_room)
local macro_rules | `(tactic| k_units) => `(tactic| ktr_units)
local macro_rules | `(tactic| k_all) => `(tactic| first | with_reducible assumption | (refine Ne.symm ?_; with_reducible assumption) | (refine offL_ne ?_; first | exact List.Mem.head _ | exact List.Mem.tail _ (List.Mem.head _) | exact List.Mem.tail _ (List.Mem.tail _ (List.Mem.head _)) | exact List.Mem.tail _ (List.Mem.tail _ (List.Mem.tail _ (List.Mem.head _))) | exact List.Mem.tail _ (List.Mem.tail _ (List.Mem.tail _ (List.Mem.tail _ (List.Mem.head _)))) | exact List.Mem.tail _ (List.Mem.tail _ (List.Mem.tail _ (List.Mem.tail _ (List.Mem.tail _ (List.Mem.head _)))))) | (intro p9 hp9; (repeat ((rename (_ ∧ _) => h9); (rcases h9 with ⟨h9a, h9b⟩))); (repeat ((rename (AllLt _ _) => h9); first | (have h9' := allLt_mem h9 p9 hp9; clear h9) | clear h9)); (repeat ((rename (∀ p : PySem.Addr × PySem.Obj, p ∈ (_ : List (PySem.Addr × PySem.Obj)) → Prod.fst p < _) => h9); first | (have h9' := ltN (h9 p9 hp9); clear h9) | clear h9)); refine neN ?_; omega))
local macro_rules | `(tactic| walk_at "call ref") => `(tactic| (k_here; (first | (with_reducible show wpAny _ _ (call (Value.ref 80) _) _ _ _) | (with_reducible show wpAny _ _ (call (Value.ref 87) _) _ _ _) | (with_reducible show wpAny _ _ (call (Value.ref 92) _) _ _ _) | (with_reducible show wpAny _ _ (call (Value.ref 99) _) _ _ _) | (with_reducible show wpAny _ _ (call (Value.ref 106) _) _ _ _) | (with_reducible show wpAny _ _ (call (Value.ref 120) _) _ _ _) | (with_reducible show wpAny _ _ (call (Value.ref 127) _) _ _ _) | (with_reducible show wpAny _ _ (call (Value.ref 137) _) _ _ _) | (with_reducible show wpAny _ _ (call (Value.ref 148) _) _ _ _) | (with_reducible show wpAny _ _ (call (Value.ref 155) _) _ _ _) | (with_reducible show wpAny _ _ (call (Value.ref 162) _) _ _ _) | (with_reducible show wpAny _ _ (call (Value.ref 167) _) _ _ _) | (with_reducible show wpAny _ _ (call (Value.ref 172) _) _ _ _) | (with_reducible show wpAny _ _ (call (Value.ref 179) _) _ _ _) | (with_reducible show wpAny _ _ (call (Value.ref 186) _) _ _ _) | (with_reducible show wpAny _ _ (call (Value.ref 193) _) _ _ _) | (with_reducible show wpAny _ _ (call (Value.ref 200) _) _ _ _) | (with_reducible show wpAny _ _ (call (Value.ref 205) _) _ _ _) | (with_reducible show wpAny _ _ (call (Value.ref 210) _) _ _ _) | (with_reducible show wpAny _ _ (call (Value.ref 217) _) _ _ _) | (with_reducible show wpAny _ _ (call (Value.ref 222) _) _ _ _)); refine halt ?_))
local macro_rules | `(tactic| k_mem) => `(tactic| first | exact List.Mem.head _ | ktr_member | (refine List.mem_cons_of_mem _ ?_; k_mem))
local macro_rules | `(tactic| walk_at "execs cons") => `(tactic| (k_here; first | k_gentoks | ((with_reducible refine wpAny_execs_cons ?_); (try dsimp only); (try k_fold))))
local macro_rules | `(tactic| k_ne) => `(tactic| first | with_reducible assumption | (refine Ne.symm ?_; with_reducible assumption))
section
theorem rs_G2 : True := by
  w_top off
  exact True.intro
def SA.ins (a : SA) (k : Int) : SA := if k ∈ a.D then a else { a with D := a.D ++ [k], np := upd a.np k 0, sc := upd a.sc k [] }
theorem valueAt_map_some {f : Int → Value} {D : List Int} {k : Int} (h : k ∈ D) : valueAt (D.map fun k => (k, f k)) k = some (f k) := by
  induction D with
  | nil => cases h
  | cons x r ih =>
    by_cases e : x = k
    · subst e; simp [valueAt]
    · rcases List.mem_cons.mp h with e' | h
      · exact absurd e'.symm e
      · have := ih h
        simp only [valueAt, List.map_cons, List.find?_cons] at this ⊢
        simpa [e] using this
theorem valueAt_map_none {f : Int → Value} {D : List Int} {k : Int} (h : k ∉ D) : valueAt (D.map fun k => (k, f k)) k = none := by
  induction D with
  | nil => rfl
  | cons x r ih =>
    have e : x ≠ k := fun e => h (by simp [e])
    have := ih fun q => h (List.mem_cons_of_mem _ q)
    simp only [valueAt, List.map_cons, List.find?_cons] at this ⊢
    simpa [e] using this
theorem intsNil : IntsAre [] [] := by first | exact .nil | exact trivial | (constructor) | simp [IntsAre]
theorem stored_map_new {f : Int → Value} {D : List Int} {k : Int} {v : Value} (h : k ∉ D) : stored (D.map fun k => (k, f k)) k v = (D ++ [k]).map fun j => (j, if j = k then v else f j) := by
  have e : ∀ x ∈ D, x ≠ k := fun x hx e => h (e ▸ hx)
  have h1 : ((D.map fun k => (k, f k)).any fun kv => decide (kv.1 = k)) = false := by
    simp only [List.any_eq_false, List.mem_map, decide_eq_true_eq]
    rintro x ⟨j, hj, rfl⟩
    exact e j hj
  rw [stored, if_neg (by rw [h1]; simp), List.map_append]
  simp only [List.map_cons, List.map_nil, if_true]
  congr 1
  exact List.map_congr_left fun j hj => by simp [e j hj]
theorem SAt.newNode {w : World} {sf : Nat} {g : SG} {a : SA} {R news news' : Led} {k : Int} {x d l : Nat} {o' : Obj} {t t' : Tok} (S : SAt w sf g a R news) (hk : k ∉ a.D) (fresh : ∀ p ∈ news, @LT.lt Nat instLTNat p.1 d) (hdx : d < x) (hxl : x < l)
    (C : ∀ p ∈ news, p.1 ≠ g.n2i → p ∈ news') (h1 : (g.n2i, o') ∈ news') (hd : o'.IsDictOf (PySem.intKind PySem.Challenge.rw_mj0221_01.row.prog w) (stored (a.D.map fun k => (k, Value.ref (g.inf k))) k (.ref x)))
    (h2 : (x, infoObj d l (.int k t) (.int 0 t')) ∈ news') (h3 : (d, dictOf [] 0) ∈ news') (h4 : (l, listOf #[] 0) ∈ news') :
    SAt w sf { g with inf := upd g.inf k x, idc := upd g.idc k d, suc := upd g.suc k l, tag := tagU (tagU (tagU g.tag x (4, k)) d (5, k)) l (6, k) } (a.ins k) R news' := by
  have S' := S.retag (t := tagU (tagU (tagU g.tag x (4, k)) d (5, k)) l (6, k)) fun p hp => by
    have := fresh p hp
    rw [tagU_ne (by omega), tagU_ne (by omega), tagU_ne (by omega)]
  have hn : ∀ j ∈ a.D, j ≠ k := fun j hj e => hk (e ▸ hj)
  have ea : a.ins k = { a with D := a.D ++ [k], np := upd a.np k 0, sc := upd a.sc k [] } := if_neg hk
  rw [ea]
  have mem : ∀ j, j ∈ a.D ++ [k] → j ∈ a.D ∨ j = k := fun j hj => by simpa using hj
  exact {
    self := C _ S.self (tag_ne S.tself S.tn2i (by simp))
    dict := let ⟨t1, t2, t3, t4, t5, t6, h⟩ := S.dict; ⟨t1, t2, t3, t4, t5, t6, C _ h (tag_ne S.tdx S.tn2i (by simp))⟩
    tab := ⟨o', h1, by
      rw [stored_map_new hk] at hd
      have e : (fun j => (j, if j = k then Value.ref x else Value.ref (g.inf j))) = fun j => (j, Value.ref (upd g.inf k x j)) := by
        funext j; by_cases e : j = k <;> simp [upd, e]
      rw [e] at hd; exact hd⟩
    lo := S.lo
    node := fun j hj => by
      rcases mem j hj with hj | rfl
      · obtain ⟨u, u', h⟩ := S.node j hj
        refine ⟨u, u', ?_⟩
        have q := C _ h (tag_ne (S.tinf j hj) S.tn2i (by simp))
        simpa [upd_ne (hn j hj)] using q
      · exact ⟨t, t', by simpa [upd_same] using h2⟩
    dct := fun j hj => by
      rcases mem j hj with hj | rfl
      · have q := C _ (S.dct j hj) (tag_ne (S.tidc j hj) S.tn2i (by simp))
        simpa [upd_ne (hn j hj)] using q
      · simpa [upd_same] using h3
    sucs := fun j hj => by
      rcases mem j hj with hj | rfl
      · obtain ⟨vs, n, q1, q2⟩ := S.sucs j hj
        have q := C _ q2 (tag_ne (S.tsuc j hj) S.tn2i (by simp))
        exact ⟨vs, n, by simpa [upd_ne (hn j hj)] using q1, by simpa [upd_ne (hn j hj)] using q⟩
      · exact ⟨[], 0, by simpa [upd_same] using intsNil, by simpa [upd_same] using h4⟩
    rdy := fun l' hl => let ⟨vs, n, q1, q2⟩ := S.rdy l' hl; ⟨vs, n, q1, C _ q2 (tag_ne (S.trd (by rw [hl]; rfl)) S.tn2i (by simp))⟩
    tself := S'.tself
    tdx := S'.tdx
    tn2i := S'.tn2i
    trd := S'.trd
    tinf := fun j hj => by
      rcases mem j hj with hj | rfl
      · have q := S'.tinf j hj
        simpa [upd_ne (hn j hj)] using q
      · simp only [upd_same]; rw [tagU_ne (by omega), tagU_ne (by omega), tagU_same]
    tidc := fun j hj => by
      rcases mem j hj with hj | rfl
      · have q := S'.tidc j hj
        simpa [upd_ne (hn j hj)] using q
      · simp only [upd_same]; rw [tagU_ne (by omega), tagU_same]
    tsuc := fun j hj => by
      rcases mem j hj with hj | rfl
      · have q := S'.tsuc j hj
        simpa [upd_ne (hn j hj)] using q
      · simp only [upd_same]; rw [tagU_same]
    dnodup := by
      rw [List.nodup_append]
      exact ⟨S.dnodup, by simp, fun a ha b hb => by simp at hb; subst hb; exact hn a ha⟩
    frame := fun p hp => ⟨C _ (S.frame p hp).1 (tag_ne (S.frame p hp).2 S.tn2i (by simp)), (S'.frame p hp).2⟩ }
set_option maxRecDepth 100000 in
set_option maxHeartbeats 8000000 in
theorem gni {w : World} {sf : Nat} {g : SG} {a : SA} {R news : Led} {k : Int} {u : Tok} (S : SAt w sf g a R news) (hlen : a.D.length ≤ 100) :
    Ctr w 80 [.ref sf, .int k u] 20 200 news (fun r news' => ∃ g', SAt w sf g' (a.ins k) R news' ∧ r = .ref (g'.inf k)) := by
  unfold Ctr
  k_fill
  intro mean mg mb dp un gd cn nm ig ic mo ad ccd cl outer A₀ base h₀ L m s Q E B F X N T hd hu hret
  have m1 := S.self
  refine genC ?_
  intro C9 kC9
  obtain ⟨t1, t2, t3, t4, t5, t6, m2⟩ := S.dict
  obtain ⟨o, m3, hdd⟩ := S.tab
  refine kC9 ?_
  clear kC9 C9
  have hlo := S.lo
  have hl : ∀ p ∈ ([(sf, instObj 137 g.dx), (g.dx, sDict w t1 t2 t3 t4 (.ref g.n2i) (rdv g a) (.int a.npo t5) (.int a.nfi t6) 4), (g.n2i, o)] : Led), p ∈ news := by simp [m1, m2, m3]
  have sp := News.split N hl
  replace N := News.focs _ N hl
  simp only [List.cons_append, List.nil_append, List.map_cons, List.map_nil] at N sp
  have n1 : sf ≠ g.dx := tag_ne S.tself S.tdx (by simp)
  have n2 : sf ≠ g.n2i := tag_ne S.tself S.tn2i (by simp)
  have n3 : g.dx ≠ g.n2i := tag_ne S.tdx S.tn2i (by simp)
  clear hl
  by_cases hk : k ∈ a.D
  · have hv := valueAt_map_some (f := fun k => Value.ref (g.inf k)) hk
    have ea : a.ins k = a := if_pos hk
    rw [ea] at hret
    clear ea
    have S' := S.wk (news' := (sf, instObj 137 g.dx) :: (g.dx, sDict w t1 t2 t3 t4 (.ref g.n2i) (rdv g a) (.int a.npo t5) (.int a.nfi t6) 4) :: (g.n2i, o) :: offL [sf, g.dx, g.n2i] news) fun p hp => by
      rcases sp p hp with h | h
      · simp only [List.mem_cons, List.not_mem_nil, or_false] at h; rcases h with rfl | rfl | rfl <;> simp
      · simp [h]
    have hret' := fun h' tk' F' N' => hret (.ref (g.inf k)) _ h' tk' F' N' ⟨g, S', rfl⟩
    clear hret S S' hlen sp
    refine wpAny_call ?_
    k_enter
    k_steps
    refine dget_some (by k_asm) (by k_mem) hdd hlo (intKind_is _ _ _ _) hv ?_
    k_steps
    exact hret' _ _ (by k_asm) (by k_asm)
  · have hv := valueAt_map_none (f := fun k => Value.ref (g.inf k)) hk
    have hlen' : (a.D.map fun k => (k, Value.ref (g.inf k))).length ≤ 100 := by simpa using hlen
    refine wpAny_call ?_
    k_enter
    k_steps
    refine dget_none (by k_asm) (by k_mem) hdd hlo (intKind_is _ _ _ _) hv ?_
    k_steps
    refine' kda_set ?k1 ?k2 ?k3 hdd (intKind_is _ _ _ _) ?k5 ?_
    (case k1 => k_asm)
    (case k2 => k_asm)
    (case k3 => k_updF)
    (case k5 => rw [sizeLine_eq]; omega)
    intro h8 o8 F8 N8 hd8
    (try dsimp only at N8)
    k_steps
    refine' hret _ _ _ _ (by k_asm) (by k_asm) ⟨_, S.newNode (t := u) hk ?f ?o1 ?o2 ?C ?h1 hd8 ?h2 ?h3 ?h4, ?e⟩
    (case h2 => k_mem)
    (case h3 => k_mem)
    (case h4 => k_mem)
    (case h1 => k_mem)
    (case e => simp [upd_same])
    (case o1 => omega)
    (case o2 => omega)
    (case f =>
      intro p hp
      rcases sp p hp with h | h
      · simp only [List.mem_cons, List.not_mem_nil, or_false] at h
        rcases h with rfl | rfl | rfl <;> (dsimp only; omega)
      · (repeat ((rename (_ ∧ _) => h9); (rcases h9 with ⟨h9a, h9b⟩)))
        exact allLt_mem (by assumption) p h)
    (case C =>
      intro p hp hne
      rcases sp p hp with h | h
      · simp only [List.mem_cons, List.not_mem_nil, or_false] at h
        rcases h with rfl | rfl | rfl
        · simp
        · simp
        · exact absurd rfl hne
      · simp [h])
end
section
theorem rs_A2 : True := by
  w_top off
  exact True.intro
theorem ins_mem (a : SA) (k : Int) : k ∈ (a.ins k).D := by
  unfold SA.ins
  split
  · assumption
  · simp
theorem upd_zero (a : SA) (k : Int) : { a with np := upd a.np k (a.np k + 0) } = a := by
  have : upd a.np k (a.np k + 0) = a.np := by
    funext j; by_cases e : j = k <;> simp [upd, e]
  rw [this]
set_option maxRecDepth 100000 in
set_option maxHeartbeats 8000000 in
theorem add0 {w : World} {sf : Nat} {g : SG} {a : SA} {R news : Led} {k : Int} {u : Tok} (S : SAt w sf g a R news) (hlen : a.D.length ≤ 100) (hr : a.rdl = none) :
    Ctr w 87 [.ref sf, .int k u] 40 400 news (fun _ news' => ∃ g', SAt w sf g' (a.ins k) R news') := by
  unfold Ctr
  k_fill
  intro mean mg mb dp un gd cn nm ig ic mo ad ccd cl outer A₀ base h₀ L m s Q E B F X N T hd hu hret
  have m1 := S.self
  refine genC ?_
  intro C9 kC9
  obtain ⟨t1, t2, t3, t4, t5, t6, m2⟩ := S.dict
  refine kC9 ?_
  clear kC9 C9
  have er : rdv g a = .none := by simp [rdv, hr]
  rw [er] at m2
  refine wpAny_call ?_
  k_enter
  k_steps
  refine Halt.go ?_
  have S1 := S.more (o := { cls := Value.type "tuple", data := Data.seq #[] }) (by assumption)
  clear m1 m2
  refine' ctr_use ?cB ?cF ?cX ?cN ?cT (gni S1 hlen) ?cd ?cu ?_
  (case cB => k_asm)
  (case cF => k_asm)
  (case cX => k_asm)
  (case cN => k_asm)
  (case cT => k_asm)
  (case cd => ktr_room)
  (case cu => ktr_units)
  intro r9 news9 h9 tk9 F9 N9 P9
  (try dsimp only)
  (try k_fold)
  refine genC ?_
  intro C9 kC9
  obtain ⟨g2, S2, rfl⟩ := P9
  refine kC9 ?_
  clear kC9 C9
  have hk := ins_mem a k
  refine genC ?_
  intro C9 kC9
  obtain ⟨tt, tt', e1⟩ := S2.node k hk
  refine kC9 ?_
  clear kC9 C9
  have e2 := S2.dct k hk
  have e3 := (S2.frame _ (.head _)).1
  have d1 := tag_ne (S2.tinf k hk) (S2.tidc k hk) (by simp)
  have d2 := tag_ne (S2.tinf k hk) (S2.frame _ (.head _)).2 (by simp)
  have sp9 := News.split3 N9 e1 e2 e3
  replace N9 := News.foc3 N9 e1 e2 e3
  k_steps
  refine For_M ?_
  k_steps
  (rename News _ _ _ _ => N3)
  (rename Fr _ _ _ _ => F3)
  have S3 := S2.setInfo hk (Chg.ofN N3 ⟨fun p hp hne => by (rcases sp9 p hp with rfl | rfl | rfl | h9 <;> first | exact absurd rfl hne | (simp only [List.mem_cons, true_or, or_true]; done) | (simp only [List.mem_cons, h9, or_true]; done)), by k_mem⟩)
  rw [upd_zero] at S3
  clear S2 S1 S sp9 e1 e2 e3 d1 d2
  k_dflt (refine' iter_tuple (Φ := Sor w sf) sor_framed (x₀ := a.ins k) (R := (_, _) :: R) rfl (.head _) F3 N3 (fun _ _ => rfl) (fun _ _ x => x = a.ins k) ⟨g2, S3⟩ rfl ?turn ?done)
  (case turn =>
    intro i v m₁ x₁ R₁ news₁ h tk hi
    exact absurd hi (Nat.not_lt_zero _))
  (case done =>
    intro m' x' news' h' tk hI hP F' N'
    clear F3 N3
    subst hI
    (try dsimp only)
    k_steps
    obtain ⟨g', S'⟩ := hP
    exact hret _ _ _ _ (by k_asm) (by k_asm) ⟨g', S'.less fun p hp => List.mem_cons_of_mem _ hp⟩)
theorem ins_len (a : SA) (k : Int) : (a.ins k).D.length ≤ a.D.length + 1 := by
  unfold SA.ins
  split
  · omega
  · simp
theorem ins_rdl (a : SA) (k : Int) : (a.ins k).rdl = a.rdl := by
  unfold SA.ins
  split <;> rfl
theorem ins_sc (a : SA) (k j : Int) : ((a.ins k).sc j).length ≤ (a.sc j).length := by
  unfold SA.ins
  split
  · omega
  · by_cases e : j = k
    · simp [upd, e]
    · simp [upd, e]
theorem ints_snoc {vs : List Value} {ns : List Int} {k : Int} {u : Tok} (h : IntsAre vs ns) : IntsAre (vs ++ [.int k u]) (ns ++ [k]) := h.append (.cons k u .nil)
def SA.bump (a : SA) (k d : Int) : SA := { a with np := upd a.np k (a.np k + d) }
def SA.link (a : SA) (p k : Int) : SA := { a with sc := upd a.sc p (a.sc p ++ [k]) }
def SA.add1 (a : SA) (k p : Int) : SA := (((a.ins k).bump k 1).ins p).link p k
set_option maxRecDepth 100000 in
set_option maxHeartbeats 8000000 in
theorem add1 {w : World} {sf : Nat} {g : SG} {a : SA} {R news : Led} {k p : Int} {u u2 : Tok} (S : SAt w sf g a R news) (hlen : a.D.length ≤ 90) (hsz : ∀ j, (a.sc j).length ≤ 1000) (hr : a.rdl = none) :
    Ctr w 87 [.ref sf, .int k u, .int p u2] 40 400 news (fun _ news' => ∃ g', SAt w sf g' (a.add1 k p) R news') := by
  unfold Ctr
  k_fill
  intro mean mg mb dp un gd cn nm ig ic mo ad ccd cl outer A₀ base h₀ L m s Q E B F X N T hd hu hret
  have m1 := S.self
  refine genC ?_
  intro C9 kC9
  obtain ⟨t1, t2, t3, t4, t5, t6, m2⟩ := S.dict
  refine kC9 ?_
  clear kC9 C9
  have er : rdv g a = .none := by simp [rdv, hr]
  rw [er] at m2
  refine wpAny_call ?_
  k_enter
  k_steps
  refine Halt.go ?_
  have S1 := S.more (o := { cls := Value.type "tuple", data := Data.seq #[.int p u2] }) (by assumption)
  clear m1 m2
  refine' ctr_use ?cB ?cF ?cX ?cN ?cT (gni S1 (Nat.le_trans hlen (by decide))) ?cd ?cu ?_
  (case cB => k_asm)
  (case cF => k_asm)
  (case cX => k_asm)
  (case cN => k_asm)
  (case cT => k_asm)
  (case cd => ktr_room)
  (case cu => ktr_units)
  intro r9 news9 h9 tk9 F9 N9 P9
  (try dsimp only)
  (try k_fold)
  refine genC ?_
  intro C9 kC9
  obtain ⟨g2, S2, rfl⟩ := P9
  refine kC9 ?_
  clear kC9 C9
  have hk := ins_mem a k
  refine genC ?_
  intro C9 kC9
  obtain ⟨tt, tt', e1⟩ := S2.node k hk
  refine kC9 ?_
  clear kC9 C9
  have e2 := S2.dct k hk
  have e3 := (S2.frame _ (.head _)).1
  have d1 := tag_ne (S2.tinf k hk) (S2.tidc k hk) (by simp)
  have d2 := tag_ne (S2.tinf k hk) (S2.frame _ (.head _)).2 (by simp)
  have sp9 := News.split3 N9 e1 e2 e3
  replace N9 := News.foc3 N9 e1 e2 e3
  k_steps
  refine For_M ?_
  k_steps
  (rename News _ _ _ _ => N3)
  (rename Fr _ _ _ _ => F3)
  have S3 := S2.setInfo hk (Chg.ofN N3 ⟨fun p hp hne => by (rcases sp9 p hp with rfl | rfl | rfl | h9 <;> first | exact absurd rfl hne | (simp only [List.mem_cons, true_or, or_true]; done) | (simp only [List.mem_cons, h9, or_true]; done)), by k_mem⟩)
  clear S2 S1 S sp9 e1 e2 e3 d1 d2
  k_dflt (refine' iter_tuple (Φ := Sor w sf) sor_framed (x₀ := (a.ins k).bump k 1) (R := (_, _) :: R) rfl (.head _) F3 N3 (fun _ _ => rfl) (fun i m x => Pins m [(Str.ofString "self", .ref sf), (Str.ofString "node", .int k u)] ∧ (i = 0 → x = (a.ins k).bump k 1) ∧ (i = 1 → x = a.add1 k p)) ⟨g2, S3⟩ ⟨⟨rfl, rfl, trivial⟩, fun _ => rfl, fun h => absurd h (by decide)⟩ ?turn ?done)
  (case turn =>
    clear F3 N3
    intro i v m₁ x₁ R₁ news₁ h tk hi hv hr910 hR hr912 F4 N4
    refine genC ?_
    intro C9 kC9
    obtain ⟨hp, hx, _⟩ := hr910
    obtain ⟨g4, S4⟩ := hr912
    refine kC9 ?_
    clear kC9 C9
    have hi0 : i = 0 := by simpa using hi
    subst hi0
    obtain rfl : v = .int p u2 := by simpa using hv.symm
    obtain rfl := hx rfl
    replace F4 := Fr.pin F4 hp
    dsimp only [pinned, envOf] at F4 N4
    (try k_fold)
    have m1 := S4.self
    refine genC ?_
    intro C9 kC9
    obtain ⟨t1, t2, t3, t4, t5, t6, m2⟩ := S4.dict
    refine kC9 ?_
    clear kC9 C9
    k_steps
    refine Halt.go ?_
    clear m1 m2
    have hl4 : ((a.ins k).bump k 1).D.length ≤ 100 := Nat.le_trans (ins_len a k) (by omega)
    refine' ctr_use ?cB ?cF ?cX ?cN ?cT (gni S4 hl4) ?cd ?cu ?_
    (case cB => k_asm)
    (case cF => k_asm)
    (case cX => k_asm)
    (case cN => k_asm)
    (case cT => k_asm)
    (case cd => ktr_room)
    (case cu => ktr_units)
    intro r9 news9 h9 tk9 F9 N9 P9
    (try dsimp only)
    (try k_fold)
    refine genC ?_
    intro C9 kC9
    obtain ⟨g5, S5, rfl⟩ := P9
    refine kC9 ?_
    clear kC9 C9
    have hk := ins_mem ((a.ins k).bump k 1) p
    refine genC ?_
    intro C9 kC9
    obtain ⟨tt, tt', e1⟩ := S5.node p hk
    refine kC9 ?_
    clear kC9 C9
    have e2 := S5.dct p hk
    refine genC ?_
    intro C9 kC9
    obtain ⟨vs, vn, hvs, e3⟩ := S5.sucs p hk
    refine kC9 ?_
    clear kC9 C9
    have d1 := tag_ne (S5.tsuc p hk) (S5.tidc p hk) (by simp)
    have d2 := tag_ne (S5.tsuc p hk) (S5.tinf p hk) (by simp)
    have hz : vs.toArray.size ≤ sizeLine := by
      rw [sizeLine_eq, List.size_toArray, hvs.length]
      have h1 : ((((a.ins k).bump k 1).ins p).sc p).length ≤ (a.sc p).length := by
        refine Nat.le_trans (ins_sc _ p p) ?_
        exact ins_sc a k p
      have := hsz p
      omega
    have sp9 := News.split3 N9 e1 e2 e3
    replace N9 := News.foc3 N9 e1 e2 e3
    k_steps
    (rename News _ _ _ _ => N6)
    (rename Fr _ _ _ _ => F6)
    simp only [List.push_toArray] at N6
    have S6 := S5.setSuc hk (ints_snoc hvs) (Chg.ofN N6 ⟨fun p hp hne => by (rcases sp9 p hp with rfl | rfl | rfl | h9 <;> first | exact absurd rfl hne | (simp only [List.mem_cons, true_or, or_true]; done) | (simp only [List.mem_cons, h9, or_true]; done)), by k_mem⟩)
    k_dflt (exact TEnd.next (a.add1 k p) F6 N6 ⟨_, S6⟩ ⟨⟨rfl, rfl, trivial⟩, fun h => absurd h (by decide), fun _ => rfl⟩))
  (case done =>
    intro m' x' news' h' tk hr95 hr96 F' N'
    refine genC ?_
    intro C9 kC9
    obtain ⟨_, _, hx⟩ := hr95
    obtain ⟨g', S'⟩ := hr96
    refine kC9 ?_
    clear kC9 C9
    clear F3 N3
    obtain rfl := hx rfl
    (try dsimp only)
    k_steps
    exact hret _ _ _ _ (by k_asm) (by k_asm) ⟨g', S'.less fun p hp => List.mem_cons_of_mem _ hp⟩)
end
section
set_option maxRecDepth 100000
structure FE where
  k : Int
  M : Nat
  I : Nat
  pos : Nat
structure FCAt (w : World) (suc : Int → Nat) (sa ia se nd : Nat) (tag : Nat → Nat × Int) (st : List FE) (sn : List Int) (R news : Led) : Prop where
  stk : ∃ vs n, IntsAre vs (st.map (·.k)) ∧ (sa, listOf vs.toArray n) ∈ news
  its : ∃ n, (ia, listOf (st.map fun e => Value.ref e.M).toArray n) ∈ news
  see : ∃ so : Obj, (se, so) ∈ news ∧ so.SetObjOf (PySem.intKind PySem.Challenge.rw_mj0221_01.row.prog w) (fun k => decide (k ∈ sn)) sn.length
  dic : ∃ (o : Obj) (kvs : List (Int × Value)), (nd, o) ∈ news ∧ o.IsDictOf (PySem.intKind PySem.Challenge.rw_mj0221_01.row.prog w) kvs ∧ kvs.map (·.1) = st.map (·.k)
  met : ∀ e ∈ st, (e.M, methNext e.I) ∈ news
  itr : ∀ e ∈ st, (e.I, iterObj (suc e.k) e.pos) ∈ news
  tsa : tag sa = (0, 0)
  tia : tag ia = (1, 0)
  tse : tag se = (2, 0)
  tnd : tag nd = (3, 0)
  tM : ∀ e ∈ st, tag e.M = (4, e.k)
  tI : ∀ e ∈ st, tag e.I = (5, e.k)
  nod : (st.map (·.k)).Nodup
  frame : ∀ p ∈ R, p ∈ news ∧ tag p.1 = (9, 0)
theorem tg_ne {tag : Nat → Nat × Int} {x y : Nat} {s t : Nat × Int} (hx : tag x = s) (hy : tag y = t) (h : s ≠ t) : x ≠ y := fun e => h (by rw [← hx, ← hy, e])
section
variable {w : World} {suc : Int → Nat} {sa ia se nd : Nat} {tag : Nat → Nat × Int} {st : List FE} {sn : List Int} {R news news' : Led}
theorem FCAt.less {R' : Led} (H : FCAt w suc sa ia se nd tag st sn R news) (h : ∀ p ∈ R', p ∈ R) : FCAt w suc sa ia se nd tag st sn R' news := { H with frame := fun p hp => H.frame p (h p hp) }
/-- the ledger changed at the addresses of some tags, the state not -/
theorem FCAt.wk {as : List Nat} (H : FCAt w suc sa ia se nd tag st sn R news) (h : ∀ p ∈ news, p.1 ∉ as → p ∈ news') (ha : ∀ x ∈ as, tag x = (8, 0)) : FCAt w suc sa ia se nd tag st sn R news' := by
  have k : ∀ {a o t}, (a, o) ∈ news → tag a = t → t.1 ≠ 8 → (a, o) ∈ news' := fun {a o t} hm ht hn => h _ hm fun q => hn (by rw [← ht, ha _ q])
  exact { H with
    stk := let ⟨vs, n, h1, h2⟩ := H.stk; ⟨vs, n, h1, k h2 H.tsa (by simp)⟩
    its := let ⟨n, h2⟩ := H.its; ⟨n, k h2 H.tia (by simp)⟩
    see := let ⟨so, h2, h3⟩ := H.see; ⟨so, k h2 H.tse (by simp), h3⟩
    dic := let ⟨o, kvs, h2, h3⟩ := H.dic; ⟨o, kvs, k h2 H.tnd (by simp), h3⟩
    met := fun e he => k (H.met e he) (H.tM e he) (by simp)
    itr := fun e he => k (H.itr e he) (H.tI e he) (by simp)
    frame := fun p hp => ⟨k (H.frame p hp).1 (H.frame p hp).2 (by simp), (H.frame p hp).2⟩ }
theorem FCAt.retag {t : Nat → Nat × Int} (H : FCAt w suc sa ia se nd tag st sn R news) (h : ∀ p ∈ news, t p.1 = tag p.1) : FCAt w suc sa ia se nd t st sn R news := by
  obtain ⟨vs, n, h1, h2⟩ := H.stk
  obtain ⟨n3, h3⟩ := H.its
  obtain ⟨so, h4, _⟩ := H.see
  obtain ⟨o, kvs, h5, _⟩ := H.dic
  exact { H with
    tsa := (h _ h2).trans H.tsa
    tia := (h _ h3).trans H.tia
    tse := (h _ h4).trans H.tse
    tnd := (h _ h5).trans H.tnd
    tM := fun e he => (h _ (H.met e he)).trans (H.tM e he)
    tI := fun e he => (h _ (H.itr e he)).trans (H.tI e he)
    frame := fun p hp => ⟨(H.frame p hp).1, (h _ (H.frame p hp).1).trans (H.frame p hp).2⟩ }
theorem FCAt.more {x : Nat} {o : Obj} (H : FCAt w suc sa ia se nd tag st sn R news) (hx : ∀ p ∈ news, p.1 ≠ x) : FCAt w suc sa ia se nd (tagU tag x (9, 0)) st sn ((x, o) :: R) ((x, o) :: news) := by
  have H' := (H.retag (t := tagU tag x (9, 0)) fun p hp => tagU_ne (hx p hp)).wk (news' := (x, o) :: news) (as := []) (fun p hp _ => List.mem_cons_of_mem _ hp) (fun _ h => nomatch h)
  refine { H' with frame := fun p hp => ?_ }
  rcases List.mem_cons.mp hp with e | hp
  · rw [e]; exact ⟨.head _, tagU_same⟩
  · exact H'.frame p hp
theorem FCAt.drop {x : Nat} {o : Obj} (H : FCAt w suc sa ia se nd tag st sn ((x, o) :: R) news) (hx : ∀ p ∈ R, p.1 ≠ x) : FCAt w suc sa ia se nd tag st sn R (offL [x] news) := by
  have tx := (H.frame _ (.head _)).2
  have k : ∀ {a o t}, (a, o) ∈ news → tag a = t → t.1 ≠ 9 → (a, o) ∈ offL [x] news := fun {a o t} hm ht hn => mem_offL.mpr ⟨hm, fun q => hn (by have q := List.mem_singleton.mp q; dsimp only at q; rw [← ht, q, tx])⟩
  exact { H with
    stk := let ⟨vs, n, h1, h2⟩ := H.stk; ⟨vs, n, h1, k h2 H.tsa (by simp)⟩
    its := let ⟨n, h2⟩ := H.its; ⟨n, k h2 H.tia (by simp)⟩
    see := let ⟨so, h2, h3⟩ := H.see; ⟨so, k h2 H.tse (by simp), h3⟩
    dic := let ⟨o, kvs, h2, h3⟩ := H.dic; ⟨o, kvs, k h2 H.tnd (by simp), h3⟩
    met := fun e he => k (H.met e he) (H.tM e he) (by simp)
    itr := fun e he => k (H.itr e he) (H.tI e he) (by simp)
    frame := fun p hp => ⟨mem_offL.mpr ⟨(H.frame p (List.mem_cons_of_mem _ hp)).1, fun q => hx p hp (List.mem_singleton.mp q)⟩, (H.frame p (List.mem_cons_of_mem _ hp)).2⟩ }
/-- as a framed state, the stack empty -/
def FCΦ (w : World) (suc : Int → Nat) (sa ia se nd : Nat) (sn : List Int) (R news : Led) : Prop := ∃ tag, FCAt w suc sa ia se nd tag [] sn R news
theorem fc_framed : Framed (FCΦ w suc sa ia se nd) where
  sub := fun ⟨_, H⟩ p hp => (H.frame p hp).1
  add := fun ⟨_, H⟩ h => ⟨_, H.more h⟩
  drop := fun ⟨_, H⟩ h => ⟨_, H.drop h⟩
theorem FCAt.init {so o : Obj} {n1 n2 : Nat} (h1 : (sa, listOf #[] n1) ∈ news) (h2 : (ia, listOf #[] n2) ∈ news) (h3 : (se, so) ∈ news) (h4 : so.SetObjOf (PySem.intKind PySem.Challenge.rw_mj0221_01.row.prog w) (fun _ => false) 0) (h5 : (nd, o) ∈ news) (h6 : o.IsDictOf (PySem.intKind PySem.Challenge.rw_mj0221_01.row.prog w) [])
    (d1 : sa ≠ ia) (d2 : sa ≠ se) (d3 : sa ≠ nd) (d4 : ia ≠ se) (d5 : ia ≠ nd) (d6 : se ≠ nd) (hR : ∀ p ∈ R, p ∈ news ∧ p.1 ≠ sa ∧ p.1 ≠ ia ∧ p.1 ≠ se ∧ p.1 ≠ nd) :
    FCAt w suc sa ia se nd (tagU (tagU (tagU (tagU (fun _ => (9, 0)) nd (3, 0)) se (2, 0)) ia (1, 0)) sa (0, 0)) [] [] R news where
  stk := ⟨[], n1, intsNil, h1⟩
  its := ⟨n2, h2⟩
  see := ⟨so, h3, by simpa using h4⟩
  dic := ⟨o, [], h5, h6, rfl⟩
  met := fun e he => nomatch he
  itr := fun e he => nomatch he
  tsa := tagU_same
  tia := by rw [tagU_ne d1.symm, tagU_same]
  tse := by rw [tagU_ne d2.symm, tagU_ne d4.symm, tagU_same]
  tnd := by rw [tagU_ne d3.symm, tagU_ne d5.symm, tagU_ne d6.symm, tagU_same]
  tM := fun e he => nomatch he
  tI := fun e he => nomatch he
  nod := List.nodup_nil
  frame := fun p hp => ⟨(hR p hp).1, by
    obtain ⟨_, a, b, c, d⟩ := hR p hp
    rw [tagU_ne a, tagU_ne b, tagU_ne c, tagU_ne d]⟩
theorem FCAt.push {k : Int} {M I : Nat} {so o : Obj} {kvs : List (Int × Value)} {vs : List Value} {n1 n2 : Nat} (H : FCAt w suc sa ia se nd tag st sn R news) (hk : k ∉ st.map (·.k)) (hn : k ∉ sn)
    (keep : ∀ p ∈ news, p.1 ≠ sa → p.1 ≠ ia → p.1 ≠ se → p.1 ≠ nd → p ∈ news')
    (h1 : IntsAre vs (st.map (·.k) ++ [k])) (h2 : (sa, listOf vs.toArray n1) ∈ news') (h3 : (ia, listOf ((st.map fun e => Value.ref e.M) ++ [Value.ref M]).toArray n2) ∈ news')
    (h4 : (se, so) ∈ news') (h5 : so.SetObjOf (PySem.intKind PySem.Challenge.rw_mj0221_01.row.prog w) (fun k' => decide (k' ∈ sn) || decide (k' = k)) (sn.length + 1))
    (h6 : (nd, o) ∈ news') (h7 : o.IsDictOf (PySem.intKind PySem.Challenge.rw_mj0221_01.row.prog w) kvs) (h8 : kvs.map (·.1) = st.map (·.k) ++ [k])
    (h9 : (M, methNext I) ∈ news') (h10 : (I, iterObj (suc k) 0) ∈ news') (hM : ∀ p ∈ news, p.1 ≠ M) (hI : ∀ p ∈ news, p.1 ≠ I) (hMI : M ≠ I) :
    FCAt w suc sa ia se nd (tagU (tagU tag M (4, k)) I (5, k)) (st ++ [⟨k, M, I, 0⟩]) (k :: sn) R news' := by
  have H' := H.retag (t := tagU (tagU tag M (4, k)) I (5, k)) fun p hp => by rw [tagU_ne (hI p hp), tagU_ne (hM p hp)]
  have kp : ∀ {a o t}, (a, o) ∈ news → tagU (tagU tag M (4, k)) I (5, k) a = t → 4 ≤ t.1 → (a, o) ∈ news' := fun {a o t} hm ht hn =>
    keep _ hm (fun e => by dsimp only at e; rw [e] at ht; rw [H'.tsa] at ht; subst ht; simp at hn) (fun e => by dsimp only at e; rw [e] at ht; rw [H'.tia] at ht; subst ht; simp at hn)
      (fun e => by dsimp only at e; rw [e] at ht; rw [H'.tse] at ht; subst ht; simp at hn) (fun e => by dsimp only at e; rw [e] at ht; rw [H'.tnd] at ht; subst ht; simp at hn)
  exact { H' with
    stk := ⟨vs, n1, by simpa using h1, h2⟩
    its := ⟨n2, by simpa using h3⟩
    see := ⟨so, h4, by
      have : (fun k' => decide (k' ∈ k :: sn)) = (fun k' => decide (k' ∈ sn) || decide (k' = k)) := by funext k'; by_cases a : k' = k <;> by_cases b : k' ∈ sn <;> simp [a, b]
      rw [this]; exact h5⟩
    dic := ⟨o, kvs, h6, h7, by simpa using h8⟩
    met := fun e he => by
      rcases List.mem_append.mp he with he | he
      · exact kp (H'.met e he) (H'.tM e he) (by simp)
      · rw [List.mem_singleton.mp he]; exact h9
    itr := fun e he => by
      rcases List.mem_append.mp he with he | he
      · exact kp (H'.itr e he) (H'.tI e he) (by simp)
      · rw [List.mem_singleton.mp he]; exact h10
    tM := fun e he => by
      rcases List.mem_append.mp he with he | he
      · exact H'.tM e he
      · rw [List.mem_singleton.mp he]; show tagU _ _ _ M = _; rw [tagU_ne hMI, tagU_same]
    tI := fun e he => by
      rcases List.mem_append.mp he with he | he
      · exact H'.tI e he
      · rw [List.mem_singleton.mp he]; exact tagU_same
    nod := by
      rw [List.map_append, List.nodup_append]
      exact ⟨H.nod, by simp, fun a ha b hb => by simp at hb; subst hb; intro e; exact hk (e ▸ ha)⟩
    frame := fun p hp => ⟨kp (H'.frame p hp).1 (H'.frame p hp).2 (by simp), (H'.frame p hp).2⟩ }
theorem FCAt.step {e : FE} (H : FCAt w suc sa ia se nd tag (st ++ [e]) sn R news) (C : Chg e.I (iterObj (suc e.k) (e.pos + 1)) news news') : FCAt w suc sa ia se nd tag (st ++ [{ e with pos := e.pos + 1 }]) sn R news' := by
  have he : e ∈ st ++ [e] := by simp
  have tI := H.tI e he
  have kp : ∀ {a o t}, (a, o) ∈ news → tag a = t → t ≠ (5, e.k) → (a, o) ∈ news' := fun {a o t} hm ht hn => C.keep _ hm fun q => hn (by dsimp only at q; rw [← ht, q, tI])
  have nin : ∀ f ∈ st, f.k ≠ e.k := fun f hf q => by
    have := H.nod
    rw [List.map_append, List.nodup_append] at this
    exact this.2.2 _ (List.mem_map_of_mem hf) e.k (by simp) q
  exact { H with
    stk := let ⟨vs, n, h1, h2⟩ := H.stk; ⟨vs, n, by simpa using h1, kp h2 H.tsa (by simp)⟩
    its := let ⟨n, h2⟩ := H.its; ⟨n, by have := kp h2 H.tia (by simp); simpa using this⟩
    see := let ⟨so, h2, h3⟩ := H.see; ⟨so, kp h2 H.tse (by simp), h3⟩
    dic := let ⟨o, kvs, h2, h3, h4⟩ := H.dic; ⟨o, kvs, kp h2 H.tnd (by simp), h3, by simpa using h4⟩
    met := fun f hf => by
      rcases List.mem_append.mp hf with hf | hf
      · exact kp (H.met f (List.mem_append_left _ hf)) (H.tM f (List.mem_append_left _ hf)) (by simp)
      · rw [List.mem_singleton.mp hf]; exact kp (H.met e he) (H.tM e he) (by simp)
    itr := fun f hf => by
      rcases List.mem_append.mp hf with hf | hf
      · exact kp (H.itr f (List.mem_append_left _ hf)) (H.tI f (List.mem_append_left _ hf)) (by simp [nin f hf])
      · rw [List.mem_singleton.mp hf]; exact C.new
    tM := fun f hf => by
      rcases List.mem_append.mp hf with hf | hf
      · exact H.tM f (List.mem_append_left _ hf)
      · rw [List.mem_singleton.mp hf]; exact H.tM e he
    tI := fun f hf => by
      rcases List.mem_append.mp hf with hf | hf
      · exact H.tI f (List.mem_append_left _ hf)
      · rw [List.mem_singleton.mp hf]; exact tI
    nod := by simpa using H.nod
    frame := fun p hp => ⟨kp (H.frame p hp).1 (H.frame p hp).2 (by simp), (H.frame p hp).2⟩ }
theorem FCAt.pop {e : FE} {o : Obj} {kvs : List (Int × Value)} {vs : List Value} {n1 n2 : Nat} (H : FCAt w suc sa ia se nd tag (st ++ [e]) sn R news)
    (keep : ∀ p ∈ news, p.1 ≠ sa → p.1 ≠ ia → p.1 ≠ nd → p.1 ≠ e.I → p ∈ news')
    (h1 : IntsAre vs (st.map (·.k))) (h2 : (sa, listOf vs.toArray n1) ∈ news') (h3 : (ia, listOf (st.map fun e => Value.ref e.M).toArray n2) ∈ news')
    (h6 : (nd, o) ∈ news') (h7 : o.IsDictOf (PySem.intKind PySem.Challenge.rw_mj0221_01.row.prog w) kvs) (h8 : kvs.map (·.1) = st.map (·.k)) : FCAt w suc sa ia se nd tag st sn R news' := by
  have he : e ∈ st ++ [e] := by simp
  have tI := H.tI e he
  have nin : ∀ f ∈ st, f.k ≠ e.k := fun f hf q => by
    have := H.nod
    rw [List.map_append, List.nodup_append] at this
    exact this.2.2 _ (List.mem_map_of_mem hf) e.k (by simp) q
  have kp : ∀ {a o t}, (a, o) ∈ news → tag a = t → t ≠ (5, e.k) → t.1 ≠ 0 → t.1 ≠ 1 → t.1 ≠ 3 → (a, o) ∈ news' := fun {a o t} hm ht n5 n0 n1 n3 =>
    keep _ hm (fun e => n0 (by dsimp only at e; rw [← ht, e, H.tsa])) (fun e => n1 (by dsimp only at e; rw [← ht, e, H.tia]))
      (fun e => n3 (by dsimp only at e; rw [← ht, e, H.tnd])) (fun q => n5 (by dsimp only at q; rw [← ht, q, tI]))
  have sub : ∀ f ∈ st, f ∈ st ++ [e] := fun f hf => List.mem_append_left _ hf
  exact { H with
    stk := ⟨vs, n1, h1, h2⟩
    its := ⟨n2, h3⟩
    see := let ⟨so, h2, h3⟩ := H.see; ⟨so, kp h2 H.tse (by simp) (by simp) (by simp) (by simp), h3⟩
    dic := ⟨o, kvs, h6, h7, h8⟩
    met := fun f hf => kp (H.met f (sub f hf)) (H.tM f (sub f hf)) (by simp) (by simp) (by simp) (by simp)
    itr := fun f hf => kp (H.itr f (sub f hf)) (H.tI f (sub f hf)) (by simp [nin f hf]) (by simp) (by simp) (by simp)
    tM := fun f hf => H.tM f (sub f hf)
    tI := fun f hf => H.tI f (sub f hf)
    nod := by have := H.nod; rw [List.map_append, List.nodup_append] at this; exact this.1
    frame := fun p hp => ⟨kp (H.frame p hp).1 (H.frame p hp).2 (by simp) (by simp) (by simp) (by simp), (H.frame p hp).2⟩ }
end
section
variable {prog : Program} {w : World} {A : Around} {E : Value → Shared → Prop} {s : Shared} {h₀ : Heap} {L sa : Addr} {so : Obj} {m : Str → Option Value} {news : Led} {S : Int → Bool} {n : Nat} {k : Int} {t : Tok}
theorem seIn {Q : Value → Shared → Prop} (N : News h₀ L s.heap news) (hm : (sa, so) ∈ news) (hso : so.SetObjOf (PySem.intKind prog w) S n) (hb : n < scanBound) (h : Q (.bool (S k)) { s with toks := s.toks + 1 }) :
    wpAny (model prog w) A (compareOp .In (.int k t) (.ref sa)) Q E s := kse_in (knd := PySem.intKind prog w) (News.foc N hm) (.head (offL_ne (List.Mem.head _))) hso hb (intKind_is _ _ _ _) rfl h
theorem seMeth {pl : Sem Bool} {Q : Value × List Value → Shared → Prop} (N : News h₀ L s.heap news) (hm : (sa, so) ∈ news) (hso : so.SetObjOf (PySem.intKind prog w) S n) (hb : n < scanBound) (h : Q (.builtin "set.add", [.ref sa]) s) :
    wpAny (model prog w) A (getMethod (.ref sa) "add" pl) Q E s := kse_method (knd := PySem.intKind prog w) (News.foc N hm) (.head (offL_ne (List.Mem.head _))) hso hb h
end
def LessJ (J : Nat → Shared → Prop) (n : Nat) (s : Shared) : Prop := ∃ m, m < n ∧ J m s
theorem While_N {prog : Program} {w : World} {A : Around} {s : Shared} {env : Env} {E : Value → Shared → Prop} {Q : Flow → Shared → Prop} {test : Expr} {body orelse : List Stmt} {pos : Pos} (J : Nat → Shared → Prop) (n : Nat) (h : J n s)
    (turn : ∀ n s, J n s → wpAny (model prog w) A (isTrue test env (eval test env)) (fun b s₂ =>
      if b = true then wpAny (model prog w) A (execs body env) (fun f s₃ => match f with
          | .next | .cont => LessJ J n s₃
          | .brk => Q .next s₃
          | .ret v => Q (.ret v) s₃) E s₂
      else wpAny (model prog w) A (execs orelse env) Q E s₂) E s)
    (hE : PassesOwn (model prog w) A env E := by passes_own) : wpAny (model prog w) A (exec (.While test body orelse pos) env) Q E s := by
  refine While_M J n h (fun n s hJ => wpAny_mono (turn n s hJ) (fun b s₂ h₂ => ?_) fun _ _ e => e) hE
  cases b with
  | true =>
    simp only [if_true] at h₂ ⊢
    refine wpAny_mono h₂ (fun f s₃ h₃ => ?_) fun _ _ e => e
    cases f <;> exact h₃
  | false => exact h₂
theorem same_FN {h₀ h h' : Heap} {L : Addr} {m : Str → Option Value} {news : Led} {a : Addr} {o o' : Obj} (F : Fr h₀ L h m) (N : News h₀ L h news) (hm : (a, o) ∈ news) (hs : Heap.SameBut a h h') (hg : h'.get? a = some o') :
    Fr h₀ L h' m ∧ News h₀ L h' ((a, o') :: offL [a] news) := by
  have q := N _ hm
  refine ⟨F.change hs q.2.1 q.2.2, fun p hp => ?_⟩
  rcases List.mem_cons.mp hp with e | hp
  · rw [e]; exact ⟨hg, q.2⟩
  · have := mem_offL.mp hp
    refine ⟨?_, (N p this.1).2⟩
    have hne : p.1 ≠ a := fun e => this.2 (by simp [e])
    have := (N p this.1).1
    first
      | exact hs.get?_of_ne hne ▸ this
      | exact (hs.1 p.1 hne).trans this
      | exact (hs p.1 hne).trans this
      | exact (hs.2 p.1 hne).trans this
theorem same_FN0 {h₀ h h' : Heap} {L : Addr} {m : Str → Option Value} {news : Led} {a : Addr} {o : Obj} (F : Fr h₀ L h m) (N : News h₀ L h news) (hm : (a, o) ∈ news) (hs : Heap.SameBut a h h') :
    Fr h₀ L h' m ∧ News h₀ L h' (offL [a] news) := by
  have q := N _ hm
  refine ⟨F.change hs q.2.1 q.2.2, fun p hp => ?_⟩
  have := mem_offL.mp hp
  refine ⟨?_, (N p this.1).2⟩
  have hne : p.1 ≠ a := fun e => this.2 (by simp [e])
  have := (N p this.1).1
  first
    | exact hs.get?_of_ne hne ▸ this
    | exact (hs.1 p.1 hne).trans this
    | exact (hs p.1 hne).trans this
    | exact (hs.2 p.1 hne).trans this
end
local macro_rules | `(tactic| walk_at "call type:tuple") => `(tactic| (k_here; (with_reducible show wpAny _ _ (call (Value.type _) [Value.ref _]) _ _ _); k_dflt (refine' tup_list ?k1 ?k2 ?k3 ?k4 ?_; (case k1 => k_asm); (case k2 => k_asm); (case k3 => k_mem); (case k4 => size_fits); k_whole); intro D' h' F' N' l1; (try k_lt l1); (try k_sweep)))
local macro_rules | `(tactic| walk_at "call type:bool") => `(tactic| (k_here; (with_reducible show wpAny _ _ (call (Value.type _) [Value.ref _]) _ _ _); k_dflt (refine' bool_list ?k1 ?k2 ?k3 ?_; (case k1 => k_asm); (case k2 => k_mem); (case k3 => assumption); k_whole)))
local macro_rules | `(tactic| walk_at "subscriptTail") => `(tactic| (k_here; (with_reducible show wpAny _ _ (subscriptTail _ _ (Value.ref _) (Value.int _ _)) _ _ _); k_dflt (refine kda_item (by k_asm) (by k_mem) (by assumption) (intKind_is _ _ _ _) (by assumption) ?_); (try dsimp only)))
local macro_rules | `(tactic| walk_at "call builtin:dict.get") => `(tactic| (k_here; (with_reducible show wpAny _ _ (call (Value.builtin _) [Value.ref _, Value.int _ _]) _ _ _); k_dflt (refine dget_some (by k_asm) (by k_mem) (by assumption) (by assumption) (intKind_is _ _ _ _) (by assumption) ?_); (try dsimp only)))
local macro_rules | `(tactic| walk_at "call builtin:list.clear") => `(tactic| (k_here; dsimp only; (with_reducible show wpAny _ _ (call (Value.builtin _) [Value.ref _]) _ _ _); k_dflt (refine' list_clear ?F ?N ?U ?z ?_; (case F => k_asm); (case N => k_asm); (case U => k_updF); (case z => size_fits)); intro h' nc' F' N'; (try dsimp only at N'); (try k_sweep)))
section
theorem rs_R2 : True := by
  w_top off
  exact True.intro
set_option maxRecDepth 100000 in
set_option maxHeartbeats 8000000 in
theorem getReady {w : World} {sf : Nat} {g : SG} {a : SA} {R news : Led} {l : List Int} (S : SAt w sf g a R news) (hr : a.rdl = some l) (hsz : l.length ≤ 1000) (hD : ∀ k ∈ l, k ∈ a.D) :
    Ctr w 99 [.ref sf] 40 400 news (fun r news' => ∃ g' T vs n, r = .ref T ∧ IntsAre vs l ∧ SAt w sf g' { a with np := l.foldl (fun f k => upd f k (-1)) a.np, rdl := some [], npo := a.npo + l.length } ((T, tupObj vs.toArray n) :: R) news') := by
  unfold Ctr
  k_fill
  intro mean mg mb dp un gd cn nm ig ic mo ad ccd cl outer A₀ base h₀ L m s Q E B F X N T hd hu hret
  have m1 := S.self
  refine genC ?_
  intro C9 kC9
  obtain ⟨t1, t2, t3, t4, t5, t6, m2⟩ := S.dict
  refine kC9 ?_
  clear kC9 C9
  have er : rdv g a = .ref g.rd := by simp [rdv, hr]
  rw [er] at m2
  refine genC ?_
  intro C9 kC9
  obtain ⟨vs, vn, hvs, m3⟩ := S.rdy l hr
  refine kC9 ?_
  clear kC9 C9
  have hz : vs.toArray.size ≤ sizeLine := by rw [sizeLine_eq, List.size_toArray, hvs.length]; omega
  refine wpAny_call ?_
  k_enter
  k_steps
  refine For_M ?_
  k_steps
  (rename News _ _ _ _ => N3)
  (rename Fr _ _ _ _ => F3)
  have S1 := S.more (o := tupObj vs.toArray 0) (by assumption)
  clear m1 m2 m3
  k_dflt (refine' iter_tuple (Φ := SorG w sf) sorG_framed (x₀ := (a, g)) (R := (_, _) :: R) rfl (.head _) F3 N3 (fun _ _ => rfl) (fun i m x => Pins m [(Str.ofString "self", .ref sf), (Str.ofString "n2i", .ref g.n2i), (Str.ofString "result", .ref _)] ∧ x = ({ a with np := (l.take i).foldl (fun f k => upd f k (-1)) a.np }, g)) ⟨_, S1⟩ ⟨⟨rfl, rfl, rfl, trivial⟩, rfl⟩ ?turn ?done)
  (case turn =>
    clear F3 N3
    rintro i v m₁ x₁ R₁ news₁ h tk hi hv ⟨hp, rfl⟩ hR ⟨t4, S4⟩ F4 N4
    refine genC ?_
    intro C9 kC9
    obtain ⟨k, tk', hk, rfl⟩ := ints_at hvs hv
    refine kC9 ?_
    clear kC9 C9
    replace F4 := Fr.pin F4 hp
    dsimp only [pinned, envOf] at F4 N4 S4
    have hkD := hD k (List.mem_of_getElem? hk)
    have e1 := S4.node k hkD
    have e2 := S4.dct k hkD
    refine genC ?_
    intro C9 kC9
    obtain ⟨o, e3, hdd⟩ := S4.tab
    refine kC9 ?_
    clear kC9 C9
    have hlo := S4.lo
    have d1 := tag_ne (S4.tinf k hkD) (S4.tidc k hkD) (by simp)
    have d2 := tag_ne (S4.tinf k hkD) S4.tn2i (by simp)
    dsimp only at e1 e2 e3 hdd hlo d1 d2
    refine genC ?_
    intro C9 kC9
    obtain ⟨tt, tt', e1⟩ := e1
    refine kC9 ?_
    clear kC9 C9
    have hva := valueAt_map_some (f := fun k => Value.ref (g.inf k)) hkD
    have sp9 := News.split3 N4 e1 e2 e3
    replace N4 := News.foc3 N4 e1 e2 e3
    (try k_fold)
    k_steps
    (rename News _ _ _ _ => N6)
    (rename Fr _ _ _ _ => F6)
    have S6 := S4.setInfo hkD (Chg.ofN N6 ⟨fun p hp hne => by (rcases sp9 p hp with rfl | rfl | rfl | h9 <;> first | exact absurd rfl hne | (simp only [List.mem_cons, true_or, or_true]; done) | (simp only [List.mem_cons, h9, or_true]; done)), by k_mem⟩)
    dsimp only at S6
    have et : upd ((l.take i).foldl (fun f k => upd f k (-1)) a.np) k (-1) = (l.take (i + 1)).foldl (fun f k => upd f k (-1)) a.np := by
      rw [List.take_add_one, hk]; simp
    rw [et] at S6
    k_dflt (exact TEnd.next (_, g) F6 N6 ⟨_, S6⟩ ⟨⟨rfl, rfl, rfl, trivial⟩, rfl⟩))
  (case done =>
    rintro m' x' news' h' tk ⟨hp, rfl⟩ ⟨tg, S5⟩ F5 N5
    clear F3 N3
    replace F5 := Fr.pin F5 hp
    dsimp only [pinned, envOf] at F5 N5 S5
    have el : vs.toArray.size = l.length := by rw [List.size_toArray, hvs.length]
    rw [el, List.take_length] at S5
    have m1 := S5.self
    have m2 := S5.dict
    have er : rdv { g with tag := tg } { a with np := l.foldl (fun f k => upd f k (-1)) a.np } = .ref g.rd := by simp [rdv, hr]
    refine genC ?_
    intro C9 kC9
    obtain ⟨t1, t2, t3, t4, t5, t6, m2⟩ := m2
    refine kC9 ?_
    clear kC9 C9
    rw [er] at m2
    have m3 := S5.rdy l hr
    refine genC ?_
    intro C9 kC9
    obtain ⟨us, un, hus, m3⟩ := m3
    refine kC9 ?_
    clear kC9 C9
    have m4 := (S5.frame _ (.head _)).1
    have hz' : us.toArray.size ≤ sizeLine := by rw [sizeLine_eq, List.size_toArray, hus.length]; omega
    have d1 : sf ≠ g.dx := tag_ne S5.tself S5.tdx (by simp)
    have d2 : g.dx ≠ g.rd := tag_ne S5.tdx (S5.trd (by simp [hr])) (by simp)
    have d3 : sf ≠ g.rd := tag_ne S5.tself (S5.trd (by simp [hr])) (by simp)
    have d4 := tag_ne (S5.trd (by simp [hr])) (S5.frame _ (.head _)).2 (by simp)
    have d5 := tag_ne S5.tdx (S5.frame _ (.head _)).2 (by simp)
    dsimp only at m1 m2 m3 m4 d1 d2 d3 d4 d5
    have sp9 := News.split4 N5 m1 m2 m3 m4
    replace N5 := News.foc4 N5 m1 m2 m3 m4
    (try dsimp only)
    k_steps
    (rename News _ _ _ _ => N7)
    obtain ⟨nc, hnc⟩ := News.ex (a := g.rd) (f := fun n => listOf #[] n) N7 ⟨_, by k_mem⟩
    have S7 := S5.setRdy (vs := []) (n := nc) (news' := (g.rd, listOf #[] nc) :: offL [g.rd] news') hr intsNil ⟨fun p hp hne => mem_foc hp hne, .head _⟩
    have S8 := S7.setDict (Chg.ofN N7 ⟨fun p hp hne => by
      rcases List.mem_cons.mp hp with rfl | hp
      · exact hnc
      · have h := mem_offL.mp hp
        rcases sp9 p h.1 with rfl | rfl | rfl | rfl | h9
        · simp
        · exact absurd rfl hne
        · exact absurd (List.mem_singleton.mpr rfl) h.2
        · simp
        · simp [h9], by k_mem⟩)
    rw [el] at S8 N7
    refine hret _ _ _ _ (by k_asm) N7 ⟨_, _, vs, 0, rfl, hvs, S8⟩)
end
section
theorem rs_I2 : True := by
  w_top off
  exact True.intro
set_option maxRecDepth 100000 in
set_option maxHeartbeats 8000000 in
theorem isActive {w : World} {sf : Nat} {g : SG} {a : SA} {R news : Led} {l : List Int} (S : SAt w sf g a R news) (hr : a.rdl = some l) (hsz : l.length ≤ 1000) :
    Ctr w 106 [.ref sf] 40 400 news (fun r news' => r = .bool (decide (a.nfi < a.npo) || !l.isEmpty) ∧ ∃ g', SAt w sf g' a R news') := by
  unfold Ctr
  k_fill
  intro mean mg mb dp un gd cn nm ig ic mo ad ccd cl outer A₀ base h₀ L m s Q E B F X N T hd hu hret
  have m1 := S.self
  refine genC ?_
  intro C9 kC9
  obtain ⟨t1, t2, t3, t4, t5, t6, m2⟩ := S.dict
  refine kC9 ?_
  clear kC9 C9
  have er : rdv g a = .ref g.rd := by simp [rdv, hr]
  rw [er] at m2
  refine genC ?_
  intro C9 kC9
  obtain ⟨vs, vn, hvs, m3⟩ := S.rdy l hr
  refine kC9 ?_
  clear kC9 C9
  have hz : vs.toArray.size ≤ 1000 := by rw [List.size_toArray, hvs.length]; exact hsz
  have he : vs.toArray.isEmpty = l.isEmpty := by cases hvs <;> simp
  have sp9 := News.split3 N m1 m2 m3
  replace N := News.foc3 N m1 m2 m3
  refine wpAny_call ?_
  k_enter
  k_steps
  all_goals (refine hret _ _ _ _ (by k_asm) (by k_asm) ⟨?_, ⟨g, S.wk fun p hp => ?_⟩⟩)
  any_goals (rcases sp9 p hp with rfl | rfl | rfl | h9 <;> simp [*]; done)
  all_goals first | (rw [decide_eq_true (by assumption : a.nfi < a.npo)]; rfl) | (rw [he, decide_eq_false (by first | assumption | omega : ¬ a.nfi < a.npo)]; rfl)
end
local macro_rules | `(tactic| walk_at "exec For Name Name cons nil") => `(tactic| (k_here; k_dflt (refine For_M ?_)))
local macro_rules | `(tactic| walk_at "exec For Name Attribute cons nil") => `(tactic| (k_here; k_dflt (refine For_M ?_)))
local macro_rules | `(tactic| walk_at "exec For Name Call cons nil") => `(tactic| (k_here; k_dflt (refine For_M ?_)))
local macro_rules | `(tactic| walk_at "exec For Tuple Subscript cons nil") => `(tactic| (k_here; k_dflt (refine For_M ?_)))
local macro_rules | `(tactic| walk_at "exec For Tuple Name cons nil") => `(tactic| (k_here; k_dflt (refine For_M ?_)))
local macro_rules | `(tactic| walk_at "exec For") => `(tactic| (k_here; k_dflt (refine For_M ?_)))
section
theorem rs_N2 : True := by
  w_top off
  exact True.intro
def SA.nil : SA := ⟨[], fun _ => 0, fun _ => [], none, 0, 0⟩
theorem SAt.fresh {w : World} {sf dx n2i : Nat} {o : Obj} {R news' : Led} {t1 t2 t3 t4 t5 t6 : Tok} (h1 : (sf, instObj 137 dx) ∈ news') (h2 : (dx, sDict w t1 t2 t3 t4 (.ref n2i) .none (.int 0 t5) (.int 0 t6) 4) ∈ news') (h3 : (n2i, o) ∈ news')
    (hd : o.IsDictOf (PySem.intKind PySem.Challenge.rw_mj0221_01.row.prog w) []) (lo : (n2i == sysModules) = false) (n1 : dx < sf) (n2 : sf < n2i) (hR : ∀ p ∈ R, p ∈ news' ∧ @LT.lt Nat instLTNat p.1 dx) :
    SAt w sf ⟨dx, n2i, 0, fun _ => 0, fun _ => 0, fun _ => 0, tagU (tagU (tagU (fun _ => (9, 0)) n2i (2, 0)) dx (1, 0)) sf (0, 0)⟩ SA.nil R news' where
  self := h1
  dict := ⟨t1, t2, t3, t4, t5, t6, h2⟩
  tab := ⟨o, h3, hd⟩
  lo := lo
  node := fun k hk => nomatch hk
  dct := fun k hk => nomatch hk
  sucs := fun k hk => nomatch hk
  rdy := fun l hl => nomatch hl
  tself := tagU_same
  tdx := by show tagU (tagU (tagU _ _ _) _ _) _ _ dx = _; rw [tagU_ne (by omega), tagU_same]
  tn2i := by show tagU (tagU (tagU _ _ _) _ _) _ _ n2i = _; rw [tagU_ne (by omega), tagU_ne (by omega), tagU_same]
  trd := fun h => nomatch h
  tinf := fun k hk => nomatch hk
  tidc := fun k hk => nomatch hk
  tsuc := fun k hk => nomatch hk
  dnodup := List.nodup_nil
  frame := fun p hp => ⟨(hR p hp).1, by
    have := (hR p hp).2
    show tagU (tagU (tagU _ _ _) _ _) _ _ p.1 = _
    rw [tagU_ne (by omega), tagU_ne (by omega), tagU_ne (by omega)]⟩
set_option maxRecDepth 100000 in
set_option maxHeartbeats 8000000 in
theorem newSorter {w : World} {R news : Led} (hR : ∀ p ∈ R, p ∈ news) :
    Ctr w 137 [] 40 400 news (fun r news' => ∃ sf g, r = .ref sf ∧ SAt w sf g SA.nil R news') := by
  unfold Ctr
  k_fill
  intro mean mg mb dp un gd cn nm ig ic mo ad ccd cl outer A₀ base h₀ L m s Q E B F X N T hd hu hret
  k_dflt (refine' call_cls ?k1 ?k2 ?k3 ?k4 ?k5 ?k6 ?_; (case k1 => k_asm); (case k2 => k_asm); (case k3 => k_asm); (case k4 => k_is); (case k5 => k_is); (case k6 => k_is); k_whole)
  intro x1 d1 h1 F1 N1 l1 l2
  have l3 : ∀ p ∈ news, p.1 ≠ d1 := fun p hp => Nat.ne_of_lt (l1 p hp)
  have l4 : ∀ p ∈ news, @LT.lt Nat instLTNat p.1 d1 := l1
  replace l2 := ltN l2
  k_enter
  k_steps
  refine' hret _ _ _ _ (by k_asm) (by k_asm) ⟨x1, _, rfl, SAt.fresh ?h1 ?h2 ?h3 ?hd ?lo ?n1 ?n2 ?hR⟩
  (case h1 => k_mem)
  (case h2 => k_mem)
  (case h3 => k_mem)
  (case hd => assumption)
  (case lo => assumption)
  (case n1 => omega)
  (case n2 => omega)
  (case hR => exact fun p hp => ⟨List.mem_cons_of_mem _ (List.mem_cons_of_mem _ (List.mem_cons_of_mem _ (hR p hp))), l4 p (hR p hp)⟩)
end
section
theorem rs_D2 : True := by
  w_top off
  exact True.intro
def stepS (x : (Int → Int) × List Int) (j : Int) : (Int → Int) × List Int := (upd x.1 j (x.1 j - 1), if x.1 j - 1 = 0 then x.2 ++ [j] else x.2)
def SA.doneA (a : SA) (l : List Int) (k : Int) : SA :=
  { a with np := ((a.sc k).foldl stepS (upd a.np k (-2), l)).1, rdl := some ((a.sc k).foldl stepS (upd a.np k (-2), l)).2, nfi := a.nfi + 1 }
theorem stepS_len (js : List Int) : ∀ x : (Int → Int) × List Int, (js.foldl stepS x).2.length ≤ x.2.length + js.length := by
  induction js with
  | nil => intro x; simp
  | cons j r ih =>
    intro x
    rw [List.foldl_cons]
    refine Nat.le_trans (ih _) ?_
    unfold stepS
    dsimp only
    split <;> simp <;> omega
set_option maxRecDepth 100000 in
set_option maxHeartbeats 8000000 in
theorem done1 {w : World} {sf : Nat} {g : SG} {a : SA} {R news : Led} {l : List Int} {k : Int} {u : Tok} (S : SAt w sf g a R news) (hr : a.rdl = some l) (hk : k ∈ a.D) (hnp : a.np k = -1) (hsc : ∀ j ∈ a.sc k, j ∈ a.D) (hz : l.length + (a.sc k).length ≤ 1000) :
    Ctr w 120 [.ref sf, .int k u] 40 400 news (fun _ news' => ∃ g', SAt w sf g' (a.doneA l k) R news') := by
  unfold Ctr
  k_fill
  intro mean mg mb dp un gd cn nm ig ic mo ad ccd cl outer A₀ base h₀ L m s Q E B F X N T hd hu hret
  have m1 := S.self
  refine genC ?_
  intro C9 kC9
  obtain ⟨t1, t2, t3, t4, t5, t6, m2⟩ := S.dict
  refine kC9 ?_
  clear kC9 C9
  have er : rdv g a = .ref g.rd := by simp [rdv, hr]
  rw [er] at m2
  refine wpAny_call ?_
  k_enter
  k_steps
  (rename News _ _ _ _ => N3)
  (rename Fr _ _ _ _ => F3)
  have S1 := S.more (o := tupObj #[.int k u] 0) (by assumption)
  clear m1 m2 er
  k_dflt (refine' iter_tuple (Φ := SorG w sf) sorG_framed (x₀ := (a, g)) (R := (_, _) :: R) rfl (.head _) F3 N3 (fun _ _ => rfl) (fun i m x => Pins m [(Str.ofString "self", .ref sf), (Str.ofString "n2i", .ref g.n2i)] ∧ (i = 0 → x = (a, g)) ∧ (i = 1 → x = (a.doneA l k, g))) ⟨_, S1⟩ ⟨⟨rfl, rfl, trivial⟩, fun _ => rfl, fun h => absurd h (by decide)⟩ ?turn ?done)
  (case turn =>
    clear F3 N3
    intro i v m₁ x₁ R₁ news₁ h tk hi hv hr910 hR hr912 F4 N4
    refine genC ?_
    intro C9 kC9
    obtain ⟨hp, hx, _⟩ := hr910
    obtain ⟨t4, S4⟩ := hr912
    refine kC9 ?_
    clear kC9 C9
    have hi0 : i = 0 := by simpa using hi
    subst hi0
    obtain rfl : v = .int k u := by simpa using hv.symm
    obtain rfl := hx rfl
    replace F4 := Fr.pin F4 hp
    dsimp only [pinned, envOf] at F4 N4 S4
    have e1 := S4.node k hk
    have e2 := S4.dct k hk
    refine genC ?_
    intro C9 kC9
    obtain ⟨o, e3, hdd⟩ := S4.tab
    refine kC9 ?_
    clear kC9 C9
    have e4 := S4.sucs k hk
    have hlo := S4.lo
    have d1 := tag_ne (S4.tinf k hk) (S4.tidc k hk) (by simp)
    have d2 := tag_ne (S4.tinf k hk) S4.tn2i (by simp)
    have d3 := tag_ne (S4.tinf k hk) (S4.tsuc k hk) (by simp)
    dsimp only at e1 e2 e3 e4 hdd hlo d1 d2 d3
    refine genC ?_
    intro C9 kC9
    obtain ⟨tt, tt', e1⟩ := e1
    obtain ⟨vs, vn, hvs, e4⟩ := e4
    refine kC9 ?_
    clear kC9 C9
    rw [hnp] at e1
    have hva := valueAt_map_some (f := fun k => Value.ref (g.inf k)) hk
    have sp9 := News.split4 N4 e1 e2 e3 e4
    replace N4 := News.foc4 N4 e1 e2 e3 e4
    (try k_fold)
    k_steps
    (rename News _ _ _ _ => N6)
    (rename Fr _ _ _ _ => F6)
    have S6 := S4.setInfo hk (Chg.ofN N6 ⟨fun p hp hne => by (rcases sp9 p hp with rfl | rfl | rfl | rfl | h9 <;> first | exact absurd rfl hne | (simp only [List.mem_cons, true_or, or_true]; done) | (simp only [List.mem_cons, h9, or_true]; done)), by k_mem⟩)
    have q6 : SorP w sf k (listOf vs.toArray vn) ({ a with np := upd a.np k (-2) }, g) R₁ _ := ⟨_, S6, hk, by k_mem⟩
    clear e1 e2 e3 e4 sp9 S4 S6
    k_dflt (refine' iter_listG (Φ := SorP w sf k (listOf vs.toArray vn)) (x₀ := ({ a with np := upd a.np k (-2) }, g)) (R := R₁) (Inv := fun i m x => Pins m [(Str.ofString "self", .ref sf), (Str.ofString "n2i", .ref g.n2i)] ∧ x = ({ a with np := (((a.sc k).take i).foldl stepS (upd a.np k (-2), l)).1, rdl := some (((a.sc k).take i).foldl stepS (upd a.np k (-2), l)).2 }, g)) sorP_framed ?hh ?hl ?cF ?cN ?hgo ?cq ?i0 ?turn2 ?done2)
    (case hh => exact rfl)
    (case cF => exact F6)
    (case cN => exact N6)
    (case cq => exact q6)
    (case hl =>
      intro i m x R' n' _ hr96 hr97
      refine genC ?_
      intro C9 kC9
      obtain ⟨_, rfl⟩ := hr96
      obtain ⟨_, _, _, q⟩ := hr97
      refine kC9 ?_
      clear kC9 C9
      exact q)
    (case hgo => exact fun _ _ _ _ _ _ _ _ q => wpAny_pure q)
    (case i0 => exact ⟨⟨rfl, rfl, trivial⟩, by simp [hr]⟩)
    (case turn2 =>
      clear F6 N6 q6
      intro i v m₁ x₁ R₂ news₂ h tk hi hv hr910 hR hr912 F7 N7
      refine genC ?_
      intro C9 kC9
      obtain ⟨hp, rfl⟩ := hr910
      obtain ⟨t7, S7, _, q7⟩ := hr912
      obtain ⟨j, tj, hj, rfl⟩ := ints_at hvs hv
      refine kC9 ?_
      clear kC9 C9
      replace F7 := Fr.pin F7 hp
      dsimp only [pinned, envOf] at F7 N7 S7
      have hjD := hsc j (List.mem_of_getElem? hj)
      generalize hst : ((a.sc k).take i).foldl stepS (upd a.np k (-2), l) = st at S7
      have hlen : st.2.length ≤ 1000 := by
        rw [← hst]
        refine Nat.le_trans (stepS_len _ _) ?_
        rw [List.length_take]
        dsimp only
        omega
      have hnx : ((a.sc k).take (i + 1)).foldl stepS (upd a.np k (-2), l) = stepS st j := by
        rw [List.take_add_one, hj]; simp [hst]
      have e1 := S7.node j hjD
      have e2 := S7.dct j hjD
      have e3 := S7.tab
      have e4 := S7.self
      have e5 := S7.dict
      have e6 := S7.rdy st.2 rfl
      have hlo := S7.lo
      have tr := S7.trd rfl
      have d1 := tag_ne (S7.tinf j hjD) (S7.tidc j hjD) (by simp)
      have d2 := tag_ne (S7.tinf j hjD) S7.tn2i (by simp)
      have d3 := tag_ne (S7.tinf j hjD) S7.tself (by simp)
      have d4 := tag_ne (S7.tinf j hjD) S7.tdx (by simp)
      have d5 := tag_ne (S7.tinf j hjD) tr (by simp)
      have c1 := tag_ne tr (S7.tidc j hjD) (by simp)
      have c2 := tag_ne tr S7.tn2i (by simp)
      have c3 := tag_ne tr S7.tself (by simp)
      have c4 := tag_ne tr S7.tdx (by simp)
      have f1 := tag_ne (S7.tsuc k (by assumption)) (S7.tinf j hjD) (by simp)
      have f2 := tag_ne (S7.tsuc k (by assumption)) tr (by simp)
      have er : rdv { g with tag := t7 } { a with np := st.1, rdl := some st.2 } = .ref g.rd := rfl
      rw [er] at e5
      dsimp only at e1 e2 e3 e4 e5 e6 hlo d1 d2 d3 d4 d5 c1 c2 c3 c4 q7 f1 f2
      refine genC ?_
      intro C9 kC9
      obtain ⟨tt, tt', e1⟩ := e1
      obtain ⟨o', e3, hdd'⟩ := e3
      obtain ⟨t1, t2, t3, t4', t5, t6, e5⟩ := e5
      obtain ⟨us, un', hus, e6⟩ := e6
      refine kC9 ?_
      clear kC9 C9
      have hz' : us.toArray.size ≤ sizeLine := by rw [sizeLine_eq, List.size_toArray, hus.length]; omega
      have hva := valueAt_map_some (f := fun k => Value.ref (g.inf k)) hjD
      have sp9 := News.split6 N7 e1 e2 e3 e4 e5 e6
      replace N7 := News.foc6 N7 e1 e2 e3 e4 e5 e6
      (try k_fold)
      k_steps
      · (rename News _ _ _ _ => N8)
        (rename Fr _ _ _ _ => F8)
        simp only [List.push_toArray] at N8
        obtain ⟨nc, hnc⟩ := News.ex (a := g.rd) (f := fun n => listOf (us ++ [Value.int j tj]).toArray n) N8 ⟨_, by k_mem⟩
        have S8 := S7.setRdy (n := nc) (news' := (g.rd, listOf (us ++ [Value.int j tj]).toArray nc) :: offL [g.rd] news₂) rfl (ints_snoc hus) ⟨fun p hp hne => mem_foc hp hne, .head _⟩
        have S9 := S8.setInfo (k := j) hjD (Chg.ofN N8 ⟨fun p hp hne => by
          rcases List.mem_cons.mp hp with rfl | hp
          · exact hnc
          · have h := mem_offL.mp hp
            rcases sp9 p h.1 with rfl | rfl | rfl | rfl | rfl | rfl | h9
            · exact absurd rfl hne
            · simp
            · simp
            · simp
            · simp
            · exact absurd (List.mem_singleton.mpr rfl) h.2
            · simp [h9], by k_mem⟩)
        have hs : stepS st j = (upd st.1 j (st.1 j - 1), st.2 ++ [j]) := by unfold stepS; rw [if_pos (by assumption)]
        k_dflt (refine TEnd.next (_, g) F8 N8 ⟨_, S9, by assumption, ?_⟩ ⟨⟨rfl, rfl, trivial⟩, ?_⟩)
        · rcases sp9 _ q7 with e | e | e | e | e | e | h9
          · exact absurd (congrArg Prod.fst e) f1
          · rw [e]; simp
          · rw [e]; simp
          · rw [e]; simp
          · rw [e]; simp
          · exact absurd (congrArg Prod.fst e) f2
          · simp [h9]
        · rw [hnx, hs]
      · (rename News _ _ _ _ => N8)
        (rename Fr _ _ _ _ => F8)
        have S9 := S7.setInfo (k := j) hjD (Chg.ofN N8 ⟨fun p hp hne => by (rcases sp9 p hp with rfl | rfl | rfl | rfl | rfl | rfl | h9 <;> first | exact absurd rfl hne | (simp only [List.mem_cons, true_or, or_true]; done) | (simp only [List.mem_cons, h9, or_true]; done)), by k_mem⟩)
        have hs : stepS st j = (upd st.1 j (st.1 j - 1), st.2) := by unfold stepS; rw [if_neg (by assumption)]
        k_dflt (refine TEnd.next (_, g) F8 N8 ⟨_, S9, by assumption, ?_⟩ ⟨⟨rfl, rfl, trivial⟩, ?_⟩)
        · rcases sp9 _ q7 with e | e | e | e | e | e | h9
          · exact absurd (congrArg Prod.fst e) f1
          · rw [e]; simp
          · rw [e]; simp
          · rw [e]; simp
          · rw [e]; simp
          · rw [e]; simp
          · simp [h9]
        · rw [hnx, hs])
    (case done2 =>
      clear F6 N6 q6
      intro m' x' news' h' tk hr95 hr96 F7 N7
      refine genC ?_
      intro C9 kC9
      obtain ⟨hp, rfl⟩ := hr95
      obtain ⟨t7, S7, _, _⟩ := hr96
      refine kC9 ?_
      clear kC9 C9
      replace F7 := Fr.pin F7 hp
      dsimp only [pinned, envOf] at F7 N7 S7
      have el : vs.toArray.size = (a.sc k).length := by rw [List.size_toArray, hvs.length]
      rw [el, List.take_length] at S7
      have e4 := S7.self
      have e5 := S7.dict
      have d1 := tag_ne S7.tself S7.tdx (by simp)
      have er : rdv { g with tag := t7 } { a with np := ((a.sc k).foldl stepS (upd a.np k (-2), l)).1, rdl := some ((a.sc k).foldl stepS (upd a.np k (-2), l)).2 } = .ref g.rd := rfl
      rw [er] at e5
      dsimp only at e4 e5 d1
      refine genC ?_
      intro C9 kC9
      obtain ⟨t1, t2, t3, t4', t5, t6, e5⟩ := e5
      refine kC9 ?_
      clear kC9 C9
      have sp9 := News.split2 N7 e4 e5
      replace N7 := News.foc2 N7 e4 e5
      (try dsimp only)
      k_steps
      (rename News _ _ _ _ => N8)
      (rename Fr _ _ _ _ => F8)
      have S9 := S7.setDict (Chg.ofN N8 ⟨fun p hp hne => by (rcases sp9 p hp with rfl | rfl | h9 <;> first | exact absurd rfl hne | (simp only [List.mem_cons, true_or, or_true]; done) | (simp only [List.mem_cons, h9, or_true]; done)), by k_mem⟩)
      k_dflt (exact TEnd.next (a.doneA l k, g) F8 N8 ⟨_, S9⟩ ⟨⟨rfl, rfl, trivial⟩, fun h => absurd h (by decide), fun _ => rfl⟩)))
  (case done =>
    intro m' x' news' h' tk hr95 hr96 F' N'
    refine genC ?_
    intro C9 kC9
    obtain ⟨_, _, hx⟩ := hr95
    obtain ⟨g', S'⟩ := hr96
    refine kC9 ?_
    clear kC9 C9
    clear F3 N3
    obtain rfl := hx rfl
    (try dsimp only)
    k_steps
    exact hret _ _ _ _ (by k_asm) (by k_asm) ⟨_, S'.less fun p hp => List.mem_cons_of_mem _ hp⟩)
end
section
/-- a levelled graph -/
structure Lv (a : SA) (lev : Int → Nat) : Prop where
  nod : a.D.Nodup
  edge : ∀ k ∈ a.D, ∀ j ∈ a.sc k, j ∈ a.D ∧ lev k < lev j
  deg : ∀ k ∈ a.D, a.np k = ((a.D.flatMap a.sc).count k : Nat)
  pred : ∀ k ∈ a.D, 0 < lev k → ∃ p ∈ a.D, lev p + 1 = lev k ∧ k ∈ a.sc p
/-- at the head of the turn of level i -/
structure GI (a : SA) (lev : Int → Nat) (i : Nat) (b : SA) (l : List Int) : Prop where
  D : b.D = a.D
  sc : b.sc = a.sc
  rdl : b.rdl = some l
  nod : l.Nodup
  mem : ∀ k, k ∈ l ↔ k ∈ a.D ∧ lev k = i
  np : ∀ k ∈ a.D, i < lev k → b.np k = (((a.D.filter fun p => decide (i ≤ lev p)).flatMap a.sc).count k : Nat)
  eq : b.npo = b.nfi
/-- after some have been done -/
structure DI (a : SA) (lev : Int → Nat) (i : Nat) (todo : List Int) (c : SA) (r : List Int) : Prop where
  D : c.D = a.D
  sc : c.sc = a.sc
  rdl : c.rdl = some r
  out : ∀ k ∈ todo, c.np k = -1
  np : ∀ k ∈ a.D, i < lev k → c.np k = ((todo.flatMap a.sc ++ (a.D.filter fun p => decide (i + 1 ≤ lev p)).flatMap a.sc).count k : Nat)
  nod : r.Nodup
  mem : ∀ k, k ∈ r ↔ k ∈ a.D ∧ i < lev k ∧ c.np k = 0
theorem lv_filter {a : SA} {lev : Int → Nat} {i : Nat} {l : List Int} (G : Lv a lev) (hn : l.Nodup) (hm : ∀ k, k ∈ l ↔ k ∈ a.D ∧ lev k = i) :
    (a.D.filter fun p => decide (i ≤ lev p)).Perm (l ++ a.D.filter fun p => decide (i + 1 ≤ lev p)) := by
  rw [List.perm_ext_iff_of_nodup (G.nod.filter _)]
  · intro k
    simp only [List.mem_filter, List.mem_append, decide_eq_true_eq, hm]
    constructor
    · rintro ⟨h1, h2⟩
      rcases Nat.lt_or_eq_of_le h2 with h | h
      · exact .inr ⟨h1, h⟩
      · exact .inl ⟨h1, h.symm⟩
    · rintro (⟨h1, h2⟩ | ⟨h1, h2⟩)
      · exact ⟨h1, by omega⟩
      · exact ⟨h1, by omega⟩
  · rw [List.nodup_append]
    refine ⟨hn, G.nod.filter _, fun x hx y hy e => ?_⟩
    have h1 := ((hm x).mp hx).2
    have h2 := (List.mem_filter.mp hy).2
    simp only [decide_eq_true_eq] at h2
    rw [← e] at h2; omega
theorem upd_fold_in {l : List Int} : ∀ {f : Int → Int} {k : Int}, k ∈ l → l.foldl (fun f k => upd f k (-1)) f k = -1 := by
  induction l with
  | nil => intro f k h; cases h
  | cons x r ih =>
    intro f k h
    rw [List.foldl_cons]
    by_cases hr : k ∈ r
    · exact ih hr
    · have hk : k = x := by rcases List.mem_cons.mp h with e | h; exact e; exact absurd h hr
      subst hk
      have out : ∀ (l : List Int) (f : Int → Int), k ∉ l → l.foldl (fun f k => upd f k (-1)) f k = f k := by
        intro l
        induction l with
        | nil => intro f _; rfl
        | cons y q ih2 =>
          intro f hn
          rw [List.foldl_cons, ih2 _ (fun h => hn (List.mem_cons_of_mem _ h)), upd_ne (fun e => hn (by rw [e]; exact .head _))]
      rw [out r _ hr, upd_same]
theorem upd_fold_out {l : List Int} : ∀ {f : Int → Int} {k : Int}, k ∉ l → l.foldl (fun f k => upd f k (-1)) f k = f k := by
  induction l with
  | nil => intro f k _; rfl
  | cons y q ih2 =>
    intro f k hn
    rw [List.foldl_cons, ih2 (fun h => hn (List.mem_cons_of_mem _ h)), upd_ne (fun e => hn (by rw [e]; exact .head _))]
theorem DI.start {a b : SA} {lev : Int → Nat} {i : Nat} {l : List Int} (G : Lv a lev) (H : GI a lev i b l) :
    DI a lev i l { b with np := l.foldl (fun f k => upd f k (-1)) b.np, rdl := some [], npo := b.npo + l.length } [] where
  D := H.D
  sc := H.sc
  rdl := rfl
  out := fun k hk => upd_fold_in hk
  np := fun k hk hl => by
    have hn : k ∉ l := fun h => by have := ((H.mem k).mp h).2; omega
    show l.foldl _ b.np k = _
    rw [upd_fold_out hn, H.np k hk hl, ((lv_filter G H.nod H.mem).flatMap_right a.sc).count_eq, List.flatMap_append]
  nod := List.nodup_nil
  mem := fun k => by
    constructor
    · intro h; cases h
    · rintro ⟨h1, h2, h3⟩
      have hn : k ∉ l := fun h => by have := ((H.mem k).mp h).2; omega
      have h3 : l.foldl (fun f k => upd f k (-1)) b.np k = 0 := h3
      rw [upd_fold_out hn, H.np k h1 h2] at h3
      obtain ⟨p, hp, hl, hs⟩ := G.pred k h1 (by omega)
      have hmem : k ∈ (a.D.filter fun p => decide (i ≤ lev p)).flatMap a.sc := List.mem_flatMap.mpr ⟨p, List.mem_filter.mpr ⟨hp, by simp; omega⟩, hs⟩
      have := List.count_pos_iff.mpr hmem
      omega
/-- one list of successors -/
theorem stepS_all (P : Int → Prop) (E : List Int) : ∀ (js : List Int) (x : (Int → Int) × List Int), (∀ j ∈ js, P j) →
    (∀ k, P k → x.1 k = ((js ++ E).count k : Nat)) → x.2.Nodup → (∀ k, k ∈ x.2 ↔ P k ∧ x.1 k = 0) →
    (∀ k, P k → (js.foldl stepS x).1 k = (E.count k : Nat)) ∧ (js.foldl stepS x).2.Nodup ∧ (∀ k, k ∈ (js.foldl stepS x).2 ↔ P k ∧ (js.foldl stepS x).1 k = 0) ∧ ∀ k, ¬ P k → (js.foldl stepS x).1 k = x.1 k := by
  intro js
  induction js with
  | nil => intro x _ h1 h2 h3; exact ⟨h1, h2, h3, fun _ _ => rfl⟩
  | cons j r ih =>
    intro x hP h1 h2 h3
    have hj := hP j (.head _)
    have hxj := h1 j hj
    have hpos : 0 < ((j :: r) ++ E).count j := List.count_pos_iff.mpr (by simp)
    have hcj : ((j :: r) ++ E).count j = (r ++ E).count j + 1 := by rw [List.cons_append, List.count_cons_self]
    have e1 : ∀ k, P k → (stepS x j).1 k = ((r ++ E).count k : Nat) := fun k hk => by
      show upd x.1 j (x.1 j - 1) k = _
      by_cases e : k = j
      · subst e; rw [upd_same, hxj, hcj]; omega
      · rw [upd_ne e, h1 k hk, List.cons_append, List.count_cons_of_ne (fun q => e q.symm)]
    have e3 : ∀ k, k ∈ (stepS x j).2 ↔ P k ∧ (stepS x j).1 k = 0 := fun k => by
      show k ∈ (if x.1 j - 1 = 0 then x.2 ++ [j] else x.2) ↔ P k ∧ upd x.1 j (x.1 j - 1) k = 0
      by_cases e : k = j
      · subst e
        rw [upd_same]
        have hn : k ∉ x.2 := fun h => by have := ((h3 k).mp h).2; rw [hxj] at this; omega
        by_cases q : x.1 k - 1 = 0
        · rw [if_pos q]; simp [hj, q]
        · rw [if_neg q]; simp [hn, q]
      · rw [upd_ne e, ← h3 k]
        split
        · simp [e]
        · rfl
    have e2 : (stepS x j).2.Nodup := by
      show (if x.1 j - 1 = 0 then x.2 ++ [j] else x.2).Nodup
      split
      · rw [List.nodup_append]
        refine ⟨h2, by simp, fun u hu v hv e => ?_⟩
        have : v = j := by simpa using hv
        subst this
        subst e
        have := ((h3 u).mp hu).2
        rw [hxj] at this; omega
      · exact h2
    have hh := ih (stepS x j) (fun k hk => hP k (List.mem_cons_of_mem _ hk)) e1 e2 e3
    rw [List.foldl_cons]
    refine ⟨hh.1, hh.2.1, hh.2.2.1, fun k hk => ?_⟩
    rw [hh.2.2.2 k hk]
    show upd x.1 j (x.1 j - 1) k = _
    have hne : k ≠ j := fun e => hk (by rw [e]; exact hj)
    rw [upd_ne hne]
theorem DI.step {a c : SA} {lev : Int → Nat} {i : Nat} {k : Int} {todo r : List Int} (G : Lv a lev) (hl : ∀ j ∈ k :: todo, j ∈ a.D ∧ lev j = i) (hn : (k :: todo).Nodup) (H : DI a lev i (k :: todo) c r) :
    ∃ r', DI a lev i todo (c.doneA r k) r' := by
  have hk := hl k (.head _)
  have hpw := List.nodup_cons.mp hn
  have main := stepS_all (fun j => j ∈ a.D ∧ i < lev j) (todo.flatMap a.sc ++ (a.D.filter fun p => decide (i + 1 ≤ lev p)).flatMap a.sc) (a.sc k) (upd c.np k (-2), r)
    (fun j hj => ⟨(G.edge k hk.1 j hj).1, by have := (G.edge k hk.1 j hj).2; omega⟩)
    (fun j hj => by
      show upd c.np k (-2) j = _
      rw [upd_ne (fun e => by rw [e] at hj; omega), H.np j hj.1 hj.2, List.flatMap_cons, List.append_assoc])
    H.nod
    (fun j => by
      show j ∈ r ↔ (j ∈ a.D ∧ i < lev j) ∧ upd c.np k (-2) j = 0
      rw [H.mem j]
      by_cases e : j = k
      · subst e; constructor
        · rintro ⟨_, h, _⟩; omega
        · rintro ⟨⟨_, h⟩, _⟩; omega
      · rw [upd_ne e, and_assoc])
  refine ⟨((a.sc k).foldl stepS (upd c.np k (-2), r)).2, ?_⟩
  have esc : c.sc k = a.sc k := by rw [H.sc]
  exact {
    D := H.D
    sc := H.sc
    rdl := by show some _ = some _; rw [esc]
    out := fun j hj => by
      show ((c.sc k).foldl stepS (upd c.np k (-2), r)).1 j = -1
      rw [esc, main.2.2.2 j (fun q => by have := (hl j (List.mem_cons_of_mem _ hj)).2; omega)]
      show upd c.np k (-2) j = -1
      have hne : j ≠ k := fun e => hpw.1 (by rw [← e]; exact hj)
      rw [upd_ne hne]
      exact H.out j (List.mem_cons_of_mem _ hj)
    np := fun j hj hlj => by
      show ((c.sc k).foldl stepS (upd c.np k (-2), r)).1 j = _
      rw [esc]; exact main.1 j ⟨hj, hlj⟩
    nod := main.2.1
    mem := fun j => by
      show _ ↔ _ ∧ _ ∧ ((c.sc k).foldl stepS (upd c.np k (-2), r)).1 j = 0
      rw [esc, main.2.2.1 j, and_assoc] }
theorem DI.finish {a c : SA} {lev : Int → Nat} {i : Nat} {r : List Int} (G : Lv a lev) (H : DI a lev i [] c r) (he : c.npo = c.nfi) : GI a lev (i + 1) c r where
  D := H.D
  sc := H.sc
  rdl := H.rdl
  nod := H.nod
  mem := fun k => by
    rw [H.mem k]
    constructor
    · rintro ⟨h1, h2, h3⟩
      refine ⟨h1, ?_⟩
      rw [H.np k h1 h2, List.flatMap_nil, List.nil_append] at h3
      rcases Nat.lt_or_eq_of_le h2 with h | h
      · obtain ⟨p, hp, hl, hs⟩ := G.pred k h1 (by omega)
        have hmem : k ∈ (a.D.filter fun p => decide (i + 1 ≤ lev p)).flatMap a.sc := List.mem_flatMap.mpr ⟨p, List.mem_filter.mpr ⟨hp, by simp; omega⟩, hs⟩
        have := List.count_pos_iff.mpr hmem
        omega
      · exact h.symm
    · rintro ⟨h1, h2⟩
      refine ⟨h1, by omega, ?_⟩
      rw [H.np k h1 (by omega), List.flatMap_nil, List.nil_append]
      have : ((a.D.filter fun p => decide (i + 1 ≤ lev p)).flatMap a.sc).count k = 0 := by
        rw [List.count_eq_zero]
        intro hm
        obtain ⟨p, hp, hs⟩ := List.mem_flatMap.mp hm
        have hp := List.mem_filter.mp hp
        have h4 := (G.edge p hp.1 k hs).2
        have h5 := hp.2
        simp only [decide_eq_true_eq] at h5
        omega
      rw [this]; rfl
  np := fun k hk hl => by
    rw [H.np k hk (by omega), List.flatMap_nil, List.nil_append]
  eq := he
theorem GI.start {a b : SA} {lev : Int → Nat} (G : Lv a lev) (hD : b.D = a.D) (hs : b.sc = a.sc) (hn : b.np = a.np) (hr : b.rdl = some (a.D.filter fun k => decide (a.np k = 0))) (he : b.npo = b.nfi) :
    GI a lev 0 b (a.D.filter fun k => decide (a.np k = 0)) where
  D := hD
  sc := hs
  rdl := hr
  nod := G.nod.filter _
  mem := fun k => by
    rw [List.mem_filter]
    constructor
    · rintro ⟨h1, h2⟩
      refine ⟨h1, ?_⟩
      have h2 : a.np k = 0 := by simpa using h2
      rcases Nat.eq_zero_or_pos (lev k) with h | h
      · exact h
      · obtain ⟨p, hp, _, hs⟩ := G.pred k h1 h
        have := List.count_pos_iff.mpr (List.mem_flatMap.mpr ⟨p, hp, hs⟩)
        rw [G.deg k h1] at h2
        omega
    · rintro ⟨h1, h2⟩
      refine ⟨h1, ?_⟩
      have : (a.D.flatMap a.sc).count k = 0 := by
        rw [List.count_eq_zero]
        intro hm
        obtain ⟨p, hp, hs⟩ := List.mem_flatMap.mp hm
        have := (G.edge p hp k hs).2
        omega
      rw [G.deg k h1, this]; rfl
  np := fun k hk hl => by
    rw [hn, G.deg k hk]
    have : (a.D.filter fun p => decide (0 ≤ lev p)) = a.D := by simp
    rw [this]
  eq := he
theorem lv_none {a : SA} {lev : Int → Nat} {i : Nat} (G : Lv a lev) (h : ∀ k ∈ a.D, lev k ≠ i) : ∀ k ∈ a.D, lev k < i := by
  have key : ∀ n, ∀ k ∈ a.D, lev k = i + n → False := by
    intro n
    induction n with
    | zero => intro k hk e; exact h k hk e
    | succ n ih =>
      intro k hk e
      obtain ⟨p, hp, hl, _⟩ := G.pred k hk (by omega)
      exact ih p hp (by omega)
  intro k hk
  rcases Nat.lt_or_ge (lev k) i with h | h
  · exact h
  · exact absurd (show lev k = i + (lev k - i) by omega) (key _ k hk)
theorem lv_bound {a : SA} {lev : Int → Nat} (G : Lv a lev) : ∀ k ∈ a.D, lev k < a.D.length := by
  have key : ∀ n, ∀ k ∈ a.D, lev k = n → ∃ l : List Int, l.Nodup ∧ l.length = n + 1 ∧ (∀ x ∈ l, x ∈ a.D ∧ lev x ≤ n) := by
    intro n
    induction n with
    | zero => intro k hk e; exact ⟨[k], by simp, rfl, fun x hx => by rw [List.mem_singleton.mp hx]; exact ⟨hk, by omega⟩⟩
    | succ n ih =>
      intro k hk e
      obtain ⟨p, hp, hl, _⟩ := G.pred k hk (by omega)
      obtain ⟨l, h1, h2, h3⟩ := ih p hp (by omega)
      refine ⟨k :: l, List.nodup_cons.mpr ⟨fun h => by have := (h3 k h).2; omega, h1⟩, by simp [h2], fun x hx => ?_⟩
      rcases List.mem_cons.mp hx with rfl | hx
      · exact ⟨hk, by omega⟩
      · exact ⟨(h3 x hx).1, by have := (h3 x hx).2; omega⟩
  intro k hk
  obtain ⟨l, h1, h2, h3⟩ := key _ k hk rfl
  have := h1.length_le_of_subset (l₂ := a.D) (fun x hx => (h3 x hx).1)
  omega
/-- the levels, each in order -/
structure Levels (D : List Int) (lev : Int → Nat) (ls : List (List Int)) : Prop where
  lv : ∀ j ns, ls[j]? = some ns → ns.Pairwise (· < ·) ∧ ns ≠ [] ∧ ∀ k, k ∈ ns ↔ k ∈ D ∧ lev k = j
  all : ∀ k ∈ D, lev k < ls.length
theorem sorted_strict {l ns : List Int} (hn : l.Nodup) (hp : ns.Perm l) (hs : ns.Pairwise (· ≤ ·)) : ns.Pairwise (· < ·) := by
  have hnn : ns.Nodup := hp.nodup_iff.mpr hn
  have := List.Pairwise.and hs hnn
  exact this.imp fun h => by omega
end
section
/-- a graph in the making: nodes among N, at most c edges a node -/
structure GB (N : List Int) (c : Nat) (E : Int → Int → Prop) (a : SA) : Prop where
  nod : a.D.Nodup
  rdl : a.rdl = none
  eq : a.npo = a.nfi
  sub : ∀ k ∈ a.D, k ∈ N
  adj : ∀ p ∈ a.D, ∀ j, j ∈ a.sc p ↔ E p j
  ends : ∀ p j, E p j → p ∈ a.D ∧ j ∈ a.D
  deg : ∀ k ∈ a.D, a.np k = ((a.D.flatMap a.sc).count k : Nat)
  len : ∀ p, (a.sc p).length ≤ c
theorem flatMap_upd_out {D : List Int} {sc : Int → List Int} {k : Int} {v : List Int} (h : k ∉ D) : D.flatMap (upd sc k v) = D.flatMap sc := by
  induction D with
  | nil => rfl
  | cons x r ih =>
    rw [List.flatMap_cons, List.flatMap_cons, ih (fun q => h (List.mem_cons_of_mem _ q)), upd_ne (fun e => h (by rw [e]; exact .head _))]
theorem GB.nil : GB N 0 (fun _ _ => False) ⟨[], fun _ => 0, fun _ => [], none, 0, 0⟩ where
  nod := List.nodup_nil
  rdl := rfl
  eq := rfl
  sub := fun _ h => nomatch h
  adj := fun _ h => nomatch h
  ends := fun _ _ h => h.elim
  deg := fun _ h => nomatch h
  len := fun _ => Nat.le_refl _
theorem GB.more {N : List Int} {c c' : Nat} {E : Int → Int → Prop} {a : SA} (H : GB N c E a) (h : c ≤ c') : GB N c' E a := { H with len := fun p => Nat.le_trans (H.len p) h }
theorem GB.cong {N : List Int} {c : Nat} {E E' : Int → Int → Prop} {a : SA} (H : GB N c E a) (h : ∀ p j, E p j ↔ E' p j) : GB N c E' a :=
  { H with adj := fun p hp j => (H.adj p hp j).trans (h p j), ends := fun p j q => H.ends p j ((h p j).mpr q) }
theorem ins_in {a : SA} {k j : Int} : j ∈ (a.ins k).D ↔ j ∈ a.D ∨ j = k := by
  unfold SA.ins
  split
  · constructor
    · exact .inl
    · rintro (h | h)
      · exact h
      · rw [h]; assumption
  · simp
theorem GB.ins {N : List Int} {c : Nat} {E : Int → Int → Prop} {a : SA} {k : Int} (H : GB N c E a) (hk : k ∈ N) : GB N c E (a.ins k) := by
  by_cases h : k ∈ a.D
  · have : a.ins k = a := by unfold SA.ins; rw [if_pos h]
    rw [this]; exact H
  · have e : a.ins k = { a with D := a.D ++ [k], np := upd a.np k 0, sc := upd a.sc k [] } := by unfold SA.ins; rw [if_neg h]
    rw [e]
    have fm : (a.D ++ [k]).flatMap (upd a.sc k []) = a.D.flatMap a.sc := by
      rw [List.flatMap_append, flatMap_upd_out h]; simp [upd_same]
    have noE : ∀ p ∈ a.D, k ∉ a.sc p := fun p hp q => h (H.ends p k ((H.adj p hp k).mp q)).2
    exact {
      nod := by
        rw [List.nodup_append]
        exact ⟨H.nod, by simp, fun x hx y hy q => h (by have : y = k := by simpa using hy
                                                        rw [← this, ← q]; exact hx)⟩
      rdl := H.rdl
      eq := H.eq
      sub := fun j hj => by
        rcases List.mem_append.mp hj with hj | hj
        · exact H.sub j hj
        · rw [List.mem_singleton.mp hj]; exact hk
      adj := fun p hp j => by
        show j ∈ upd a.sc k [] p ↔ _
        rcases List.mem_append.mp hp with hp | hp
        · rw [upd_ne (fun e => h (by rw [← e]; exact hp))]; exact H.adj p hp j
        · rw [List.mem_singleton.mp hp, upd_same]
          constructor
          · intro q; cases q
          · intro q; exact absurd (H.ends _ _ q).1 h
      ends := fun p j q => ⟨List.mem_append_left _ (H.ends p j q).1, List.mem_append_left _ (H.ends p j q).2⟩
      deg := fun j hj => by
        show upd a.np k 0 j = _
        rw [fm]
        rcases List.mem_append.mp hj with hj | hj
        · rw [upd_ne (fun e => h (by rw [← e]; exact hj))]; exact H.deg j hj
        · rw [List.mem_singleton.mp hj, upd_same]
          have : (a.D.flatMap a.sc).count k = 0 := by
            rw [List.count_eq_zero]
            intro q
            obtain ⟨p, hp, hs⟩ := List.mem_flatMap.mp q
            exact noE p hp hs
          rw [this]; rfl
      len := fun p => by
        show (upd a.sc k [] p).length ≤ c
        by_cases e : p = k
        · rw [e, upd_same]; simp
        · rw [upd_ne e]; exact H.len p }
theorem count_upd {sc : Int → List Int} {p k : Int} : ∀ {D : List Int}, D.Nodup → p ∈ D → ∀ j, (D.flatMap (upd sc p (sc p ++ [k]))).count j = (D.flatMap sc).count j + if j = k then 1 else 0 := by
  intro D
  induction D with
  | nil => intro _ h; cases h
  | cons x r ih =>
    intro hn h j
    have hn' := List.nodup_cons.mp hn
    rw [List.flatMap_cons, List.flatMap_cons, List.count_append, List.count_append]
    by_cases e : x = p
    · subst e
      rw [upd_same, flatMap_upd_out hn'.1, List.count_append]
      have : List.count j [k] = if j = k then 1 else 0 := by
        by_cases q : j = k
        · subst q; simp
        · rw [if_neg q, List.count_eq_zero]; simpa using q
      rw [this]; omega
    · have hp : p ∈ r := by
        rcases List.mem_cons.mp h with q | q
        · exact absurd q.symm e
        · exact q
      rw [upd_ne e, ih hn'.2 hp j]; omega
theorem bump_ins {a : SA} {k p d : Int} (hk : k ∈ a.D) : (a.bump k d).ins p = (a.ins p).bump k d := by
  unfold SA.bump SA.ins
  dsimp only
  by_cases h : p ∈ a.D
  · rw [if_pos h, if_pos h]
  · rw [if_neg h, if_neg h]
    have hne : k ≠ p := fun e => h (by rw [← e]; exact hk)
    have e1 : upd (upd a.np k (a.np k + d)) p 0 = upd (upd a.np p 0) k (upd a.np p 0 k + d) := by
      funext j
      rw [upd_ne hne]
      by_cases h1 : j = p
      · subst h1; rw [upd_same, upd_ne (Ne.symm hne), upd_same]
      · rw [upd_ne h1]
        by_cases h2 : j = k
        · subst h2; rw [upd_same, upd_same]
        · rw [upd_ne h2, upd_ne h2, upd_ne h1]
    rw [e1]
theorem GB.add1 {N : List Int} {c : Nat} {E : Int → Int → Prop} {a : SA} {k p : Int} (H : GB N c E a) (hk : k ∈ N) (hp : p ∈ N) : GB N (c + 1) (fun x y => E x y ∨ (x = p ∧ y = k)) (a.add1 k p) := by
  have H2 := (H.ins hk).ins hp
  have hkD : k ∈ (a.ins k).D := ins_in.mpr (.inr rfl)
  have e : a.add1 k p = (((a.ins k).ins p).bump k 1).link p k := by unfold SA.add1; rw [bump_ins hkD]
  rw [e]
  generalize hb : (a.ins k).ins p = b at H2
  have hkb : k ∈ b.D := by rw [← hb]; exact ins_in.mpr (.inl hkD)
  have hpb : p ∈ b.D := by rw [← hb]; exact ins_in.mpr (.inr rfl)
  exact {
    nod := H2.nod
    rdl := H2.rdl
    eq := H2.eq
    sub := H2.sub
    adj := fun q hq j => by
      show j ∈ upd b.sc p (b.sc p ++ [k]) q ↔ _
      by_cases e : q = p
      · subst e; rw [upd_same, List.mem_append, H2.adj q hq j]; simp
      · rw [upd_ne e, H2.adj q hq j]; simp [e]
    ends := fun x y q => by
      rcases q with q | ⟨rfl, rfl⟩
      · exact H2.ends x y q
      · exact ⟨hpb, hkb⟩
    deg := fun j hj => by
      show upd b.np k (b.np k + 1) j = ((b.D.flatMap (upd b.sc p (b.sc p ++ [k]))).count j : Nat)
      rw [count_upd H2.nod hpb j]
      by_cases e : j = k
      · subst e; rw [upd_same, H2.deg j hj, if_pos rfl]; omega
      · rw [upd_ne e, if_neg e, H2.deg j hj]; omega
    len := fun q => by
      show (upd b.sc p (b.sc p ++ [k]) q).length ≤ c + 1
      by_cases e : q = p
      · subst e; rw [upd_same, List.length_append]; have := H2.len q; simp; omega
      · rw [upd_ne e]; have := H2.len q; omega }
theorem add1_mem {a : SA} {k p j : Int} : j ∈ (a.add1 k p).D ↔ j ∈ a.D ∨ j = k ∨ j = p := by
  show j ∈ (((a.ins k).bump k 1).ins p).D ↔ _
  rw [ins_in]
  show j ∈ (a.ins k).D ∨ _ ↔ _
  rw [ins_in, or_assoc]
/-- all that is told to the first sorter -/
def needI (first : Int) (a : SA) (o : Int × Int) : SA := if o.2 ≤ first then a.add1 first o.1 else a
def needO (st : List (Int × Int)) (a : SA) (t : Int × Int) : SA := st.foldl (needI t.1) (a.ins t.1)
theorem needI_gb {N : List Int} {c : Nat} {E : Int → Int → Prop} {k : Int} (hk : k ∈ N) : ∀ (l : List (Int × Int)) {a : SA}, (∀ o ∈ l, o.1 ∈ N) → GB N c E a → k ∈ a.D →
    GB N (c + l.length) (fun x y => E x y ∨ ∃ o ∈ l, o.2 ≤ k ∧ x = o.1 ∧ y = k) (l.foldl (needI k) a) ∧ (∀ j ∈ a.D, j ∈ (l.foldl (needI k) a).D) := by
  intro l
  induction l generalizing c E with
  | nil => intro a _ H _; exact ⟨H.cong fun p j => by simp, fun _ h => h⟩
  | cons o r ih =>
    intro a hN H hka
    rw [List.foldl_cons]
    by_cases h : o.2 ≤ k
    · have e : needI k a o = a.add1 k o.1 := by unfold needI; rw [if_pos h]
      rw [e]
      have := ih (fun x hx => hN x (List.mem_cons_of_mem _ hx)) (H.add1 hk (hN o (.head _))) (add1_mem.mpr (.inl hka))
      refine ⟨(this.1.more (by simp only [List.length_cons]; omega)).cong fun p j => ?_, fun j hj => this.2 j (add1_mem.mpr (.inl hj))⟩
      constructor
      · rintro ((q | ⟨rfl, rfl⟩) | ⟨x, hx, q⟩)
        · exact .inl q
        · exact .inr ⟨o, .head _, h, rfl, rfl⟩
        · exact .inr ⟨x, List.mem_cons_of_mem _ hx, q⟩
      · rintro (q | ⟨x, hx, q⟩)
        · exact .inl (.inl q)
        · rcases List.mem_cons.mp hx with rfl | hx
          · exact .inl (.inr ⟨q.2.1, q.2.2⟩)
          · exact .inr ⟨x, hx, q⟩
    · have e : needI k a o = a := by unfold needI; rw [if_neg h]
      rw [e]
      have := ih (fun x hx => hN x (List.mem_cons_of_mem _ hx)) H hka
      refine ⟨(this.1.more (by simp only [List.length_cons]; omega)).cong fun p j => ?_, this.2⟩
      constructor
      · rintro (q | ⟨x, hx, q⟩)
        · exact .inl q
        · exact .inr ⟨x, List.mem_cons_of_mem _ hx, q⟩
      · rintro (q | ⟨x, hx, q⟩)
        · exact .inl q
        · rcases List.mem_cons.mp hx with rfl | hx
          · exact absurd q.1 h
          · exact .inr ⟨x, hx, q⟩
theorem needO_gb {st : List (Int × Int)} {N : List Int} (hst : ∀ o ∈ st, o.1 ∈ N) : ∀ (l : List (Int × Int)) {c : Nat} {E : Int → Int → Prop} {a : SA}, (∀ o ∈ l, o.1 ∈ N) → GB N c E a →
    GB N (c + l.length * st.length) (fun x y => E x y ∨ ∃ t ∈ l, ∃ o ∈ st, o.2 ≤ t.1 ∧ x = o.1 ∧ y = t.1) (l.foldl (needO st) a) ∧ (∀ j ∈ a.D, j ∈ (l.foldl (needO st) a).D) ∧ (∀ t ∈ l, t.1 ∈ (l.foldl (needO st) a).D) := by
  intro l
  induction l with
  | nil => intro c E a _ H; exact ⟨(H.more (by omega)).cong fun p j => by simp, fun _ h => h, fun _ h => nomatch h⟩
  | cons t r ih =>
    intro c E a hN H
    rw [List.foldl_cons]
    have ht := hN t (.head _)
    have h1 := needI_gb ht st hst (H.ins ht) (ins_in.mpr (.inr rfl))
    have h2 := ih (fun x hx => hN x (List.mem_cons_of_mem _ hx)) h1.1
    refine ⟨(h2.1.more (by rw [List.length_cons, Nat.succ_mul]; omega)).cong fun p j => ?_, fun j hj => h2.2.1 j (h1.2 j (ins_in.mpr (.inl hj))), fun x hx => ?_⟩
    · constructor
      · rintro ((q | ⟨o, ho, q⟩) | ⟨x, hx, o, ho, q⟩)
        · exact .inl q
        · exact .inr ⟨t, .head _, o, ho, q⟩
        · exact .inr ⟨x, List.mem_cons_of_mem _ hx, o, ho, q⟩
      · rintro (q | ⟨x, hx, o, ho, q⟩)
        · exact .inl (.inl q)
        · rcases List.mem_cons.mp hx with rfl | hx
          · exact .inl (.inr ⟨o, ho, q⟩)
          · exact .inr ⟨x, hx, o, ho, q⟩
    · rcases List.mem_cons.mp hx with rfl | hx
      · exact h2.2.1 _ (h1.2 _ (ins_in.mpr (.inr rfl)))
      · exact h2.2.2 x hx
/-- what is told to the second -/
def oneO (sp : Int → Option (Int × Int)) (a : SA) (t : Int × Int) : SA := match sp t.1 with
  | none => a.ins t.1
  | some s => a.add1 t.1 s.1
theorem oneO_gb {sp : Int → Option (Int × Int)} {N : List Int} (hsp : ∀ k s, sp k = some s → s.1 ∈ N) : ∀ (l : List (Int × Int)) {c : Nat} {E : Int → Int → Prop} {a : SA}, (∀ o ∈ l, o.1 ∈ N) → GB N c E a →
    GB N (c + l.length) (fun x y => E x y ∨ ∃ t ∈ l, ∃ s, sp t.1 = some s ∧ x = s.1 ∧ y = t.1) (l.foldl (oneO sp) a) ∧ (∀ j ∈ a.D, j ∈ (l.foldl (oneO sp) a).D) ∧ (∀ t ∈ l, t.1 ∈ (l.foldl (oneO sp) a).D) := by
  intro l
  induction l with
  | nil => intro c E a _ H; exact ⟨H.cong fun p j => by simp, fun _ h => h, fun _ h => nomatch h⟩
  | cons t r ih =>
    intro c E a hN H
    rw [List.foldl_cons]
    have ht := hN t (.head _)
    cases hs : sp t.1 with
    | none =>
      have e : oneO sp a t = a.ins t.1 := by unfold oneO; rw [hs]
      rw [e]
      have h2 := ih (fun x hx => hN x (List.mem_cons_of_mem _ hx)) (H.ins ht)
      refine ⟨(h2.1.more (by simp only [List.length_cons]; omega)).cong fun p j => ?_, fun j hj => h2.2.1 j (ins_in.mpr (.inl hj)), fun x hx => ?_⟩
      · constructor
        · rintro (q | ⟨x, hx, q⟩)
          · exact .inl q
          · exact .inr ⟨x, List.mem_cons_of_mem _ hx, q⟩
        · rintro (q | ⟨x, hx, s, q⟩)
          · exact .inl q
          · rcases List.mem_cons.mp hx with rfl | hx
            · rw [hs] at q; cases q.1
            · exact .inr ⟨x, hx, s, q⟩
      · rcases List.mem_cons.mp hx with rfl | hx
        · exact h2.2.1 _ (ins_in.mpr (.inr rfl))
        · exact h2.2.2 x hx
    | some s =>
      have e : oneO sp a t = a.add1 t.1 s.1 := by unfold oneO; rw [hs]
      rw [e]
      have h2 := ih (fun x hx => hN x (List.mem_cons_of_mem _ hx)) (H.add1 ht (hsp _ _ hs))
      refine ⟨(h2.1.more (by simp only [List.length_cons]; omega)).cong fun p j => ?_, fun j hj => h2.2.1 j (add1_mem.mpr (.inl hj)), fun x hx => ?_⟩
      · constructor
        · rintro ((q | ⟨rfl, rfl⟩) | ⟨x, hx, q⟩)
          · exact .inl q
          · exact .inr ⟨t, .head _, s, hs, rfl, rfl⟩
          · exact .inr ⟨x, List.mem_cons_of_mem _ hx, q⟩
        · rintro (q | ⟨x, hx, s', q⟩)
          · exact .inl (.inl q)
          · rcases List.mem_cons.mp hx with rfl | hx
            · rw [hs] at q; cases q.1; exact .inl (.inr ⟨q.2.1, q.2.2⟩)
            · exact .inr ⟨x, hx, s', q⟩
      · rcases List.mem_cons.mp hx with rfl | hx
        · exact h2.2.1 _ (add1_mem.mpr (.inr (.inl rfl)))
        · exact h2.2.2 x hx
theorem GB.lv {N : List Int} {c : Nat} {E : Int → Int → Prop} {a : SA} {lev : Int → Nat} (H : GB N c E a) (hE : ∀ p j, E p j → lev p < lev j) (hp : ∀ k ∈ a.D, 0 < lev k → ∃ p, E p k ∧ lev p + 1 = lev k) : Lv a lev where
  nod := H.nod
  edge := fun k hk j hj => by
    have e := (H.adj k hk j).mp hj
    exact ⟨(H.ends k j e).2, hE k j e⟩
  deg := H.deg
  pred := fun k hk h => by
    obtain ⟨p, e, q⟩ := hp k hk h
    have hpD := (H.ends p k e).1
    exact ⟨p, hpD, q, (H.adj p hpD k).mpr e⟩
end
section
open PySem PySem.W PySem.Calls PyProof.Rows PyProof.Rows.LCg
set_option maxRecDepth 100000
section
variable {prog : Program} {w : World} {A : Around} {E : Value → Shared → Prop} {s : Shared} {h₀ : Heap} {m : Str → Option Value} {news : Led}
theorem asg_pair {env : Env} {a b : Str} {pa pb tp : Pos} {kk : Nat} {T : Addr} {x y : Value} {n : Nat} {Q : Unit → Shared → Prop} (F : Fr h₀ env.locals s.heap m) (N : News h₀ env.locals s.heap news) (hT : (T, tupObj #[x, y] n) ∈ news) (hh : A.handled = none)
    (ha : env.kindOf a = some .local) (hb : env.kindOf b = some .local) (hp : (env.scope.kind == .class || (env.scope.kind == .module && env.locals != env.globals)) = false)
    (h : ∀ (h' : Heap) (tk : Nat), Fr h₀ env.locals h' (fun z => if z = b then some y else if z = a then some x else m z) → News h₀ env.locals h' news → Q () { s with heap := h', toks := tk }) :
    wpAny (model prog w) A (assign (.Tuple [.Name a pa, .Name b pb] kk tp) env (.ref T)) Q E s := by
  refine kcp_assign hh ⟨_, (N _ hT).1, rfl, _, rfl⟩ ha hb hp F.ns fun h' tk hn hk => ?_
  refine h h' tk ⟨hn, fun c o e => hk c o (fun q => ?_) (F.keep c o e), F.above⟩ fun p hp => ⟨hk _ _ (N p hp).2.1 (N p hp).1, (N p hp).2⟩
  have := Heap.lt_size e
  rw [q] at this
  exact absurd (Nat.lt_of_lt_of_le this F.above) (Nat.lt_irrefl _)
end
theorem News.named1' {h₀ h : Heap} {L : Addr} {a : Addr} {o : Obj} {rest : Led} (_N : News h₀ L h ((a, o) :: rest)) : ∃ b, b = a := ⟨a, rfl⟩
theorem GB.short {N : List Int} {c : Nat} {E : Int → Int → Prop} {a : SA} (H : GB N c E a) : a.D.length ≤ N.length := H.nod.length_le_of_subset H.sub
theorem pairs_rev {vs : List Value} {st : List (Int × Int)} {K : Led} (h1 : vs.length = st.length) (h2 : ∀ (i : Nat) (a b : Int), st[i]? = some (a, b) → ∃ T ta tb n', vs[i]? = some (.ref T) ∧ (T, tupObj #[.int a ta, .int b tb] n') ∈ K) {i : Nat} {v : Value} (hv : vs.reverse.toArray[i]? = some v) :
    ∃ a b T ta tb n', st.reverse[i]? = some (a, b) ∧ v = .ref T ∧ (T, tupObj #[.int a ta, .int b tb] n') ∈ K := by
  have hv : vs.reverse[i]? = some v := by simpa using hv
  have hi : i < vs.length := by have := (List.getElem?_eq_some_iff.mp hv).1; simpa using this
  rw [List.getElem?_reverse hi] at hv
  obtain ⟨⟨a, b⟩, hst⟩ : ∃ p, st[vs.length - 1 - i]? = some p := ⟨st[vs.length - 1 - i]'(by omega), by simp⟩
  obtain ⟨T, ta, tb, n', q1, q2⟩ := h2 _ a b hst
  rw [q1] at hv
  refine ⟨a, b, T, ta, tb, n', ?_, (Option.some.inj hv).symm, q2⟩
  rw [List.getElem?_reverse (by omega), ← h1]; exact hst
theorem pairs_at {vs : List Value} {st : List (Int × Int)} {K : Led} (h1 : vs.length = st.length) (h2 : ∀ (i : Nat) (a b : Int), st[i]? = some (a, b) → ∃ T ta tb n', vs[i]? = some (.ref T) ∧ (T, tupObj #[.int a ta, .int b tb] n') ∈ K) {i : Nat} {v : Value} (hv : vs.toArray[i]? = some v) :
    ∃ a b T ta tb n', st[i]? = some (a, b) ∧ v = .ref T ∧ (T, tupObj #[.int a ta, .int b tb] n') ∈ K := by
  have hv : vs[i]? = some v := by simpa using hv
  have hi : i < vs.length := (List.getElem?_eq_some_iff.mp hv).1
  obtain ⟨⟨a, b⟩, hst⟩ : ∃ p, st[i]? = some p := ⟨st[i]'(by omega), by simp⟩
  obtain ⟨T, ta, tb, n', q1, q2⟩ := h2 _ a b hst
  rw [q1] at hv
  exact ⟨a, b, T, ta, tb, n', hst, (Option.some.inj hv).symm, q2⟩
end
local macro_rules | `(tactic| walk_at "eval ListComp") => `(tactic| (k_here; k_dflt (refine' ListComp_M ?a ?b ?c ?_; (case a => with_unfolding_all rfl); (case b => rfl); (case c => decide))))
local macro_rules | `(tactic| walk_at "call builtin:len") => `(tactic| (k_here; (with_reducible show wpAny _ _ (call (Value.builtin _) [Value.str (rowStr _) _]) _ _ _); k_dflt (refine row_len (by assumption) ?_); intro t9 tk9))
local macro_rules | `(tactic| walk_at "call type:int") => `(tactic| (k_here; (with_reducible show wpAny _ _ (call (Value.type _) [Value.str (Txt.item (rowStr _) _) _]) _ _ _); k_dflt (refine' int_item ?a ?b ?c ?_; (case a => assumption); (case b => omega); (case c => omega)); intro t9 tk9))
local macro_rules | `(tactic| walk_at "call type:int") => `(tactic| (k_here; (with_reducible show wpAny _ _ (call (Value.type _) [Value.str _ _]) _ _ _); k_dflt (refine' int_digit ?a ?_; (case a => assumption)); intro t9 tk9))
local macro_rules | `(tactic| walk_at "subscriptTail Name Name str int") => `(tactic| (k_here; (with_reducible show wpAny _ _ (subscriptTail _ _ (Value.str (rowStr _) _) (Value.int _ _)) _ _ _); k_dflt (refine' row_item ?a ?b ?c ?_ ?d ?e; (case a => omega); (case b => omega); (case c => assumption); (case d => with_unfolding_all rfl); (case e => intro _; with_unfolding_all rfl)); intro t9 tk9))
section
open PyProof.Rows.LCg
theorem rs_T2 : True := by
  w_top off
  exact True.intro
def strP (ds : List Nat) (k : Nat) : Bool := decide (0 < digit ds k) && decide (digit ds k ≤ (ds.length : Int) - k)
def strE (ds : List Nat) (k : Nat) : Int × Int := ((k : Int), (k : Int) + digit ds k)
def stretches (ds : List Nat) : List (Int × Int) := ((List.range ds.length).filter (strP ds)).map (strE ds)
/-- values that are pairs of ints -/
def PairsOf (ys : List Value) (st : List (Int × Int)) (K : Led) : Prop :=
  ys.length = st.length ∧ ∀ (i : Nat) (a b : Int), st[i]? = some (a, b) → ∃ T ta tb n', ys[i]? = some (.ref T) ∧ (T, tupObj #[.int a ta, .int b tb] n') ∈ K
theorem PairsOf.nil : PairsOf [] [] [] := ⟨rfl, fun i a b h => by simp at h⟩
theorem PairsOf.mono {ys : List Value} {st : List (Int × Int)} {K K' : Led} (h : PairsOf ys st K) (k : ∀ p ∈ K, p ∈ K') : PairsOf ys st K' :=
  ⟨h.1, fun i a b e => let ⟨T, ta, tb, n', q1, q2⟩ := h.2 i a b e; ⟨T, ta, tb, n', q1, k _ q2⟩⟩
theorem PairsOf.snoc {ys : List Value} {st : List (Int × Int)} {K : Led} {a b : Int} {T : Addr} {ta tb : Tok} {n : Nat} (h : PairsOf ys st K) (hm : (T, tupObj #[.int a ta, .int b tb] n) ∈ K) : PairsOf (ys ++ [.ref T]) (st ++ [(a, b)]) K := by
  refine ⟨by simp [h.1], fun i x y e => ?_⟩
  rcases Nat.lt_trichotomy i st.length with h1 | h1 | h1
  · rw [List.getElem?_append_left h1] at e
    obtain ⟨T', ta', tb', n', q1, q2⟩ := h.2 i x y e
    exact ⟨T', ta', tb', n', by rw [List.getElem?_append_left (by rw [h.1]; exact h1)]; exact q1, q2⟩
  · subst h1
    simp at e
    obtain ⟨rfl, rfl⟩ := e
    exact ⟨T, ta, tb, n, by rw [← h.1]; simp, hm⟩
  · rw [List.getElem?_eq_none (by simp; omega)] at e; cases e
set_option maxRecDepth 100000 in
set_option maxHeartbeats 8000000 in
theorem lawStretches {w : World} {news : Led} {ds : List Nat} {t : Tok} (hlen : ds.length ≤ 11) (hd4 : ∀ d ∈ ds, d ≤ 4) :
    Ctr w 172 [.str (rowStr ds) t] 40 400 news (fun r news' => ∃ S, r = .ref S ∧ PairsAt S (stretches ds) news' ∧ ∀ p ∈ news, p ∈ news') := by
  unfold Ctr
  k_fill
  intro mean mg mb dp un gd cn nm ig ic mo ad ccd cl outer A₀ base h₀ L m s Q E B F X N T hd hu hret
  refine wpAny_call ?_
  k_enter
  k_steps
  (rename News _ _ _ _ => N3)
  (rename Fr _ _ _ _ => F3)
  (rename IsRange _ _ _ _ _ _ _ _ => hr3)
  k_dflt (refine' comp_range (x := Str.ofString "k") (n := ds.length) (Inv := fun i ys K => PairsOf ys (((List.range i).filter (strP ds)).map (strE ds)) K) ?hh ?ht ?hr ?hsm ?hn ?hsz ?hce ?hki ?hx ?cF ?cN ?h0 ?turn ?done)
  (case hh => exact rfl)
  (case ht => exact rfl)
  (case hr => exact hr3)
  (case hsm => exact small_one (by omega) (by omega) (by omega) (by omega))
  (case hn => exact rangeSize_nat _ _)
  (case hsz => rw [sizeLine_eq]; omega)
  (case hce => decide)
  (case hki => exact rfl)
  (case hx => exact rfl)
  (case cF => exact F3)
  (case cN => exact N3)
  (case h0 => exact PairsOf.nil)
  (case turn =>
    clear F3 N3 hr3
    rintro i v I oI C oC D ys K m₂ h tk E' hi ⟨t', rfl⟩ hI hA hC F4 N4 off ne
    rw [Int.zero_add] at hA
    refine wpAny_tests_one ?_
    k_steps
    · (rename News _ _ _ _ => N8)
      (rename Fr _ _ _ _ => F8)
      have hp : strP ds i = true := by unfold strP; simp only [Bool.and_eq_true, decide_eq_true_eq]; exact ⟨by assumption, by assumption⟩
      (rename (_ ∧ _ ∧ _ ∧ AllLt _ _) => l8)
      refine genC ?_
      intro C9 kC9
      obtain ⟨g1, g2, g3, -⟩ := l8
      refine kC9 ?_
      clear kC9 C9
      k_dflt (refine CEnd.intro ((_, _) :: K) F8 N8 cs_sub (Off.cons off.left (Nat.ne_of_gt g1) (Nat.ne_of_gt g2) (Nat.ne_of_gt g3)) ?_)
      rw [rng_true hp]
      exact (hI.mono fun p hp => List.mem_cons_of_mem _ hp).snoc (.head _)
    all_goals (
      (rename News _ _ _ _ => N8)
      (rename Fr _ _ _ _ => F8)
      have hp : strP ds i = false := by unfold strP; rw [Bool.and_eq_false_iff]; first | exact .inl (decide_eq_false (by assumption)) | exact .inr (decide_eq_false (by assumption)) | exact .inl (decide_eq_false (by omega)) | exact .inr (decide_eq_false (by omega))
      k_dflt (refine CEnd.intro K F8 N8 (fun p hp => hp) off.left ?_)
      rw [rng_false hp]
      exact hI))
  (case done =>
    intro D ys K h tk hI F4 N4 hD1 hD2
    clear F3 N3 hr3
    (try dsimp only)
    k_steps
    refine hret _ _ _ _ (by k_asm) (by k_asm) ⟨D, rfl, ⟨ys, ys.length, .head _, hI.1, fun i a b e => ?_⟩, fun p hp => List.mem_cons_of_mem _ (List.mem_append_right _ (List.mem_cons_of_mem _ hp))⟩
    refine genC ?_
    intro C9 kC9
    obtain ⟨T', ta, tb, n', q1, q2⟩ := hI.2 i a b e
    refine kC9 ?_
    clear kC9 C9
    exact ⟨T', ta, tb, n', q1, List.mem_cons_of_mem _ (List.mem_append_left _ q2)⟩)
end
section
/-- the first to end, of like ones the last to begin -/
def IsBest (P : Int × Int → Prop) : Option (Int × Int) → Prop
  | none => ∀ p, ¬ P p
  | some b => P b ∧ ∀ p, P p → b.2 < p.2 ∨ (b.2 = p.2 ∧ p.1 ≤ b.1)
theorem IsBest.uniq {P : Int × Int → Prop} : ∀ {o o' : Option (Int × Int)}, IsBest P o → IsBest P o' → o = o'
  | none, none, _, _ => rfl
  | none, some b, h, h' => absurd h'.1 (h b)
  | some b, none, h, h' => absurd h.1 (h' b)
  | some b, some b', h, h' => by
    have h1 := h.2 b' h'.1
    have h2 := h'.2 b h.1
    congr 1
    exact Prod.ext (by omega) (by omega)
theorem IsBest.cong {P P' : Int × Int → Prop} {o : Option (Int × Int)} (h : IsBest P o) (e : ∀ p, P p ↔ P' p) : IsBest P' o := by
  have : P = P' := funext fun p => propext (e p)
  rw [← this]; exact h
def best1 (acc : Option (Int × Int)) (p : Int × Int) : Option (Int × Int) := match acc with
  | none => some p
  | some b => if p.2 < b.2 ∨ (p.2 = b.2 ∧ b.1 ≤ p.1) then some p else some b
theorem IsBest.step {P : Int × Int → Prop} {o : Option (Int × Int)} {p : Int × Int} (h : IsBest P o) : IsBest (fun q => P q ∨ q = p) (best1 o p) := by
  cases o with
  | none => exact ⟨.inr rfl, fun q hq => by rcases hq with hq | rfl; exact absurd hq (h q); right; exact ⟨rfl, Int.le_refl _⟩⟩
  | some b =>
    unfold best1
    dsimp only
    split
    · next hc =>
      refine ⟨.inr rfl, fun q hq => ?_⟩
      rcases hq with hq | rfl
      · have := h.2 q hq; omega
      · omega
    · next hc =>
      refine ⟨.inl h.1, fun q hq => ?_⟩
      rcases hq with hq | rfl
      · exact h.2 q hq
      · omega
theorem IsBest.fold {P : Int × Int → Prop} : ∀ (l : List (Int × Int)) {o : Option (Int × Int)}, IsBest P o → IsBest (fun q => P q ∨ q ∈ l) (l.foldl best1 o) := by
  intro l
  induction l generalizing P with
  | nil => intro o h; exact h.cong fun p => by simp
  | cons x r ih =>
    intro o h
    rw [List.foldl_cons]
    exact (ih h.step).cong fun p => by simp [or_assoc]
def bestOf (l : List (Int × Int)) : Option (Int × Int) := l.foldl best1 none
theorem bestOf_is (l : List (Int × Int)) : IsBest (fun q => q ∈ l) (bestOf l) :=
  (IsBest.fold (P := fun _ => False) l (o := none) fun _ h => h).cong fun p => by simp
/-- the most that lie apart by each place -/
def mostL (st : List (Int × Int)) : Nat → List Nat
  | 0 => [0]
  | k + 1 => mostL st k ++ [((st.filter fun p => decide (p.2 = (k : Int) + 1)).map fun p => (mostL st k).getD p.1.toNat 0 + 1).foldl max ((mostL st k).getD k 0)]
theorem mostL_length (st : List (Int × Int)) : ∀ k, (mostL st k).length = k + 1
  | 0 => rfl
  | k + 1 => by rw [mostL, List.length_append, mostL_length st k]; rfl
def mv (st : List (Int × Int)) (k : Nat) : Nat := (mostL st k).getD k 0
theorem mostL_at {st : List (Int × Int)} {i : Nat} : ∀ {k : Nat}, i ≤ k → (mostL st k).getD i 0 = mv st i
  | 0, h => by have : i = 0 := by omega
               subst this; rfl
  | k + 1, h => by
    by_cases e : i = k + 1
    · subst e; rfl
    · have := mostL_at (st := st) (i := i) (k := k) (by omega)
      rw [List.getD_eq_getElem?_getD] at this ⊢
      rw [mostL, List.getElem?_append_left (by rw [mostL_length]; omega)]
      exact this
theorem foldl_max_ge : ∀ (l : List Nat) (a : Nat), a ≤ l.foldl max a ∧ (∀ x ∈ l, x ≤ l.foldl max a) ∧ (l.foldl max a = a ∨ l.foldl max a ∈ l) := by
  intro l
  induction l with
  | nil => intro a; exact ⟨Nat.le_refl _, fun _ h => (nomatch h), .inl rfl⟩
  | cons x r ih =>
    intro a
    rw [List.foldl_cons]
    obtain ⟨h1, h2, h3⟩ := ih (max a x)
    have q1 : a ≤ max a x := Nat.le_max_left _ _
    have q2 : x ≤ max a x := Nat.le_max_right _ _
    refine ⟨Nat.le_trans q1 h1, fun y hy => ?_, ?_⟩
    · rcases List.mem_cons.mp hy with rfl | hy
      · exact Nat.le_trans q2 h1
      · exact h2 y hy
    · rcases h3 with h3 | h3
      · rcases Nat.le_total a x with q | q
        · right; rw [h3, Nat.max_eq_right q]; exact .head _
        · left; rw [h3, Nat.max_eq_left q]
      · right; exact List.mem_cons_of_mem _ h3
/-- a list of stretches -/
def Str1 (st : List (Int × Int)) (n : Nat) : Prop := ∀ p ∈ st, 0 ≤ p.1 ∧ p.1 < p.2 ∧ p.2 ≤ (n : Int)
theorem mv_succ {st : List (Int × Int)} {n : Nat} (h : Str1 st n) (k : Nat) : mv st (k + 1) = ((st.filter fun p => decide (p.2 = (k : Int) + 1)).map fun p => mv st p.1.toNat + 1).foldl max (mv st k) := by
  have e0 : (mostL st (k + 1)).getD (k + 1) 0 = ((st.filter fun p => decide (p.2 = (k : Int) + 1)).map fun p => (mostL st k).getD p.1.toNat 0 + 1).foldl max ((mostL st k).getD k 0) := by
    rw [List.getD_eq_getElem?_getD, mostL, List.getElem?_append_right (by rw [mostL_length]; omega), mostL_length]; simp
  unfold mv
  rw [e0]
  congr 1
  refine List.map_congr_left fun p hp => ?_
  obtain ⟨h1, h2⟩ := List.mem_filter.mp hp
  have h3 := h p h1
  simp only [decide_eq_true_eq] at h2
  rw [mostL_at (by omega)]; rfl
theorem mv_mono1 {st : List (Int × Int)} {n : Nat} (h : Str1 st n) (k : Nat) : mv st k ≤ mv st (k + 1) := by
  rw [mv_succ h]; exact (foldl_max_ge _ _).1
theorem mv_mono {st : List (Int × Int)} {n : Nat} (h : Str1 st n) {a b : Nat} (hab : a ≤ b) : mv st a ≤ mv st b := by
  induction b with
  | zero => have : a = 0 := by omega
            subst this; exact Nat.le_refl _
  | succ b ih =>
    by_cases e : a = b + 1
    · subst e; exact Nat.le_refl _
    · exact Nat.le_trans (ih (by omega)) (mv_mono1 h b)
/-- the level of a place -/
def lvl (st : List (Int × Int)) (x : Int) : Nat := mv st x.toNat
theorem lvl_ge {st : List (Int × Int)} {n : Nat} (h : Str1 st n) {p : Int × Int} (hp : p ∈ st) {x : Int} (hx : p.2 ≤ x) : lvl st p.1 + 1 ≤ lvl st x := by
  obtain ⟨h1, h2, h3⟩ := h p hp
  obtain ⟨k, hk⟩ : ∃ k : Nat, p.2 = (k : Int) + 1 := ⟨(p.2 - 1).toNat, by omega⟩
  have : lvl st p.1 + 1 ≤ mv st (k + 1) := by
    rw [mv_succ h]
    refine (foldl_max_ge _ _).2.1 _ (List.mem_map.mpr ⟨p, List.mem_filter.mpr ⟨hp, by simp [hk]⟩, rfl⟩)
  exact Nat.le_trans this (mv_mono h (by omega))
theorem lvl_ex {st : List (Int × Int)} {n : Nat} (h : Str1 st n) {x : Int} (hx : 0 < lvl st x) : ∃ p ∈ st, p.2 ≤ x ∧ lvl st p.1 + 1 = lvl st x := by
  have key : ∀ k : Nat, 0 < mv st k → ∃ p ∈ st, p.2 ≤ (k : Int) ∧ lvl st p.1 + 1 = mv st k := by
    intro k
    induction k with
    | zero => intro q; exact absurd q (by show ¬ 0 < 0; omega)
    | succ k ih =>
      intro q
      have e := mv_succ h k
      rcases (foldl_max_ge ((st.filter fun p => decide (p.2 = (k : Int) + 1)).map fun p => mv st p.1.toNat + 1) (mv st k)).2.2 with e1 | e1
      · rw [← e] at e1
        obtain ⟨p, h1, h2, h3⟩ := ih (by omega)
        exact ⟨p, h1, by omega, by omega⟩
      · rw [← e] at e1
        obtain ⟨p, h1, h2⟩ := List.mem_map.mp e1
        obtain ⟨h3, h4⟩ := List.mem_filter.mp h1
        simp only [decide_eq_true_eq] at h4
        exact ⟨p, h3, by omega, h2⟩
  obtain ⟨p, h1, h2, h3⟩ := key _ hx
  refine ⟨p, h1, ?_, h3⟩
  by_cases hx0 : 0 ≤ x
  · omega
  · exfalso
    have : x.toNat = 0 := by omega
    unfold lvl at hx
    rw [this] at hx
    exact absurd hx (by show ¬ 0 < 0; omega)
theorem lvl_mono {st : List (Int × Int)} {n : Nat} (h : Str1 st n) {x y : Int} (hxy : x ≤ y) : lvl st x ≤ lvl st y := mv_mono h (by omega)
/-- the chain's next link -/
theorem chain_next {st : List (Int × Int)} {n i : Nat} (h : Str1 st n) {s : Int × Int} (hs : IsBest (fun p => p ∈ st ∧ i ≤ lvl st p.1) (some s)) {o : Option (Int × Int)} (ho : IsBest (fun p => p ∈ st ∧ s.2 ≤ p.1) o) :
    IsBest (fun p => p ∈ st ∧ i + 1 ≤ lvl st p.1) o := by
  refine ho.cong fun p => ?_
  constructor
  · rintro ⟨h1, h2⟩
    have := lvl_ge h hs.1.1 h2
    have := hs.1.2
    exact ⟨h1, by omega⟩
  · rintro ⟨h1, h2⟩
    obtain ⟨q, h3, h4, h5⟩ := lvl_ex h (x := p.1) (by omega)
    have h6 := hs.2 q ⟨h3, by omega⟩
    exact ⟨h1, by omega⟩
theorem chain_zero {st : List (Int × Int)} {n : Nat} (h : Str1 st n) {o : Option (Int × Int)} (ho : IsBest (fun p => p ∈ st ∧ 0 ≤ p.1) o) : IsBest (fun p => p ∈ st ∧ 0 ≤ lvl st p.1) o :=
  ho.cong fun p => ⟨fun q => ⟨q.1, Nat.zero_le _⟩, fun q => ⟨q.1, (h p q.1).1⟩⟩
/-- of its level -/
theorem chain_lvl {st : List (Int × Int)} {n i : Nat} (h : Str1 st n) {s : Int × Int} (hs : IsBest (fun p => p ∈ st ∧ i ≤ lvl st p.1) (some s)) : lvl st s.1 = i := by
  rcases Nat.lt_or_ge i (lvl st s.1) with h1 | h1
  · obtain ⟨q, h3, h4, h5⟩ := lvl_ex h (x := s.1) (by omega)
    have h6 := hs.2 q ⟨h3, by omega⟩
    have := h s hs.1.1
    omega
  · have := hs.1.2; omega
theorem chain_best {st : List (Int × Int)} {n i : Nat} (h : Str1 st n) {s : Int × Int} (hs : IsBest (fun p => p ∈ st ∧ i ≤ lvl st p.1) (some s)) : IsBest (fun p => p ∈ st ∧ lvl st p.1 = i) (some s) :=
  ⟨⟨hs.1.1, chain_lvl h hs⟩, fun p hp => hs.2 p ⟨hp.1, by omega⟩⟩
/-- what search_reverse is to tell -/
def spanOf (st : List (Int × Int)) (x : Int) : Option (Int × Int) := bestOf (st.filter fun p => decide (lvl st p.1 + 1 = lvl st x))
theorem spanOf_is (st : List (Int × Int)) (x : Int) : IsBest (fun p => p ∈ st ∧ lvl st p.1 + 1 = lvl st x) (spanOf st x) :=
  (bestOf_is _).cong fun p => by simp [List.mem_filter]
/-- the chain breaks off before its first link -/
theorem span_none {st : List (Int × Int)} {n : Nat} (h : Str1 st n) {x : Int} {o : Option (Int × Int)} (ho : IsBest (fun p => p ∈ st ∧ 0 ≤ lvl st p.1) o) (hx : ∀ s, o = some s → x < s.2) : spanOf st x = none := by
  refine (spanOf_is st x).uniq (o' := none) fun p hp => ?_
  obtain ⟨q, h3, h4, h5⟩ := lvl_ex h (x := x) (by have := hp.2; omega)
  cases o with
  | none => exact ho q ⟨h3, Nat.zero_le _⟩
  | some s =>
    have := ho.2 q ⟨h3, Nat.zero_le _⟩
    have := hx s rfl
    omega
/-- the chain's last link by x -/
theorem span_some {st : List (Int × Int)} {n i : Nat} (h : Str1 st n) {x : Int} {s : Int × Int} {o : Option (Int × Int)} (hs : IsBest (fun p => p ∈ st ∧ i ≤ lvl st p.1) (some s)) (hsx : s.2 ≤ x)
    (ho : IsBest (fun p => p ∈ st ∧ i + 1 ≤ lvl st p.1) o) (hx : ∀ s, o = some s → x < s.2) : spanOf st x = some s := by
  have e : lvl st x = i + 1 := by
    have h1 := lvl_ge h hs.1.1 hsx
    have h2 := hs.1.2
    rcases Nat.lt_or_ge (i + 1) (lvl st x) with h3 | h3
    · exfalso
      obtain ⟨q, h4, h5, h6⟩ := lvl_ex h (x := x) (by omega)
      cases o with
      | none => exact ho q ⟨h4, by omega⟩
      | some s' =>
        have := ho.2 q ⟨h4, by omega⟩
        have := hx s' rfl
        omega
    · omega
  refine (spanOf_is st x).uniq ((chain_best h hs).cong fun p => ?_)
  rw [e]; simp
theorem spanOf_none {st : List (Int × Int)} {n : Nat} (h : Str1 st n) {x : Int} : spanOf st x = none ↔ lvl st x = 0 := by
  have hb := spanOf_is st x
  constructor
  · intro e
    rw [e] at hb
    rcases Nat.eq_zero_or_pos (lvl st x) with h1 | h1
    · exact h1
    · obtain ⟨q, h3, h4, h5⟩ := lvl_ex h h1
      exact absurd ⟨h3, h5⟩ (hb q)
  · intro e
    cases hs : spanOf st x with
    | none => rfl
    | some s => rw [hs] at hb; have := hb.1.2; omega
/-- the groups that are due -/
def dueL (st : List (Int × Int)) (n : Nat) : List (List Int) := (List.range (mv st n)).map fun k => (st.filter fun p => decide (lvl st p.1 = k)).map (·.1)
theorem lvl_lt {st : List (Int × Int)} {n : Nat} (h : Str1 st n) {p : Int × Int} (hp : p ∈ st) : lvl st p.1 < mv st n := by
  have h1 := lvl_ge h hp (x := n) (h p hp).2.2
  exact h1
theorem lvl_occ {st : List (Int × Int)} {n : Nat} (h : Str1 st n) : ∀ m x, lvl st x = m + 1 → ∀ j, j ≤ m → ∃ p ∈ st, lvl st p.1 = j := by
  intro m
  induction m with
  | zero =>
    intro x hx j hj
    obtain ⟨p, h1, h2, h3⟩ := lvl_ex h (x := x) (by omega)
    exact ⟨p, h1, by omega⟩
  | succ m ih =>
    intro x hx j hj
    obtain ⟨p, h1, h2, h3⟩ := lvl_ex h (x := x) (by omega)
    by_cases e : j = m + 1
    · exact ⟨p, h1, by omega⟩
    · exact ih p.1 (by omega) j (by omega)
theorem sorted_eq {l l' : List Int} (h : l.Pairwise (· < ·)) (h' : l'.Pairwise (· < ·)) (e : ∀ k, k ∈ l ↔ k ∈ l') : l = l' := by
  have nd : ∀ {l : List Int}, l.Pairwise (· < ·) → l.Nodup := fun h => h.imp fun h => by omega
  have p : l.Perm l' := (List.perm_ext_iff_of_nodup (nd h) (nd h')).mpr e
  exact p.eq_of_pairwise (le := fun a b => a < b) (fun a b _ _ h1 h2 => by omega) h h'
theorem levels_due {st : List (Int × Int)} {n : Nat} {D : List Int} {ls : List (List Int)} (h : Str1 st n) (hs : (st.map (·.1)).Pairwise (· < ·)) (hD : ∀ k, k ∈ D ↔ k ∈ st.map (·.1)) (H : Levels D (lvl st) ls) : ls = dueL st n := by
  have hlen : ls.length = mv st n := by
    refine Nat.le_antisymm ?_ ?_
    · rcases Nat.lt_or_ge (mv st n) ls.length with q | q
      · exfalso
        have hx := H.lv (mv st n) ls[mv st n] (by simp [q])
        obtain ⟨k, hk⟩ := List.exists_mem_of_ne_nil _ hx.2.1
        obtain ⟨h1, h2⟩ := (hx.2.2 k).mp hk
        obtain ⟨p, hp, rfl⟩ := List.mem_map.mp ((hD k).mp h1)
        have := lvl_lt h hp
        omega
      · exact q
    · rcases Nat.eq_zero_or_pos (mv st n) with q | q
      · omega
      · obtain ⟨p, hp, e⟩ := lvl_occ h (mv st n - 1) n (by show mv st n = _; omega) (mv st n - 1) (Nat.le_refl _)
        have := H.all p.1 ((hD _).mpr (List.mem_map_of_mem hp))
        omega
  refine List.ext_getElem (by rw [hlen]; simp [dueL]) fun j h1 h2 => ?_
  have hx := H.lv j ls[j] (by simp [h1])
  have e : (dueL st n)[j] = (st.filter fun p => decide (lvl st p.1 = j)).map (·.1) := by simp [dueL]
  rw [e]
  refine sorted_eq hx.1 (List.Pairwise.sublist ?_ hs) fun k => ?_
  · exact List.Sublist.map _ List.filter_sublist
  · rw [hx.2.2 k, hD k]
    simp only [List.mem_map, List.mem_filter, decide_eq_true_eq]
    constructor
    · rintro ⟨⟨p, h3, rfl⟩, h4⟩; exact ⟨p, ⟨h3, h4⟩, rfl⟩
    · rintro ⟨p, ⟨h3, h4⟩, rfl⟩; exact ⟨⟨p, h3, rfl⟩, h4⟩
/-- both graphs are levelled -/
theorem needs_lv {st : List (Int × Int)} {n c : Nat} {E : Int → Int → Prop} {a : SA} (h : Str1 st n) (H : GB (st.map (·.1)) c E a) (hE : ∀ p j, E p j ↔ ∃ t ∈ st, ∃ o ∈ st, o.2 ≤ t.1 ∧ p = o.1 ∧ j = t.1) : Lv a (lvl st) := by
  refine H.lv (fun p j q => ?_) fun k hk h0 => ?_
  · obtain ⟨t, h1, o, h2, h3, rfl, rfl⟩ := (hE p j).mp q
    have := lvl_ge h h2 h3; omega
  · obtain ⟨t, h1, rfl⟩ := List.mem_map.mp (H.sub k hk)
    obtain ⟨o, h2, h3, h4⟩ := lvl_ex h h0
    exact ⟨o.1, (hE _ _).mpr ⟨t, h1, o, h2, h3, rfl, rfl⟩, h4⟩
theorem one_lv {st : List (Int × Int)} {n c : Nat} {E : Int → Int → Prop} {a : SA} (h : Str1 st n) (H : GB (st.map (·.1)) c E a) (hE : ∀ p j, E p j ↔ ∃ t ∈ st, ∃ s, spanOf st t.1 = some s ∧ p = s.1 ∧ j = t.1) : Lv a (lvl st) := by
  refine H.lv (fun p j q => ?_) fun k hk h0 => ?_
  · obtain ⟨t, h1, s, h2, rfl, rfl⟩ := (hE p j).mp q
    have hb := spanOf_is st t.1
    rw [h2] at hb
    have := hb.1.2; omega
  · obtain ⟨t, h1, rfl⟩ := List.mem_map.mp (H.sub k hk)
    have hb := spanOf_is st t.1
    cases hs : spanOf st t.1 with
    | none => rw [(spanOf_none h).mp hs] at h0; omega
    | some s =>
      rw [hs] at hb
      exact ⟨s.1, (hE _ _).mpr ⟨t, h1, s, hs, rfl, rfl⟩, hb.1.2⟩
theorem spanOf_mem {st : List (Int × Int)} {x : Int} {s : Int × Int} (h : spanOf st x = some s) : s ∈ st := by
  have hb := spanOf_is st x
  rw [h] at hb; exact hb.1.1
/-- the stretches are stretches -/
theorem stretches_mem {ds : List Nat} {p : Int × Int} : p ∈ stretches ds ↔ 0 ≤ p.1 ∧ p.1 < ds.length ∧ p.2 = p.1 + digit ds p.1 ∧ 0 < digit ds p.1 ∧ p.2 ≤ ds.length := by
  unfold stretches
  simp only [List.mem_map, List.mem_filter, List.mem_range, strP, strE, Bool.and_eq_true, decide_eq_true_eq]
  constructor
  · rintro ⟨k, ⟨h1, h2, h3⟩, rfl⟩
    exact ⟨by omega, by show (k : Int) < _; omega, rfl, h2, by show (k : Int) + _ ≤ _; omega⟩
  · rintro ⟨h1, h2, h3, h4, h5⟩
    have e : ((p.1.toNat : Nat) : Int) = p.1 := by omega
    exact ⟨p.1.toNat, ⟨by omega, by rw [e]; exact h4, by rw [e]; omega⟩, Prod.ext e (by rw [e]; exact h3.symm)⟩
theorem stretches_str (ds : List Nat) : Str1 (stretches ds) ds.length := fun p hp => by
  obtain ⟨h1, h2, h3, h4, h5⟩ := stretches_mem.mp hp
  exact ⟨h1, by omega, h5⟩
theorem stretches_sorted (ds : List Nat) : ((stretches ds).map (·.1)).Pairwise (· < ·) := by
  unfold stretches
  rw [List.map_map]
  have : ((fun x : Int × Int => x.1) ∘ strE ds) = fun k : Nat => (k : Int) := rfl
  rw [this, List.pairwise_map]
  refine List.Pairwise.sublist List.filter_sublist ?_
  exact List.pairwise_lt_range.imp fun h => by omega
theorem stretches_len (ds : List Nat) : (stretches ds).length ≤ ds.length := by
  unfold stretches
  rw [List.length_map]
  exact Nat.le_trans (List.length_filter_le _ _) (by simp)
end
section
set_option maxRecDepth 100000
def lexlt (p q : Int × Int) : Bool := decide (p.1 < q.1 ∨ (p.1 = q.1 ∧ p.2 < q.2))
theorem lexlt_false {p q : Int × Int} : lexlt p q = false ↔ q.1 < p.1 ∨ (q.1 = p.1 ∧ q.2 ≤ p.2) := by
  unfold lexlt; rw [decide_eq_false_iff_not]; omega
theorem lexlt_tr {p q r : Int × Int} (h : lexlt q r = true) (h' : lexlt p r = false) : lexlt p q = false := by
  rw [lexlt_false] at h' ⊢
  unfold lexlt at h
  rw [decide_eq_true_eq] at h
  omega
theorem lexlt_self {p : Int × Int} : lexlt p p = false := by rw [lexlt_false]; omega
section
variable {prog : Program} {w : World} {A : Around} {E : Value → Shared → Prop} {s : Shared}
theorem tup2_lt_tree {x y : Addr} {a b c d : Int} {ta tb tc td : Tok} {n n' : Nat} {P : PySem.Fin → Shared → Prop} (hx : s.heap.get? x = some (tupObj #[.int a ta, .int b tb] n)) (hy : s.heap.get? y = some (tupObj #[.int c tc, .int d td] n'))
    (h : P (.done (.ret (.bool (lexlt (a, b) (c, d))))) s) : wpAny (model prog w) A (Builtin.«tuple.__lt__» ⟨[.ref x, .ref y], []⟩) P E s := by
  have hTy : s.TypeIs (.ref y) "tuple" := ⟨_, hy, rfl⟩
  show wpAny _ _ (isInstance (.ref y) (.type "tuple") >>= _) _ _ s
  refine wpAny_bind (wpAny_isInstance hTy isSubtype_tuple_tuple ?_)
  simp only [Bool.not_true, Bool.false_eq_true, if_false]
  refine wpAny_bind (wpAny_tupleItemsOf hx rfl ?_)
  refine wpAny_bind (wpAny_tupleItemsOf hy rfl ?_)
  have hz : List.zip (#[Value.int a ta, Value.int b tb] : Array Value).toList (#[Value.int c tc, Value.int d td] : Array Value).toList = [(Value.int a ta, Value.int c tc), (Value.int b tb, Value.int d td)] := rfl
  rw [hz]
  refine wpAny_bind ?_
  rw [List.forIn_cons]
  refine wpAny_bind (wpAny_bind (wpAny_eqBool_int ?_))
  by_cases h1 : a = c
  · subst h1
    simp only [beq_self_eq_true, Bool.not_true, Bool.false_eq_true, if_false]
    refine wpAny_pure ?_
    dsimp only
    rw [List.forIn_cons]
    refine wpAny_bind (wpAny_bind (wpAny_eqBool_int ?_))
    by_cases h2 : b = d
    · subst h2
      simp only [beq_self_eq_true, Bool.not_true, Bool.false_eq_true, if_false]
      refine wpAny_pure ?_
      dsimp only
      rw [List.forIn_nil]
      refine wpAny_pure ?_
      refine wpAny_pure ?_
      have e : lexlt (a, b) (a, b) = false := lexlt_self
      rw [e] at h
      exact h
    · have e2 : (b == d) = false := by simpa using h2
      rw [e2]
      simp only [Bool.not_false, if_true]
      refine wpAny_bind (wpAny_rule ?_)
      refine wpAny_bind (wpAny_lt_int ?_)
      refine wpAny_bind (wpAny_pure (wpAny_pure ?_))
      dsimp only
      refine wpAny_pure ?_
      refine wpAny_pure ?_
      have e : lexlt (a, b) (a, d) = decide (b < d) := by unfold lexlt; simp
      rw [e] at h
      exact h
  · have e1 : (a == c) = false := by simpa using h1
    rw [e1]
    simp only [Bool.not_false, if_true]
    refine wpAny_bind (wpAny_rule ?_)
    refine wpAny_bind (wpAny_lt_int ?_)
    refine wpAny_bind (wpAny_pure (wpAny_pure ?_))
    dsimp only
    refine wpAny_pure ?_
    refine wpAny_pure ?_
    have e : lexlt (a, b) (c, d) = decide (a < c) := by unfold lexlt; simp [h1]
    rw [e] at h
    exact h
theorem tup2_lt {x y : Addr} {a b c d : Int} {ta tb tc td : Tok} {n n' : Nat} {Q : Value → Shared → Prop} (hu : A.units < cLine) (hx : s.heap.get? x = some (tupObj #[.int a ta, .int b tb] n)) (hy : s.heap.get? y = some (tupObj #[.int c tc, .int d td] n'))
    (h : Q (.bool (lexlt (a, b) (c, d))) s) : wpAny (model prog w) A (richCompare .Lt (.ref x) (.ref y)) Q E s :=
  wpAny_richCompare_same_room (op := .Lt) (T := "tuple") ⟨_, hx, rfl⟩ ⟨_, hy, rfl⟩ PySem.F.slot_tuple_lt
    (wpAny_call_entry PySem.F.slot_tuple_lt ⟨_, hx, rfl⟩ PySem.F.entry_tuple_lt (tup2_lt_tree hx hy ⟨_, rfl, by simp, h⟩) (PySem.F.args_tuple_lt_2 _ _)) hu
end
section
variable {prog : Program} {w : World} {A : Around} {R : Result → Shared → Prop} {I : Addr} {fp : List Addr} {n : Nat} {P : Nat → Value → Prop} {St : Nat → Heap → Prop}
/-- min's loop, the items compared at a heap that is good -/
theorem min_loop_at (W : Walks prog w A.in1 I fp [I] n P St) (S : Addr) (hSf : S ∉ fp) (hIf : I ∈ fp) (bt : Nat → Nat → Bool) (htr : ∀ i j b, bt j b = true → bt i b = false → bt i j = false) (hself : ∀ j, bt j j = false)
    (Good : Heap → Prop) (hG : ∀ h h', Good h → (∀ b o, b ≠ I → b ≠ S → h.get? b = some o → h'.get? b = some o) → Good h')
    (hcmp : ∀ i j vi vj (s : Shared) (Q E : Value → Shared → Prop), Good s.heap → P i vi → P j vj → Q (.bool (bt i j)) s → wpAny (model prog w) A.in1 (richCompare .Lt vi vj) Q E s) :
    ∀ (k j b : Nat) (s : Shared) (vb : Value) (c : Nat), n - j = k → j ≤ n → St j s.heap → Good s.heap → b < j → P b vb → (∀ i, i < j → bt i b = false) →
    s.heap.get? S = some { cls := .type "list", dict := none, data := .seq #[vb, vb] c, slots := #[] } →
    (∀ b v h' tk, b < n → P b v → (∀ i, i < n → bt i b = false) → (∀ x o, x ≠ I → x ≠ S → s.heap.get? x = some o → h'.get? x = some o) → R (.ok (.ret v)) { s with heap := h', toks := tk }) →
    codeAny (model prog w) A (.builtin "min.loop" ⟨[.ref I, .none, .ref S], []⟩) R s := by
  have hSI : S ≠ I := fun e => hSf (e ▸ hIf)
  have hname : (toString "min" ++ toString ".loop" : String) = "min.loop" := by decide
  intro k
  induction k with
  | zero =>
    intro j b s vb c hk hj hst hg hb hP hB hS hR
    have hin : j = n := by omega
    subst hin
    refine codeAny_builtin F.entry_min_loop ?_
    rw [Around.under_plainId F.plain_min_loop _]
    show wpAny _ A.in1 (seqItems? (.ref S) >>= _) _ _ s
    refine wpAny_bind (wpAny_seqItems hS rfl ?_)
    show wpAny _ A.in1 (tryCatch (pyNext (.ref I)) _ >>= _) _ _ s
    refine wpAny_bind (wpAny_tryCatch (W.done s _ _ hst fun h' tk hk' => ?_))
    have hS' := hk' S _ (by simpa using hSI) hS
    show wpAny _ A.in1 (updateSeq S (fun _ => #[]) >>= _) _ _ _
    refine wpAny_bind (wpAny_updateSeq hS' rfl (wpAny_bind (wpAny_letGo (wpAny_pure ?_))))
    exact hR b vb _ tk hb hP hB fun x o hxI hxS e => (Heap.get?_update_other _ _ (Ne.symm hxS)).trans (hk' x o (by simpa using hxI) e)
  | succ k ih =>
    intro j b s vb c hk hj hst hg hb hP hB hS hR
    have hlt : j < n := by omega
    refine codeAny_builtin F.entry_min_loop ?_
    rw [Around.under_plainId F.plain_min_loop _]
    show wpAny _ A.in1 (seqItems? (.ref S) >>= _) _ _ s
    refine wpAny_bind (wpAny_seqItems hS rfl ?_)
    show wpAny _ A.in1 (tryCatch (pyNext (.ref I)) _ >>= _) _ _ s
    refine wpAny_bind (wpAny_tryCatch (W.item j s _ _ hlt hst fun v h' tk hPv hst' hk' => ?_))
    have hS' := hk' S _ (by simpa using hSI) hS
    have hg' : Good h' := hG _ _ hg fun x o hxI _ e => hk' x o (by simpa using hxI) e
    show wpAny _ A.in1 (tryCatch (holding [v, v] (richCompare .Lt v vb >>= _)) _ >>= _) _ _ _
    refine wpAny_bind (wpAny_tryCatch (wpAny_holding (wpAny_bind (hcmp j b v vb _ _ _ hg' hPv hP ?_))))
    refine wpAny_bind (wpAny_holding (wpAny_truthy_bool ?_))
    refine wpAny_bind (wpAny_letGo (wpAny_pure ?_))
    cases hbt : bt j b with
    | true =>
      simp only [if_true]
      refine wpAny_bind (wpAny_updateSeq hS' rfl (wpAny_bind (wpAny_letGo ?_)))
      rw [hname]
      refine wpAny_pure ⟨plainId_quiet F.plain_min_loop _, ih (j + 1) j _ v _ (by omega) hlt (W.frame _ _ _ hst' fun x hx o e => (Heap.get?_update_other _ _ (fun q : S = x => hSf (q ▸ hx))).trans e) (hG _ _ hg' fun x o _ hxS e => (Heap.get?_update_other _ _ (Ne.symm hxS)).trans e)
        (Nat.lt_succ_self _) hPv (fun i hi => ?_) (Heap.get?_update_self _ hS' rfl) fun b' v' h'' tk'' g1 g2 g3 g4 => hR b' v' h'' tk'' g1 g2 g3 fun x o hxI hxS e => g4 x o hxI hxS ((Heap.get?_update_other _ _ (Ne.symm hxS)).trans (hk' x o (by simpa using hxI) e))⟩
      by_cases e : i = j
      · rw [e]; exact hself j
      · exact htr i j b hbt (hB i (by omega))
    | false =>
      simp only [Bool.false_eq_true, if_false]
      refine wpAny_bind (wpAny_letGo ?_)
      rw [hname]
      refine wpAny_pure ⟨plainId_quiet F.plain_min_loop _, ih (j + 1) b _ vb c (by omega) hlt hst' hg' (by omega) hP (fun i hi => ?_) hS' fun b' v' h'' tk'' g1 g2 g3 g4 => hR b' v' h'' tk'' g1 g2 g3 fun x o hxI hxS e => g4 x o hxI hxS (hk' x o (by simpa using hxI) e)⟩
      by_cases e : i = j
      · rw [e]; exact hbt
      · exact hB i (by omega)
end
section
variable {prog : Program} {w : World} {A : Around} {E : Value → Shared → Prop} {s : Shared} {h₀ : Heap} {L : Addr} {m : Str → Option Value} {news : Led}
/-- min over a list of pairs -/
theorem min_pairs {D : Addr} {ys : List Value} {nn : Nat} {ps : List (Int × Int)} {Q : Value → Shared → Prop} (hh : A.handled = none) (hu : A.units + 1 < cLine) (F : Fr h₀ L s.heap m) (N : News h₀ L s.heap news) (hl : (D, listOf ys.toArray nn) ∈ news) (hP : PairsOf ys ps news) (hne : 0 < ps.length)
    (h : ∀ T a b ta tb n h' tk, Fr h₀ L h' m → News h₀ L h' news → (a, b) ∈ ps → (∀ q ∈ ps, lexlt q (a, b) = false) → (T, tupObj #[.int a ta, .int b tb] n) ∈ news → Q (.ref T) { s with heap := h', toks := tk }) :
    wpAny (model prog w) A (call (.builtin "min") [.ref D]) Q E s := by
  have hname : (toString "min" ++ toString ".loop" : String) = "min.loop" := by decide
  have hls : s.heap.IsList D ys.toArray := News.isList N hl
  refine call_function_tree PySem.F.kind_min PySem.F.plain_min PySem.F.entry_min (PySem.F.args_min1 _) ?_
  show wpAny _ A.in1 (Builtin.Builtins.bindParams "min" ["key", "default"] 0 ⟨[], []⟩ >>= _) _ _ s
  refine wpAny_bind (wpAny_of_eq (show Builtin.Builtins.bindParams "min" ["key", "default"] 0 ⟨[], []⟩ = pure [none, none] from rfl) ?_)
  refine wpAny_bind (wpAny_pure ?_)
  refine wpAny_bind (wpAny_pyIter_list hls ?_)
  refine wpAny_bind (wpAny_newObj_type ?_)
  rw [hname]
  have hDlt : D < s.heap.objs.size := Heap.lt_size (N _ hl).1
  have hlen : ys.toArray.size = ps.length := by rw [List.size_toArray, hP.1]
  have W := Walks.list (prog := prog) (w := w) (A := A.in1) hh s.heap.objs.size D (Nat.ne_of_lt hDlt) ys.toArray
  rw [hlen] at W
  refine wpAny_pure ⟨plainId_quiet PySem.F.plain_min_loop _, ?_⟩
  dsimp only
  obtain ⟨itO, hitO⟩ : ∃ o : Obj, o = { cls := Value.type "list_iterator", data := Data.fields #[Value.ref D, Value.int 0 0] } := ⟨_, rfl⟩
  rw [← hitO]
  have hSe : (s.heap.push itO).objs.size = s.heap.objs.size + 1 := Heap.size_push _ _
  obtain ⟨I, hIe⟩ : ∃ I : Addr, I = s.heap.objs.size := ⟨_, rfl⟩
  obtain ⟨S, hS0⟩ : ∃ S : Addr, S = (s.heap.push itO).objs.size := ⟨_, rfl⟩
  rw [← hIe] at W ⊢
  rw [← hS0]
  have hSI : S ≠ I := by rw [hS0, hSe, hIe]; exact Nat.succ_ne_self _
  have lt1 : ∀ x o, s.heap.get? x = some o → x ≠ I ∧ x ≠ S := fun x o e => by
    have := Heap.lt_size e
    exact ⟨by rw [hIe]; exact Nat.ne_of_lt this, by rw [hS0, hSe]; exact Nat.ne_of_lt (Nat.lt_succ_of_lt this)⟩
  have hDS : D ≠ S := (lt1 _ _ (N _ hl).1).2
  have hSf : S ∉ [I, D] := by
    simp only [List.mem_cons, List.not_mem_nil, or_false, not_or]
    exact ⟨hSI, Ne.symm hDS⟩
  have keep0 : ∀ x o, s.heap.get? x = some o → ((s.heap.push itO).push { cls := Value.type "list", dict := none, data := Data.seq ([] : List Value).toArray }).get? x = some o := fun x o e => Heap.get?_push_of_some _ (Heap.get?_push_of_some _ e)
  have hSobj : ((s.heap.push itO).push { cls := Value.type "list", dict := none, data := Data.seq ([] : List Value).toArray }).get? S = some { cls := .type "list", dict := none, data := .seq #[] 0, slots := #[] } := by
    rw [hS0]; exact Heap.get?_push_size _ rfl
  have hst0 : ((s.heap.push itO).push { cls := Value.type "list", dict := none, data := Data.seq ([] : List Value).toArray }).IsListIter I D 0 ∧ ((s.heap.push itO).push { cls := Value.type "list", dict := none, data := Data.seq ([] : List Value).toArray }).IsList D ys.toArray := by
    refine ⟨⟨itO, ?_, by rw [hitO], by rw [hitO]; rfl⟩, hls.at (keep0 D)⟩
    rw [hIe]; exact Heap.get?_push_of_some _ (Heap.get?_push_size _ (by rw [hitO]; rfl))
  refine codeAny_builtin PySem.F.entry_min_loop ?_
  rw [Around.under_plainId PySem.F.plain_min_loop _]
  show wpAny _ A.in1 (seqItems? (.ref S) >>= _) _ _ _
  refine wpAny_bind (wpAny_seqItems hSobj rfl ?_)
  show wpAny _ A.in1 (tryCatch (pyNext (.ref I)) _ >>= _) _ _ _
  refine wpAny_bind (wpAny_tryCatch (W.item 0 _ _ _ hne hst0 fun v h' tk hPv hst' hk' => ?_))
  have hS' := hk' S _ (by simpa using hSI) hSobj
  show wpAny _ A.in1 (updateSeq S (fun _ => #[v, v]) >>= _) _ _ _
  refine wpAny_bind (wpAny_updateSeq hS' rfl ?_)
  rw [hname]
  have off1 : ∀ x o, x ≠ I → x ≠ S → ((s.heap.push itO).push { cls := Value.type "list", dict := none, data := Data.seq ([] : List Value).toArray }).get? x = some o → (h'.update S (Obj.mapSeq fun _ => #[v, v])).get? x = some o := fun x o hxI hxS e => (Heap.get?_update_other _ _ (Ne.symm hxS)).trans (hk' x o (by simpa using hxI) e)
  have at3 : ∀ (i : Nat) v, ys.toArray[i]? = some v → ∃ a b T ta tb n', ps[i]? = some (a, b) ∧ v = .ref T ∧ (T, tupObj #[.int a ta, .int b tb] n') ∈ news := fun i v hv => by
    have hi : i < ps.length := by rw [← hlen]; exact (Array.getElem?_eq_some_iff.mp hv).1
    refine genC ?_
    intro C9 kC9
    obtain ⟨T, ta, tb, n', q1, q2⟩ := hP.2 i ps[i].1 ps[i].2 (by simp [hi])
    refine kC9 ?_
    clear kC9 C9
    have hv : ys[i]? = some v := by simpa using hv
    rw [q1] at hv
    exact ⟨_, _, T, ta, tb, n', by simp [hi], (Option.some.inj hv).symm, q2⟩
  have pd : ∀ {i a b}, ps[i]? = some (a, b) → ps.getD i (0, 0) = (a, b) := fun e => by rw [List.getD_eq_getElem?_getD, e]; rfl
  have hB0 : ∀ i, i < 1 → lexlt (ps.getD i (0, 0)) (ps.getD 0 (0, 0)) = false := fun i hi => by
    have h1 : i = 0 := by omega
    rw [h1]; exact lexlt_self
  refine wpAny_pure ⟨plainId_quiet PySem.F.plain_min_loop _, min_loop_at W S hSf (by simp) (fun i j => lexlt (ps.getD i (0, 0)) (ps.getD j (0, 0))) (fun i j b q1 q2 => lexlt_tr q1 q2) (fun j => lexlt_self)
    (fun h => ∀ p ∈ news, h.get? p.1 = some p.2) (fun h h' g k p hp => k _ _ (lt1 _ _ (N p hp).1).1 (lt1 _ _ (N p hp).1).2 (g p hp)) (fun i j vi vj s' Q E' hg hi hj hq => ?_) _ 1 0 _ v _ rfl hne (W.frame _ _ _ hst' fun x hx o e => (Heap.get?_update_other _ _ (fun q : S = x => hSf (q ▸ hx))).trans e)
    (fun p hp => off1 _ _ (lt1 _ _ (N p hp).1).1 (lt1 _ _ (N p hp).1).2 (keep0 _ _ (N p hp).1)) (Nat.lt_succ_self _) hPv hB0 (Heap.get?_update_self _ hS' rfl) fun b v' h'' tk'' hb hv' hB hk'' => ?_⟩
  · obtain ⟨a, b, T, ta, tb, n', q1, rfl, q2⟩ := at3 i vi hi
    refine genC ?_
    intro C9 kC9
    obtain ⟨c, d, T', tc, td, n'', q3, rfl, q4⟩ := at3 j vj hj
    refine kC9 ?_
    clear kC9 C9
    refine tup2_lt hu (hg _ q2) (hg _ q4) ?_
    rw [pd q1, pd q3] at hq
    exact hq
  · obtain ⟨a, c, T, ta, tb, n', q1, rfl, q2⟩ := at3 b v' hv'
    have off2 : ∀ x o, s.heap.get? x = some o → h''.get? x = some o := fun x o e => hk'' x o (lt1 _ _ e).1 (lt1 _ _ e).2 (off1 x o (lt1 _ _ e).1 (lt1 _ _ e).2 (keep0 x o e))
    refine h T a c ta tb n' h'' tk'' (F.keeps off2) (fun p hp => ⟨off2 _ _ (N p hp).1, (N p hp).2⟩) (List.mem_of_getElem? q1) (fun q hq => ?_) q2
    refine genC ?_
    intro C9 kC9
    obtain ⟨i, hi, e⟩ := List.getElem_of_mem hq
    refine kC9 ?_
    clear kC9 C9
    have := hB i hi
    rw [pd q1, List.getD_eq_getElem?_getD, List.getElem?_eq_getElem hi, Option.getD_some, e] at this
    exact this
end
end
local macro_rules | `(tactic| walk_at "call builtin:iter") => `(tactic| (k_here; (with_reducible show wpAny _ _ (call (Value.builtin _) [Value.ref _]) _ _ _); k_dflt (refine' iter_call ?k1 ?k2 ?k3 ?_; (case k1 => k_asm); (case k2 => k_asm); (case k3 => k_mem); k_whole); intro I' h' F' N' l1; (try k_lt l1); (try k_sweep)))
local macro_rules | `(tactic| walk_at "getAttr ref") => `(tactic| (k_here; (with_reducible show wpAny _ _ (getAttr (Value.ref _) (PySem.Str.ofString "__next__") _) _ _ _); k_dflt (refine' next_attrN ?k1 ?k2 ?k3 ?_; (case k1 => k_asm); (case k2 => k_asm); (case k3 => k_mem); k_whole); intro M' h' F' N' l1; (try k_lt l1); (try k_sweep)))
local macro_rules | `(tactic| walk_at "callWith ref") => `(tactic| (k_here; k_dflt (refine' callWith_W ?k1 ?k2 ?_; (case k1 => k_asm); (case k2 => k_mem); k_whole); refine halt ?_))
local macro_rules | `(tactic| walk_at "exec While") => `(tactic| (k_here; refine halt ?_))
local macro_rules | `(tactic| walk_at "last exec While") => `(tactic| (k_here; refine halt ?_))
local macro_rules | `(tactic| walk_at "exec While Compare") => `(tactic| (k_here; refine halt ?_))
local macro_rules | `(tactic| walk_at "exec While BoolOp") => `(tactic| (k_here; refine halt ?_))
section
local macro_rules | `(tactic| walk_at "subscriptTail Name Slice ref ref") => `(tactic| (k_here; (with_reducible show wpAny _ _ (subscriptTail _ (PySem.Expr.Slice none none (some _) _) (Value.ref _) (Value.ref _)) _ _ _); k_dflt (refine' krv_lit ?F ?N ?l ?k ?e ?_ ?s ?t ?z; (case F => k_asm); (case N => k_asm); (case l => exact News.isList (by k_asm) (by k_mem)); (case k => exact IsPart.int _ _); (case e => exact rfl); (case s => with_unfolding_all rfl); (case t => kmk_pure); (case z => assumption)); intro D' h' F' N' l1; (try k_lt l1); (try k_sweep)))
theorem rs_L2 : True := by
  w_top off
  exact True.intro
set_option maxRecDepth 100000 in
set_option maxHeartbeats 8000000 in
theorem lawAllNeeds {w : World} {st : List (Int × Int)} {Sx : Addr} {news : Led} (hP : PairsAt Sx st news) (hst : st.length ≤ 11) :
    Ctr w 186 [.ref Sx] 100 900 news (fun r news' => ∃ sf g, r = .ref sf ∧ SAt w sf g (st.reverse.foldl (needO st) SA.nil) news news') := by
  unfold Ctr
  k_fill
  intro mean mg mb dp un gd cn nm ig ic mo ad ccd cl outer A₀ base h₀ L m s Q E B F X N T hd hu hret
  refine genC ?_
  intro C9 kC9
  obtain ⟨vs, vn, hS, hvl, hvp⟩ := hP
  refine kC9 ?_
  clear kC9 C9
  have hvz : vs.toArray.size ≤ sizeLine := by rw [sizeLine_eq, List.size_toArray, hvl]; omega
  have hN : ∀ o ∈ st, o.1 ∈ st.map (·.1) := fun o ho => List.mem_map_of_mem ho
  refine wpAny_call ?_
  k_enter
  k_steps
  refine Halt.go ?_
  refine' ctr_use ?cB ?cF ?cX ?cN ?cT (newSorter (R := news) (fun p hp => hp)) ?cd ?cu ?_
  (case cB => k_asm)
  (case cF => k_asm)
  (case cX => k_asm)
  (case cN => k_asm)
  (case cT => k_asm)
  (case cd => ktr_room)
  (case cu => ktr_units)
  intro r9 news9 h9 tk9 F9 N9 P9
  (try dsimp only)
  (try k_fold)
  refine genC ?_
  intro C9 kC9
  obtain ⟨sf, g, rfl, S1⟩ := P9
  refine kC9 ?_
  clear kC9 C9
  have eS := (S1.frame _ hS).1
  k_steps
  (rename News _ _ _ _ => N3)
  (rename Fr _ _ _ _ => F3)
  obtain ⟨Dr, hD9⟩ := News.named1' N3
  subst hD9
  have S2 := S1.more (x := Dr) (o := listOf vs.reverse.toArray 0) (by assumption)
  k_dflt (refine' iter_list (Φ := Sor w sf) (x₀ := SA.nil) (R := (Dr, listOf vs.reverse.toArray 0) :: news) (Inv := fun i m x => Pins m [(Str.ofString "stretches", .ref Sx), (Str.ofString "sorter", .ref sf)] ∧ x = (st.reverse.take i).foldl (needO st) SA.nil) sor_framed ?hh ?hl ?cF ?cN ?hgo ?cq ?i0 ?turn2 ?done2)
  (case hh => exact rfl)
  (case cF => exact F3)
  (case cN => exact N3)
  (case cq => exact ⟨_, S2⟩)
  (case hl => exact .head _)
  (case hgo =>
    intro I i s' v Q' E' hv hi q
    refine genC ?_
    intro C9 kC9
    obtain ⟨a, b, T, ta, tb, n', _, rfl, _⟩ := pairs_rev hvl hvp hv
    refine kC9 ?_
    clear kC9 C9
    exact wpAny_letOwnedTupleGo_listiter hi q)
  (case i0 => exact ⟨⟨rfl, rfl, trivial⟩, rfl⟩)
  (case turn2 =>
    clear F3 N3 S2 S1 eS
    rintro i v m₁ c R₁ news₁ h tk hi hv ⟨hp, rfl⟩ hR ⟨g4, S4⟩ F4 N4
    refine genC ?_
    intro C9 kC9
    obtain ⟨a, b, T, ta, tb, n', hst4, rfl, hT⟩ := pairs_rev hvl hvp hv
    refine kC9 ?_
    clear kC9 C9
    have sub4 : ∀ p ∈ news, p ∈ news₁ := fun p hp => (S4.frame p (hR p (List.mem_cons_of_mem _ hp))).1
    replace F4 := Fr.pin F4 hp
    dsimp only [pinned, envOf] at F4 N4
    k_dflt (refine' asg_pair F4 N4 (sub4 _ hT) ?hh ?ha ?hb ?hp ?_)
    (case hh => exact rfl)
    (case ha => exact rfl)
    (case hb => exact rfl)
    (case hp => exact rfl)
    intro h' tk' F5 N5
    clear F4 N4
    dsimp only [envOf] at F5 N5
    (try k_fold)
    have n1 := S4.self
    refine genC ?_
    intro C9 kC9
    obtain ⟨t1, t2, t3, t4, t5, t6, n2⟩ := S4.dict
    refine kC9 ?_
    clear kC9 C9
    have H4 := (needO_gb hN (st.reverse.take i) (fun o ho => hN o (by simpa using List.mem_of_mem_take ho)) (GB.nil (N := st.map (·.1)))).1
    have hnx : (st.reverse.take (i + 1)).foldl (needO st) SA.nil = needO st ((st.reverse.take i).foldl (needO st) SA.nil) (a, b) := by
      rw [List.take_add_one, hst4]; simp
    have htl : (st.reverse.take i).length ≤ 11 := by rw [List.length_take, List.length_reverse]; omega
    change GB _ _ _ ((st.reverse.take i).foldl (needO st) SA.nil) at H4
    generalize (st.reverse.take i).foldl (needO st) SA.nil = x at S4 n2 H4 hnx
    replace H4 := H4.more (c' := 121) (by have := Nat.mul_le_mul htl hst; omega)
    have hx11 : x.D.length ≤ 11 := by have := H4.short; rw [List.length_map] at this; omega
    have haN : a ∈ st.map (·.1) := hN (a, b) (by have := List.mem_of_getElem? hst4; simpa using this)
    k_steps
    refine Halt.go ?_
    refine' ctr_use ?cB ?cF ?cX ?cN ?cT (add0 (k := a) S4 (by omega) H4.rdl) ?cd ?cu ?_
    (case cB => k_asm)
    (case cF => k_asm)
    (case cX => k_asm)
    (case cN => k_asm)
    (case cT => k_asm)
    (case cd => ktr_room)
    (case cu => ktr_units)
    intro r9 news9 h9 tk9 F9 N9 P9
    (try dsimp only)
    (try k_fold)
    clear n1 n2
    obtain ⟨g5, S5⟩ := P9
    have sub5 : ∀ p ∈ news, p ∈ news9 := fun p hp => (S5.frame p (hR p (List.mem_cons_of_mem _ hp))).1
    k_steps
    (rename News _ _ _ news9 => N6)
    (rename Fr _ _ _ _ => F6)
    k_dflt (refine' iter_list (Φ := Sor w sf) (x₀ := x.ins a) (R := R₁) (Inv := fun j m y => Pins m [(Str.ofString "stretches", .ref Sx), (Str.ofString "sorter", .ref sf), (Str.ofString "first", .int a ta)] ∧ y = (st.take j).foldl (needI a) (x.ins a)) sor_framed ?hh ?hl ?cF ?cN ?hgo ?cq ?i0 ?turn3 ?done3)
    (case hh => exact rfl)
    (case cF => exact F6)
    (case cN => exact N6)
    (case cq => exact ⟨_, S5⟩)
    (case hl => exact hR _ (List.mem_cons_of_mem _ hS))
    (case hgo => exact fun _ _ _ _ _ _ _ _ q => wpAny_pure q)
    (case i0 => exact ⟨⟨rfl, rfl, rfl, trivial⟩, rfl⟩)
    (case turn3 =>
      clear F6 N6
      rintro j v m₂ y R₂ news₂ h tk hj hv ⟨hp, rfl⟩ hR2 ⟨g6, S6⟩ F6 N6
      refine genC ?_
      intro C9 kC9
      obtain ⟨c, d, T', tc, td, n', hst6, rfl, hT'⟩ := pairs_at hvl hvp hv
      refine kC9 ?_
      clear kC9 C9
      have e1 := (S6.frame _ (hR2 _ (hR _ (List.mem_cons_of_mem _ hT')))).1
      replace F6 := Fr.pin F6 hp
      dsimp only [pinned, envOf] at F6 N6
      have H6 := (needI_gb haN (st.take j) (fun o ho => hN o (List.mem_of_mem_take ho)) (H4.ins haN) (ins_in.mpr (.inr rfl))).1
      have hny : (st.take (j + 1)).foldl (needI a) (x.ins a) = needI a ((st.take j).foldl (needI a) (x.ins a)) (c, d) := by
        rw [List.take_add_one, hst6]; simp
      have htl2 : (st.take j).length ≤ 11 := by rw [List.length_take]; omega
      generalize (st.take j).foldl (needI a) (x.ins a) = y at S6 H6 hny
      have hy11 : y.D.length ≤ 11 := by have := H6.short; rw [List.length_map] at this; omega
      have n1 := S6.self
      refine genC ?_
      intro C9 kC9
      obtain ⟨t1, t2, t3, t4, t5, t6, n2⟩ := S6.dict
      refine kC9 ?_
      clear kC9 C9
      (try k_fold)
      k_steps
      · refine Halt.go ?_
        refine' ctr_use ?cB ?cF ?cX ?cN ?cT (add1 (k := a) (p := c) S6 (by omega) (fun q => Nat.le_trans (H6.len q) (by omega)) H6.rdl) ?cd ?cu ?_
        (case cB => k_asm)
        (case cF => k_asm)
        (case cX => k_asm)
        (case cN => k_asm)
        (case cT => k_asm)
        (case cd => ktr_room)
        (case cu => ktr_units)
        intro r9 news9 h9 tk9 F9 N9 P9
        (try dsimp only)
        (try k_fold)
        clear n1 n2
        obtain ⟨g7, S7⟩ := P9
        k_steps
        (rename News _ _ _ news9 => N8)
        (rename Fr _ _ _ _ => F8)
        have hnn : needI a y (c, d) = y.add1 a c := by unfold needI; rw [if_pos (by assumption)]
        k_dflt (exact TEnd.next (y.add1 a c) F8 N8 ⟨_, S7⟩ ⟨⟨rfl, rfl, rfl, trivial⟩, (by rw [hny, hnn])⟩)
      · (rename News _ _ _ _ => N8)
        (rename Fr _ _ _ _ => F8)
        have hnn : needI a y (c, d) = y := by unfold needI; rw [if_neg (by assumption)]
        k_dflt (exact TEnd.next y F8 N8 ⟨_, S6⟩ ⟨⟨rfl, rfl, rfl, trivial⟩, (by rw [hny, hnn])⟩))
    (case done3 =>
      clear F6 N6
      rintro m₂ y news₂ h tk ⟨hp, rfl⟩ ⟨g6, S6⟩ F6 N6
      replace F6 := Fr.pin F6 hp
      dsimp only [pinned, envOf] at F6 N6
      rw [List.size_toArray, hvl, List.take_length] at S6
      k_steps
      (rename News _ _ _ _ => N8)
      (rename Fr _ _ _ _ => F8)
      k_dflt (exact TEnd.next _ F8 N8 ⟨_, S6⟩ ⟨⟨rfl, rfl, trivial⟩, (by rw [hnx]; rfl)⟩)))
  (case done2 =>
    clear F3 N3 S2 S1 eS
    rintro m₂ y news₂ h tk ⟨hp, rfl⟩ ⟨g6, S6⟩ F6 N6
    replace F6 := Fr.pin F6 hp
    dsimp only [pinned, envOf] at F6 N6
    have el : vs.reverse.toArray.size = st.reverse.length := by simp [hvl]
    rw [el, List.take_length] at S6
    k_steps
    exact hret _ _ _ _ (by k_asm) (by k_asm) ⟨sf, _, rfl, S6.less fun p hp => List.mem_cons_of_mem _ hp⟩)
end
section
open PyProof.Rows.LCg
local macro_rules | `(tactic| walk_at "compareOp In int ref") => `(tactic| (k_here; k_dflt (refine' seIn ?N ?d ?o ?z ?_; (case N => k_asm); (case d => k_mem); (case o => assumption); (case z => assumption); k_whole)))
local macro_rules | `(tactic| walk_at "getMethod ref") => `(tactic| (k_here; (with_reducible show wpAny _ _ (getMethod (Value.ref _) (Str.ofString "add") _) _ _ _); k_dflt (refine' seMeth ?N ?d ?o ?z ?_; (case N => k_asm); (case d => k_mem); (case o => assumption); (case z => assumption); k_whole)))
local macro_rules | `(tactic| walk_at "compareOp In int ref") => `(tactic| (k_here; k_dflt (refine' kda_in (b := false) ?N ?d ?o ?lo (intKind_is _ _ _ _) ?hb ?_; (case N => k_asm); (case d => k_mem); (case o => assumption); (case lo => assumption); (case hb => assumption); k_whole)))
local macro_rules | `(tactic| walk_at "call builtin:set.add") => `(tactic| (k_here; k_dflt (refine' kse_add (knd := PySem.intKind _ _) ?F ?N ?U ?d ?z (intKind_is _ _ _ _) rfl ?_; (case F => k_asm); (case N => k_asm); (case U => k_updF); (case d => assumption); (case z => assumption)); intro h' o' F' N' hs'; (try dsimp only at N')))
local macro_rules | `(tactic| walk_at "setItem ref int") => `(tactic| (k_here; k_dflt (refine' kda_set (knd := PySem.intKind _ _) ?F ?N ?U ?d (intKind_is _ _ _ _) ?z ?_; (case F => k_asm); (case N => k_asm); (case U => k_updF); (case d => assumption); (case z => assumption)); intro h' o' F' N' hs'; (try dsimp only at N')))
theorem rs_E2 : True := by
  w_top off
  exact True.intro
theorem News.exP {h₀ h : Heap} {L : Addr} {news : Led} {a : Addr} {P : Obj → Prop} (_N : News h₀ L h news) (q : ∃ o, (a, o) ∈ news ∧ P o) : ∃ o, (a, o) ∈ news ∧ P o := q
structure FInv (a : SA) (lev : Int → Nat) (st : List FE) (sn : List Int) : Prop where
  nod : sn.Nodup
  inD : ∀ k ∈ sn, k ∈ a.D
  stn : ∀ e ∈ st, e.k ∈ sn
  inc : st.Pairwise fun e f => lev e.k < lev f.k
  pos : ∀ e ∈ st, e.pos ≤ (a.sc e.k).length
def FT (a : SA) (st : List FE) (sn : List Int) : Nat := ((a.D.filter fun v => decide (v ∉ sn)).map fun v => (a.sc v).length + 1).sum + (st.map fun e => (a.sc e.k).length - e.pos).sum
theorem FInv.len {a : SA} {lev : Int → Nat} {st : List FE} {sn : List Int} (H : FInv a lev st sn) : sn.length ≤ a.D.length := by
  exact H.nod.length_le_of_subset H.inD
theorem intKind_of {prog : Program} {w : World} {k : Int} {v : Value} (h : (PySem.intKind prog w).is k v = true) : ∃ t, v = .int k t := by
  cases v <;> simp [PySem.intKind, Value.isInt] at h
  subst h; exact ⟨_, rfl⟩
theorem Below.turn {A : Around} {base h₀ : Heap} {outer : List Env} (_B : Below A base outer h₀) : ∃ HB, HB = Heap.SlotsOnly (frs outer) h₀ := ⟨_, rfl⟩
theorem FCΦ.ofN {h₀ h : Heap} {L : Addr} {w : World} {suc : Int → Nat} {sa ia se nd : Nat} {sn : List Int} {R news : Led} (_N : News h₀ L h news) (q : ∃ tag, FCAt w suc sa ia se nd tag [] sn R news) : FCΦ w suc sa ia se nd sn R news := q
abbrev fPins (sf : Nat) (n2i sa ia se nd : Nat) : List (Str × Value) := [(Str.ofString "self", .ref sf), (Str.ofString "n2i", .ref n2i), (Str.ofString "stack", .ref sa), (Str.ofString "itstack", .ref ia), (Str.ofString "seen", .ref se), (Str.ofString "node2stacki", .ref nd)]
inductive FJ (w : World) (a : SA) (lev : Int → Nat) (suc : Int → Nat) (sf n2i sa ia se nd : Nat) (HB : Heap → Prop) (L : Addr) (s : Shared) (R : Led) (st : List FE) (sn : List Int) (ex : List (Str × Value)) (s' : Shared) : Prop
  | mk (g₁ h : Heap) (tk : Nat) (m' : Str → Option Value) (tag : Nat → Nat × Int) (news' : Led) (_ : HB g₁) (_ : s' = { s with heap := h, toks := tk }) (_ : Fr g₁ L h m') (_ : News g₁ L h news') (_ : FCAt w suc sa ia se nd tag st sn R news') (_ : FInv a lev st sn) (_ : Pins m' (ex ++ fPins sf n2i sa ia se nd)) : FJ w a lev suc sf n2i sa ia se nd HB L s R st sn ex s'
theorem FCAt.off {w : World} {suc : Int → Nat} {sa ia se nd : Nat} {tag : Nat → Nat × Int} {st : List FE} {sn : List Int} {R news : Led} (H : FCAt w suc sa ia se nd tag st sn R news) : ∀ p ∈ R, p ∈ offL [sa, ia, se, nd] news := fun p hp =>
  mem_offL.mpr ⟨(H.frame p hp).1, fun q => by
    have t := (H.frame p hp).2
    simp only [List.mem_cons, List.not_mem_nil, or_false] at q
    rcases q with q | q | q | q <;> rw [q] at t
    · rw [H.tsa] at t; cases t
    · rw [H.tia] at t; cases t
    · rw [H.tse] at t; cases t
    · rw [H.tnd] at t; cases t⟩
theorem truthyL {prog : Program} {w : World} {A : Around} {E : Value → Shared → Prop} {s : Shared} {h₀ : Heap} {L l : Addr} {news : Led} {items : Array Value} {n : Nat} {Q : Bool → Shared → Prop} (b : Bool) (hb : (!items.isEmpty) = b) (N : News h₀ L s.heap news) (hm : (l, listOf items n) ∈ news) (hsz : items.size ≤ sizeLine)
    (h : Q b { s with toks := s.toks + 1 + 1 }) : wpAny (model prog w) A (truthy (.ref l)) Q E s :=
  wpAny_truthy_list (News.isList N hm) (by rw [sizeLine_eq] at hsz; omega) (hb ▸ h)
theorem lastItem {prog : Program} {w : World} {A : Around} {E : Value → Shared → Prop} {s : Shared} {h₀ : Heap} {L l : Addr} {news : Led} {xs : List Value} {x : Value} {n : Nat} {u : Tok} {value slice : Expr} {Q : Value → Shared → Prop} (N : News h₀ L s.heap news) (hm : (l, listOf (xs ++ [x]).toArray n) ∈ news) (h : Q x s)
    (hs : subscripted slice false (.ref l) (.int (-1) u) = operate [.ref l, .int (-1) u] (getItem (.ref l) (.int (-1) u)) := by with_unfolding_all rfl) : wpAny (model prog w) A (subscriptTail value slice (.ref l) (.int (-1) u)) Q E s :=
  kde_neg (News.isList N hm) (by decide) (by decide) (seqIndex?_neg_one (by simp)) (by simp) h hs
theorem kl_last_snoc (xs : List Value) (x : Value) : kl_last (xs ++ [x]) = some (xs, x) := by
  induction xs with
  | nil => rfl
  | cons y r ih =>
    show kl_last (y :: (r ++ [x])) = _
    unfold kl_last
    rw [ih]
theorem popL {prog : Program} {w : World} {A : Around} {E : Value → Shared → Prop} {s : Shared} {h₀ : Heap} {L D : Addr} {m : Str → Option Value} {news news' : Led} {xs : List Value} {x : Value} {n : Nat} {Q : Value → Shared → Prop} (F : Fr h₀ L s.heap m) (N : News h₀ L s.heap news) (U : Upd D (listOf (xs ++ [x]).toArray n) (listOf xs.toArray (n + 1)) news news')
    (hz : (xs ++ [x]).toArray.size ≤ sizeLine) (h : ∀ h', Fr h₀ L h' m → News h₀ L h' news' → Q x { s with heap := h' }) : wpAny (model prog w) A (call (.builtin "list.pop") [.ref D]) Q E s :=
  kl_pop F N (kl_last_snoc xs x) U (by simpa using hz) h
theorem ne1 {a b : Nat} (h : a ≠ b) : a ∉ [b] := fun q => h (List.mem_singleton.mp q)
theorem keys_snoc {kvs : List (Int × Value)} {ks : List Int} {k : Int} (h : kvs.map (·.1) = ks ++ [k]) : ∃ kvs₀ v, kvs = kvs₀ ++ [(k, v)] ∧ kvs₀.map (·.1) = ks := by
  rcases List.eq_nil_or_concat kvs with rfl | ⟨l, x, rfl⟩
  · simp at h
  · rw [List.concat_eq_append, List.map_append, List.map_singleton] at h
    have := List.append_inj' h rfl
    refine ⟨l, x.2, ?_, this.1⟩
    rw [List.concat_eq_append]
    have : x.1 = k := by simpa using this.2
    rw [← this]
theorem without_snoc {kvs : List (Int × Value)} {k : Int} {v : Value} (h : k ∉ kvs.map (·.1)) : without (kvs ++ [(k, v)]) k = kvs := by
  have := without_of_not_mem kvs k h
  unfold without at this ⊢
  rw [List.filter_append, this]
  simp
theorem ints_snoc' : ∀ {vs : List Value} {ns : List Int} {k : Int}, IntsAre vs (ns ++ [k]) → ∃ t us, vs = us ++ [Value.int k t] ∧ IntsAre us ns := by
  intro vs ns
  induction ns generalizing vs with
  | nil =>
    intro k h
    cases h with
    | cons n t h' => cases h'; exact ⟨t, [], rfl, .nil⟩
  | cons x r ih =>
    intro k h
    cases h with
    | cons n t h' =>
      obtain ⟨t', us, rfl, hu⟩ := ih h'
      exact ⟨t', _ :: us, rfl, .cons _ _ hu⟩
theorem News.unfoc4 {h₀ h : Heap} {L : Addr} {news : Led} {p1 p2 p3 p4 : Addr × Obj} {rest : Led} (N : News h₀ L h (p1 :: p2 :: p3 :: p4 :: rest)) (sp : ∀ p ∈ news, p = p1 ∨ p = p2 ∨ p = p3 ∨ p = p4 ∨ p ∈ rest) : News h₀ L h news := News.sub N fun p hp => by
  rcases sp p hp with rfl | rfl | rfl | rfl | h9
  · simp
  · simp
  · simp
  · simp
  · simp [h9]
theorem News.named1 {h₀ h : Heap} {L : Addr} {a : Addr} {o : Obj} {rest : Led} (_N : News h₀ L h ((a, o) :: rest)) : ∃ b, b = a := ⟨a, rfl⟩
theorem News.named2 {h₀ h : Heap} {L : Addr} {p : Addr × Obj} {a : Addr} {o : Obj} {rest : Led} (_N : News h₀ L h (p :: (a, o) :: rest)) : ∃ b, b = a := ⟨a, rfl⟩
theorem FCAt.ofN {h₀ h : Heap} {L : Addr} {sa ia se nd : Nat} {news news' : Led} (_N : News h₀ L h news') (k : ∀ p ∈ news, p.1 ≠ sa → p.1 ≠ ia → p.1 ≠ se → p.1 ≠ nd → p ∈ news') : ∀ p ∈ news, p.1 ≠ sa → p.1 ≠ ia → p.1 ≠ se → p.1 ≠ nd → p ∈ news' := k
theorem FCAt.ofN3 {h₀ h : Heap} {L : Addr} {sa ia nd x : Nat} {news news' : Led} (_N : News h₀ L h news') (k : ∀ p ∈ news, p.1 ≠ sa → p.1 ≠ ia → p.1 ≠ nd → p.1 ≠ x → p ∈ news') : ∀ p ∈ news, p.1 ≠ sa → p.1 ≠ ia → p.1 ≠ nd → p.1 ≠ x → p ∈ news' := k
theorem fresh4 {x : Nat} {a1 a2 a3 a4 : Nat} {o1 o2 o3 o4 : Obj} {news rest : Led} (sp : ∀ p ∈ news, p = (a1, o1) ∨ p = (a2, o2) ∨ p = (a3, o3) ∨ p = (a4, o4) ∨ p ∈ rest) (h : @LT.lt Nat instLTNat a1 x ∧ @LT.lt Nat instLTNat a2 x ∧ @LT.lt Nat instLTNat a3 x ∧ @LT.lt Nat instLTNat a4 x ∧ AllLt x rest) : ∀ p ∈ news, p.1 ≠ x := fun p hp => by
  obtain ⟨h1, h2, h3, h4, h5⟩ := h
  rcases sp p hp with rfl | rfl | rfl | rfl | h9
  · exact Nat.ne_of_lt h1
  · exact Nat.ne_of_lt h2
  · exact Nat.ne_of_lt h3
  · exact Nat.ne_of_lt h4
  · exact Nat.ne_of_lt (allLt_mem h5 p h9)
theorem stored_keys {kvs : List (Int × Value)} {ks : List Int} {k : Int} {v : Value} (h : kvs.map (·.1) = ks) (hk : k ∉ ks) : (stored kvs k v).map (·.1) = ks ++ [k] := by
  have hn : kvs.any (fun kv => kv.1 = k) = false := by
    simp only [List.any_eq_false, decide_eq_true_eq]
    intro p hp q
    exact hk (by rw [← h, ← q]; exact List.mem_map_of_mem hp)
  unfold stored
  rw [hn]
  simp [h]
theorem FInv.push {a : SA} {lev : Int → Nat} {st : List FE} {sn : List Int} {k : Int} {M I : Nat} (H : FInv a lev st sn) (hk : k ∈ a.D) (hn : k ∉ sn) (hl : ∀ e ∈ st, lev e.k < lev k) : FInv a lev (st ++ [⟨k, M, I, 0⟩]) (k :: sn) where
  nod := List.nodup_cons.mpr ⟨hn, H.nod⟩
  inD := fun j hj => by
    rcases List.mem_cons.mp hj with rfl | hj
    · exact hk
    · exact H.inD j hj
  stn := fun e he => by
    rcases List.mem_append.mp he with he | he
    · exact List.mem_cons_of_mem _ (H.stn e he)
    · rw [List.mem_singleton.mp he]; exact .head _
  inc := by
    rw [List.pairwise_append]
    exact ⟨H.inc, by simp, fun e he f hf => by rw [List.mem_singleton.mp hf]; exact hl e he⟩
  pos := fun e he => by
    rcases List.mem_append.mp he with he | he
    · exact H.pos e he
    · rw [List.mem_singleton.mp he]; exact Nat.zero_le _
theorem sum_drop (f : Int → Nat) (sn : List Int) (k : Int) (hn : k ∉ sn) : ∀ l : List Int, k ∈ l → ((l.filter fun v => decide (v ∉ k :: sn)).map f).sum + f k ≤ ((l.filter fun v => decide (v ∉ sn)).map f).sum := by
  have le : ∀ l : List Int, ((l.filter fun v => decide (v ∉ k :: sn)).map f).sum ≤ ((l.filter fun v => decide (v ∉ sn)).map f).sum := by
    intro l
    induction l with
    | nil => simp
    | cons x r ih =>
      by_cases h1 : x ∈ sn
      · have h2 : x ∈ k :: sn := List.mem_cons_of_mem _ h1
        simpa [h1, h2] using ih
      · by_cases h2 : x = k
        · subst h2; simp [h1] at ih ⊢; omega
        · simp [h1, h2] at ih ⊢; omega
  intro l
  induction l with
  | nil => intro h; cases h
  | cons x r ih =>
    intro h
    by_cases h2 : x = k
    · subst h2
      have := le r
      simp [hn] at this ⊢; omega
    · have := ih (by rcases List.mem_cons.mp h with e | h; exact absurd e.symm h2; exact h)
      by_cases h1 : x ∈ sn
      · simpa [h1, h2] using this
      · simp [h1, h2] at this ⊢; omega
theorem FInv.step {a : SA} {lev : Int → Nat} {st : List FE} {sn : List Int} {e : FE} (H : FInv a lev (st ++ [e]) sn) (hp : e.pos < (a.sc e.k).length) : FInv a lev (st ++ [{ e with pos := e.pos + 1 }]) sn where
  nod := H.nod
  inD := H.inD
  stn := fun f hf => by
    rcases List.mem_append.mp hf with hf | hf
    · exact H.stn f (List.mem_append_left _ hf)
    · rw [List.mem_singleton.mp hf]; exact H.stn e (by simp)
  inc := by
    have := H.inc
    rw [List.pairwise_append] at this ⊢
    exact ⟨this.1, by simp, fun f hf x hx => by rw [List.mem_singleton.mp hx]; exact this.2.2 f hf e (by simp)⟩
  pos := fun f hf => by
    rcases List.mem_append.mp hf with hf | hf
    · exact H.pos f (List.mem_append_left _ hf)
    · rw [List.mem_singleton.mp hf]; exact hp
theorem FInv.pop {a : SA} {lev : Int → Nat} {st : List FE} {sn : List Int} {e : FE} (H : FInv a lev (st ++ [e]) sn) : FInv a lev st sn where
  nod := H.nod
  inD := H.inD
  stn := fun f hf => H.stn f (List.mem_append_left _ hf)
  inc := by
    have := H.inc
    rw [List.pairwise_append] at this
    exact this.1
  pos := fun f hf => H.pos f (List.mem_append_left _ hf)
theorem FInv.top {a : SA} {lev : Int → Nat} {st : List FE} {sn : List Int} {e : FE} (H : FInv a lev (st ++ [e]) sn) {y : Nat} (h : lev e.k < y) : ∀ f ∈ st ++ [{ e with pos := e.pos + 1 }], lev f.k < y := fun f hf => by
  rcases List.mem_append.mp hf with hf | hf
  · have := H.inc
    rw [List.pairwise_append] at this
    exact Nat.lt_trans (this.2.2 f hf e (by simp)) h
  · rw [List.mem_singleton.mp hf]; exact h
theorem FT_step {a : SA} {st : List FE} {sn : List Int} {e : FE} (hp : e.pos < (a.sc e.k).length) : FT a (st ++ [{ e with pos := e.pos + 1 }]) sn < FT a (st ++ [e]) sn := by
  unfold FT
  simp only [List.map_append, List.sum_append, List.map_cons, List.map_nil, List.sum_cons, List.sum_nil]
  omega
theorem FT_pop {a : SA} {st : List FE} {sn : List Int} {e : FE} : FT a st sn ≤ FT a (st ++ [e]) sn := by
  unfold FT
  simp only [List.map_append, List.sum_append, List.map_cons, List.map_nil, List.sum_cons, List.sum_nil]
  omega
theorem si_exc : isSubtype (.type "StopIteration") (.type "BaseException") = pure true := by rw [isSubtype_type]; kernel_rfl
theorem si_meta : isSubtype (.type ((Manifest.find? "StopIteration").elim "type" fun y => y.metatype)) (.type "tuple") = pure false := by kernel_rfl
theorem si_self : isSubtype (.type "StopIteration") (.type "StopIteration") = pure true := by rw [isSubtype_type]; kernel_rfl
theorem FT_push {a : SA} {st : List FE} {sn : List Int} {k : Int} {M I : Nat} (hk : k ∈ a.D) (hn : k ∉ sn) : FT a (st ++ [⟨k, M, I, 0⟩]) (k :: sn) < FT a st sn := by
  have := sum_drop (fun v => (a.sc v).length + 1) sn k hn a.D hk
  unfold FT
  simp only [List.map_append, List.sum_append, List.map_cons, List.map_nil, List.sum_cons, List.sum_nil] at this ⊢
  omega
local macro_rules | `(tactic| walk_at "call builtin:list.pop") => `(tactic| (k_here; (with_reducible show wpAny _ _ (call (Value.builtin _) [Value.ref _]) _ _ _); k_dflt (refine' popL ?F ?N ?U ?z ?_; (case F => k_asm); (case N => k_asm); (case U => k_upd); (case z => assumption)); intro h' F' N'; (try dsimp only at N')))
local macro_rules | `(tactic| walk_at "delItem") => `(tactic| (k_here; k_dflt (refine' kob_del (knd := PySem.intKind _ _) ?F ?N ?U ?d (intKind_is _ _ _ _) ?l ?z ?_; (case F => k_asm); (case N => k_asm); (case U => k_updF); (case d => assumption); (case l => assumption); (case z => assumption)); intro h' o' F' N' hs'; (try dsimp only at N')))
set_option maxRecDepth 100000 in
set_option maxHeartbeats 8000000 in
theorem findCycle {w : World} {sf : Nat} {g : SG} {a : SA} {R news : Led} (lev : Int → Nat) (S : SAt w sf g a R news) (hsc : ∀ k ∈ a.D, ∀ j ∈ a.sc k, j ∈ a.D ∧ lev k < lev j) (hD90 : a.D.length ≤ 90) :
    CtrS w 127 [.ref sf] 40 400 news (fun r news' => r = .none ∧ ∀ p ∈ news, p ∈ news') := by
  unfold CtrS
  k_fill
  intro mean mg mb dp un gd cn nm ig ic mo ad ccd cl outer A₀ base h₀ L m s Q E B F X N T XB TB hd hu hret
  have m1 := S.self
  refine genC ?_
  intro C9 kC9
  obtain ⟨t1, t2, t3, t4, t5, t6, m2⟩ := S.dict
  obtain ⟨o, m3, hdd⟩ := S.tab
  refine kC9 ?_
  clear kC9 C9
  have hlo := S.lo
  refine wpAny_call ?_
  refine' code_S ?k1 ?k2 ?k3 ?k4 ?k5 ?kA ?kF ?kK ?k6 ?k7 ?k8 ?k9 ?kB ?_ ?c2 ?c3 ?c4 ?c5
  (case kA => exact rfl)
  (case kF => exact rfl)
  (case kK => exact rfl)
  (case k1 => k_asm)
  (case k2 => k_asm)
  (case k3 => k_asm)
  (case k4 => k_asm)
  (case k5 => k_asm)
  (case k6 => k_is)
  (case k7 => k_is)
  (case k8 => k_room)
  (case k9 => first | exact BindsTo.of_eq rfl | exact binds_K (by k_in) rfl (by k_is) rfl rfl rfl)
  (case c5 => decide)
  (case kB => exact locs rfl)
  (case c2 => exact rfl)
  (case c3 => exact rfl)
  (case c4 => exact rfl)
  k_whole
  intro g' L' h' F' N' B' X' T'
  (try dsimp only)
  (try k_lift B')
  (try k_fold)
  clear B F X N T
  k_steps
  (rename News _ _ _ _ => N3)
  (rename Fr _ _ _ _ => F3)
  obtain ⟨sa, hN9⟩ := Fr.named F3 (Str.ofString "stack") rfl
  subst hN9
  obtain ⟨ia, hN9⟩ := Fr.named F3 (Str.ofString "itstack") rfl
  subst hN9
  obtain ⟨se, hN9⟩ := Fr.named F3 (Str.ofString "seen") rfl
  subst hN9
  obtain ⟨nd, hN9⟩ := Fr.named F3 (Str.ofString "node2stacki") rfl
  subst hN9
  (rename Obj => nob)
  (rename (PySem.Obj.SetObjOf (intKind _ _) _ _ _) => hset)
  (rename (PySem.Obj.IsDictOf (intKind _ _) _ []) => hdic)
  (rename ((nd == sysModules) = false) => lond)
  obtain ⟨HB, hHB⟩ := Below.turn B'
  have z1 : ∀ p ∈ news, @LT.lt Nat instLTNat p.1 sa := by assumption
  (rename (_ ∧ AllLt ia _) => z2)
  (rename (_ ∧ _ ∧ AllLt se _) => z3)
  (rename (_ ∧ _ ∧ _ ∧ AllLt nd _) => z4)
  have y1 := ltN z2.1
  have y2 := ltN z3.1
  have y3 := ltN z4.1
  have q3 := FCΦ.ofN N3 ⟨_, FCAt.init (R := news) (suc := g.suc) (sa := sa) (ia := ia) (by k_mem) (by k_mem) (by k_mem) hset (by k_mem) hdic (Nat.ne_of_lt y1) (Nat.ne_of_lt (Nat.lt_trans y1 y2)) (Nat.ne_of_lt (Nat.lt_trans y1 (Nat.lt_trans y2 y3))) (Nat.ne_of_lt y2) (Nat.ne_of_lt (Nat.lt_trans y2 y3)) (Nat.ne_of_lt y3)
    (fun p hp => ⟨by simp [hp], Nat.ne_of_lt (z1 p hp), Nat.ne_of_lt (Nat.lt_trans (z1 p hp) y1), Nat.ne_of_lt (Nat.lt_trans (z1 p hp) (Nat.lt_trans y1 y2)), Nat.ne_of_lt (Nat.lt_trans (z1 p hp) (Nat.lt_trans y1 (Nat.lt_trans y2 y3)))⟩)⟩
  k_dflt (refine' iter_keysS (K := Int) (knd := PySem.intKind PySem.Challenge.rw_mj0221_01.row.prog w) (kvs := a.D.map fun k => (k, Value.ref (g.inf k))) (o := o) (Φ := FCΦ w g.suc sa ia se nd) (x₀ := []) (R := news) (HB := HB) (Inv := fun i m x => Pins m (fPins sf g.n2i sa ia se nd) ∧ FInv a lev [] x) fc_framed ?hh ?hl ?hdi ?hlo ?hb ?hsz ?cF ?cN ?hgo ?cq ?i0 ?turn ?done)
  (case hh => exact rfl)
  (case hb => rw [hHB]; exact .refl ..)
  (case hsz => rw [hHB]; exact fun h q => q.1)
  (case cF => exact F3)
  (case cN => exact N3)
  (case cq => exact q3)
  (case hl => exact m3)
  (case hdi => exact hdd)
  (case hlo => exact hlo)
  (case hgo => exact fun _ _ => rfl)
  (case i0 => exact ⟨⟨rfl, rfl, rfl, rfl, rfl, rfl, trivial⟩, ⟨List.nodup_nil, fun _ h => (nomatch h), fun _ h => (nomatch h), .nil, fun _ h => (nomatch h)⟩⟩)
  (case turn =>
    rintro h₁ i k x v m₁ sn R₁ news₁ h tk hb hi hk hv ⟨hp, hI⟩ hR ⟨tag, H⟩ F4 N4
    clear F3 N3 q3 hset hdic
    obtain ⟨tkk, rfl⟩ := intKind_of hv
    replace F4 := Fr.pin F4 hp
    have hkD : k ∈ a.D := by
      have := List.mem_of_getElem? hk
      refine genC ?_
      intro C9 kC9
      obtain ⟨k', h1, h2⟩ := List.mem_map.mp this
      refine kC9 ?_
      clear kC9 C9
      cases h2; exact h1
    rw [hHB] at hb
    have B4 := Below.so B' hb
    have X4 := XB.keeps B4.stays
    have T4 := TB.keeps B4.stays
    clear X' T'
    dsimp only [pinned, envOf] at F4 N4
    refine genC ?_
    intro C9 kC9
    obtain ⟨so, e1, hso⟩ := H.see
    refine kC9 ?_
    clear kC9 C9
    have hsl := hI.len
    have hbd : sn.length < scanBound := by unfold scanBound; omega
    (try k_fold)
    k_steps
    · (rename News _ _ _ _ => N5)
      (rename Fr _ _ _ _ => F5)
      k_dflt (exact TEndS.cont sn (by rw [hHB]; exact hb) F5 N5 ⟨_, H⟩ ⟨⟨rfl, rfl, rfl, rfl, rfl, rfl, trivial⟩, hI⟩)
    (rename News _ _ _ _ => N5)
    (rename Fr _ _ _ _ => F5)
    clear e1 hso so hsl hbd X4 T4 B4 hv
    refine Halt.go ?_
    k_dflt (refine While_N (fun n s' => ∃ st sn k t, FJ w a lev g.suc sf g.n2i sa ia se nd HB L' s R₁ st sn [(Str.ofString "node", .int k t)] s' ∧ k ∈ a.D ∧ (∀ e ∈ st, lev e.k < lev k) ∧ FT a st sn = n) (FT a [] sn) ?w0 ?wt)
    (case w0 => exact ⟨[], sn, k, tkk, ⟨_, _, _, _, _, _, (by rw [hHB]; exact hb), rfl, F5, N5, H, hI, rfl, rfl, rfl, rfl, rfl, rfl, rfl, trivial⟩, hkD, fun _ h => (nomatch h), rfl⟩)
    clear F5 N5 H hb hp hi hk hI hkD
    (case wt =>
      intro n s' hr92
      refine genC ?_
      intro C9 kC9
      obtain ⟨st, sn, k, tkk, ⟨g₁, h, tk, m', tag, news', hb, rfl, F5, N5, H, hI, hp⟩, hkD, hlv, hT⟩ := hr92
      refine kC9 ?_
      clear kC9 C9
      have hb' := hb
      rw [hHB] at hb'
      have B5 := Below.so B' hb'
      have X5 := XB.keeps B5.stays
      have T5 := TB.keeps B5.stays
      replace F5 := Fr.pin F5 hp
      dsimp only [pinned, envOf, List.cons_append, List.nil_append] at F5 N5
      refine genC ?_
      intro C9 kC9
      obtain ⟨vs, n1, hvs, e1⟩ := H.stk
      obtain ⟨n2, e2⟩ := H.its
      obtain ⟨so, e3, hso⟩ := H.see
      obtain ⟨od, kvs, e4, hod, hkeys⟩ := H.dic
      refine kC9 ?_
      clear kC9 C9
      have hsl := hI.len
      have hbd : sn.length < scanBound := by unfold scanBound; omega
      have hbd' : sn.length + 1 < scanBound := by unfold scanBound; omega
      have d1 := tg_ne H.tsa H.tia (by simp)
      have d2 := tg_ne H.tsa H.tse (by simp)
      have d3 := tg_ne H.tsa H.tnd (by simp)
      have d4 := tg_ne H.tia H.tse (by simp)
      have d5 := tg_ne H.tia H.tnd (by simp)
      have d6 := tg_ne H.tse H.tnd (by simp)
      have c1 := S.node k hkD
      have c2 := S.dct k hkD
      have c3 := S.sucs k hkD
      refine genC ?_
      intro C9 kC9
      obtain ⟨tt, tt', c1⟩ := c1
      obtain ⟨us, un', hus, c3⟩ := c3
      refine kC9 ?_
      clear kC9 C9
      have off : ∀ p ∈ news, p ∈ offL [sa, ia, se, nd] news' := fun p hp => H.off p (hR p hp)
      replace c1 := off _ c1
      replace c2 := off _ c2
      replace c3 := off _ c3
      have c4 := off _ m3
      have hva := valueAt_map_some (f := fun k => Value.ref (g.inf k)) hkD
      have hstl : st.length ≤ 90 := Nat.le_trans (by
        have := H.nod.length_le_of_subset (l₂ := sn) (fun x hx => by obtain ⟨e, he, rfl⟩ := List.mem_map.mp hx; exact hI.stn e he)
        simpa using this) (Nat.le_trans hsl hD90)
      have hz1 : vs.toArray.size ≤ sizeLine := by rw [sizeLine_eq, List.size_toArray, hvs.length, List.length_map]; omega
      have hz2 : (st.map fun e => Value.ref e.M).toArray.size ≤ sizeLine := by rw [sizeLine_eq, List.size_toArray, List.length_map]; omega
      have hz3 : kvs.length ≤ sizeLine := by
        have := congrArg List.length hkeys
        rw [List.length_map, List.length_map] at this
        rw [sizeLine_eq]; omega
      have hks : k ∉ st.map (·.k) := fun hx => by
        refine genC ?_
        intro C9 kC9
        obtain ⟨e, he, q⟩ := List.mem_map.mp hx
        refine kC9 ?_
        clear kC9 C9
        have := hlv e he
        rw [q] at this; omega
      have hkv : (valueAt kvs k).isSome = false := by
        rw [valueAt_isSome_eq_any]
        simp only [List.any_eq_false, decide_eq_true_eq]
        intro p hp q
        exact hks (by rw [← hkeys, ← q]; exact List.mem_map_of_mem hp)
      have sp9 := News.split4 N5 e1 e2 e3 e4
      replace N5 := News.foc4 N5 e1 e2 e3 e4
      (try k_fold)
      k_steps
      all_goals (rename News _ _ _ _ => N6)
      all_goals (rename Fr _ _ _ _ => F6)
      all_goals refine Halt.go ?_
      · k_dflt (refine While_N (fun n2 s' => ∃ st sn, FJ w a lev g.suc sf g.n2i sa ia se nd HB L' s R₁ st sn [] s' ∧ FT a st sn ≤ n ∧ st.length = n2) (st.length) ?_ ?wt1)
        · exact ⟨st, sn, ⟨_, _, _, _, _, _, hb, rfl, F6, News.unfoc4 N6 sp9, H, hI, rfl, rfl, rfl, rfl, rfl, rfl, trivial⟩, Nat.le_of_eq hT, rfl⟩
        clear F6 N6 sp9 H hb hp hI hkD hT hlv e1 e2 e3 e4 hod hso hkeys hsl hbd hbd' c1 c2 c3 c4 off hva hstl hz1 hz2 hz3 hks hkv hvs hus B5 X5 T5 hb'
        intro n2 s' hr92
        refine genC ?_
        intro C9 kC9
        obtain ⟨st, sn, ⟨g₁, h, tk, m', tag, news', hb, rfl, F5, N5, H, hI, hp⟩, hT, hlen⟩ := hr92
        refine kC9 ?_
        clear kC9 C9
        have hb' := hb
        rw [hHB] at hb'
        have B5 := Below.so B' hb'
        have X5 := XB.keeps B5.stays
        have T5 := TB.keeps B5.stays
        replace F5 := Fr.pin F5 hp
        dsimp only [pinned, envOf, List.cons_append, List.nil_append] at F5 N5
        have e1 := H.stk
        have e2 := H.its
        refine genC ?_
        intro C9 kC9
        obtain ⟨vs, n1, hvs, e1⟩ := e1
        obtain ⟨n2, e2⟩ := e2
        refine kC9 ?_
        clear kC9 C9
        rcases List.eq_nil_or_concat st with rfl | ⟨st₀, e, rfl⟩
        · obtain rfl : vs = [] := by cases hvs; rfl
          (try k_fold)
          k_steps
          k_dflt (refine truthyL false (by simp) (by k_asm) e1 (by simp) ?_)
          (try dsimp only)
          k_steps
          (rename News _ _ _ _ => N6)
          (rename Fr _ _ _ _ => F6)
          k_dflt (exact TEndS.next sn hb F6 N6 ⟨_, H⟩ ⟨⟨rfl, rfl, rfl, rfl, rfl, rfl, trivial⟩, hI⟩)
        · simp only [List.concat_eq_append, List.map_append, List.map_cons, List.map_nil] at hvs e2 H hI hT hlen
          refine genC ?_
          intro C9 kC9
          obtain ⟨tv, us, rfl, hus⟩ := ints_snoc' hvs
          refine kC9 ?_
          clear kC9 C9
          have hstl : (st₀ ++ [e]).length ≤ 90 := Nat.le_trans (by
            have := H.nod.length_le_of_subset (l₂ := sn) (fun x hx => by obtain ⟨e, he, rfl⟩ := List.mem_map.mp hx; exact hI.stn e he)
            simpa using this) (Nat.le_trans hI.len hD90)
          rw [List.length_append, List.length_singleton] at hstl
          have hz1 : (us ++ [Value.int e.k tv]).toArray.size ≤ sizeLine := by rw [sizeLine_eq, List.size_toArray, hvs.length, List.length_append, List.length_map, List.length_singleton]; omega
          have hz2 : (st₀.map (fun e => Value.ref e.M) ++ [Value.ref e.M]).toArray.size ≤ sizeLine := by rw [sizeLine_eq, List.size_toArray, List.length_append, List.length_map, List.length_singleton]; omega
          have e3 := H.met e (by simp)
          have e4 := H.itr e (by simp)
          (try k_fold)
          k_steps
          k_dflt (refine truthyL true (by simp) (by k_asm) e1 hz1 ?_)
          (try dsimp only)
          k_steps
          k_dflt (refine lastItem (by k_asm) e2 ?_)
          k_steps
          refine Halt.go ?_
          have hek : e.k ∈ a.D := hI.inD _ (hI.stn e (by simp))
          refine genC ?_
          intro C9 kC9
          obtain ⟨ws, wn, hws, e5⟩ := S.sucs e.k hek
          refine kC9 ?_
          clear kC9 C9
          replace e5 := (H.frame _ (hR _ e5)).1
          (rename News _ _ _ _ => N6)
          (rename Fr _ _ _ _ => F6)
          rcases hx : ws.toArray[e.pos]? with _ | y
          · refine wrap_end rfl (News.get N6 e3) (News.get N6 e4) (News.isList N6 e5) hx ?_
            intro h₁ h' ex hs he
            obtain ⟨F7, N7⟩ := same_FN0 F6 N6 e4 hs
            k_steps
            k_dflt (refine' caught_S (T := "StopIteration") B5 F7 N7 he si_exc si_meta si_self ?hname ?hk)
            (case hname =>
              intro g₂ h₂ Q' E' so F8 hq
              have B8 := Below.so B5 so
              have X8 := XB.keeps B8.stays
              have T8 := TB.keeps B8.stays
              k_dflt (refine' name_B F8 X8 (topRead_of T8) ?k3 ?k4 ?k5 hq; (case k3 => k_is); (case k4 => boot_by_name); (case k5 => decide)))
            (case hk =>
              intro g₂ h₂ so F8 N8
              clear F7 N7 F6 N6 hs he hx
              have hb2 : HB g₂ := by rw [hHB] at hb ⊢; exact hb.trans so
              have B8 := Below.so B5 so
              have X8 := XB.keeps B8.stays
              have T8 := TB.keeps B8.stays
              clear B5 X5 T5 hb so hb'
              dsimp only at N8 F8 ⊢
              have he' : e ∈ st₀ ++ [e] := by simp
              refine genC ?_
              intro C9 kC9
              obtain ⟨od, kvs, e6, hod, hkeys⟩ := H.dic
              refine kC9 ?_
              clear kC9 C9
              rw [List.map_append] at hkeys
              replace e1 := mem_offL.mpr ⟨e1, ne1 (tg_ne H.tsa (H.tI e he') (by simp))⟩
              replace e2 := mem_offL.mpr ⟨e2, ne1 (tg_ne H.tia (H.tI e he') (by simp))⟩
              replace e6 := mem_offL.mpr ⟨e6, ne1 (tg_ne H.tnd (H.tI e he') (by simp))⟩
              have d1 := tg_ne H.tsa H.tia (by simp)
              have d3 := tg_ne H.tsa H.tnd (by simp)
              have d5 := tg_ne H.tia H.tnd (by simp)
              have hks : e.k ∉ st₀.map (·.k) := by
                have := H.nod
                rw [List.map_append, List.nodup_append] at this
                exact fun hx => this.2.2 _ hx e.k (by simp) rfl
              refine genC ?_
              intro C9 kC9
              obtain ⟨kvs₀, vv, rfl, hk0⟩ := keys_snoc hkeys
              refine kC9 ?_
              clear kC9 C9
              have hvs' : (valueAt (kvs₀ ++ [(e.k, vv)]) e.k).isSome = true := by
                rw [valueAt_isSome_eq_any]; simp
              have hz3 : (kvs₀ ++ [(e.k, vv)]).length ≤ sizeLine := by
                have := congrArg List.length hk0
                rw [List.length_map, List.length_map] at this
                rw [sizeLine_eq, List.length_append, List.length_singleton]; omega
              clear e3 e4 e5
              have sp9 := News.split3 N8 e1 e2 e6
              replace N8 := News.foc3 N8 e1 e2 e6
              k_steps
              (rename News _ _ _ _ => N9)
              (rename Fr _ _ _ _ => F9)
              (rename (Obj.IsDictOf _ _ (without _ _)) => hod')
              rw [without_snoc (by rw [hk0]; exact hks)] at hod'
              have H9 := H.pop (FCAt.ofN3 N9 (fun p hp n1 n2 n3 n4 => by
                  rcases sp9 p (mem_offL.mpr ⟨hp, ne1 n4⟩) with rfl | rfl | rfl | h9
                  · exact absurd rfl n1
                  · exact absurd rfl n2
                  · exact absurd rfl n3
                  · simp [h9])) hus (by k_mem) (by k_mem) (by k_mem) hod' hk0
              k_dflt (exact ⟨st₀.length, by rw [← hlen]; simp, st₀, sn, ⟨_, _, _, _, _, _, hb2, rfl, F9, N9, H9, hI.pop, rfl, rfl, rfl, rfl, rfl, rfl, trivial⟩, Nat.le_trans FT_pop hT, rfl⟩))
          · refine wrap_item (News.get N6 e3) (News.get N6 e4) (News.isList N6 e5) hx ?_
            intro h' hi' hs'
            obtain ⟨F7, N7⟩ := same_FN F6 N6 e4 hs' hi'
            clear F6 N6
            refine genC ?_
            intro C9 kC9
            obtain ⟨y, ty, hy, rfl⟩ := ints_at hws hx
            refine kC9 ?_
            clear kC9 C9
            have hlt : e.pos < (a.sc e.k).length := (List.getElem?_eq_some_iff.mp hy).1
            have hyD := hsc e.k hek y (List.mem_of_getElem? hy)
            (try dsimp only)
            k_steps
            (rename News _ _ _ _ => N8)
            (rename Fr _ _ _ _ => F8)
            k_dflt (exact ⟨_, Nat.lt_of_lt_of_le (FT_step hlt) hT, _, sn, y, ty, ⟨_, _, _, _, _, _, hb, rfl, F8, N8, H.step ⟨fun p hp hne => mem_foc hp hne, .head _⟩, hI.step hlt, rfl, rfl, rfl, rfl, rfl, rfl, rfl, trivial⟩, hyD.1, hI.top hyD.2, rfl⟩)
      k_dflt (refine While_N (fun n2 s' => ∃ st sn, FJ w a lev g.suc sf g.n2i sa ia se nd HB L' s R₁ st sn [] s' ∧ FT a st sn ≤ n ∧ st.length = n2) (st.length + 1) ?_ ?wt2)
      · obtain ⟨Mv, hM9⟩ := News.named1 N6
        subst hM9
        obtain ⟨Iv, hI9⟩ := News.named2 N6
        subst hI9
        rename ((_ : Nat) < Mv ∧ _) => lM
        (rename (@LT.lt Nat _ sa Iv ∧ _) => lI)
        (rename (¬ (k ∈ sn)) => hkn)
        (rename (Obj.SetObjOf _ _ (fun k' => decide (k' ∈ sn) || decide (k' = k)) _) => hso')
        (rename (Obj.IsDictOf _ _ (stored _ _ _)) => hod')
        simp only [hkn, decide_false, Bool.false_eq_true, if_false] at hso'
        simp only [List.push_toArray] at N6
        have H6 := H.push hks hkn (M := Mv) (I := Iv) (FCAt.ofN N6 (fun p hp n1 n2 n3 n4 => by
          rcases sp9 p hp with rfl | rfl | rfl | rfl | h9
          · exact absurd rfl n1
          · exact absurd rfl n2
          · exact absurd rfl n3
          · exact absurd rfl n4
          · simp [h9])) (ints_snoc hvs) (by k_mem) (by k_mem) (by k_mem) hso' (by k_mem) hod' (stored_keys hkeys hks) (by k_mem) (by k_mem) (fresh4 sp9 lM.2) (fresh4 sp9 lI) (Nat.ne_of_gt lM.1)
        exact ⟨_, _, ⟨_, _, _, _, _, _, hb, rfl, F6, N6, H6, hI.push hkD hkn hlv, rfl, rfl, rfl, rfl, rfl, rfl, trivial⟩, Nat.le_of_lt (hT ▸ FT_push hkD hkn), by simp⟩
      clear F6 N6 sp9
      clear H hb hp hI hkD hT hlv e1 e2 e3 e4 hod hso hkeys hsl hbd hbd' c1 c2 c3 c4 off hva hstl hz1 hz2 hz3 hks hkv hvs hus B5 X5 T5 hb'
      intro n2 s' hr92
      refine genC ?_
      intro C9 kC9
      obtain ⟨st, sn, ⟨g₁, h, tk, m', tag, news', hb, rfl, F5, N5, H, hI, hp⟩, hT, hlen⟩ := hr92
      refine kC9 ?_
      clear kC9 C9
      have hb' := hb
      rw [hHB] at hb'
      have B5 := Below.so B' hb'
      have X5 := XB.keeps B5.stays
      have T5 := TB.keeps B5.stays
      replace F5 := Fr.pin F5 hp
      dsimp only [pinned, envOf, List.cons_append, List.nil_append] at F5 N5
      have e1 := H.stk
      have e2 := H.its
      refine genC ?_
      intro C9 kC9
      obtain ⟨vs, n1, hvs, e1⟩ := e1
      obtain ⟨n2, e2⟩ := e2
      refine kC9 ?_
      clear kC9 C9
      rcases List.eq_nil_or_concat st with rfl | ⟨st₀, e, rfl⟩
      · obtain rfl : vs = [] := by cases hvs; rfl
        (try k_fold)
        k_steps
        k_dflt (refine truthyL false (by simp) (by k_asm) e1 (by simp) ?_)
        (try dsimp only)
        k_steps
        (rename News _ _ _ _ => N6)
        (rename Fr _ _ _ _ => F6)
        k_dflt (exact TEndS.next sn hb F6 N6 ⟨_, H⟩ ⟨⟨rfl, rfl, rfl, rfl, rfl, rfl, trivial⟩, hI⟩)
      · simp only [List.concat_eq_append, List.map_append, List.map_cons, List.map_nil] at hvs e2 H hI hT hlen
        refine genC ?_
        intro C9 kC9
        obtain ⟨tv, us, rfl, hus⟩ := ints_snoc' hvs
        refine kC9 ?_
        clear kC9 C9
        have hstl : (st₀ ++ [e]).length ≤ 90 := Nat.le_trans (by
          have := H.nod.length_le_of_subset (l₂ := sn) (fun x hx => by obtain ⟨e, he, rfl⟩ := List.mem_map.mp hx; exact hI.stn e he)
          simpa using this) (Nat.le_trans hI.len hD90)
        rw [List.length_append, List.length_singleton] at hstl
        have hz1 : (us ++ [Value.int e.k tv]).toArray.size ≤ sizeLine := by rw [sizeLine_eq, List.size_toArray, hvs.length, List.length_append, List.length_map, List.length_singleton]; omega
        have hz2 : (st₀.map (fun e => Value.ref e.M) ++ [Value.ref e.M]).toArray.size ≤ sizeLine := by rw [sizeLine_eq, List.size_toArray, List.length_append, List.length_map, List.length_singleton]; omega
        have e3 := H.met e (by simp)
        have e4 := H.itr e (by simp)
        (try k_fold)
        k_steps
        k_dflt (refine truthyL true (by simp) (by k_asm) e1 hz1 ?_)
        (try dsimp only)
        k_steps
        k_dflt (refine lastItem (by k_asm) e2 ?_)
        k_steps
        refine Halt.go ?_
        have hek : e.k ∈ a.D := hI.inD _ (hI.stn e (by simp))
        refine genC ?_
        intro C9 kC9
        obtain ⟨ws, wn, hws, e5⟩ := S.sucs e.k hek
        refine kC9 ?_
        clear kC9 C9
        replace e5 := (H.frame _ (hR _ e5)).1
        (rename News _ _ _ _ => N6)
        (rename Fr _ _ _ _ => F6)
        rcases hx : ws.toArray[e.pos]? with _ | y
        · refine wrap_end rfl (News.get N6 e3) (News.get N6 e4) (News.isList N6 e5) hx ?_
          intro h₁ h' ex hs he
          obtain ⟨F7, N7⟩ := same_FN0 F6 N6 e4 hs
          k_steps
          k_dflt (refine' caught_S (T := "StopIteration") B5 F7 N7 he si_exc si_meta si_self ?hname ?hk)
          (case hname =>
            intro g₂ h₂ Q' E' so F8 hq
            have B8 := Below.so B5 so
            have X8 := XB.keeps B8.stays
            have T8 := TB.keeps B8.stays
            k_dflt (refine' name_B F8 X8 (topRead_of T8) ?k3 ?k4 ?k5 hq; (case k3 => k_is); (case k4 => boot_by_name); (case k5 => decide)))
          (case hk =>
            intro g₂ h₂ so F8 N8
            clear F7 N7 F6 N6 hs he hx
            have hb2 : HB g₂ := by rw [hHB] at hb ⊢; exact hb.trans so
            have B8 := Below.so B5 so
            have X8 := XB.keeps B8.stays
            have T8 := TB.keeps B8.stays
            clear B5 X5 T5 hb so hb'
            dsimp only at N8 F8 ⊢
            have he' : e ∈ st₀ ++ [e] := by simp
            refine genC ?_
            intro C9 kC9
            obtain ⟨od, kvs, e6, hod, hkeys⟩ := H.dic
            refine kC9 ?_
            clear kC9 C9
            rw [List.map_append] at hkeys
            replace e1 := mem_offL.mpr ⟨e1, ne1 (tg_ne H.tsa (H.tI e he') (by simp))⟩
            replace e2 := mem_offL.mpr ⟨e2, ne1 (tg_ne H.tia (H.tI e he') (by simp))⟩
            replace e6 := mem_offL.mpr ⟨e6, ne1 (tg_ne H.tnd (H.tI e he') (by simp))⟩
            have d1 := tg_ne H.tsa H.tia (by simp)
            have d3 := tg_ne H.tsa H.tnd (by simp)
            have d5 := tg_ne H.tia H.tnd (by simp)
            have hks : e.k ∉ st₀.map (·.k) := by
              have := H.nod
              rw [List.map_append, List.nodup_append] at this
              exact fun hx => this.2.2 _ hx e.k (by simp) rfl
            refine genC ?_
            intro C9 kC9
            obtain ⟨kvs₀, vv, rfl, hk0⟩ := keys_snoc hkeys
            refine kC9 ?_
            clear kC9 C9
            have hvs' : (valueAt (kvs₀ ++ [(e.k, vv)]) e.k).isSome = true := by
              rw [valueAt_isSome_eq_any]; simp
            have hz3 : (kvs₀ ++ [(e.k, vv)]).length ≤ sizeLine := by
              have := congrArg List.length hk0
              rw [List.length_map, List.length_map] at this
              rw [sizeLine_eq, List.length_append, List.length_singleton]; omega
            clear e3 e4 e5
            have sp9 := News.split3 N8 e1 e2 e6
            replace N8 := News.foc3 N8 e1 e2 e6
            k_steps
            (rename News _ _ _ _ => N9)
            (rename Fr _ _ _ _ => F9)
            (rename (Obj.IsDictOf _ _ (without _ _)) => hod')
            rw [without_snoc (by rw [hk0]; exact hks)] at hod'
            have H9 := H.pop (FCAt.ofN3 N9 (fun p hp n1 n2 n3 n4 => by
                rcases sp9 p (mem_offL.mpr ⟨hp, ne1 n4⟩) with rfl | rfl | rfl | h9
                · exact absurd rfl n1
                · exact absurd rfl n2
                · exact absurd rfl n3
                · simp [h9])) hus (by k_mem) (by k_mem) (by k_mem) hod' hk0
            k_dflt (exact ⟨st₀.length, by rw [← hlen]; simp, st₀, sn, ⟨_, _, _, _, _, _, hb2, rfl, F9, N9, H9, hI.pop, rfl, rfl, rfl, rfl, rfl, rfl, trivial⟩, Nat.le_trans FT_pop hT, rfl⟩))
        · refine wrap_item (News.get N6 e3) (News.get N6 e4) (News.isList N6 e5) hx ?_
          intro h' hi' hs'
          obtain ⟨F7, N7⟩ := same_FN F6 N6 e4 hs' hi'
          clear F6 N6
          refine genC ?_
          intro C9 kC9
          obtain ⟨y, ty, hy, rfl⟩ := ints_at hws hx
          refine kC9 ?_
          clear kC9 C9
          have hlt : e.pos < (a.sc e.k).length := (List.getElem?_eq_some_iff.mp hy).1
          have hyD := hsc e.k hek y (List.mem_of_getElem? hy)
          (try dsimp only)
          k_steps
          (rename News _ _ _ _ => N8)
          (rename Fr _ _ _ _ => F8)
          k_dflt (exact ⟨_, Nat.lt_of_lt_of_le (FT_step hlt) hT, _, sn, y, ty, ⟨_, _, _, _, _, _, hb, rfl, F8, N8, H.step ⟨fun p hp hne => mem_foc hp hne, .head _⟩, hI.step hlt, rfl, rfl, rfl, rfl, rfl, rfl, rfl, trivial⟩, hyD.1, hI.top hyD.2, rfl⟩)))
  (case done =>
    rintro h₁ m₁ sn news₁ h tk hb ⟨hp, hI⟩ ⟨tag, H⟩ F4 N4
    clear F3 N3 q3 hset hdic
    replace F4 := Fr.pin F4 hp
    rw [hHB] at hb
    have B4 := Below.so B' hb
    have X4 := XB.keeps B4.stays
    have T4 := TB.keeps B4.stays
    clear X' T'
    dsimp only [pinned, envOf] at F4 N4
    k_steps
    (rename News _ _ _ _ => N5)
    (rename Fr _ _ _ _ => F5)
    k_dflt (exact leaveS_at hb F5 N5 fun h₀' so F' N' => hret _ _ _ _ _ so F' N' ⟨rfl, fun p hp => (H.frame p hp).1⟩))
end
section
local macro_rules | `(tactic| walk_at "getMethod ref") => `(tactic| (k_here; (with_reducible show wpAny _ _ (getMethod (Value.ref _) (Str.ofString "values") _) _ _ _); k_dflt (refine' kdl_method (knd := PySem.intKind _ _) PySem.F.slot_dict_values PySem.F.type_dict_values ?N ?m ?d ?_; (case N => k_asm); (case m => k_mem); (case d => assumption); k_whole)))
theorem rs_P2 : True := by
  w_top off
  exact True.intro
theorem NewsMem {h₀ h : Heap} {L : Addr} {news : Led} {p : Addr × Obj} (_N : News h₀ L h news) (q : p ∈ news) : p ∈ news := q
theorem SAt.giveRdy {w : World} {sf : Nat} {g : SG} {a : SA} {R news news' : Led} {D : Nat} {l : List Int} {vs : List Value} {n : Nat} {t1 t2 t3 t4 t5 t6 : Tok} (S₀ : SAt w sf g a R news) (hi : IntsAre vs l) (hD : ∀ p ∈ news, p.1 ≠ D) (hm : (D, listOf vs.toArray n) ∈ news')
    (C : Chg g.dx (sDict w t1 t2 t3 t4 (.ref g.n2i) (.ref D) (.int a.npo t5) (.int a.nfi t6) 4) news news') : SAt w sf { g with rd := D, tag := tagU g.tag D (3, 0) } { a with rdl := some l } R news' := by
  have S := S₀.retag (t := tagU g.tag D (3, 0)) fun p hp => tagU_ne (hD p hp)
  exact {
    self := C.keep _ S.self (tag_ne S.tself S.tdx (by simp))
    dict := ⟨t1, t2, t3, t4, t5, t6, C.new⟩
    tab := let ⟨o, h, h2⟩ := S.tab; ⟨o, C.keep _ h (tag_ne S.tn2i S.tdx (by simp)), h2⟩
    lo := S.lo
    node := fun k hk => let ⟨t, t', h⟩ := S.node k hk; ⟨t, t', C.keep _ h (tag_ne (S.tinf k hk) S.tdx (by simp))⟩
    dct := fun k hk => C.keep _ (S.dct k hk) (tag_ne (S.tidc k hk) S.tdx (by simp))
    sucs := fun k hk => let ⟨vs, n, h1, h2⟩ := S.sucs k hk; ⟨vs, n, h1, C.keep _ h2 (tag_ne (S.tsuc k hk) S.tdx (by simp))⟩
    rdy := fun l' hl => by cases hl; exact ⟨vs, n, hi, hm⟩
    tself := S.tself
    tdx := S.tdx
    tn2i := S.tn2i
    trd := fun _ => tagU_same
    tinf := S.tinf
    tidc := S.tidc
    tsuc := S.tsuc
    dnodup := S.dnodup
    frame := fun p hp => ⟨C.keep _ (S.frame p hp).1 (tag_ne (S.frame p hp).2 S.tdx (by simp)), (S.frame p hp).2⟩ }
set_option maxRecDepth 100000 in
set_option maxHeartbeats 8000000 in
theorem prepare {w : World} {sf : Nat} {g : SG} {a : SA} {R news : Led} (lev : Int → Nat) (S : SAt w sf g a R news) (hr : a.rdl = none) (hsc : ∀ k ∈ a.D, ∀ j ∈ a.sc k, j ∈ a.D ∧ lev k < lev j) (hD90 : a.D.length ≤ 90) :
    CtrS w 92 [.ref sf] 60 600 news (fun r news' => ∃ g', SAt w sf g' { a with rdl := some (a.D.filter fun k => decide (a.np k = 0)) } R news') := by
  unfold CtrS
  k_fill
  intro mean mg mb dp un gd cn nm ig ic mo ad ccd cl outer A₀ base h₀ L m s Q E B F X N T XB TB hd hu hret
  have m1 := S.self
  refine genC ?_
  intro C9 kC9
  obtain ⟨t1, t2, t3, t4, t5, t6, m2⟩ := S.dict
  refine kC9 ?_
  clear kC9 C9
  have er : rdv g a = .none := by simp [rdv, hr]
  rw [er] at m2
  refine genC ?_
  intro C9 kC9
  obtain ⟨o, m3, hdd⟩ := S.tab
  refine kC9 ?_
  clear kC9 C9
  have hlo := S.lo
  refine wpAny_call ?_
  refine' code_S ?k1 ?k2 ?k3 ?k4 ?k5 ?kA ?kF ?kK ?k6 ?k7 ?k8 ?k9 ?kB ?_ ?c2 ?c3 ?c4 ?c5
  (case kA => exact rfl)
  (case kF => exact rfl)
  (case kK => exact rfl)
  (case k1 => k_asm)
  (case k2 => k_asm)
  (case k3 => k_asm)
  (case k4 => k_asm)
  (case k5 => k_asm)
  (case k6 => k_is)
  (case k7 => k_is)
  (case k8 => k_room)
  (case k9 => first | exact BindsTo.of_eq rfl | exact binds_K (by k_in) rfl (by k_is) rfl rfl rfl)
  (case c5 => decide)
  (case kB => exact locs rfl)
  (case c2 => exact rfl)
  (case c3 => exact rfl)
  (case c4 => exact rfl)
  k_whole
  intro g' L' h' F' N' B' X' T'
  (try dsimp only)
  (try k_lift B')
  (try k_fold)
  clear B F X N T
  k_steps
  (rename News _ _ _ _ => N3)
  (rename Fr _ _ _ _ => F3)
  (rename_i Dv _)
  k_dflt (refine' comp_values (x := Str.ofString "i") (kvs := a.D.map fun k => (k, Value.ref (g.inf k))) (knd := PySem.intKind PySem.Challenge.rw_mj0221_01.row.prog w) (R := (_, _) :: news) (Inv := fun i ys K => K = [] ∧ IntsAre ys ((a.D.take i).filter fun k => decide (a.np k = 0))) ?hh ?ht ?hv ?hl ?hd ?hsz ?hce ?hki ?hx ?cF ?cN ?h0 ?turn ?done)
  (case hh => exact rfl)
  (case ht => exact rfl)
  (case hv => exact .head _)
  (case hl => exact List.mem_cons_of_mem _ m3)
  (case hd => exact hdd)
  (case hsz => rw [sizeLine_eq, List.length_map]; omega)
  (case hce => decide)
  (case hki => exact rfl)
  (case hx => exact rfl)
  (case cF => exact F3)
  (case cN => exact N3)
  (case h0 => exact ⟨rfl, intsNil⟩)
  (case turn =>
    clear F3 N3
    rintro i v I oI C oC D ys K m₂ h tk E' hi ⟨k, hk⟩ ⟨rfl, hI⟩ hA hC F4 N4 off ne
    obtain ⟨hk1, rfl⟩ : a.D[i]? = some k ∧ v = .ref (g.inf k) := by
      rw [List.getElem?_map] at hk
      cases q : a.D[i]? with
      | none => rw [q] at hk; cases hk
      | some j => rw [q] at hk; cases hk; exact ⟨rfl, rfl⟩
    have hkD : k ∈ a.D := List.mem_of_getElem? hk1
    have e1 := S.node k hkD
    have e2 := S.dct k hkD
    refine genC ?_
    intro C9 kC9
    obtain ⟨tt, tt', e1⟩ := e1
    refine kC9 ?_
    clear kC9 C9
    refine wpAny_tests_one ?_
    k_steps
    · (rename News _ _ _ _ => N8)
      (rename Fr _ _ _ _ => F8)
      k_dflt (refine CEnd.intro [] F8 N8 (fun p hp => hp) (fun p hp => nomatch hp) ⟨rfl, ?_⟩)
      rw [List.take_add_one, hk1, List.filter_append]
      have : ([k].filter fun k => decide (a.np k = 0)) = [k] := by simp; assumption
      rw [Option.toList_some, this]
      exact ints_snoc hI
    · (rename News _ _ _ _ => N8)
      (rename Fr _ _ _ _ => F8)
      k_dflt (refine CEnd.intro [] F8 N8 (fun p hp => hp) (fun p hp => nomatch hp) ⟨rfl, ?_⟩)
      rw [List.take_add_one, hk1, List.filter_append]
      have : ([k].filter fun k => decide (a.np k = 0)) = [] := by simp; assumption
      rw [Option.toList_some, this, List.append_nil]
      exact hI)
  (case done =>
    rintro D ys K h tk ⟨rfl, hI⟩ F4 N4 hD1 hD2
    clear F3 N3
    rw [List.length_map, List.take_length] at hI
    replace N4 := News.sub N4 (l' := (D, listOf ys.toArray ys.length) :: news) (fun p hp => by
      rcases List.mem_cons.mp hp with rfl | hp
      · exact .head _
      · exact List.mem_cons_of_mem _ (List.mem_cons_of_mem _ hp))
    have hDn : ∀ p ∈ news, p.1 ≠ D := fun p hp => hD1 p (List.mem_cons_of_mem _ hp)
    have k1 := List.mem_cons_of_mem (D, listOf ys.toArray ys.length) m1
    have k2 := List.mem_cons_of_mem (D, listOf ys.toArray ys.length) m2
    have d1 : sf ≠ g.dx := tag_ne S.tself S.tdx (by simp)
    have sp9 := News.split2 N4 k1 k2
    replace N4 := News.foc2 N4 k1 k2
    clear m1 m2 k1 k2
    (try dsimp only)
    k_steps
    (rename News _ _ _ _ => N5)
    (rename Fr _ _ _ _ => F5)
    have S5 := S.giveRdy (D := D) (n := ys.length) hI hDn (NewsMem N5 (by
      rcases sp9 (D, listOf ys.toArray ys.length) (.head _) with e | e | h9
      · exact absurd (congrArg Prod.fst e).symm (hDn _ S.self)
      · have := hDn _ (S.dict.choose_spec.choose_spec.choose_spec.choose_spec.choose_spec.choose_spec)
        exact absurd (congrArg Prod.fst e).symm this
      · simp [h9])) (Chg.ofN N5 ⟨fun p hp hne => by
        rcases sp9 p (List.mem_cons_of_mem _ hp) with rfl | rfl | h9
        · simp
        · exact absurd rfl hne
        · simp [h9], by k_mem⟩)
    refine Halt.go ?_
    refine' ctrS_use ?cB ?cF ?cX ?cN ?cT ?cXB ?cTB (findCycle lev S5 hsc hD90) ?cd ?cu ?_
    (case cB => k_asm)
    (case cF => k_asm)
    (case cX => k_asm)
    (case cN => k_asm)
    (case cT => k_asm)
    (case cXB => exact XB)
    (case cTB => exact TB)
    (case cd => ktr_room)
    (case cu => ktr_units)
    intro r9 news9 h9 tk9 g9 so9 B9 X9 T9 F9 N9 P9
    (try dsimp only)
    (try k_fold)
    clear F5 N5 X' T' B'
    obtain ⟨rfl, sub9⟩ := P9
    k_steps
    (rename News _ _ _ _ => N6)
    (rename Fr _ _ _ _ => F6)
    k_dflt (exact leaveS_at so9 F6 N6 fun h₀' so F' N' => hret _ _ _ _ _ so F' N' ⟨_, S5.wk sub9⟩))
end
section
local macro_rules | `(tactic| walk_at "pad") => `(tactic| fail)
local macro_rules | `(tactic| walk_at "call builtin:sorted") => `(tactic| (k_here; (with_reducible show wpAny _ _ (call (Value.builtin _) [Value.ref _]) _ _ _); k_dflt (refine' sorted_tup ?k1 ?k2 ?k3 ?k4 ?k5 ?_; (case k1 => k_asm); (case k2 => k_asm); (case k3 => k_mem); (case k4 => assumption); (case k5 => assumption)); intro D' vs' ns' e' h' F' N' l1 hi' hp' hs'; (try k_lt l1)))
theorem rs_H2 : True := by
  w_top off
  exact True.intro
theorem SAt.frmChg {w : World} {sf : Nat} {g : SG} {a : SA} {R news news' : Led} {x : Nat} {o o' : Obj} (S : SAt w sf g a ((x, o) :: R) news) (hR : ∀ p ∈ R, p.1 ≠ x) (C : Chg x o' news news') : SAt w sf g a ((x, o') :: R) news' := by
  have tx := (S.frame _ (.head _)).2
  exact {
    self := C.keep _ S.self (tag_ne S.tself tx (by simp))
    dict := let ⟨t1, t2, t3, t4, t5, t6, h⟩ := S.dict; ⟨t1, t2, t3, t4, t5, t6, C.keep _ h (tag_ne S.tdx tx (by simp))⟩
    tab := let ⟨o, h, h2⟩ := S.tab; ⟨o, C.keep _ h (tag_ne S.tn2i tx (by simp)), h2⟩
    lo := S.lo
    node := fun k hk => let ⟨t, t', h⟩ := S.node k hk; ⟨t, t', C.keep _ h (tag_ne (S.tinf k hk) tx (by simp))⟩
    dct := fun k hk => C.keep _ (S.dct k hk) (tag_ne (S.tidc k hk) tx (by simp))
    sucs := fun k hk => let ⟨vs, n, h1, h2⟩ := S.sucs k hk; ⟨vs, n, h1, C.keep _ h2 (tag_ne (S.tsuc k hk) tx (by simp))⟩
    rdy := fun l hl => let ⟨vs, n, h1, h2⟩ := S.rdy l hl; ⟨vs, n, h1, C.keep _ h2 (tag_ne (S.trd (by rw [hl]; rfl)) tx (by simp))⟩
    tself := S.tself
    tdx := S.tdx
    tn2i := S.tn2i
    trd := S.trd
    tinf := S.tinf
    tidc := S.tidc
    tsuc := S.tsuc
    dnodup := S.dnodup
    frame := fun p hp => by
      rcases List.mem_cons.mp hp with rfl | hp
      · exact ⟨C.new, tx⟩
      · exact ⟨C.keep _ (S.frame p (List.mem_cons_of_mem _ hp)).1 (hR p hp), (S.frame p (List.mem_cons_of_mem _ hp)).2⟩ }
theorem fresh2 {x : Nat} {a1 a2 : Nat} {o1 o2 : Obj} {news rest : Led} (sp : ∀ p ∈ news, p = (a1, o1) ∨ p = (a2, o2) ∨ p ∈ rest) (h : @LT.lt Nat instLTNat a1 x ∧ @LT.lt Nat instLTNat a2 x ∧ AllLt x rest) : ∀ p ∈ news, p.1 ≠ x := fun p hp => by
  obtain ⟨h1, h2, h5⟩ := h
  rcases sp p hp with rfl | rfl | h9
  · exact Nat.ne_of_lt h1
  · exact Nat.ne_of_lt h2
  · exact Nat.ne_of_lt (allLt_mem h5 p h9)
theorem named_ints {vs : List Value} {ns : List Int} (_h : IntsAre vs ns) : ∃ us ms, us = vs ∧ ms = ns := ⟨vs, ns, rfl, rfl⟩
theorem News.nameN {h₀ h : Heap} {L : Addr} {a : Addr} {vs : Array Value} {n : Nat} {rest : Led} (_N : News h₀ L h ((a, listOf vs n) :: rest)) : ∃ m, m = n := ⟨n, rfl⟩
inductive GJ (w : World) (a : SA) (lev : Int → Nat) (sf Ga : Nat) (gb : Heap) (L : Addr) (s : Shared) (R : Led) (n : Nat) (s' : Shared) : Prop
  | mk (i : Nat) (b : SA) (l : List Int) (gs : List (Nat × List Int)) (gg : SG) (nn : Nat) (h : Heap) (tk : Nat) (m' : Str → Option Value) (news' Rg : Led)
    (_ : s' = { s with heap := h, toks := tk }) (_ : Fr gb L h m') (_ : News gb L h news') (_ : SAt w sf gg b ((Ga, listOf (gs.map fun x => Value.ref x.1).toArray nn) :: Rg) news') (_ : GI a lev i b l) (_ : gs.length = i)
    (_ : ∀ j x, gs[j]? = some x → x.2.Pairwise (· < ·) ∧ x.2 ≠ [] ∧ ∀ k, k ∈ x.2 ↔ k ∈ a.D ∧ lev k = j) (_ : ∀ x ∈ gs, ∃ vs n, IntsAre vs x.2 ∧ (x.1, listOf vs.toArray n) ∈ Rg)
    (_ : ∀ p ∈ R, p ∈ Rg) (_ : ∀ p ∈ Rg, p.1 ≠ Ga) (_ : Pins m' [(Str.ofString "sorter", .ref sf), (Str.ofString "groups", .ref Ga)]) (_ : n = (a.D.filter fun p => decide (i ≤ lev p)).length) : GJ w a lev sf Ga gb L s R n s'
set_option maxRecDepth 100000 in
set_option maxHeartbeats 8000000 in
theorem lawGroups {w : World} {sf : Nat} {g : SG} {a : SA} {R news : Led} (lev : Int → Nat) (S : SAt w sf g a R news) (G : Lv a lev) (hr : a.rdl = none) (he : a.npo = a.nfi) (hD60 : a.D.length ≤ 60) (hsl : ∀ k ∈ a.D, (a.sc k).length ≤ 900) :
    CtrS w 200 [.ref sf] 100 900 news (fun r news' => ∃ (Ga : Nat) (gs : List (Nat × List Int)) (n : Nat), r = .ref Ga ∧ (Ga, listOf (gs.map fun x => Value.ref x.1).toArray n) ∈ news' ∧ (∀ x ∈ gs, ∃ vs n, IntsAre vs x.2 ∧ (x.1, listOf vs.toArray n) ∈ news') ∧ Levels a.D lev (gs.map (·.2)) ∧ ∀ p ∈ R, p ∈ news') := by
  unfold CtrS
  k_fill
  intro mean mg mb dp un gd cn nm ig ic mo ad ccd cl outer A₀ base h₀ L m s Q E B F X N T XB TB hd hu hret
  have m1 := S.self
  refine genC ?_
  intro C9 kC9
  obtain ⟨t1, t2, t3, t4, t5, t6, m2⟩ := S.dict
  refine kC9 ?_
  clear kC9 C9
  refine wpAny_call ?_
  refine' code_S ?k1 ?k2 ?k3 ?k4 ?k5 ?kA ?kF ?kK ?k6 ?k7 ?k8 ?k9 ?kB ?_ ?c2 ?c3 ?c4 ?c5
  (case kA => exact rfl)
  (case kF => exact rfl)
  (case kK => exact rfl)
  (case k1 => k_asm)
  (case k2 => k_asm)
  (case k3 => k_asm)
  (case k4 => k_asm)
  (case k5 => k_asm)
  (case k6 => k_is)
  (case k7 => k_is)
  (case k8 => k_room)
  (case k9 => first | exact BindsTo.of_eq rfl | exact binds_K (by k_in) rfl (by k_is) rfl rfl rfl)
  (case c5 => decide)
  (case kB => exact locs rfl)
  (case c2 => exact rfl)
  (case c3 => exact rfl)
  (case c4 => exact rfl)
  k_whole
  intro g' L' h' F' N' B' X' T'
  (try dsimp only)
  (try k_lift B')
  (try k_fold)
  clear B F X N T
  k_steps
  refine Halt.go ?_
  refine' ctrS_use ?cB ?cF ?cX ?cN ?cT ?cXB ?cTB (prepare lev S hr G.edge (by omega)) ?cd ?cu ?_
  (case cB => k_asm)
  (case cF => k_asm)
  (case cX => k_asm)
  (case cN => k_asm)
  (case cT => k_asm)
  (case cXB => exact XB)
  (case cTB => exact TB)
  (case cd => ktr_room)
  (case cu => ktr_units)
  intro r9 news9 h9 tk9 g9 so9 B9 X9 T9 F9 N9 P9
  (try dsimp only)
  (try k_fold)
  (rename News g' _ _ _ => N3)
  (rename Fr g' _ _ _ => F3)
  clear F3 N3 X' T' B' m1 m2
  obtain ⟨gg, S1⟩ := P9
  k_steps
  (rename News _ _ _ _ => N3)
  (rename Fr _ _ _ _ => F3)
  obtain ⟨Ga, hN9⟩ := Fr.named F3 (Str.ofString "groups") rfl
  subst hN9
  have S2 := S1.more' (x := Ga) (o := listOf #[] 0) (fun p hp => Nat.ne_of_lt ((by assumption : ∀ p ∈ news9, @LT.lt Nat instLTNat p.1 Ga) p hp))
  have hRG : ∀ p ∈ R, p.1 ≠ Ga := fun p hp => Nat.ne_of_lt ((by assumption : ∀ p ∈ news9, @LT.lt Nat instLTNat p.1 Ga) p (S1.frame p hp).1)
  refine Halt.go ?_
  k_dflt (refine While_N (fun n s' => GJ w a lev sf Ga g9 L' s R n s') (a.D.filter fun p => decide (0 ≤ lev p)).length ?w0 ?wt)
  (case w0 => exact ⟨0, _, _, [], _, 0, _, _, _, _, R, rfl, F3, N3, S2, GI.start G rfl rfl rfl rfl he, rfl, fun j x h => (by simp at h), fun x h => (nomatch h), fun p hp => hp, hRG, ⟨rfl, rfl, trivial⟩, rfl⟩)
  clear F3 N3 S2 S1
  (case wt =>
    intro n s' hr92
    refine genC ?_
    intro C9 kC9
    obtain ⟨i, b, l, gs, gg, nn, h, tk, m', news', Rg, rfl, F5, N5, S5, HI, hgl, hgs, hge, hRR, hRg, hp, rfl⟩ := hr92
    refine kC9 ?_
    clear kC9 C9
    replace F5 := Fr.pin F5 hp
    dsimp only [pinned, envOf] at F5 N5
    have hll : l.length ≤ 60 := Nat.le_trans (HI.nod.length_le_of_subset (fun k hk => ((HI.mem k).mp hk).1)) hD60
    have m1 := S5.self
    refine genC ?_
    intro C9 kC9
    obtain ⟨t1, t2, t3, t4, t5, t6, m2⟩ := S5.dict
    refine kC9 ?_
    clear kC9 C9
    (try k_fold)
    k_steps
    refine Halt.go ?_
    refine' ctr_use ?cB ?cF ?cX ?cN ?cT (isActive S5 HI.rdl (by omega)) ?cd ?cu ?_
    (case cB => k_asm)
    (case cF => k_asm)
    (case cX => k_asm)
    (case cN => k_asm)
    (case cT => k_asm)
    (case cd => ktr_room)
    (case cu => ktr_units)
    intro r9 news9 h9 tk9 F9 N9 P9
    (try dsimp only)
    (try k_fold)
    clear F5 N5
    refine genC ?_
    intro C9 kC9
    obtain ⟨er, gg2, S6⟩ := P9
    refine kC9 ?_
    clear kC9 C9
    have hna : decide (b.nfi < b.npo) = false := by rw [HI.eq]; simp
    rw [hna, Bool.false_or] at er
    cases hl : l with
    | nil =>
      subst hl
      obtain rfl : r9 = .bool false := er
      k_steps
      (rename News _ _ _ _ => N7)
      (rename Fr _ _ _ _ => F7)
      k_dflt (exact leaveS_at so9 F7 N7 fun h₀' so F' N' => hret _ _ _ _ _ so F' N' ⟨Ga, gs, nn, rfl, (S6.frame _ (.head _)).1, fun x hx => let ⟨vs, n, q1, q2⟩ := hge x hx; ⟨vs, n, q1, (S6.frame _ (List.mem_cons_of_mem _ q2)).1⟩,
        ⟨fun j ns q => by
          rw [List.getElem?_map] at q
          cases hq : gs[j]? with
          | none => rw [hq] at q; cases q
          | some x => rw [hq] at q; cases q; exact hgs j x hq,
        fun k hk => by
          rw [List.length_map, hgl]
          exact lv_none G (fun k hk e => (nomatch (HI.mem k).mpr ⟨hk, e⟩)) k hk⟩, fun p hp => (S6.frame _ (List.mem_cons_of_mem _ (hRR p hp))).1⟩)
    | cons k0 lt =>
      obtain rfl : r9 = .bool true := by rw [er, hl]; rfl
      have n1 := S6.self
      refine genC ?_
      intro C9 kC9
      obtain ⟨t1, t2, t3, t4, t5, t6, n2⟩ := S6.dict
      refine kC9 ?_
      clear kC9 C9
      k_steps
      refine Halt.go ?_
      refine' ctr_use ?cB ?cF ?cX ?cN ?cT (getReady S6 HI.rdl (by omega) (fun k hk => by rw [HI.D]; exact ((HI.mem k).mp hk).1)) ?cd ?cu ?_
      (case cB => k_asm)
      (case cF => k_asm)
      (case cX => k_asm)
      (case cN => k_asm)
      (case cT => k_asm)
      (case cd => ktr_room)
      (case cu => ktr_units)
      intro r9 news9 h9 tk9 F9 N9 P9
      (try dsimp only)
      (try k_fold)
      clear n1 n2
      refine genC ?_
      intro C9 kC9
      obtain ⟨g3, T, vs, nt, rfl, hvs, S7⟩ := P9
      refine kC9 ?_
      clear kC9 C9
      have eT := (S7.frame _ (.head _)).1
      have eG := (S7.frame _ (.tail _ (.head _))).1
      have dTG : T ≠ Ga := fun e => by subst e; have := congrArg Obj.cls (News.uniq N9 eT eG); simp at this
      have h64 : vs.length < 64 := by rw [hvs.length]; omega
      have hgz : (gs.map fun x => Value.ref x.1).toArray.size ≤ sizeLine := by
        rw [sizeLine_eq, List.size_toArray, List.length_map, hgl]
        have := (HI.mem k0).mp (by rw [hl]; exact .head _)
        have := lv_bound G k0 this.1
        omega
      have sp9 := News.split2 N9 eT eG
      replace N9 := News.foc2 N9 eT eG
      k_steps
      (rename News _ _ _ _ => N8)
      (rename Fr _ _ _ _ => F8)
      obtain ⟨Dn, hM9⟩ := News.named1 N8
      subst hM9
      (rename (IntsAre _ _) => hi9)
      (rename (List.Perm _ l) => hp9)
      (rename (List.Pairwise (fun a b => a ≤ b) (_ : List Int)) => hs9)
      (rename (T < Dn ∧ _) => lD)
      have fr9 : ∀ p ∈ news9, p.1 ≠ Dn := fresh2 sp9 lD
      refine genC ?_
      intro C9 kC9
      obtain ⟨ws, ns, hw9, hn9⟩ := named_ints hi9
      refine kC9 ?_
      clear kC9 C9
      subst hw9 hn9
      obtain ⟨wn, hn9⟩ := News.nameN N8
      subst hn9
      have hGn : Ga ≠ Dn := Nat.ne_of_lt lD.2.1
      have S8 := (S7.more' (x := Dn) (o := listOf ws.toArray wn) fr9).less (R' := (Ga, listOf (gs.map fun x => Value.ref x.1).toArray nn) :: (T, tupObj vs.toArray nt) :: (Dn, listOf ws.toArray wn) :: Rg) (by
        intro p hp
        simp only [List.mem_cons] at hp ⊢
        rcases hp with h | h | h | h
        · exact .inr (.inr (.inl h))
        · exact .inr (.inl h)
        · exact .inl h
        · exact .inr (.inr (.inr h)))
      have S9 := S8.frmChg (o' := listOf (gs.map (fun x => Value.ref x.1) ++ [Value.ref Dn]).toArray (nn + 1)) (by
        intro p hp
        simp only [List.mem_cons] at hp
        rcases hp with rfl | rfl | h
        · exact dTG
        · exact Ne.symm hGn
        · exact hRg p h) (Chg.ofN N8 ⟨fun p hp hne => by
          rcases List.mem_cons.mp hp with rfl | hp
          · simp
          · rcases sp9 p hp with rfl | rfl | h9
            · simp
            · exact absurd rfl hne
            · simp [h9], by simp⟩)
      have DI0 := DI.start G HI
      clear S7 S8 S6 eT eG sp9 fr9
      k_dflt (refine' iter_tuple (Φ := Sor w sf) (x₀ := { b with np := l.foldl (fun f k => upd f k (-1)) b.np, rdl := some [], npo := b.npo + l.length }) (R := (Ga, listOf (gs.map (fun x => Value.ref x.1) ++ [Value.ref Dn]).toArray (nn + 1)) :: (T, tupObj vs.toArray nt) :: (Dn, listOf ws.toArray wn) :: Rg) (Inv := fun t m x => Pins m [(Str.ofString "sorter", .ref sf), (Str.ofString "groups", .ref Ga)] ∧ (∃ r, DI a lev i (l.drop t) x r) ∧ x.npo = b.npo + l.length ∧ x.nfi = b.nfi + t) sor_framed ?hh ?hl ?cF ?cN ?hgo ?cq ?i0 ?turn2 ?done2)
      (case hh => exact rfl)
      (case cF => exact F8)
      (case cN => exact N8)
      (case cq => exact ⟨_, S9⟩)
      (case hl => exact .tail _ (.head _))
      (case hgo => exact fun _ _ => rfl)
      (case i0 => exact ⟨⟨rfl, rfl, trivial⟩, ⟨_, by rw [List.drop_zero]; exact DI0⟩, rfl, by simp⟩)
      (case turn2 =>
        clear F8 N8 S9
        intro t v m₁ c R₁ news₁ h tk ht hv hr910 hR hr912 F10 N10
        refine genC ?_
        intro C9 kC9
        obtain ⟨hp, ⟨r, HD⟩, hx1, hx2⟩ := hr910
        obtain ⟨g4, S10⟩ := hr912
        obtain ⟨k, tkk, hk, rfl⟩ := ints_at hvs hv
        refine kC9 ?_
        clear kC9 C9
        replace F10 := Fr.pin F10 hp
        dsimp only [pinned, envOf] at F10 N10
        have n1 := S10.self
        refine genC ?_
        intro C9 kC9
        obtain ⟨t1, t2, t3, t4, t5, t6, n2⟩ := S10.dict
        refine kC9 ?_
        clear kC9 C9
        have hlt : t < l.length := (List.getElem?_eq_some_iff.mp hk).1
        have hdr : l.drop t = k :: l.drop (t + 1) := by
          rw [List.drop_eq_getElem_cons hlt]
          have := (List.getElem?_eq_some_iff.mp hk).2
          rw [this]
        rw [hdr] at HD
        have hin : ∀ j ∈ k :: l.drop (t + 1), j ∈ a.D ∧ lev j = i := fun j hj => (HI.mem j).mp (by rw [← hdr] at hj; exact List.mem_of_mem_drop hj)
        have hnd : (k :: l.drop (t + 1)).Nodup := by rw [← hdr]; exact HI.nod.sublist (List.drop_sublist _ _)
        have hkD := (hin k (.head _)).1
        have hrl : r.length ≤ 60 := Nat.le_trans (HD.nod.length_le_of_subset (fun x hx => ((HD.mem x).mp hx).1)) hD60
        (try k_fold)
        k_steps
        refine Halt.go ?_
        refine' ctr_use ?cB ?cF ?cX ?cN ?cT (done1 (k := k) S10 HD.rdl (by rw [HD.D]; exact hkD) (HD.out k (.head _)) (by rw [HD.D, HD.sc]; exact fun j hj => (G.edge k hkD j hj).1) (by rw [HD.sc]; have := hsl k hkD; omega)) ?cd ?cu ?_
        (case cB => k_asm)
        (case cF => k_asm)
        (case cX => k_asm)
        (case cN => k_asm)
        (case cT => k_asm)
        (case cd => ktr_room)
        (case cu => ktr_units)
        intro r9 news9 h9 tk9 F9 N9 P9
        (try dsimp only)
        (try k_fold)
        clear n1 n2
        refine genC ?_
        intro C9 kC9
        obtain ⟨g5, S11⟩ := P9
        obtain ⟨r', HD'⟩ := HD.step G hin hnd
        refine kC9 ?_
        clear kC9 C9
        k_steps
        (rename News _ _ _ _ => N12)
        (rename Fr _ _ _ _ => F12)
        k_dflt (exact TEnd.next _ F12 N12 ⟨_, S11⟩ ⟨⟨rfl, rfl, trivial⟩, ⟨r', HD'⟩, hx1, by show c.nfi + 1 = _; rw [hx2]; omega⟩))
      (case done2 =>
        clear F8 N8 S9
        intro m₁ c news₁ h tk hr95 hr96 F10 N10
        refine genC ?_
        intro C9 kC9
        obtain ⟨hp, ⟨r, HD⟩, hx1, hx2⟩ := hr95
        obtain ⟨g4, S10⟩ := hr96
        refine kC9 ?_
        clear kC9 C9
        replace F10 := Fr.pin F10 hp
        dsimp only [pinned, envOf] at F10 N10
        rw [List.size_toArray, hvs.length] at HD hx2
        rw [List.drop_length] at HD
        k_steps
        (rename News _ _ _ _ => N11)
        (rename Fr _ _ _ _ => F11)
        have hlen := (lv_filter G HI.nod HI.mem).length_eq
        rw [List.length_append] at hlen
        have hl0 : 0 < l.length := by rw [hl]; simp
        k_dflt (refine ⟨(a.D.filter fun p => decide (i + 1 ≤ lev p)).length, by omega, i + 1, c, r, gs ++ [(Dn, ns)], g4, nn + 1, _, _, _, news₁, (T, tupObj vs.toArray nt) :: (Dn, listOf ws.toArray wn) :: Rg, rfl, F11, N11, ?_, HD.finish G (by rw [hx1, hx2, HI.eq]), by simp [hgl], ?_, ?_, ?_, ?_, ⟨rfl, rfl, trivial⟩, rfl⟩)
        · rw [List.map_append]; exact S10
        · intro j x hx
          by_cases hj : j < gs.length
          · rw [List.getElem?_append_left hj] at hx
            exact hgs j x hx
          · rw [List.getElem?_append_right (by omega)] at hx
            have hj0 : j - gs.length = 0 := by
              have := (List.getElem?_eq_some_iff.mp hx).1
              simp at this; omega
            rw [hj0] at hx
            cases hx
            have hji : j = i := by omega
            subst hji
            exact ⟨sorted_strict HI.nod hp9 hs9, fun e => by have := hp9.length_eq; rw [show ns = [] from e] at this; simp at this; omega, fun k => by rw [hp9.mem_iff]; exact HI.mem k⟩
        · intro x hx
          rcases List.mem_append.mp hx with hx | hx
          · obtain ⟨us, n, q1, q2⟩ := hge x hx
            exact ⟨us, n, q1, .tail _ (.tail _ q2)⟩
          · rw [List.mem_singleton.mp hx]
            exact ⟨ws, wn, hi9, .tail _ (.head _)⟩
        · exact fun p hp => .tail _ (.tail _ (hRR p hp))
        · intro p hp
          simp only [List.mem_cons] at hp
          rcases hp with rfl | rfl | h
          · exact dTG
          · exact Ne.symm hGn
          · exact hRg p h))
end
local macro_rules | `(tactic| walk_at "setAttr ref") => `(tactic| (k_here; (with_reducible show wpAny _ _ (setAttr (Value.ref _) _ (Value.ref _)) _ _ _); k_dflt (refine' fn_setU ?k1 ?k2 ?k3 ?k4 ?_; (case k1 => k_asm); (case k2 => k_asm); (case k3 => k_updF); (case k4 => first | exact fn_span | exact fn_search); k_whole); intro d' h' t' n' F' N' l1; (try k_lt l1); (try k_sweep)))
local macro_rules | `(tactic| walk_at "getMethod ref") => `(tactic| (k_here; (with_reducible show wpAny _ _ (getMethod (Value.ref _) _ _) _ _ _); k_dflt (refine' fn_meth ?k2 ?k3 ?k5 ?k4 ?_; (case k2 => k_asm); (case k3 => k_mem); (case k5 => k_mem); (case k4 => first | exact fn_span | exact fn_search); k_whole; (try dsimp only))))
local macro_rules | `(tactic| walk_at "eval Name") => `(tactic| (k_here; (with_reducible show wpAny _ _ (eval (Expr.Name _ _) (envX _ _ _ _ _ _)) _ _ _); k_dflt (refine' nameX_F ?N ?c ?m ?d ?_ ?a ?b; (case a => rfl); (case b => rfl); (case N => k_asm); (case c => rfl); (case m => assumption); (case d => assumption); k_whole)))
section
theorem rs_Z3 : True := by
  w_top off
  exact True.intro
def hitQ : Str := Str.ofString "_law_hit" ++ Str.ofString ".<locals>." ++ Str.ofString "<lambda>"
/-- the text of a def, read off the top -/
noncomputable def stmtsAt (w : World) (a : Addr) : List Stmt := match (heapK w.params).lookup a with
  | some ⟨_, _, .func fd, _⟩ => (match fd.body with | .stmts b => b | _ => [])
  | _ => []
def lamP : Option Stmt → Arguments
  | some (.Assign _ (.Lambda p _ _ _) _) => p
  | _ => ⟨[], [], none, [], [], none, []⟩
def lamB : Option Stmt → Expr
  | some (.Assign _ (.Lambda _ b _ _) _) => b
  | _ => .Constant .none 0 default
def lamS : Option Stmt → Scope
  | some (.Assign _ (.Lambda _ _ c _) _) => c
  | _ => default
def defP : Option Stmt → Arguments
  | some (.FunctionDef _ p _ _ _ _ _ _ _ _) => p
  | _ => ⟨[], [], none, [], [], none, []⟩
def defB : Option Stmt → List Stmt
  | some (.FunctionDef _ _ b _ _ _ _ _ _ _) => b
  | _ => []
def defS : Option Stmt → Scope
  | some (.FunctionDef _ _ _ _ _ _ c _ _ _) => c
  | _ => default
noncomputable def hitP (w : World) : Arguments := lamP (stmtsAt w 155)[1]?
noncomputable def hitB (w : World) : Expr := lamB (stmtsAt w 155)[1]?
noncomputable def hitS (w : World) : Scope := lamS (stmtsAt w 155)[1]?
/-- the function that a hit's span is -/
noncomputable abbrev spanFn (w : World) (q : Str) (cA cB : Addr) (pm : Value) (c2 : Addr) (ctv : Value) : Obj :=
  kla_obj (Str.ofString "<lambda>") q (hitP w) (hitB w) (hitS w) [(Str.ofString "first", cA), (Str.ofString "behind", cB)] pm c2 ctv
/-- a call that gives the pair -/
def GivesPair (w : World) (f : Addr) (a b : Int) (K : Led) : Prop :=
  ∀ news, (∀ p ∈ K, p ∈ news) → Ctr w f [] 10 90 news (fun r n' => ∃ T t1 t2 n, r = .ref T ∧ (T, tupObj #[.int a t1, .int b t2] n) ∈ n' ∧ ∀ p ∈ news, p ∈ n')
set_option maxRecDepth 100000 in
set_option maxHeartbeats 8000000 in
theorem gives_pair {w : World} {f2 : Addr} {q : Str} {pm ctv : Value} {c2 cA cB : Addr} {oA oB oc : Obj} {vs : Array Value} {tq ta tb : Tok} {a b : Int} {K : Led}
    (h1 : (f2, spanFn w q cA cB pm c2 ctv) ∈ K) (h2 : (c2, oc) ∈ K) (h3 : oc.data = .fields vs) (h4 : vs[1]? = some (.str q tq)) (h5 : (cA, oA) ∈ K) (h6 : oA.data = .cell (some (.int a ta))) (h7 : (cB, oB) ∈ K) (h8 : oB.data = .cell (some (.int b tb))) : GivesPair w f2 a b K := by
  intro news hK
  unfold Ctr
  k_fill
  intro mean mg mb dp un gd cn nm ig ic mo ad ccd cl outer A₀ base h₀ L m s Q E B F X N T hd hu hret
  have e1 := hK _ h1
  unfold spanFn at e1
  conv at e1 in hitP _ => whnf
  conv at e1 in hitB _ => whnf
  conv at e1 in hitS _ => whnf
  have e2 := hK _ h2
  have e5 := hK _ h5
  have e7 := hK _ h7
  clear h1 h2 h5 h7
  refine wpAny_call ?_
  kla_enter
  k_steps
  exact hret _ _ _ _ (by k_asm) (by k_asm) ⟨_, _, _, _, rfl, .head _, fun p hp => .tail _ hp⟩
/-- the table of the hits, as it lies -/
def HitT (K : Led) : Prop := K = [(150, tabObj #[])] ∨ ∃ c1 c2 oc vs t, K = [(150, tabObj #[rawInt 140, rawInt 10, .ref c1, rawInt 141, rawInt 15, .ref c2]), (c2, oc)] ∧ c2 ≠ 150 ∧ c2 ≠ 157 ∧ oc.data = .fields vs ∧ vs[1]? = some (.str hitQ t)
/-- what is new in the second -/
def Nx (news K K' : Led) : Prop := ∀ p ∈ K', p ∈ K ∨ p.1 = 150 ∨ p.1 = 157 ∨ ∀ q ∈ news, q.1 ≠ p.1
theorem Nx.refl {news K : Led} : Nx news K K := fun _ h => .inl h
theorem Nx.mono {news news' K K' : Led} (h : Nx news' K K') (k : ∀ p ∈ news, p ∈ news') : Nx news K K' := fun p hp => by
  rcases h p hp with h | h | h | h
  · exact .inl h
  · exact .inr (.inl h)
  · exact .inr (.inr (.inl h))
  · exact .inr (.inr (.inr fun q hq => h q (k q hq)))
/-- what stands off the tables stays -/
abbrev OffTabs (news news' : Led) : Prop := ∀ p ∈ news, p.1 ≠ 150 → p.1 ≠ 157 → p ∈ news'
theorem Nx.trans {news news' K K' K'' : Led} (h : Nx news K K') (h' : Nx news' K' K'') (k : OffTabs news news') : Nx news K K'' := fun p hp => by
  rcases h' p hp with q | q | q | q
  · exact h p q
  · exact .inr (.inl q)
  · exact .inr (.inr (.inl q))
  · by_cases e1 : p.1 = 150
    · exact .inr (.inl e1)
    · by_cases e2 : p.1 = 157
      · exact .inr (.inr (.inl e2))
      · exact .inr (.inr (.inr fun z hz e => q z (k z hz (fun x => e1 (e.symm.trans x)) (fun x => e2 (e.symm.trans x))) e))
/-- a table behind a call -/
def TabPost (T : Led → Prop) (news K news' : Led) : Prop := ∃ K', T K' ∧ (∀ p ∈ K', p ∈ news') ∧ Nx news K K'
theorem TabPost.mono {T : Led → Prop} {news₀ news K news' : Led} (h : TabPost T news K news') (k : ∀ p ∈ news₀, p ∈ news) : TabPost T news₀ K news' :=
  let ⟨K', h1, h2, h3⟩ := h; ⟨K', h1, h2, h3.mono k⟩
theorem TabPost.same {T : Led → Prop} {news K news' : Led} (h : T K) (k : ∀ p ∈ K, p ∈ news') : TabPost T news K news' := ⟨K, h, k, .refl⟩
theorem hittab_make {news news' K : Led} {c1 c2 : Addr} {oc : Obj} {vs : Array Value} {t : Tok} (h : (150, tabObj #[rawInt 140, rawInt 10, .ref c1, rawInt 141, rawInt 15, .ref c2]) ∈ news') (h2 : (c2, oc) ∈ news') (h3 : oc.data = .fields vs) (h4 : vs[1]? = some (.str hitQ t)) (h5 : c2 ≠ 150 ∧ c2 ≠ 157) (h6 : ∀ q ∈ news, q.1 ≠ c2) : TabPost HitT news K news' :=
  ⟨_, .inr ⟨c1, c2, oc, vs, t, rfl, h5.1, h5.2, h3, h4⟩, fun p hp => by
    rcases List.mem_cons.mp hp with rfl | hp
    · exact h
    · rw [List.mem_singleton.mp hp]; exact h2, fun p hp => by
    rcases List.mem_cons.mp hp with rfl | hp
    · exact .inr (.inl rfl)
    · rw [List.mem_singleton.mp hp]; exact .inr (.inr (.inr h6))⟩
theorem HitT.get {K : Led} (h : HitT K) : ∃ o, (150, o) ∈ K := by
  rcases h with rfl | ⟨_, _, _, _, _, rfl, _⟩
  · exact ⟨_, .head _⟩
  · exact ⟨_, .head _⟩
theorem HitT.off {K : Led} (h : HitT K) : ∀ p ∈ K, p.1 ≠ 157 := by
  rcases h with rfl | ⟨_, _, _, _, _, rfl, h1, h2, _⟩
  · intro p hp; rw [List.mem_singleton.mp hp]; exact (show (150 : Nat) ≠ 157 by decide)
  · intro p hp
    rcases List.mem_cons.mp hp with rfl | hp
    · exact (show (150 : Nat) ≠ 157 by decide)
    · rw [List.mem_singleton.mp hp]; exact h2
abbrev spanDict (w : World) (f2 : Addr) (t : Tok) (n : Nat) : Obj := dictOf [⟨PyData.keyHash w.params (Str.ofString "span"), .str (Str.ofString "span") t, .ref f2⟩] n
/-- a hit -/
inductive HitAt (w : World) (r : Value) (a b : Int) (news : Led) : Prop
  | mk (K : Led) (f f2 d : Nat) (fd : FuncData) (sl : Array (Option Value)) (n : Nat) (t : Tok) (fd2 : FuncData) (sl2 : Array (Option Value)) (_ : ∀ p ∈ K, p ∈ news) (_ : ∀ p ∈ K, p.1 ≠ 150 ∧ p.1 ≠ 157) (_ : r = .ref f ∧ (f, fnObj (some d) fd sl) ∈ K ∧ (d, spanDict w f2 t n) ∈ K ∧ (f2, fnObj none fd2 sl2) ∈ K ∧ GivesPair w f2 a b K) : HitAt w r a b news
theorem HitAt.keeps {w : World} {r : Value} {a b : Int} {news news' : Led} (h : HitAt w r a b news) (k : OffTabs news news') : HitAt w r a b news' := by
  obtain ⟨K, f, f2, d, fd, sl, n, t, fd2, sl2, h1, h2, h3⟩ := h
  exact ⟨K, f, f2, d, fd, sl, n, t, fd2, sl2, fun p hp => k p (h1 p hp) (h2 p hp).1 (h2 p hp).2, h2, h3⟩
theorem hit_make {w : World} {news : Led} {f f2 d : Addr} {fd : FuncData} {sl : Array (Option Value)} {n : Nat} {t : Tok} {q : Str} {pm ctv : Value} {c2 cA cB : Addr} {oA oB oc : Obj} {vs : Array Value} {tq ta tb : Tok} {a b : Int}
    (m1 : (f, fnObj (some d) fd sl) ∈ news) (m2 : (d, spanDict w f2 t n) ∈ news) (m3 : (f2, spanFn w q cA cB pm c2 ctv) ∈ news) (m4 : (c2, oc) ∈ news) (h3 : oc.data = .fields vs) (h4 : vs[1]? = some (.str q tq))
    (m5 : (cA, oA) ∈ news) (h6 : oA.data = .cell (some (.int a ta))) (m7 : (cB, oB) ∈ news) (h8 : oB.data = .cell (some (.int b tb)))
    (off : (∀ x ∈ ([f, f2, d, cA, cB] : List Nat), 157 < x) ∧ c2 ≠ 150 ∧ c2 ≠ 157) : HitAt w (.ref f) a b news := by
  refine ⟨[(f, fnObj (some d) fd sl), (d, spanDict w f2 t n), (f2, spanFn w q cA cB pm c2 ctv), (c2, oc), (cA, oA), (cB, oB)], f, f2, d, fd, sl, n, t, _, _, ?_, ?_, rfl, .head _, .tail _ (.head _), .tail _ (.tail _ (.head _)),
    gives_pair (.tail _ (.tail _ (.head _))) (.tail _ (.tail _ (.tail _ (.head _)))) h3 h4 (.tail _ (.tail _ (.tail _ (.tail _ (.head _))))) h6 (.tail _ (.tail _ (.tail _ (.tail _ (.tail _ (.head _)))))) h8⟩
  · intro p hp
    simp only [List.mem_cons, List.not_mem_nil, or_false] at hp
    rcases hp with rfl | rfl | rfl | rfl | rfl | rfl <;> assumption
  · have h5 := off.1 f (by simp)
    have h6 := off.1 f2 (by simp)
    have h7 := off.1 d (by simp)
    have h8 := off.1 cA (by simp)
    have h9 := off.1 cB (by simp)
    intro p hp
    simp only [List.mem_cons, List.not_mem_nil, or_false] at hp
    rcases hp with rfl | rfl | rfl | rfl | rfl | rfl
    · exact ⟨Nat.ne_of_gt (Nat.lt_trans (by decide) h5), Nat.ne_of_gt h5⟩
    · exact ⟨Nat.ne_of_gt (Nat.lt_trans (by decide) h7), Nat.ne_of_gt h7⟩
    · exact ⟨Nat.ne_of_gt (Nat.lt_trans (by decide) h6), Nat.ne_of_gt h6⟩
    · exact off.2
    · exact ⟨Nat.ne_of_gt (Nat.lt_trans (by decide) h8), Nat.ne_of_gt h8⟩
    · exact ⟨Nat.ne_of_gt (Nat.lt_trans (by decide) h9), Nat.ne_of_gt h9⟩
abbrev HitPost (w : World) (a b : Int) (K news : Led) (r : Value) (news' : Led) : Prop := HitAt w r a b news' ∧ TabPost HitT news K news' ∧ ∀ p ∈ news, p.1 ≠ 150 → p ∈ news'
set_option maxRecDepth 100000 in
set_option maxHeartbeats 8000000 in
theorem lawHit0 {w : World} {K news : Led} {a b : Int} {t u : Tok} {o : Obj} (hm : (150, tabObj #[]) ∈ news) (h157 : (157, o) ∈ news) :
    Ctr w 155 [.int a t, .int b u] 100 900 news (HitPost w a b K news) := by
  unfold Ctr
  k_fill
  intro mean mg mb dp un gd cn nm ig ic mo ad ccd cl outer A₀ base h₀ L m s Q E B F X N T hd hu hret
  have sp9 := News.split1 N hm
  replace N := News.foc1 N hm
  refine wpAny_call ?_
  k_enter
  (rename (_ ∧ AllLt _ _) => lL)
  have l157 := allLt_mem lL.2 (157, o) (mem_offL.mpr ⟨h157, by simp⟩)
  have C1 : CodeHd _ 154 150 := codeHd_of_K (by assumption) (by kernel_rfl)
  k_steps
  (rename News _ _ _ _ => N8)
  refine' hret _ _ _ _ (by k_asm) N8 ⟨hit_make (q := hitQ) (ta := t) (tb := u) ?m1 ?m2 ?m3 ?m4 ?h3 ?h4 ?m5 ?h6 ?m7 ?h8 ⟨?o1, ?o2, ?o3⟩, hittab_make ?e1 ?e2 ?e3 ?e4 ⟨?p1, ?p2⟩ ?p3, ?kk⟩
  (case m1 => k_mem)
  (case m2 => k_mem)
  (case m3 => k_mem)
  (case m4 => k_mem)
  (case h3 => assumption)
  (case h4 => assumption)
  (case m5 => k_mem)
  (case h6 => assumption)
  (case m7 => k_mem)
  (case h8 => assumption)
  (case e1 => k_mem)
  (case e2 => k_mem)
  (case e3 => assumption)
  (case e4 => assumption)
  (case o1 => intro x hx; simp only [List.mem_cons, List.not_mem_nil, or_false] at hx; omega)
  (case o2 => exact Nat.ne_of_gt (show @LT.lt Nat instLTNat 150 _ by omega))
  (case o3 => exact Nat.ne_of_gt (show @LT.lt Nat instLTNat 157 _ by omega))
  (case p1 => exact Nat.ne_of_gt (show @LT.lt Nat instLTNat 150 _ by omega))
  (case p2 => exact Nat.ne_of_gt (show @LT.lt Nat instLTNat 157 _ by omega))
  (case p3 =>
    intro q hq
    rcases sp9 q hq with rfl | h9
    · exact Nat.ne_of_lt (show @LT.lt Nat instLTNat 150 _ by omega)
    · have h8 := allLt_mem lL.2 q h9
      exact Nat.ne_of_lt (show @LT.lt Nat instLTNat q.1 _ by omega))
  (case kk =>
    intro p hp hne
    rcases sp9 p hp with rfl | h9
    · exact absurd rfl hne
    · simp [h9])
set_option maxRecDepth 100000 in
set_option maxHeartbeats 8000000 in
theorem lawHit1 {w : World} {K news : Led} {a b : Int} {t u : Tok} {o oc : Obj} {vs : Array Value} {tt : Tok} {c1 c2 : Addr} (hm : (150, tabObj #[rawInt 140, rawInt 10, .ref c1, rawInt 141, rawInt 15, .ref c2]) ∈ news) (hc1 : c2 ≠ 150) (hc2 : c2 ≠ 157) (hc3 : (c2, oc) ∈ news) (hc4 : oc.data = .fields vs) (hc5 : vs[1]? = some (.str hitQ tt)) (hT : HitT K) (hK : ∀ p ∈ K, p ∈ news) (h157 : (157, o) ∈ news) :
    Ctr w 155 [.int a t, .int b u] 100 900 news (HitPost w a b K news) := by
  unfold Ctr
  k_fill
  intro mean mg mb dp un gd cn nm ig ic mo ad ccd cl outer A₀ base h₀ L m s Q E B F X N T hd hu hret
  refine wpAny_call ?_
  k_enter
  (rename (∀ p : PySem.Addr × PySem.Obj, p ∈ (_ : List (PySem.Addr × PySem.Obj)) → Prod.fst p < _) => lL)
  have l157 := ltN (lL _ h157)
  have C1 : CodeHd _ 154 150 := codeHd_of_K (by assumption) (by kernel_rfl)
  k_steps
  (rename News _ _ _ _ => N8)
  refine' hret _ _ _ _ (by k_asm) N8 ⟨hit_make (q := hitQ) (ta := t) (tb := u) ?m1 ?m2 ?m3 ?m4 hc4 hc5 ?m5 ?h6 ?m7 ?h8 ⟨?o1, hc1, hc2⟩, TabPost.same hT ?e1, ?kk⟩
  (case m1 => k_mem)
  (case m2 => k_mem)
  (case m3 => k_mem)
  (case m4 => k_mem)
  (case m5 => k_mem)
  (case h6 => assumption)
  (case m7 => k_mem)
  (case h8 => assumption)
  (case e1 => intro p hp; simp [hK p hp])
  (case o1 => intro x hx; simp only [List.mem_cons, List.not_mem_nil, or_false] at hx; omega)
  (case kk =>
    intro p hp hne
    simp [hp])
theorem lawHit {w : World} {K news : Led} {a b : Int} {t u : Tok} {o : Obj} (hK : ∀ p ∈ K, p ∈ news) (hT : HitT K) (h157 : (157, o) ∈ news) : Ctr w 155 [.int a t, .int b u] 100 900 news (HitPost w a b K news) := by
  have hT' := hT
  rcases hT with rfl | ⟨c1, c2, oc, vs, tt, rfl, h1, h2, h3, h4⟩
  · exact lawHit0 (hK _ (.head _)) h157
  · exact lawHit1 (hK _ (.head _)) h1 h2 (hK _ (.tail _ (.head _))) h3 h4 hT' hK h157
end
section
noncomputable def srchP (w : World) : Arguments := defP (stmtsAt w 162)[0]?
noncomputable def srchB (w : World) : List Stmt := defB (stmtsAt w 162)[0]?
noncomputable def srchS (w : World) : Scope := defS (stmtsAt w 162)[0]?
noncomputable abbrev srchFn (w : World) (q : Str) (T0 : Addr) (doc pm : Value) (c : Addr) (ctv : Value) : Obj :=
  kdv_obj (Str.ofString "search") q (srchP w) (.stmts (srchB w)) (srchS w) [] (.ref T0) doc pm c ctv
theorem rs_Z4 : True := by
  w_top off
  exact True.intro
/-- best, as it lies -/
def Bst (x : Option (Nat × Int × Int)) (R news : Led) : Prop := (∀ p ∈ R, p ∈ news) ∧ ∀ T a b, x = some (T, a, b) → (∃ ta tb n, (T, tupObj #[.int a ta, .int b tb] n) ∈ news) ∧ ∀ p ∈ R, p.1 ≠ T
theorem bst_framed : Framed Bst where
  sub := fun h => h.1
  add := fun {x R n y o} h hy => ⟨fun p hp => by
    rcases List.mem_cons.mp hp with rfl | hp
    · exact .head _
    · exact .tail _ (h.1 p hp), fun T a b e => by
    obtain ⟨⟨ta, tb, m, h1⟩, h2⟩ := h.2 T a b e
    exact ⟨⟨ta, tb, m, .tail _ h1⟩, fun p hp => by
      rcases List.mem_cons.mp hp with rfl | hp
      · exact Ne.symm (hy _ h1)
      · exact h2 p hp⟩⟩
  drop := fun {x R n y o} h hy => ⟨fun p hp => mem_offL.mpr ⟨h.1 p (.tail _ hp), fun e => hy p hp (List.mem_singleton.mp e)⟩, fun T a b e => by
    obtain ⟨⟨ta, tb, m, h1⟩, h2⟩ := h.2 T a b e
    exact ⟨⟨ta, tb, m, mem_offL.mpr ⟨h1, fun e => h2 _ (.head _) (List.mem_singleton.mp e).symm⟩⟩, fun p hp => h2 p (.tail _ hp)⟩⟩
def bval : Option (Nat × Int × Int) → Value
  | none => .none
  | some (T, _, _) => .ref T
def bst (x : Option (Nat × Int × Int)) : Option (Int × Int) := x.map (·.2)
/-- the stretches met so far -/
def Met (ds : List Nat) (k0 : Int) (i : Nat) (p : Int × Int) : Prop := p ∈ stretches ds ∧ k0 ≤ p.1 ∧ p.1 < k0 + i
theorem srch_no {ds : List Nat} {k0 k : Int} {i : Nat} {o : Option (Int × Int)} (h : IsBest (Met ds k0 i) o) (hk : k = k0 + i) (hn : ¬ (0 < digit ds k ∧ k + digit ds k ≤ ds.length)) : IsBest (Met ds k0 (i + 1)) o :=
  h.cong fun p => ⟨fun q => ⟨q.1, q.2.1, by have := q.2.2; omega⟩, fun q => ⟨q.1, q.2.1, by
    have h1 := q.2.2
    obtain ⟨g1, g2, g3, g4, g5⟩ := stretches_mem.mp q.1
    rcases Int.lt_or_le p.1 (k0 + i) with h2 | h2
    · exact h2
    · exfalso
      have : p.1 = k := by omega
      rw [this] at g3 g4
      exact hn ⟨g4, by omega⟩⟩⟩
theorem srch_new {ds : List Nat} {k0 k : Int} {i : Nat} {o : Option (Int × Int)} (h : IsBest (Met ds k0 i) o) (hk : k = k0 + i) (hk0 : 0 ≤ k0) (h1 : 0 < digit ds k) (h2 : k + digit ds k ≤ ds.length) (hle : ∀ b, o = some b → k + digit ds k ≤ b.2) : IsBest (Met ds k0 (i + 1)) (some (k, k + digit ds k)) := by
  refine ⟨⟨stretches_mem.mpr ⟨by show 0 ≤ k; omega, by show k < _; omega, rfl, h1, h2⟩, by show k0 ≤ k; omega, by show k < _; omega⟩, fun p q => ?_⟩
  show k + digit ds k < p.2 ∨ (k + digit ds k = p.2 ∧ p.1 ≤ k)
  have q2 := q.2.2
  rcases Int.lt_or_le p.1 (k0 + i) with h3 | h3
  · cases o with
    | none => exact absurd ⟨q.1, q.2.1, h3⟩ (h p)
    | some b =>
      have := h.2 p ⟨q.1, q.2.1, h3⟩
      have := hle b rfl
      omega
  · have e : p.1 = k := by omega
    have := (stretches_mem.mp q.1).2.2.1
    rw [e] at this
    omega
theorem srch_old {ds : List Nat} {k0 k : Int} {i : Nat} {b : Int × Int} (h : IsBest (Met ds k0 i) (some b)) (hk : k = k0 + i) (hgt : ¬ k + digit ds k ≤ b.2) : IsBest (Met ds k0 (i + 1)) (some b) := by
  refine ⟨⟨h.1.1, h.1.2.1, by have := h.1.2.2; omega⟩, fun p q => ?_⟩
  have q2 := q.2.2
  rcases Int.lt_or_le p.1 (k0 + i) with h3 | h3
  · exact h.2 p ⟨q.1, q.2.1, h3⟩
  · have e : p.1 = k := by omega
    have := (stretches_mem.mp q.1).2.2.1
    rw [e] at this
    omega
theorem srch_all {ds : List Nat} {k0 : Int} {n : Nat} {o : Option (Int × Int)} (h : IsBest (Met ds k0 n) o) (hn : (ds.length : Int) ≤ k0 + n) : IsBest (fun p => p ∈ stretches ds ∧ k0 ≤ p.1) o :=
  h.cong fun p => ⟨fun q => ⟨q.1, q.2.1⟩, fun q => ⟨q.1, q.2, by have := (stretches_mem.mp q.1).2.1; omega⟩⟩
theorem srch_nil {ds : List Nat} {k0 : Int} : IsBest (Met ds k0 0) none := fun p q => by have := q.2.1; have := q.2.2; omega
/-- a hit or None -/
def HitRes (w : World) (r : Value) (o : Option (Int × Int)) (news : Led) : Prop := match o with
  | none => r = .none
  | some s => HitAt w r s.1 s.2 news
abbrev SrchPost (w : World) (ds : List Nat) (k0 : Int) (K news : Led) (r : Value) (news' : Led) : Prop :=
  ∃ o, IsBest (fun p => p ∈ stretches ds ∧ k0 ≤ p.1) o ∧ HitRes w r o news' ∧ TabPost HitT news K news' ∧ ∀ p ∈ news, p.1 ≠ 150 → p ∈ news'
set_option maxRecDepth 100000 in
set_option maxHeartbeats 8000000 in
theorem search2 {w : World} {ds : List Nat} {v T0 c : Addr} {q : Str} {doc pm ctv : Value} {oc o157 : Obj} {vs : Array Value} {tq t0 t u : Tok} {k0 : Int} {K news : Led} (hlen : ds.length ≤ 11) (hd4 : ∀ d ∈ ds, d ≤ 4)
    (h1 : (v, srchFn w q T0 doc pm c ctv) ∈ news) (h2 : (c, oc) ∈ news) (h3 : oc.data = .fields vs) (h4 : vs[1]? = some (.str q tq)) (h5 : (T0, kdv_tup [.int 0 t0]) ∈ news) (hk0 : 0 ≤ k0) (hk1 : k0 ≤ ds.length) (hK : ∀ p ∈ K, p ∈ news) (hT : HitT K) (h157 : (157, o157) ∈ news) :
    Ctr w v [.str (rowStr ds) t, .int k0 u] 200 1800 news (SrchPost w ds k0 K news) := by
  unfold Ctr
  k_fill
  intro mean mg mb dp un gd cn nm ig ic mo ad ccd cl outer A₀ base h₀ L m s Q E B F X N T hd hu hret
  have e1 := h1
  unfold srchFn at e1
  conv at e1 in srchP _ => whnf
  conv at e1 in srchB _ => whnf
  conv at e1 in srchS _ => whnf
  clear h1
  refine wpAny_call ?_
  kdv_enter
  k_steps
  (rename News _ _ _ _ => N3)
  (rename Fr _ _ _ _ => F3)
  (rename IsRange _ _ _ _ _ _ _ _ => hr3)
  k_dflt (refine' iter_range (Φ := Bst) (x₀ := none) (R := news) (Inv := fun i m x => (∃ t', Pins m [(Str.ofString "chars", .str (rowStr ds) t'), (Str.ofString "best", bval x)]) ∧ IsBest (Met ds k0 i) (bst x)) bst_framed ?hh ?hl ?hsm ?hn ?cF ?cN ?hgo ?cq ?i0 ?turn2 ?done2)
  (case hh => exact rfl)
  (case cF => exact F3)
  (case cN => exact N3)
  (case hl => exact hr3)
  (case hsm => exact small_one (by omega) (by omega) (by omega) (by omega))
  (case hn => exact rangeSize_nat _ _)
  (case cq => exact ⟨fun p hp => hp, fun _ _ _ e => (nomatch e)⟩)
  (case hgo => exact fun _ _ => rfl)
  (case i0 => exact ⟨⟨_, rfl, rfl, trivial⟩, srch_nil⟩)
  (case turn2 =>
    clear F3 N3 hr3
    intro i tt m₁ x R₁ news₁ h tk hi hr99 hR hP F4 N4
    refine genC ?_
    intro C9 kC9
    obtain ⟨⟨t', hp⟩, hB⟩ := hr99
    refine kC9 ?_
    clear kC9 C9
    rw [Int.mul_one]
    obtain ⟨k, hk⟩ : ∃ k : Int, k = k0 + (i : Int) := ⟨_, rfl⟩
    rw [← hk]
    have hkn : k < ds.length := by omega
    replace F4 := Fr.pin F4 hp
    dsimp only [pinned] at F4 N4
    rcases x with _ | ⟨T9, a9, b9⟩
    · dsimp only [bval] at F4
      k_steps
      · (rename News _ _ _ _ => N8)
        (rename Fr _ _ _ _ => F8)
        obtain ⟨T8, e8⟩ := News.named1' N8
        subst e8
        have l8 : ∀ p ∈ news₁, @LT.lt Nat instLTNat p.1 T8 := by assumption
        k_dflt (exact TEnd.next (some (T8, k, k + digit ds k)) F8 N8 ⟨fun p hp => .tail _ (hP.1 p hp), fun _ _ _ e => by cases e; exact ⟨⟨_, _, _, .head _⟩, fun p hp => Nat.ne_of_lt (l8 p (hP.1 p hp))⟩⟩ ⟨⟨t', rfl, rfl, trivial⟩, srch_new hB hk hk0 (by omega) (by omega) (fun b e => (nomatch e))⟩)
      all_goals (
        (rename News _ _ _ _ => N8)
        (rename Fr _ _ _ _ => F8)
        k_dflt (exact TEnd.next none F8 N8 hP ⟨⟨t', rfl, rfl, trivial⟩, srch_no hB hk (by omega)⟩))
    · dsimp only [bval] at F4
      refine genC ?_
      intro C9 kC9
      obtain ⟨⟨ta9, tb9, m9, hT9⟩, hR9⟩ := hP.2 _ _ _ rfl
      refine kC9 ?_
      clear kC9 C9
      k_steps
      · (rename News _ _ _ _ => N8)
        (rename Fr _ _ _ _ => F8)
        obtain ⟨T8, e8⟩ := News.named1' N8
        subst e8
        have l8 : ∀ p ∈ news₁, @LT.lt Nat instLTNat p.1 T8 := by assumption
        k_dflt (exact TEnd.next (some (T8, k, k + digit ds k)) F8 N8 ⟨fun p hp => .tail _ (hP.1 p hp), fun _ _ _ e => by cases e; exact ⟨⟨_, _, _, .head _⟩, fun p hp => Nat.ne_of_lt (l8 p (hP.1 p hp))⟩⟩ ⟨⟨t', rfl, rfl, trivial⟩, srch_new hB hk hk0 (by omega) (by omega) (fun b e => by cases e; assumption)⟩)
      · (rename News _ _ _ _ => N8)
        (rename Fr _ _ _ _ => F8)
        k_dflt (exact TEnd.next (some (T9, a9, b9)) F8 N8 hP ⟨⟨t', rfl, rfl, trivial⟩, srch_old hB hk (by assumption)⟩)
      all_goals (
        (rename News _ _ _ _ => N8)
        (rename Fr _ _ _ _ => F8)
        k_dflt (exact TEnd.next (some (T9, a9, b9)) F8 N8 hP ⟨⟨t', rfl, rfl, trivial⟩, srch_no hB hk (by omega)⟩)))
  (case done2 =>
    clear F3 N3 hr3
    intro m₁ x news₁ h tk hr95 hP F4 N4
    refine genC ?_
    intro C9 kC9
    obtain ⟨⟨t', hp⟩, hB⟩ := hr95
    refine kC9 ?_
    clear kC9 C9
    replace hB := srch_all hB (by omega)
    replace F4 := Fr.pin F4 hp
    dsimp only [pinned] at F4 N4
    rcases x with _ | ⟨T9, a9, b9⟩
    · dsimp only [bval] at F4
      k_steps
      exact hret _ _ _ _ (by k_asm) (by k_asm) ⟨none, hB, rfl, .same hT (fun p hp => hP.1 p (hK p hp)), fun p hp _ => hP.1 p hp⟩
    · dsimp only [bval] at F4
      refine genC ?_
      intro C9 kC9
      obtain ⟨⟨ta9, tb9, m9, hT9⟩, hR9⟩ := hP.2 _ _ _ rfl
      refine kC9 ?_
      clear kC9 C9
      k_steps
      refine Halt.go ?_
      refine' ctr_use ?cB ?cF ?cX ?cN ?cT (lawHit (fun p hp => hP.1 p (hK p hp)) hT (hP.1 _ h157)) ?cd ?cu ?_
      (case cB => k_asm)
      (case cF => k_asm)
      (case cX => k_asm)
      (case cN => k_asm)
      (case cT => k_asm)
      (case cd => ktr_room)
      (case cu => ktr_units)
      intro r9 news9 h9 tk9 F9 N9 P9
      (try dsimp only)
      (try k_fold)
      k_steps
      exact hret _ _ _ _ (by k_asm) (by k_asm) ⟨some (a9, b9), hB, P9.1, P9.2.1.mono hP.1, fun p hp hne => P9.2.2 p (hP.1 p hp) hne⟩)
set_option maxRecDepth 100000 in
set_option maxHeartbeats 8000000 in
theorem search1 {w : World} {ds : List Nat} {v T0 c : Addr} {q : Str} {doc pm ctv : Value} {oc o157 : Obj} {vs : Array Value} {tq t0 t : Tok} {k0 : Int} {K news : Led} (hlen : ds.length ≤ 11) (hd4 : ∀ d ∈ ds, d ≤ 4)
    (h1 : (v, srchFn w q T0 doc pm c ctv) ∈ news) (h2 : (c, oc) ∈ news) (h3 : oc.data = .fields vs) (h4 : vs[1]? = some (.str q tq)) (h5 : (T0, kdv_tup [.int k0 t0]) ∈ news) (hk0 : 0 ≤ k0) (hk1 : k0 ≤ ds.length) (hK : ∀ p ∈ K, p ∈ news) (hT : HitT K) (h157 : (157, o157) ∈ news) :
    Ctr w v [.str (rowStr ds) t] 200 1800 news (SrchPost w ds k0 K news) := by
  unfold Ctr
  k_fill
  intro mean mg mb dp un gd cn nm ig ic mo ad ccd cl outer A₀ base h₀ L m s Q E B F X N T hd hu hret
  have e1 := h1
  unfold srchFn at e1
  conv at e1 in srchP _ => whnf
  conv at e1 in srchB _ => whnf
  conv at e1 in srchS _ => whnf
  clear h1
  refine wpAny_call ?_
  kdv_enter
  k_steps
  (rename News _ _ _ _ => N3)
  (rename Fr _ _ _ _ => F3)
  (rename IsRange _ _ _ _ _ _ _ _ => hr3)
  k_dflt (refine' iter_range (Φ := Bst) (x₀ := none) (R := news) (Inv := fun i m x => (∃ t', Pins m [(Str.ofString "chars", .str (rowStr ds) t'), (Str.ofString "best", bval x)]) ∧ IsBest (Met ds k0 i) (bst x)) bst_framed ?hh ?hl ?hsm ?hn ?cF ?cN ?hgo ?cq ?i0 ?turn2 ?done2)
  (case hh => exact rfl)
  (case cF => exact F3)
  (case cN => exact N3)
  (case hl => exact hr3)
  (case hsm => exact small_one (by omega) (by omega) (by omega) (by omega))
  (case hn => exact rangeSize_nat _ _)
  (case cq => exact ⟨fun p hp => hp, fun _ _ _ e => (nomatch e)⟩)
  (case hgo => exact fun _ _ => rfl)
  (case i0 => exact ⟨⟨_, rfl, rfl, trivial⟩, srch_nil⟩)
  (case turn2 =>
    clear F3 N3 hr3
    intro i tt m₁ x R₁ news₁ h tk hi hr99 hR hP F4 N4
    refine genC ?_
    intro C9 kC9
    obtain ⟨⟨t', hp⟩, hB⟩ := hr99
    refine kC9 ?_
    clear kC9 C9
    rw [Int.mul_one]
    obtain ⟨k, hk⟩ : ∃ k : Int, k = k0 + (i : Int) := ⟨_, rfl⟩
    rw [← hk]
    have hkn : k < ds.length := by omega
    replace F4 := Fr.pin F4 hp
    dsimp only [pinned] at F4 N4
    rcases x with _ | ⟨T9, a9, b9⟩
    · dsimp only [bval] at F4
      k_steps
      · (rename News _ _ _ _ => N8)
        (rename Fr _ _ _ _ => F8)
        obtain ⟨T8, e8⟩ := News.named1' N8
        subst e8
        have l8 : ∀ p ∈ news₁, @LT.lt Nat instLTNat p.1 T8 := by assumption
        k_dflt (exact TEnd.next (some (T8, k, k + digit ds k)) F8 N8 ⟨fun p hp => .tail _ (hP.1 p hp), fun _ _ _ e => by cases e; exact ⟨⟨_, _, _, .head _⟩, fun p hp => Nat.ne_of_lt (l8 p (hP.1 p hp))⟩⟩ ⟨⟨t', rfl, rfl, trivial⟩, srch_new hB hk hk0 (by omega) (by omega) (fun b e => (nomatch e))⟩)
      all_goals (
        (rename News _ _ _ _ => N8)
        (rename Fr _ _ _ _ => F8)
        k_dflt (exact TEnd.next none F8 N8 hP ⟨⟨t', rfl, rfl, trivial⟩, srch_no hB hk (by omega)⟩))
    · dsimp only [bval] at F4
      refine genC ?_
      intro C9 kC9
      obtain ⟨⟨ta9, tb9, m9, hT9⟩, hR9⟩ := hP.2 _ _ _ rfl
      refine kC9 ?_
      clear kC9 C9
      k_steps
      · (rename News _ _ _ _ => N8)
        (rename Fr _ _ _ _ => F8)
        obtain ⟨T8, e8⟩ := News.named1' N8
        subst e8
        have l8 : ∀ p ∈ news₁, @LT.lt Nat instLTNat p.1 T8 := by assumption
        k_dflt (exact TEnd.next (some (T8, k, k + digit ds k)) F8 N8 ⟨fun p hp => .tail _ (hP.1 p hp), fun _ _ _ e => by cases e; exact ⟨⟨_, _, _, .head _⟩, fun p hp => Nat.ne_of_lt (l8 p (hP.1 p hp))⟩⟩ ⟨⟨t', rfl, rfl, trivial⟩, srch_new hB hk hk0 (by omega) (by omega) (fun b e => by cases e; assumption)⟩)
      · (rename News _ _ _ _ => N8)
        (rename Fr _ _ _ _ => F8)
        k_dflt (exact TEnd.next (some (T9, a9, b9)) F8 N8 hP ⟨⟨t', rfl, rfl, trivial⟩, srch_old hB hk (by assumption)⟩)
      all_goals (
        (rename News _ _ _ _ => N8)
        (rename Fr _ _ _ _ => F8)
        k_dflt (exact TEnd.next (some (T9, a9, b9)) F8 N8 hP ⟨⟨t', rfl, rfl, trivial⟩, srch_no hB hk (by omega)⟩)))
  (case done2 =>
    clear F3 N3 hr3
    intro m₁ x news₁ h tk hr95 hP F4 N4
    refine genC ?_
    intro C9 kC9
    obtain ⟨⟨t', hp⟩, hB⟩ := hr95
    refine kC9 ?_
    clear kC9 C9
    replace hB := srch_all hB (by omega)
    replace F4 := Fr.pin F4 hp
    dsimp only [pinned] at F4 N4
    rcases x with _ | ⟨T9, a9, b9⟩
    · dsimp only [bval] at F4
      k_steps
      exact hret _ _ _ _ (by k_asm) (by k_asm) ⟨none, hB, rfl, .same hT (fun p hp => hP.1 p (hK p hp)), fun p hp _ => hP.1 p hp⟩
    · dsimp only [bval] at F4
      refine genC ?_
      intro C9 kC9
      obtain ⟨⟨ta9, tb9, m9, hT9⟩, hR9⟩ := hP.2 _ _ _ rfl
      refine kC9 ?_
      clear kC9 C9
      k_steps
      refine Halt.go ?_
      refine' ctr_use ?cB ?cF ?cX ?cN ?cT (lawHit (fun p hp => hP.1 p (hK p hp)) hT (hP.1 _ h157)) ?cd ?cu ?_
      (case cB => k_asm)
      (case cF => k_asm)
      (case cX => k_asm)
      (case cN => k_asm)
      (case cT => k_asm)
      (case cd => ktr_room)
      (case cu => ktr_units)
      intro r9 news9 h9 tk9 F9 N9 P9
      (try dsimp only)
      (try k_fold)
      k_steps
      exact hret _ _ _ _ (by k_asm) (by k_asm) ⟨some (a9, b9), hB, P9.1, P9.2.1.mono hP.1, fun p hp hne => P9.2.2 p (hP.1 p hp) hne⟩)
/-- what can be searched -/
def Searches (w : World) (v : Addr) (Kf : Led) : Prop :=
  ∀ (ds : List Nat) (K news : Led) (o157 : Obj), ds.length ≤ 11 → (∀ d ∈ ds, d ≤ 4) → (∀ p ∈ Kf, p ∈ news) → (∀ p ∈ K, p ∈ news) → HitT K → (157, o157) ∈ news →
    (∀ t, Ctr w v [.str (rowStr ds) t] 200 1800 news (SrchPost w ds 0 K news)) ∧
    ∀ (t u : Tok) (k0 : Int), 0 ≤ k0 → k0 ≤ ds.length → Ctr w v [.str (rowStr ds) t, .int k0 u] 200 1800 news (SrchPost w ds k0 K news)
theorem searches {w : World} {v T0 c : Addr} {q : Str} {doc pm ctv : Value} {oc : Obj} {vs : Array Value} {tq t0 : Tok} {K : Led}
    (h1 : (v, srchFn w q T0 doc pm c ctv) ∈ K) (h2 : (c, oc) ∈ K) (h3 : oc.data = .fields vs) (h4 : vs[1]? = some (.str q tq)) (h5 : (T0, kdv_tup [.int 0 t0]) ∈ K) : Searches w v K :=
  fun _ _ _ _ hl hd hS hK hT h7 => ⟨fun _ => search1 hl hd (hS _ h1) (hS _ h2) h3 h4 (hS _ h5) (Int.le_refl _) (Int.natCast_nonneg _) hK hT h7,
    fun _ _ _ q1 q2 => search2 hl hd (hS _ h1) (hS _ h2) h3 h4 (hS _ h5) q1 q2 hK hT h7⟩
end
section
abbrev srchDict (w : World) (v : Addr) (t : Tok) (n : Nat) : Obj := dictOf [⟨PyData.keyHash w.params (Str.ofString "search"), .str (Str.ofString "search") t, .ref v⟩] n
theorem rs_Z5 : True := by
  w_top off
  exact True.intro
/-- a finder -/
inductive FinderAt (w : World) (r : Value) (news : Led) : Prop
  | mk (K : Led) (f v d : Nat) (fd : FuncData) (sl : Array (Option Value)) (n : Nat) (t : Tok) (fd2 : FuncData) (sl2 : Array (Option Value)) (_ : ∀ p ∈ K, p ∈ news) (_ : ∀ p ∈ K, p.1 ≠ 150 ∧ p.1 ≠ 157) (_ : r = .ref f ∧ (f, fnObj (some d) fd sl) ∈ K ∧ (d, srchDict w v t n) ∈ K ∧ (v, fnObj none fd2 sl2) ∈ K ∧ Searches w v K) : FinderAt w r news
theorem FinderAt.keeps {w : World} {r : Value} {news news' : Led} (h : FinderAt w r news) (k : OffTabs news news') : FinderAt w r news' := by
  obtain ⟨K, f, f2, d, fd, sl, n, t, fd2, sl2, h1, h2, h3⟩ := h
  exact ⟨K, f, f2, d, fd, sl, n, t, fd2, sl2, fun p hp => k p (h1 p hp) (h2 p hp).1 (h2 p hp).2, h2, h3⟩
def finQ : Str := qualnameIn (envOf (Str.ofString "_law_finder") default 0 162 (Value.ref 161)) (Str.ofString "search") (Str.ofString "search")
def FinT (K : Led) : Prop := K = [(157, tabObj #[])] ∨ ∃ c1 c2 oc vs t, K = [(157, tabObj #[rawInt 145, rawInt 4, .ref c1, rawInt 152, rawInt 11, .ref c2]), (c1, oc)] ∧ c1 ≠ 150 ∧ c1 ≠ 157 ∧ oc.data = .fields vs ∧ vs[1]? = some (.str finQ t)
theorem FinT.get {K : Led} (h : FinT K) : ∃ o, (157, o) ∈ K := by
  rcases h with rfl | ⟨_, _, _, _, _, rfl, _⟩
  · exact ⟨_, .head _⟩
  · exact ⟨_, .head _⟩
theorem FinT.off {K : Led} (h : FinT K) : ∀ p ∈ K, p.1 ≠ 150 := by
  rcases h with rfl | ⟨_, _, _, _, _, rfl, h1, h2, _⟩
  · intro p hp; rw [List.mem_singleton.mp hp]; exact (show (157 : Nat) ≠ 150 by decide)
  · intro p hp
    rcases List.mem_cons.mp hp with rfl | hp
    · exact (show (157 : Nat) ≠ 150 by decide)
    · rw [List.mem_singleton.mp hp]; exact h1
theorem finder_make {w : World} {news : Led} {f v d : Addr} {fd : FuncData} {sl : Array (Option Value)} {n : Nat} {t : Tok} {q : Str} {doc pm ctv : Value} {c T0 : Addr} {oc : Obj} {vs : Array Value} {tq t0 : Tok}
    (m1 : (f, fnObj (some d) fd sl) ∈ news) (m2 : (d, srchDict w v t n) ∈ news) (m3 : (v, srchFn w q T0 doc pm c ctv) ∈ news) (m4 : (c, oc) ∈ news) (h3 : oc.data = .fields vs) (h4 : vs[1]? = some (.str q tq))
    (m5 : (T0, kdv_tup [.int 0 t0]) ∈ news)
    (off : (∀ x ∈ ([f, v, d, T0] : List Nat), 157 < x) ∧ c ≠ 150 ∧ c ≠ 157) : FinderAt w (.ref f) news := by
  refine ⟨[(f, fnObj (some d) fd sl), (d, srchDict w v t n), (v, srchFn w q T0 doc pm c ctv), (c, oc), (T0, kdv_tup [.int 0 t0])], f, v, d, fd, sl, n, t, _, _, ?_, ?_, rfl, .head _, .tail _ (.head _), .tail _ (.tail _ (.head _)),
    searches (.tail _ (.tail _ (.head _))) (.tail _ (.tail _ (.tail _ (.head _)))) h3 h4 (.tail _ (.tail _ (.tail _ (.tail _ (.head _)))))⟩
  · intro p hp
    simp only [List.mem_cons, List.not_mem_nil, or_false] at hp
    rcases hp with rfl | rfl | rfl | rfl | rfl <;> assumption
  · have h5 := off.1 f (by simp)
    have h6 := off.1 v (by simp)
    have h7 := off.1 d (by simp)
    have h8 := off.1 T0 (by simp)
    intro p hp
    simp only [List.mem_cons, List.not_mem_nil, or_false] at hp
    rcases hp with rfl | rfl | rfl | rfl | rfl
    · exact ⟨Nat.ne_of_gt (Nat.lt_trans (by decide) h5), Nat.ne_of_gt h5⟩
    · exact ⟨Nat.ne_of_gt (Nat.lt_trans (by decide) h7), Nat.ne_of_gt h7⟩
    · exact ⟨Nat.ne_of_gt (Nat.lt_trans (by decide) h6), Nat.ne_of_gt h6⟩
    · exact off.2
    · exact ⟨Nat.ne_of_gt (Nat.lt_trans (by decide) h8), Nat.ne_of_gt h8⟩
theorem fintab_make {news news' K : Led} {c1 c2 : Addr} {oc : Obj} {vs : Array Value} {t : Tok} (h : (157, tabObj #[rawInt 145, rawInt 4, .ref c1, rawInt 152, rawInt 11, .ref c2]) ∈ news') (h2 : (c1, oc) ∈ news') (h3 : oc.data = .fields vs) (h4 : vs[1]? = some (.str finQ t)) (h5 : c1 ≠ 150 ∧ c1 ≠ 157) (h6 : ∀ q ∈ news, q.1 ≠ c1) : TabPost FinT news K news' :=
  ⟨_, .inr ⟨c1, c2, oc, vs, t, rfl, h5.1, h5.2, h3, h4⟩, fun p hp => by
    rcases List.mem_cons.mp hp with rfl | hp
    · exact h
    · rw [List.mem_singleton.mp hp]; exact h2, fun p hp => by
    rcases List.mem_cons.mp hp with rfl | hp
    · exact .inr (.inr (.inl rfl))
    · rw [List.mem_singleton.mp hp]; exact .inr (.inr (.inr h6))⟩
abbrev FinPost (w : World) (K news : Led) (r : Value) (news' : Led) : Prop := FinderAt w r news' ∧ TabPost FinT news K news' ∧ ∀ p ∈ news, p.1 ≠ 157 → p ∈ news'
set_option maxRecDepth 100000 in
set_option maxHeartbeats 8000000 in
theorem lawFinder0 {w : World} {K news : Led} {o : Obj} (hm : (157, tabObj #[]) ∈ news) (h150 : (150, o) ∈ news) : Ctr w 162 [] 100 900 news (FinPost w K news) := by
  unfold Ctr
  k_fill
  intro mean mg mb dp un gd cn nm ig ic mo ad ccd cl outer A₀ base h₀ L m s Q E B F X N T hd hu hret
  have sp9 := News.split1 N hm
  replace N := News.foc1 N hm
  refine wpAny_call ?_
  k_enter
  have C1 : CodeHd _ 161 157 := codeHd_of_K (by assumption) (by kernel_rfl)
  k_steps
  (rename News _ _ _ _ => N8)
  refine' hret _ _ _ _ (by k_asm) N8 ⟨finder_make (q := finQ) ?m1 ?m2 ?m3 ?m4 ?h3 ?h4 ?m5 ⟨?o1, ?o2, ?o3⟩, fintab_make ?e1 ?e2 ?e3 ?e4 ⟨?p1, ?p2⟩ ?p3, ?kk⟩
  (case m1 => k_mem)
  (case m2 => k_mem)
  (case m3 => k_mem)
  (case m4 => k_mem)
  (case h3 => assumption)
  (case h4 => assumption)
  (case m5 => k_mem)
  (case e1 => k_mem)
  (case e2 => k_mem)
  (case e3 => assumption)
  (case e4 => assumption)
  (case o1 => intro x hx; simp only [List.mem_cons, List.not_mem_nil, or_false] at hx; omega)
  (case o2 => exact Nat.ne_of_gt (show @LT.lt Nat instLTNat 150 _ by omega))
  (case o3 => exact Nat.ne_of_gt (show @LT.lt Nat instLTNat 157 _ by omega))
  (case p1 => exact Nat.ne_of_gt (show @LT.lt Nat instLTNat 150 _ by omega))
  (case p2 => exact Nat.ne_of_gt (show @LT.lt Nat instLTNat 157 _ by omega))
  (case p3 =>
    (rename (157 < _ ∧ AllLt _ _) => lL)
    intro q hq
    rcases sp9 q hq with rfl | h9
    · exact Nat.ne_of_lt (show @LT.lt Nat instLTNat 157 _ by omega)
    · have h8 := allLt_mem lL.2 q h9
      exact Nat.ne_of_lt (show @LT.lt Nat instLTNat q.1 _ by omega))
  (case kk =>
    intro p hp hne
    rcases sp9 p hp with rfl | h9
    · exact absurd rfl hne
    · simp [h9])
set_option maxRecDepth 100000 in
set_option maxHeartbeats 8000000 in
theorem lawFinder1 {w : World} {K news : Led} {c1 c2 : Addr} {oc : Obj} {vs : Array Value} {tt : Tok} (hm : (157, tabObj #[rawInt 145, rawInt 4, .ref c1, rawInt 152, rawInt 11, .ref c2]) ∈ news) (hc1 : c1 ≠ 150) (hc2 : c1 ≠ 157) (hc3 : (c1, oc) ∈ news) (hc4 : oc.data = .fields vs) (hc5 : vs[1]? = some (.str finQ tt)) (hT : FinT K) (hK : ∀ p ∈ K, p ∈ news) : Ctr w 162 [] 100 900 news (FinPost w K news) := by
  unfold Ctr
  k_fill
  intro mean mg mb dp un gd cn nm ig ic mo ad ccd cl outer A₀ base h₀ L m s Q E B F X N T hd hu hret
  refine wpAny_call ?_
  k_enter
  have C1 : CodeHd _ 161 157 := codeHd_of_K (by assumption) (by kernel_rfl)
  k_steps
  (rename News _ _ _ _ => N8)
  (rename (∀ p : PySem.Addr × PySem.Obj, p ∈ (_ : List (PySem.Addr × PySem.Obj)) → Prod.fst p < _) => lL)
  have l157 := ltN (lL _ hm)
  refine' hret _ _ _ _ (by k_asm) N8 ⟨finder_make (q := finQ) ?m1 ?m2 ?m3 ?m4 hc4 hc5 ?m5 ⟨?o1, hc1, hc2⟩, TabPost.same hT ?e1, ?kk⟩
  (case m1 => k_mem)
  (case m2 => k_mem)
  (case m3 => k_mem)
  (case m4 => k_mem)
  (case m5 => k_mem)
  (case e1 => intro p hp; simp [hK p hp])
  (case o1 => intro x hx; simp only [List.mem_cons, List.not_mem_nil, or_false] at hx; omega)
  (case kk =>
    intro p hp hne
    simp [hp])
theorem lawFinder {w : World} {K news : Led} {o : Obj} (hK : ∀ p ∈ K, p ∈ news) (hT : FinT K) (h150 : (150, o) ∈ news) : Ctr w 162 [] 100 900 news (FinPost w K news) := by
  have hT' := hT
  rcases hT with rfl | ⟨c1, c2, oc, vs, tt, rfl, h1, h2, h3, h4⟩
  · exact lawFinder0 (hK _ (.head _)) h150
  · exact lawFinder1 (hK _ (.head _)) h1 h2 (hK _ (.tail _ (.head _))) h3 h4 hT' hK
end
local macro_rules | `(tactic| walk_at "call ref") => `(tactic| (k_here; (with_reducible show wpAny _ _ (call (Value.ref _) _) _ _ _); refine halt ?_))
local macro_rules | `(tactic| walk_at "callWith ref") => `(tactic| (k_here; k_dflt (first
  | (refine' callWith_F ?k1 ?_; (case k1 => exact FnAt.of (by k_asm) (by k_mem)); k_whole)
  | (refine' callWith_F0 ?k1 ?_; (case k1 => exact FnAt.of (by k_asm) (by k_mem)); k_whole; try dsimp only [List.nil_append, List.cons_append]))))
local macro_rules | `(tactic| walk_at "truthy ref") => `(tactic| (k_here; k_dflt (refine' fn_truthy ?k1 ?k2 ?_; (case k1 => k_asm); (case k2 => k_mem); k_whole)))
section
theorem rs_Z6 : True := by
  w_top off
  exact True.intro
theorem Fr.nameGL {h₀ h : Heap} {L : Addr} {m : Str → Option Value} (_F : Fr h₀ L h m) : ∃ (g : Heap) (l : Addr), g = h₀ ∧ l = L := ⟨_, _, rfl, rfl⟩
/-- the link before -/
def Prev (st : List (Int × Int)) (x : Int) : Nat → Option (Int × Int) → Prop
  | i, none => i = 0
  | i, some sp => ∃ i', i = i' + 1 ∧ IsBest (fun p => p ∈ st ∧ i' ≤ lvl st p.1) (some sp) ∧ sp.2 ≤ x
theorem prev_span {st : List (Int × Int)} {n i : Nat} {x : Int} {fo o : Option (Int × Int)} (h : Str1 st n) (hp : Prev st x i fo) (ho : IsBest (fun p => p ∈ st ∧ i ≤ lvl st p.1) o) (hx : ∀ s, o = some s → x < s.2) : spanOf st x = fo := by
  cases fo with
  | none =>
    obtain rfl : i = 0 := hp
    exact span_none h ho hx
  | some sp =>
    obtain ⟨i', rfl, h1, h2⟩ := hp
    exact span_some h h1 h2 ho hx
theorem HitRes.keeps {w : World} {r : Value} {o : Option (Int × Int)} {news news' : Led} (h : HitRes w r o news) (k : OffTabs news news') : HitRes w r o news' := by
  cases o with
  | none => exact h
  | some s => exact HitAt.keeps h k
inductive SJ (w : World) (ds : List Nat) (pv : Value) (x : Int) (g : Heap) (L : Addr) (s : Shared) (K news : Led) (n : Nat) (s' : Shared) : Prop
  | mk (i : Nat) (sc : Int × Int) (fo : Option (Int × Int)) (mv fv : Value) (t u ti tj : Tok) (h : Heap) (tk : Nat) (m' : Str → Option Value) (news' : Led)
    (_ : s' = { s with heap := h, toks := tk }) (_ : Fr g L h m') (_ : News g L h news') (_ : IsBest (fun p => p ∈ stretches ds ∧ i ≤ lvl (stretches ds) p.1) (some sc)) (_ : HitAt w mv sc.1 sc.2 news') (_ : HitRes w fv fo news') (_ : Prev (stretches ds) x i fo) (_ : TabPost HitT news K news')
    (_ : ∀ p ∈ news, p.1 ≠ 150 → p ∈ news') (_ : Pins m' [(Str.ofString "prog", pv), (Str.ofString "chars", .str (rowStr ds) t), (Str.ofString "col", .int x u), (Str.ofString "m", mv), (Str.ofString "found", fv), (Str.ofString "i", .int sc.1 ti), (Str.ofString "j", .int sc.2 tj)])
    (_ : n = (ds.length - sc.2).toNat) : SJ w ds pv x g L s K news n s'
set_option maxRecDepth 100000 in
set_option maxHeartbeats 8000000 in
theorem searchRev {w : World} {ds : List Nat} {pv : Value} {t u : Tok} {x : Int} {K news : Led} {o157 : Obj} (hlen : ds.length ≤ 11) (hd4 : ∀ d ∈ ds, d ≤ 4) (hP : FinderAt w pv news) (hK : ∀ p ∈ K, p ∈ news) (hT : HitT K) (h157 : (157, o157) ∈ news) :
    Ctr w 148 [pv, .str (rowStr ds) t, .int x u] 300 2500 news (fun r news' => HitRes w r (spanOf (stretches ds) x) news' ∧ TabPost HitT news K news' ∧ ∀ p ∈ news, p.1 ≠ 150 → p ∈ news') := by
  refine genC ?_
  intro C9 kC9
  obtain ⟨Kf, f, v, df, fdf, slf, nf, tf, fd2, sl2, k1, k2, rfl, k3, k4, k5, k6⟩ := hP
  refine kC9 ?_
  clear kC9 C9
  have e3 := k1 _ k3
  have e4 := k1 _ k4
  have e5 := k1 _ k5
  have kS := k6 ds
  unfold Ctr
  k_fill
  intro mean mg mb dp un gd cn nm ig ic mo ad ccd cl outer A₀ base h₀ L m s Q E B F X N T hd hu hret
  refine wpAny_call ?_
  k_enter
  k_steps
  refine Halt.go ?_
  refine' ctr_use ?cB ?cF ?cX ?cN ?cT ((kS K news o157 hlen hd4 k1 hK hT h157).1 t) ?cd ?cu ?_
  (case cB => k_asm)
  (case cF => k_asm)
  (case cX => k_asm)
  (case cN => k_asm)
  (case cT => k_asm)
  (case cd => ktr_room)
  (case cu => ktr_units)
  intro r9 news9 h9 tk9 F9 N9 P9
  (try dsimp only)
  (try k_fold)
  refine genC ?_
  intro C9 kC9
  obtain ⟨o, hB, hR, hT9, hK9⟩ := P9
  refine kC9 ?_
  clear kC9 C9
  have hst := stretches_str ds
  replace hB := chain_zero hst hB
  cases o with
  | none =>
    obtain rfl : r9 = .none := hR
    k_steps
    exact hret _ _ _ _ (by k_asm) (by k_asm) ⟨by rw [span_none hst hB (fun _ e => nomatch e)]; rfl, hT9, hK9⟩
  | some sc =>
    refine genC ?_
    intro C9 kC9
    obtain ⟨Kh, f3, f4, d3, fd3, sl3, n3, t3, fd4, sl4, g1, g2, rfl, g3, g4, g5, g6⟩ := hR
    refine kC9 ?_
    clear kC9 C9
    have i3 := g1 _ g3
    have i4 := g1 _ g4
    have i5 := g1 _ g5
    k_steps
    refine Halt.go ?_
    refine' ctr_use ?cB ?cF ?cX ?cN ?cT (g6 news9 g1) ?cd ?cu ?_
    (case cB => k_asm)
    (case cF => k_asm)
    (case cX => k_asm)
    (case cN => k_asm)
    (case cT => k_asm)
    (case cd => ktr_room)
    (case cu => ktr_units)
    intro r9 news9 h9 tk9 F9 N9 P9
    (try dsimp only)
    (try k_fold)
    refine genC ?_
    intro C9 kC9
    obtain ⟨T9, tt1, tt2, nt9, rfl, hT9', hK10⟩ := P9
    refine kC9 ?_
    clear kC9 C9
    k_dflt (refine' asg_pair (by k_asm) (by k_asm) hT9' ?hh ?ha ?hb ?hp ?_)
    (case hh => exact rfl)
    (case ha => exact rfl)
    (case hb => exact rfl)
    (case hp => exact rfl)
    intro h' tk' F5 N5
    dsimp only [envOf] at F5 N5
    (try k_fold)
    k_steps
    refine Halt.go ?_
    (rename Fr _ _ _ _ => F6)
    (rename News _ _ _ _ => N6)
    refine genC ?_
    intro C9 kC9
    obtain ⟨g8, L8, hg8, hL8⟩ := Fr.nameGL F6
    refine kC9 ?_
    clear kC9 C9
    subst hg8 hL8
    k_dflt (refine While_N (fun n s' => SJ w ds (.ref f) x g8 L8 s K news n s') (ds.length - sc.2).toNat ?w0 ?wt)
    (case w0 => exact ⟨0, sc, none, _, .none, _, _, _, _, _, _, _, _, rfl, F6, N6, hB, ⟨Kh, f3, f4, d3, fd3, sl3, n3, t3, fd4, sl4, fun p hp => hK10 p (g1 p hp), g2, rfl, g3, g4, g5, g6⟩, rfl, rfl, (let ⟨K9, q1, q2, q3⟩ := hT9; ⟨K9, q1, fun p hp => hK10 p (q2 p hp), q3⟩), fun p hp hne => hK10 p (hK9 p hp hne), ⟨rfl, rfl, rfl, rfl, rfl, rfl, rfl, trivial⟩, rfl⟩)
    clear F6 N6 hT9' hK10 hK9 g1 g2 g3 g4 g5 g6 i3 i4 i5 hT9 hB
    (case wt =>
      intro n s' hr92
      refine genC ?_
      intro C9 kC9
      obtain ⟨i, ⟨ca, cb⟩, fo, mv, fv, tc, uc, ti, tj, h, tk, m', news', rfl, F7, N7, hB, hH, hfo, hpv, ⟨K7, hT7, hs7, hx7⟩, hK7, hp, rfl⟩ := hr92
      refine kC9 ?_
      clear kC9 C9
      replace F7 := Fr.pin F7 hp
      dsimp only [pinned, envOf] at F7 N7
      refine genC ?_
      intro C9 kC9
      obtain ⟨hs1, hs2, hs3⟩ := hst (ca, cb) hB.1.1
      refine kC9 ?_
      clear kC9 C9
      dsimp only at hs1 hs2 hs3 hH
      have hne : ¬ (ca = cb) := Int.ne_of_lt hs2
      have hn157 := hK7 _ h157 (show (157 : Nat) ≠ 150 by decide)
      have hsub : ∀ p ∈ Kf, p ∈ news' := fun p hp => hK7 p (k1 p hp) (k2 p hp).1
      have e3 := hsub _ k3
      have e4 := hsub _ k4
      have e5 := hsub _ k5
      (try k_fold)
      k_steps
      · exact absurd (by assumption) hne
      · refine Halt.go ?_
        refine' ctr_use ?cB ?cF ?cX ?cN ?cT ((kS K7 news' o157 hlen hd4 hsub hs7 hT7 hn157).2 tc tj cb (by omega) hs3) ?cd ?cu ?_
        (case cB => k_asm)
        (case cF => k_asm)
        (case cX => k_asm)
        (case cN => k_asm)
        (case cT => k_asm)
        (case cd => ktr_room)
        (case cu => ktr_units)
        intro r9 news9 h9 tk9 F9 N9 P9
        (try dsimp only)
        (try k_fold)
        refine genC ?_
        intro C9 kC9
        obtain ⟨o, hB9, hR9, ⟨K9, hT9, hs9, hx9⟩, hK9⟩ := P9
        refine kC9 ?_
        clear kC9 C9
        replace hx9 := hx7.trans hx9 (fun p hp q1 _ => hK7 p hp q1)
        have hB8 := hB9
        replace hB9 := chain_next hst hB hB9
        cases o with
        | none =>
          obtain rfl : r9 = .none := hR9
          k_steps
          exact hret _ _ _ _ (by k_asm) (by k_asm) ⟨by rw [span_some hst hB (by assumption) hB9 (fun _ e => nomatch e)]; exact hH.keeps fun p hp q1 _ => hK9 p hp q1, ⟨K9, hT9, hs9, hx9⟩, fun p hp hne => hK9 p (hK7 p hp hne) hne⟩
        | some sc2 =>
          refine genC ?_
          intro C9 kC9
          obtain ⟨Kh, f3, f4, d3, fd3, sl3, n3, t3, fd4, sl4, g1, g2, rfl, g3, g4, g5, g6⟩ := hR9
          refine kC9 ?_
          clear kC9 C9
          have i3 := g1 _ g3
          have i4 := g1 _ g4
          have i5 := g1 _ g5
          k_steps
          refine Halt.go ?_
          refine' ctr_use ?cB ?cF ?cX ?cN ?cT (g6 news9 g1) ?cd ?cu ?_
          (case cB => k_asm)
          (case cF => k_asm)
          (case cX => k_asm)
          (case cN => k_asm)
          (case cT => k_asm)
          (case cd => ktr_room)
          (case cu => ktr_units)
          intro r9 news9 h9 tk9 F9 N9 P9
          (try dsimp only)
          (try k_fold)
          refine genC ?_
          intro C9 kC9
          obtain ⟨T9, tt1, tt2, nt9, rfl, hT9', hK10⟩ := P9
          refine kC9 ?_
          clear kC9 C9
          k_dflt (refine' asg_pair (by k_asm) (by k_asm) hT9' ?hh ?ha ?hb ?hp ?_)
          (case hh => exact rfl)
          (case ha => exact rfl)
          (case hb => exact rfl)
          (case hp => exact rfl)
          intro h' tk' F8 N8
          dsimp only [envOf] at F8 N8
          (try k_fold)
          k_steps
          (rename Fr _ _ _ _ => F6)
          (rename News _ _ _ _ => N6)
          have hs4 := hst sc2 hB9.1.1
          have hs5 : cb ≤ sc2.1 := hB8.1.2
          k_dflt (refine ⟨_, ?_, i + 1, sc2, some (ca, cb), _, _, _, _, _, _, _, _, _, _, rfl, F6, N6, hB9, ⟨Kh, f3, f4, d3, fd3, sl3, n3, t3, fd4, sl4, fun p hp => hK10 p (g1 p hp), g2, rfl, g3, g4, g5, g6⟩, ?_, ⟨i, rfl, hB, by assumption⟩, ⟨K9, hT9, fun p hp => hK10 p (hs9 p hp), hx9⟩, fun p hp hne => hK10 p (hK9 p (hK7 p hp hne) hne), ⟨rfl, rfl, rfl, rfl, rfl, rfl, rfl, trivial⟩, rfl⟩)
          · show (_ : Nat) < _
            omega
          · exact hH.keeps fun p hp q1 _ => hK10 p (hK9 p hp q1)
      all_goals exact hret _ _ _ _ (by k_asm) (by k_asm) ⟨by rw [prev_span hst hpv hB (fun s e => by cases e; omega)]; exact hfo, ⟨K7, hT7, hs7, hx7⟩, hK7⟩)
end
section
theorem rs_Z7 : True := by
  w_top off
  exact True.intro
/-- the tables of the two closures -/
def CS (K : Led) : Prop := ∃ KH KF, K = KH ++ KF ∧ HitT KH ∧ FinT KF
/-- a pair or None -/
def PairRes (r : Value) (o : Option (Int × Int)) (news : Led) : Prop := match o with
  | none => r = .none
  | some s => ∃ T t1 t2 n, r = .ref T ∧ (T, tupObj #[.int s.1 t1, .int s.2 t2] n) ∈ news
set_option maxRecDepth 100000 in
set_option maxHeartbeats 8000000 in
theorem lawSpan {w : World} {ds : List Nat} {t u : Tok} {x : Int} {K news : Led} (hlen : ds.length ≤ 11) (hd4 : ∀ d ∈ ds, d ≤ 4) (hK : ∀ p ∈ K, p ∈ news) (hC : CS K) :
    Ctr w 179 [.str (rowStr ds) t, .int x u] 400 3200 news (fun r news' => PairRes r (spanOf (stretches ds) x) news' ∧ TabPost CS news K news' ∧ OffTabs news news') := by
  refine genC ?_
  intro C9 kC9
  obtain ⟨KH, KF, rfl, hH, hF⟩ := hC
  refine kC9 ?_
  clear kC9 C9
  have sH : ∀ p ∈ KH, p ∈ news := fun p hp => hK p (List.mem_append_left _ hp)
  have sF : ∀ p ∈ KF, p ∈ news := fun p hp => hK p (List.mem_append_right _ hp)
  obtain ⟨o150, h150⟩ := hH.get
  unfold Ctr
  k_fill
  intro mean mg mb dp un gd cn nm ig ic mo ad ccd cl outer A₀ base h₀ L m s Q E B F X N T hd hu hret
  refine wpAny_call ?_
  k_enter
  k_steps
  refine Halt.go ?_
  refine' ctr_use ?cB ?cF ?cX ?cN ?cT (lawFinder sF hF (sH _ h150)) ?cd ?cu ?_
  (case cB => k_asm)
  (case cF => k_asm)
  (case cX => k_asm)
  (case cN => k_asm)
  (case cT => k_asm)
  (case cd => ktr_room)
  (case cu => ktr_units)
  intro r9 news9 h9 tk9 F9 N9 P9
  (try dsimp only)
  (try k_fold)
  refine genC ?_
  intro C9 kC9
  obtain ⟨hF9, ⟨KF9, hT9, sT9, nx9⟩, hK9⟩ := P9
  obtain ⟨o157, h157⟩ := hT9.get
  refine kC9 ?_
  clear kC9 C9
  have h157 := sT9 _ h157
  have sH9 : ∀ p ∈ KH, p ∈ news9 := fun p hp => hK9 p (sH p hp) (hH.off p hp)
  k_steps
  refine Halt.go ?_
  refine' ctr_use ?cB ?cF ?cX ?cN ?cT (searchRev (x := x) hlen hd4 hF9 sH9 hH h157) ?cd ?cu ?_
  (case cB => k_asm)
  (case cF => k_asm)
  (case cX => k_asm)
  (case cN => k_asm)
  (case cT => k_asm)
  (case cd => ktr_room)
  (case cu => ktr_units)
  intro r9 news9 h9 tk9 F9 N9 P9
  (try dsimp only)
  (try k_fold)
  refine genC ?_
  intro C9 kC9
  obtain ⟨hR8, ⟨KH8, hT8, sT8, nx8⟩, hK8⟩ := P9
  refine kC9 ?_
  clear kC9 C9
  have hO8 : OffTabs news news9 := fun p hp q1 q2 => hK8 p (hK9 p hp q2) q1
  have hC8 : TabPost CS news (KH ++ KF) news9 := ⟨KH8 ++ KF9, ⟨_, _, rfl, hT8, hT9⟩, fun p hp => (List.mem_append.mp hp).elim (sT8 p) (fun q => hK8 p (sT9 p q) (hT9.off p q)), fun p hp => by
    rcases List.mem_append.mp hp with hp | hp
    · by_cases e1 : p.1 = 157
      · exact .inr (.inr (.inl e1))
      · rcases nx8 p hp with q | q | q | q
        · exact .inl (List.mem_append_left _ q)
        · exact .inr (.inl q)
        · exact .inr (.inr (.inl q))
        · exact .inr (.inr (.inr fun z hz e => q z (hK9 z hz (fun x => e1 (e.symm.trans x))) e))
    · rcases nx9 p hp with q | q | q | q
      · exact .inl (List.mem_append_right _ q)
      · exact .inr (.inl q)
      · exact .inr (.inr (.inl q))
      · exact .inr (.inr (.inr q))⟩
  clear hF9 hK9 hK8 hT9 hT8 h157 sT8 sT9 nx8 nx9
  cases ho : spanOf (stretches ds) x with
  | none =>
    rw [ho] at hret hR8
    obtain rfl : r9 = .none := hR8
    k_steps
    exact hret _ _ _ _ (by k_asm) (by k_asm) ⟨rfl, hC8, hO8⟩
  | some sc =>
    rw [ho] at hret hR8
    refine genC ?_
    intro C9 kC9
    obtain ⟨Kh, f3, f4, d3, fd3, sl3, n3, t3, fd4, sl4, g1, g2, rfl, g3, g4, g5, g6⟩ := hR8
    refine kC9 ?_
    clear kC9 C9
    have i3 := g1 _ g3
    have i4 := g1 _ g4
    have i5 := g1 _ g5
    k_steps
    refine Halt.go ?_
    refine' ctr_use ?cB ?cF ?cX ?cN ?cT (g6 news9 g1) ?cd ?cu ?_
    (case cB => k_asm)
    (case cF => k_asm)
    (case cX => k_asm)
    (case cN => k_asm)
    (case cT => k_asm)
    (case cd => ktr_room)
    (case cu => ktr_units)
    intro r9 news9 h9 tk9 F9 N9 P9
    (try dsimp only)
    (try k_fold)
    refine genC ?_
    intro C9 kC9
    obtain ⟨T9, tt1, tt2, nt9, rfl, hT9', hK10⟩ := P9
    refine kC9 ?_
    clear kC9 C9
    k_steps
    exact hret _ _ _ _ (by k_asm) (by k_asm) ⟨⟨_, _, _, _, rfl, hT9'⟩, (let ⟨K8, q1, q2, q3⟩ := hC8; ⟨K8, q1, fun p hp => hK10 p (q2 p hp), q3⟩), fun p hp q1 q2 => hK10 p (hO8 p hp q1 q2)⟩
end
section
local macro_rules | `(tactic| walk_at "subscriptTail Name Slice ref ref") => `(tactic| (k_here; (with_reducible show wpAny _ _ (subscriptTail _ (PySem.Expr.Slice none none (some _) _) (Value.ref _) (Value.ref _)) _ _ _); k_dflt (refine' krv_lit ?F ?N ?l ?k ?e ?_ ?s ?t ?z; (case F => k_asm); (case N => k_asm); (case l => exact News.isList (by k_asm) (by k_mem)); (case k => exact IsPart.int _ _); (case e => exact rfl); (case s => with_unfolding_all rfl); (case t => kmk_pure); (case z => assumption)); intro D' h' F' N' l1; (try k_lt l1); (try k_sweep)))
theorem rs_Z8 : True := by
  w_top off
  exact True.intro
/-- the sorter and the tables -/
def Sor2 (w : World) (sf : Nat) (a : SA) (R news : Led) : Prop := ∃ g K, SAt w sf g a (K ++ R) news ∧ CS K ∧ ∀ p ∈ R, ∀ q ∈ K, p.1 ≠ q.1
theorem sor2_framed {w : World} {sf : Nat} : Framed (Sor2 w sf) where
  sub := fun ⟨_, _, S, _⟩ p hp => (S.frame p (List.mem_append_right _ hp)).1
  add := fun {x R n y o} ⟨g, K, S, hC, hd⟩ h => ⟨_, K, (S.more' (o := o) h).less fun p hp => by
      simp only [List.mem_append, List.mem_cons] at hp ⊢
      rcases hp with h | h | h
      · exact .inr (.inl h)
      · exact .inl h
      · exact .inr (.inr h), hC, fun p hp q hq => by
      rcases List.mem_cons.mp hp with rfl | hp
      · exact Ne.symm (h q (S.frame q (List.mem_append_left _ hq)).1)
      · exact hd p hp q hq⟩
  drop := fun {x R n y o} ⟨g, K, S, hC, hd⟩ h => ⟨g, K, (S.less fun p hp => by
      simp only [List.mem_append, List.mem_cons] at hp ⊢
      rcases hp with h | h
      · exact .inl h
      · exact .inr (.inr h)).drop (S.frame (y, o) (by simp)).2 fun p hp => by
      rcases List.mem_append.mp hp with hp | hp
      · exact Ne.symm (hd _ (.head _) p hp)
      · exact h p hp, hC, fun p hp q hq => hd p (.tail _ hp) q hq⟩
theorem CS.h150 {K : Led} (h : CS K) : ∃ o, (150, o) ∈ K := by
  obtain ⟨KH, KF, rfl, h1, h2⟩ := h
  obtain ⟨o, q⟩ := h1.get
  exact ⟨o, List.mem_append_left _ q⟩
theorem CS.h157 {K : Led} (h : CS K) : ∃ o, (157, o) ∈ K := by
  obtain ⟨KH, KF, rfl, h1, h2⟩ := h
  obtain ⟨o, q⟩ := h2.get
  exact ⟨o, List.mem_append_right _ q⟩
theorem SAt.off {w : World} {sf : Nat} {g : SG} {a : SA} {R R' news news' : Led} (S : SAt w sf g a R news) (h : OffTabs news news') (t1 : g.tag 150 = (9, 0)) (t2 : g.tag 157 = (9, 0)) (hR : ∀ p ∈ R', p ∈ news' ∧ g.tag p.1 = (9, 0)) : SAt w sf g a R' news' := by
  have k : ∀ p ∈ news, g.tag p.1 ≠ (9, 0) → p ∈ news' := fun p hp hne => h p hp (fun e => hne (by rw [e]; exact t1)) (fun e => hne (by rw [e]; exact t2))
  exact {
    self := k _ S.self (by rw [S.tself]; simp)
    dict := let ⟨t1, t2, t3, t4, t5, t6, q⟩ := S.dict; ⟨t1, t2, t3, t4, t5, t6, k _ q (by rw [S.tdx]; simp)⟩
    tab := let ⟨o, q, h2⟩ := S.tab; ⟨o, k _ q (by rw [S.tn2i]; simp), h2⟩
    lo := S.lo
    node := fun j hj => let ⟨u, u', q⟩ := S.node j hj; ⟨u, u', k _ q (by rw [S.tinf j hj]; simp)⟩
    dct := fun j hj => k _ (S.dct j hj) (by rw [S.tidc j hj]; simp)
    sucs := fun j hj => let ⟨vs, n, h1, h2⟩ := S.sucs j hj; ⟨vs, n, h1, k _ h2 (by rw [S.tsuc j hj]; simp)⟩
    rdy := fun l hl => let ⟨vs, n, h1, h2⟩ := S.rdy l hl; ⟨vs, n, h1, k _ h2 (by rw [S.trd (by rw [hl]; rfl)]; simp)⟩
    tself := S.tself
    tdx := S.tdx
    tn2i := S.tn2i
    trd := S.trd
    tinf := S.tinf
    tidc := S.tidc
    tsuc := S.tsuc
    dnodup := S.dnodup
    frame := hR }
theorem Sor2.off {w : World} {sf : Nat} {g : SG} {a : SA} {K R news news' : Led} (S : SAt w sf g a (K ++ R) news) (hC : CS K) (hd : ∀ p ∈ R, ∀ q ∈ K, p.1 ≠ q.1) (T : TabPost CS news K news') (h : OffTabs news news') : Sor2 w sf a R news' := by
  obtain ⟨K', hC', hs, hn⟩ := T
  obtain ⟨o1, h1⟩ := hC.h150
  obtain ⟨o2, h2⟩ := hC.h157
  have f1 := S.frame _ (List.mem_append_left _ h1)
  have f2 := S.frame _ (List.mem_append_left _ h2)
  have S' := S.retag (t := fun x => @ite _ (∀ q ∈ news, q.1 ≠ x) (Classical.propDecidable _) (9, 0) (g.tag x)) fun p hp => by
    rw [if_neg (fun e => e p hp rfl)]
  have g1 := (S'.frame _ (List.mem_append_left _ h1)).2
  have g2 := (S'.frame _ (List.mem_append_left _ h2)).2
  refine ⟨_, K', S'.off h g1 g2 fun p hp => ?_, hC', fun p hp q hq e => ?_⟩
  · rcases List.mem_append.mp hp with hp | hp
    · refine ⟨hs p hp, ?_⟩
      rcases hn p hp with q | q | q | q
      · exact (S'.frame p (List.mem_append_left _ q)).2
      · rw [q]; exact g1
      · rw [q]; exact g2
      · exact if_pos q
    · exact ⟨h p (S.frame p (List.mem_append_right _ hp)).1 (hd p hp _ h1) (hd p hp _ h2), (S'.frame p (List.mem_append_right _ hp)).2⟩
  · rcases hn q hq with z | z | z | z
    · exact hd p hp q z e
    · exact hd p hp _ h1 (e.trans z)
    · exact hd p hp _ h2 (e.trans z)
    · exact z p (S.frame p (List.mem_append_right _ hp)).1 e
set_option maxRecDepth 100000 in
set_option maxHeartbeats 8000000 in
theorem lawOneNeed {w : World} {ds : List Nat} {t : Tok} {Sx : Addr} {K R news : Led} (hlen : ds.length ≤ 11) (hd4 : ∀ d ∈ ds, d ≤ 4) (hKR : ∀ p ∈ K ++ R, p ∈ news) (hC : CS K) (hdj : ∀ p ∈ R, ∀ q ∈ K, p.1 ≠ q.1) (hP : PairsAt Sx (stretches ds) R) :
    Ctr w 193 [.str (rowStr ds) t, .ref Sx] 600 4800 news (fun r news' => ∃ sf, r = .ref sf ∧ Sor2 w sf ((stretches ds).reverse.foldl (oneO (spanOf (stretches ds))) SA.nil) R news') := by
  unfold Ctr
  k_fill
  intro mean mg mb dp un gd cn nm ig ic mo ad ccd cl outer A₀ base h₀ L m s Q E B F X N T hd hu hret
  have hst : (stretches ds).length ≤ 11 := Nat.le_trans (stretches_len ds) hlen
  have hsp : ∀ k s, spanOf (stretches ds) k = some s → s.1 ∈ (stretches ds).map (·.1) := fun k s h => List.mem_map_of_mem (spanOf_mem h)
  generalize hste : stretches ds = st at *
  refine genC ?_
  intro C9 kC9
  obtain ⟨vs, vn, hS, hvl, hvp⟩ := hP
  refine kC9 ?_
  clear kC9 C9
  have hvz : vs.toArray.size ≤ sizeLine := by rw [sizeLine_eq, List.size_toArray, hvl]; omega
  have hN : ∀ o ∈ st, o.1 ∈ st.map (·.1) := fun o ho => List.mem_map_of_mem ho
  refine wpAny_call ?_
  k_enter
  k_steps
  refine Halt.go ?_
  refine' ctr_use ?cB ?cF ?cX ?cN ?cT (newSorter (R := K ++ R) hKR) ?cd ?cu ?_
  (case cB => k_asm)
  (case cF => k_asm)
  (case cX => k_asm)
  (case cN => k_asm)
  (case cT => k_asm)
  (case cd => ktr_room)
  (case cu => ktr_units)
  intro r9 news9 h9 tk9 F9 N9 P9
  (try dsimp only)
  (try k_fold)
  refine genC ?_
  intro C9 kC9
  obtain ⟨sf, g, rfl, S1⟩ := P9
  refine kC9 ?_
  clear kC9 C9
  have eS := (S1.frame _ (List.mem_append_right _ hS)).1
  k_steps
  (rename News _ _ _ _ => N3)
  (rename Fr _ _ _ _ => F3)
  obtain ⟨Dr, hD9⟩ := News.named1' N3
  subst hD9
  have S2 := sor2_framed.add (y := Dr) (o := listOf vs.reverse.toArray 0) ⟨g, K, S1, hC, hdj⟩ (fun p hp => Nat.ne_of_lt ((by assumption : ∀ p ∈ news9, @LT.lt Nat instLTNat p.1 Dr) p hp))
  k_dflt (refine' iter_list (Φ := Sor2 w sf) (x₀ := SA.nil) (R := (Dr, listOf vs.reverse.toArray 0) :: R) (Inv := fun i m x => (∃ t', Pins m [(Str.ofString "row", .str (rowStr ds) t'), (Str.ofString "stretches", .ref Sx), (Str.ofString "sorter", .ref sf)]) ∧ x = (st.reverse.take i).foldl (oneO (spanOf st)) SA.nil) sor2_framed ?hh ?hl ?cF ?cN ?hgo ?cq ?i0 ?turn2 ?done2)
  (case hh => exact rfl)
  (case cF => exact F3)
  (case cN => exact N3)
  (case cq => exact S2)
  (case hl => exact .head _)
  (case hgo =>
    intro I i s' v Q' E' hv hi q
    refine genC ?_
    intro C9 kC9
    obtain ⟨a, b, T, ta, tb, n', _, rfl, _⟩ := pairs_rev hvl hvp hv
    refine kC9 ?_
    clear kC9 C9
    exact wpAny_letOwnedTupleGo_listiter hi q)
  (case i0 => exact ⟨⟨_, rfl, rfl, rfl, trivial⟩, rfl⟩)
  (case turn2 =>
    clear F3 N3 S2 S1 eS
    intro i v m₁ c R₁ news₁ h tk hi hv hr910 hR hr912 F4 N4
    refine genC ?_
    intro C9 kC9
    obtain ⟨⟨t', hp⟩, rfl⟩ := hr910
    obtain ⟨g4, K4, S4, hC4, hd4'⟩ := hr912
    obtain ⟨a, b, T, ta, tb, n', hst4, rfl, hT⟩ := pairs_rev hvl hvp hv
    refine kC9 ?_
    clear kC9 C9
    replace F4 := Fr.pin F4 hp
    dsimp only [pinned, envOf] at F4 N4
    k_dflt (refine' asg_pair F4 N4 (S4.frame _ (List.mem_append_right _ (hR _ (.tail _ hT)))).1 ?hh ?ha ?hb ?hp ?_)
    (case hh => exact rfl)
    (case ha => exact rfl)
    (case hb => exact rfl)
    (case hp => exact rfl)
    intro h' tk' F5 N5
    clear F4 N4
    dsimp only [envOf] at F5 N5
    (try k_fold)
    have H4 := (oneO_gb hsp (st.reverse.take i) (fun o ho => hN o (by simpa using List.mem_of_mem_take ho)) (GB.nil (N := st.map (·.1)))).1
    have hnx : (st.reverse.take (i + 1)).foldl (oneO (spanOf st)) SA.nil = oneO (spanOf st) ((st.reverse.take i).foldl (oneO (spanOf st)) SA.nil) (a, b) := by
      rw [List.take_add_one, hst4]; simp
    have htl : (st.reverse.take i).length ≤ 11 := by rw [List.length_take, List.length_reverse]; omega
    change GB _ _ _ ((st.reverse.take i).foldl (oneO (spanOf st)) SA.nil) at H4
    generalize (st.reverse.take i).foldl (oneO (spanOf st)) SA.nil = x at S4 H4 hnx
    replace H4 := H4.more (c' := 121) (by omega)
    have hx11 : x.D.length ≤ 11 := by have := H4.short; rw [List.length_map] at this; omega
    have haN : a ∈ st.map (·.1) := hN (a, b) (by have := List.mem_of_getElem? hst4; simpa using this)
    k_steps
    refine Halt.go ?_
    refine' ctr_use ?cB ?cF ?cX ?cN ?cT (lawSpan (x := a) hlen hd4 (fun p hp => (S4.frame p (List.mem_append_left _ hp)).1) hC4) ?cd ?cu ?_
    (case cB => k_asm)
    (case cF => k_asm)
    (case cX => k_asm)
    (case cN => k_asm)
    (case cT => k_asm)
    (case cd => ktr_room)
    (case cu => ktr_units)
    intro r9 news9 h9 tk9 F9 N9 P9
    (try dsimp only)
    (try k_fold)
    rw [hste] at P9
    refine genC ?_
    intro C9 kC9
    obtain ⟨hR9, hT9, hO9⟩ := P9
    obtain ⟨g5, K5, S5, hC5, hd5⟩ := Sor2.off S4 hC4 hd4' hT9 hO9
    refine kC9 ?_
    clear kC9 C9
    clear S4 hC4 hd4' hT9 hO9
    have n1 := S5.self
    refine genC ?_
    intro C9 kC9
    obtain ⟨t1, t2, t3, t4, t5, t6, n2⟩ := S5.dict
    refine kC9 ?_
    clear kC9 C9
    cases hso : spanOf st a with
    | none =>
      have hnn : oneO (spanOf st) x (a, b) = x.ins a := by unfold oneO; rw [hso]
      rw [hnn] at hnx
      rw [hso] at hR9
      obtain rfl : r9 = .none := hR9
      k_steps
      refine Halt.go ?_
      refine' ctr_use ?cB ?cF ?cX ?cN ?cT (add0 (k := a) S5 (by omega) H4.rdl) ?cd ?cu ?_
      (case cB => k_asm)
      (case cF => k_asm)
      (case cX => k_asm)
      (case cN => k_asm)
      (case cT => k_asm)
      (case cd => ktr_room)
      (case cu => ktr_units)
      intro r9 news9 h9 tk9 F9 N9 P9
      (try dsimp only)
      (try k_fold)
      clear n1 n2
      obtain ⟨g7, S7⟩ := P9
      k_steps
      (rename News _ _ _ _ => N8)
      (rename Fr _ _ _ _ => F8)
      k_dflt (exact TEnd.next _ F8 N8 ⟨g7, K5, S7, hC5, hd5⟩ ⟨⟨_, rfl, rfl, rfl, trivial⟩, hnx.symm⟩)
    | some sc =>
      obtain ⟨sa, sb⟩ := sc
      have hnn : oneO (spanOf st) x (a, b) = x.add1 a sa := by unfold oneO; rw [hso]
      rw [hnn] at hnx
      rw [hso] at hR9
      refine genC ?_
      intro C9 kC9
      obtain ⟨T8, u1, u2, n8, rfl, hT8⟩ := hR9
      refine kC9 ?_
      clear kC9 C9
      dsimp only at hT8
      k_steps
      refine Halt.go ?_
      refine' ctr_use ?cB ?cF ?cX ?cN ?cT (add1 (k := a) (p := sa) S5 (by omega) (fun q => Nat.le_trans (H4.len q) (by omega)) H4.rdl) ?cd ?cu ?_
      (case cB => k_asm)
      (case cF => k_asm)
      (case cX => k_asm)
      (case cN => k_asm)
      (case cT => k_asm)
      (case cd => ktr_room)
      (case cu => ktr_units)
      intro r9 news9 h9 tk9 F9 N9 P9
      (try dsimp only)
      (try k_fold)
      clear n1 n2
      obtain ⟨g7, S7⟩ := P9
      k_steps
      (rename News _ _ _ _ => N8)
      (rename Fr _ _ _ _ => F8)
      k_dflt (exact TEnd.next _ F8 N8 ⟨g7, K5, S7, hC5, hd5⟩ ⟨⟨_, rfl, rfl, rfl, trivial⟩, hnx.symm⟩))
  (case done2 =>
    clear F3 N3 S2 S1 eS
    intro m₂ y news₂ h tk hr95 hr96 F6 N6
    refine genC ?_
    intro C9 kC9
    obtain ⟨⟨t', hp⟩, rfl⟩ := hr95
    obtain ⟨g6, K6, S6, hC6, hd6⟩ := hr96
    refine kC9 ?_
    clear kC9 C9
    replace F6 := Fr.pin F6 hp
    dsimp only [pinned, envOf] at F6 N6
    have el : vs.reverse.toArray.size = st.reverse.length := by simp [hvl]
    rw [el, List.take_length] at S6
    k_steps
    refine hret _ _ _ _ (by k_asm) (by k_asm) ⟨sf, rfl, g6, K6, S6.less fun p hp => ?_, hC6, fun p hp => hd6 p (.tail _ hp)⟩
    simp only [List.mem_append, List.mem_cons] at hp ⊢
    rcases hp with hp | hp
    · exact .inl hp
    · exact .inr (.inr hp))
end
section
local macro_rules | `(tactic| walk_at "subscriptTail Name BinOp ref int") => `(tactic| (k_here; refine halt ?_))
local macro_rules | `(tactic| walk_at "subscriptTail Name Name ref int") => `(tactic| (k_here; refine halt ?_))
local macro_rules | `(tactic| walk_at "call builtin:max") => `(tactic| (k_here; refine halt ?_))
local macro_rules | `(tactic| walk_at "call builtin:min") => `(tactic| (k_here; refine halt ?_))
theorem rs_Y9 : True := by
  w_top off
  exact True.intro
/-- a list of ints -/
def IntsAt (l : Addr) (ns : List Int) (news : Led) : Prop := ∃ vs n, IntsAre vs ns ∧ (l, listOf vs.toArray n) ∈ news
/-- a list that grows -/
def Lst (l : Addr) (x : List Int) (R news : Led) : Prop := (∀ p ∈ R, p ∈ news) ∧ IntsAt l x news ∧ ∀ p ∈ R, p.1 ≠ l
theorem lst_framed {l : Addr} : Framed (Lst l) where
  sub := fun h => h.1
  add := fun {x R n y o} ⟨h1, ⟨vs, m, h2, h3⟩, h4⟩ hy => ⟨fun p hp => by
    rcases List.mem_cons.mp hp with rfl | hp
    · exact .head _
    · exact .tail _ (h1 p hp), ⟨vs, m, h2, .tail _ h3⟩, fun p hp => by
    rcases List.mem_cons.mp hp with rfl | hp
    · exact Ne.symm (hy _ h3)
    · exact h4 p hp⟩
  drop := fun {x R n y o} ⟨h1, ⟨vs, m, h2, h3⟩, h4⟩ hy => ⟨fun p hp => mem_offL.mpr ⟨h1 p (.tail _ hp), fun e => hy p hp (List.mem_singleton.mp e)⟩,
    ⟨vs, m, h2, mem_offL.mpr ⟨h3, fun e => h4 _ (.head _) (List.mem_singleton.mp e).symm⟩⟩, fun p hp => h4 p (.tail _ hp)⟩
/-- a list that grows, a cell that turns -/
def LstC (l C : Addr) (x : List Int) (R news : Led) : Prop := (∀ p ∈ R, p ∈ news) ∧ IntsAt l x news ∧ (∃ o v, (C, o) ∈ news ∧ o.data = .cell v) ∧ l ≠ C ∧ ∀ p ∈ R, p.1 ≠ l ∧ p.1 ≠ C
theorem lstC_framed {l C : Addr} : Framed (LstC l C) where
  sub := fun h => h.1
  add := fun {x R n y o} ⟨h1, ⟨vs, m, h2, h3⟩, ⟨oc, vc, h6, h7⟩, h5, h4⟩ hy => ⟨fun p hp => by
    rcases List.mem_cons.mp hp with rfl | hp
    · exact .head _
    · exact .tail _ (h1 p hp), ⟨vs, m, h2, .tail _ h3⟩, ⟨oc, vc, .tail _ h6, h7⟩, h5, fun p hp => by
    rcases List.mem_cons.mp hp with rfl | hp
    · exact ⟨Ne.symm (hy _ h3), Ne.symm (hy _ h6)⟩
    · exact h4 p hp⟩
  drop := fun {x R n y o} ⟨h1, ⟨vs, m, h2, h3⟩, ⟨oc, vc, h6, h7⟩, h5, h4⟩ hy => ⟨fun p hp => mem_offL.mpr ⟨h1 p (.tail _ hp), fun e => hy p hp (List.mem_singleton.mp e)⟩,
    ⟨vs, m, h2, mem_offL.mpr ⟨h3, fun e => (h4 _ (.head _)).1 (List.mem_singleton.mp e).symm⟩⟩,
    ⟨oc, vc, mem_offL.mpr ⟨h6, fun e => (h4 _ (.head _)).2 (List.mem_singleton.mp e).symm⟩, h7⟩, h5, fun p hp => h4 p (.tail _ hp)⟩
theorem ints1 {k : Int} {t : Tok} : IntsAre [.int k t] [k] := by first | exact .cons _ _ .nil | (constructor; constructor)
theorem News.name2 {h₀ h : Heap} {L : Addr} {a b : Addr} {o o' : Obj} {rest : Led} (_N : News h₀ L h ((a, o) :: (b, o') :: rest)) : ∃ x y, x = a ∧ y = b := ⟨a, b, rfl, rfl⟩
theorem News.name3 {h₀ h : Heap} {L : Addr} {a b c : Addr} {o o' o'' : Obj} {rest : Led} (_N : News h₀ L h ((a, o) :: (b, o') :: (c, o'') :: rest)) : ∃ x y z y' z', x = a ∧ y = b ∧ z = c ∧ y' = o' ∧ z' = o'' := ⟨a, b, c, o', o'', rfl, rfl, rfl, rfl, rfl⟩
theorem mostL_succ (st : List (Int × Int)) (k : Nat) : mostL st (k + 1) = mostL st k ++ [mv st (k + 1)] := by
  have : mv st (k + 1) = ((st.filter fun p => decide (p.2 = (k : Int) + 1)).map fun p => (mostL st k).getD p.1.toNat 0 + 1).foldl max ((mostL st k).getD k 0) := by
    unfold mv
    rw [List.getD_eq_getElem?_getD, mostL, List.getElem?_append_right (by rw [mostL_length]; omega), mostL_length]; simp
  rw [this, mostL]
theorem most_at {st : List (Int × Int)} {i j : Nat} (h : j ≤ i) : ((mostL st i).map Int.ofNat)[j]? = some ((mv st j : Nat) : Int) := by
  have hl := mostL_length st i
  have e := mostL_at (st := st) h
  rw [List.getD_eq_getElem?_getD, List.getElem?_eq_getElem (by omega)] at e
  rw [List.getElem?_map, List.getElem?_eq_getElem (by omega)]
  simp only [Option.getD_some] at e
  rw [e]; rfl
theorem max_is {l : List Nat} {a : Nat} {M : Int} (h1 : M ∈ ((a : Nat) : Int) :: l.map Int.ofNat) (h2 : ∀ x ∈ ((a : Nat) : Int) :: l.map Int.ofNat, x ≤ M) : M = ((l.foldl max a : Nat) : Int) := by
  obtain ⟨g1, g2, g3⟩ := foldl_max_ge l a
  have e1 := h2 _ (.head _)
  have key : ((l.foldl max a : Nat) : Int) ≤ M := by
    rcases g3 with g | g
    · rw [g]; exact e1
    · exact h2 _ (.tail _ (List.mem_map_of_mem g))
  rcases List.mem_cons.mp h1 with rfl | h
  · omega
  · obtain ⟨x, hx, rfl⟩ := List.mem_map.mp h
    have := g2 x hx
    have e : Int.ofNat x = (x : Int) := rfl
    rw [e] at key ⊢
    omega
set_option maxRecDepth 100000 in
set_option maxHeartbeats 8000000 in
theorem lawMost {w : World} {ds : List Nat} {t : Tok} {st : List (Int × Int)} {Sx : Addr} {news : Led} (hlen : ds.length ≤ 11) (hP : PairsAt Sx st news) (hst : st.length ≤ 11) (hs : Str1 st ds.length) :
    Ctr w 205 [.str (rowStr ds) t, .ref Sx] 100 900 news (fun r news' => ∃ Ma, r = .ref Ma ∧ IntsAt Ma ((mostL st ds.length).map Int.ofNat) news' ∧ ∀ p ∈ news, p ∈ news') := by
  unfold Ctr
  k_fill
  intro mean mg mb dp un gd cn nm ig ic mo ad ccd cl outer A₀ base h₀ L m s Q E B F X N T hd hu hret
  refine wpAny_call ?_
  k_enter
  k_steps
  (rename News _ _ _ _ => N3)
  (rename Fr _ _ _ _ => F3)
  (rename IsRange _ _ _ _ _ _ _ _ => hr3)
  refine genC ?_
  intro C9 kC9
  obtain ⟨g8, L8, e1, e2⟩ := Fr.nameGL F3
  refine kC9 ?_
  clear kC9 C9
  subst e1 e2
  refine genC ?_
  intro C9 kC9
  obtain ⟨Ma, Cp, Cm, op, om, e1, e2, e3, e4, e5⟩ := News.name3 N3
  refine kC9 ?_
  clear kC9 C9
  subst e1 e4 e5
  clear e2 e3 Cp Cm
  (rename (_ ∧ _ ∧ AllLt Ma news) => lM)
  (rename (∀ p : PySem.Addr × PySem.Obj, p ∈ (_ : List (PySem.Addr × PySem.Obj)) → Prod.fst p < _) => lL)
  have hcm : om.data = .cell (some (.ref Ma)) := by assumption
  k_dflt (refine' iter_range (Φ := LstC Ma (L8 + 1 + 1)) (x₀ := [0]) (R := (L8 + 1, om) :: news) (Inv := fun i m x => (∃ t', Pins m [(Str.ofString "row", .str (rowStr ds) t'), (Str.ofString "stretches", .ref Sx)]) ∧ x = (mostL st i).map Int.ofNat) lstC_framed ?hh ?hl ?hsm ?hn ?cF ?cN ?hgo ?cq ?i0 ?turn2 ?done2)
  (case hh => exact rfl)
  (case cF => exact F3)
  (case cN => exact N3)
  (case hl => exact hr3)
  (case hsm => exact small_one (by omega) (by omega) (by omega) (by omega))
  (case hn => exact (rangeSize_nat _ _).trans (show _ = (ds.length : Int) by omega))
  (case cq => exact ⟨fun p hp => by
      rcases List.mem_cons.mp hp with rfl | hp
      · simp
      · simp [hp], ⟨_, _, ints1, .head _⟩, ⟨_, _, .tail _ (.head _), by assumption⟩, Nat.ne_of_gt lM.1, fun p hp => by
      rcases List.mem_cons.mp hp with rfl | hp
      · exact ⟨Nat.ne_of_lt lM.2.1, Nat.ne_of_lt (Nat.lt_succ_self _)⟩
      · exact ⟨Nat.ne_of_lt (allLt_mem lM.2.2 p hp), Nat.ne_of_lt (Nat.lt_succ_of_lt (Nat.lt_succ_of_lt (ltN (lL p hp))))⟩⟩)
  (case hgo => exact fun _ _ => rfl)
  (case i0 => exact ⟨⟨_, rfl, rfl, trivial⟩, rfl⟩)
  (case turn2 =>
    clear F3 N3 hr3
    intro i tt m₁ x R₁ news₁ h tk hi hr99 hR hr911 F4 N4
    refine genC ?_
    intro C9 kC9
    obtain ⟨⟨t', hp⟩, hx⟩ := hr99
    obtain ⟨hR1, ⟨vs, vn, hvi, hv⟩, ⟨oc, vc, hc1, hc2⟩, hne, hR2⟩ := hr911
    refine kC9 ?_
    clear kC9 C9
    rw [Int.mul_one]
    obtain ⟨k, hk⟩ : ∃ k : Int, k = 1 + (i : Int) := ⟨_, rfl⟩
    rw [← hk]
    replace F4 := Fr.pin F4 hp
    dsimp only [pinned, envOfC] at F4 N4
    have e1 := hR1 _ (hR _ (.head _))
    have hPP := hP.mono (news' := news₁) (fun p hp => hR1 _ (hR _ (.tail _ hp)))
    have sp9 := News.split3 N4 hv hc1 e1
    replace N4 := News.foc3 N4 hv hc1 e1
    k_steps
    refine Halt.go ?_
    have hvl : vs.length = i + 1 := by rw [hvi.length, hx, List.length_map, mostL_length]
    have hxi : x[(k - 1).toNat]? = some ((mv st i : Nat) : Int) := by
      have : (k - 1).toNat = i := by omega
      rw [this, hx]; exact most_at (Nat.le_refl _)
    k_dflt (refine' ints_item (by k_asm) (.head _) hvi ?i0 ?i1 hxi ?_)
    (case i0 => omega)
    (case i1 => omega)
    intro t9
    k_steps
    (rename News _ _ _ _ => N5)
    (rename Fr _ _ _ _ => F5)
    obtain ⟨Dl, e0⟩ := News.named1' N5
    subst e0
    (rename (Ma < Dl ∧ _) => lD)
    have hPn : PairsAt Sx st (offL [Ma, L8 + 1 + 1, L8 + 1] news₁) := hP.mono (fun p hp => mem_offL.mpr ⟨hR1 p (hR p (.tail _ hp)), fun q => by
      have q1 := hR2 p (hR p (.tail _ hp))
      have q2 := ltN (lL p hp)
      simp only [List.mem_cons, List.not_mem_nil, or_false] at q
      rcases q with q | q | q
      · exact q1.1 q
      · exact q1.2 q
      · exact absurd q (Nat.ne_of_lt (Nat.lt_succ_of_lt q2))⟩)
    k_dflt (refine' comp_pairs (xa := Str.ofString "first") (xb := Str.ofString "behind") (st := st) (Inv := fun j ys K => IntsAre ys (((st.take j).filter fun p => decide (p.2 = k)).map fun p => ((mv st p.1.toNat + 1 : Nat) : Int))) ?hh ?ht ?hl ?hsz ?hab ?hce ?hki ?hxa ?hxb ?cF ?cN ?h0 ?turn ?done)
    (case hh => exact rfl)
    (case ht => exact rfl)
    (case cF => exact F5)
    (case cN => exact N5)
    (case hl => exact hPn.mono (fun p hp => by simp [hp]))
    (case hsz => rw [sizeLine_eq]; omega)
    (case hab => decide)
    (case hce => decide)
    (case hki => exact rfl)
    (case hxa => exact rfl)
    (case hxb => exact rfl)
    (case h0 => exact intsNil)
    (case turn =>
      clear F5 N5
      intro j a b ta tb I oI C oC D ys K m₂ h tk E' hj hsj hI ha hb hC F6 N6 off ne
      refine wpAny_tests_one ?_
      k_steps
      · refine Halt.go ?_
        have hab := hs (a, b) (List.mem_of_getElem? hsj)
        refine genC ?_
        intro C9 kC9
        obtain ⟨h0a, hlab, _⟩ := hab
        refine kC9 ?_
        clear kC9 C9
        dsimp only at h0a hlab
        have hbk : b = k := by assumption
        have hxa : x[a.toNat]? = some ((mv st a.toNat : Nat) : Int) := by rw [hx]; exact most_at (by omega)
        k_dflt (refine' ints_item (l := Ma) (n := vn) (by k_asm) (by simp) hvi h0a ?i1 hxa ?_)
        (case i1 => omega)
        intro t8
        k_steps
        (rename News _ _ _ _ => N8)
        (rename Fr _ _ _ _ => F8)
        k_dflt (refine CEnd.intro K F8 N8 (fun p hp => hp) off.left ?_)
        rw [tk_true hsj (by simp [hbk])]
        exact hI.append ints1
      · (rename News _ _ _ _ => N8)
        (rename Fr _ _ _ _ => F8)
        k_dflt (refine CEnd.intro K F8 N8 (fun p hp => hp) off.left ?_)
        rw [tk_false hsj (by simp; assumption)]
        exact hI)
    (case done =>
      clear F5 N5
      intro D ys K h tk hI F6 N6 hD1 hD2
      (try dsimp only)
      rw [List.take_length] at hI
      replace N6 := News.sub (l' := (D, listOf ys.toArray ys.length) :: (Dl, listOf #[Value.int (↑(mv st i)) t9] 0) :: (Ma, listOf vs.toArray vn) :: (L8 + 1 + 1, _) :: (L8 + 1, om) :: offL [Ma, L8 + 1 + 1, L8 + 1] news₁) N6 (fun p hp => by
        rcases List.mem_cons.mp hp with rfl | hp
        · exact .head _
        · exact .tail _ (List.mem_append_right _ hp))
      have hcnt : ((st.filter fun p => decide (p.2 = k)).map fun p => ((mv st p.1.toNat + 1 : Nat) : Int)).length ≤ 11 := by rw [List.length_map]; exact Nat.le_trans (List.length_filter_le _ _) hst
      k_dflt (refine' add_lists_ints F6 N6 (News.isList N6 (.tail _ (.head _))) (News.isList N6 (.head _)) ints1 hI ?_ ?hsz)
      (case hsz => rw [sizeLine_eq, List.length_singleton]; omega)
      intro h5 F5 N5 hI5
      k_steps
      refine Halt.go ?_
      k_dflt (refine' kso_max F5 N5 (News.isList N5 (.head _)) hI5 ?hne rfl ?_)
      (case hne => simp)
      intro h6 M tM tk6 F7 N7 hM1 hM2
      have eM : M = ((mv st (i + 1) : Nat) : Int) := by
        have e2 : (st.filter fun p => decide (p.2 = k)).map (fun p => ((mv st p.1.toNat + 1 : Nat) : Int)) = ((st.filter fun p => decide (p.2 = (i : Int) + 1)).map fun p => mv st p.1.toNat + 1).map Int.ofNat := by
          have e3 : k = (i : Int) + 1 := by omega
          rw [e3, List.map_map]; rfl
        rw [mv_succ hs]
        exact max_is (by rw [← e2]; exact hM1) (by rw [← e2]; exact hM2)
      subst eM
      replace N7 := News.sub N7 (fun p hp => List.mem_cons_of_mem _ (List.mem_cons_of_mem _ (List.mem_cons_of_mem _ hp)))
      clear N5 F5 N6 F6
      have nz : vs.toArray.size ≤ sizeLine := by rw [sizeLine_eq, List.size_toArray]; omega
      have nC : Ma ≠ L8 + 1 := Nat.ne_of_gt lM.2.1
      k_steps
      (rename News _ _ _ _ => N8)
      (rename Fr _ _ _ _ => F8)
      have ev : vs.toArray.push (Value.int (((mv st (i + 1) : Nat) : Int)) tM) = (vs ++ [Value.int (((mv st (i + 1) : Nat) : Int)) tM]).toArray := by simp
      rw [ev] at N8
      k_dflt (refine TEnd.next ((mostL st (i + 1)).map Int.ofNat) F8 N8 ⟨fun p hp => ?_, ⟨_, _, ?_, .head _⟩, ⟨_, _, .tail _ (.head _), by assumption⟩, hne, hR2⟩ ⟨⟨t', rfl, rfl, trivial⟩, rfl⟩)
      · have q := hR2 p hp
        rcases sp9 p (hR1 p hp) with rfl | rfl | rfl | h9
        · exact absurd rfl q.1
        · exact absurd rfl q.2
        · simp
        · simp [h9]
      · rw [mostL_succ, List.map_append, ← hx]
        exact hvi.append ints1))
  (case done2 =>
    clear F3 N3 hr3
    intro m₁ x news₁ h tk hr95 hr96 F4 N4
    refine genC ?_
    intro C9 kC9
    obtain ⟨⟨t', hp⟩, rfl⟩ := hr95
    obtain ⟨hR1, hI, hc, hne, hR2⟩ := hr96
    refine kC9 ?_
    clear kC9 C9
    replace F4 := Fr.pin F4 hp
    dsimp only [pinned, envOfC] at F4 N4
    have e1 := hR1 _ (.head _)
    k_steps
    exact hret _ _ _ _ (by k_asm) (by k_asm) ⟨Ma, rfl, hI, fun p hp => hR1 p (.tail _ hp)⟩)
end
section
section
variable {prog : Program} {w : World} {A : Around} {E : Value → Shared → Prop} {s : Shared} {h₀ : Heap} {L : Addr} {m : Str → Option Value} {news : Led} {Q : Value → Shared → Prop} {u : Tok}
theorem rs_Y10 : True := by
  w_top off
  exact True.intro
theorem ints_last {value slice : Expr} {l : Addr} {vs : List Value} {ms : List Int} {n : Nat} {x : Int} (N : News h₀ L s.heap news) (hm : (l, listOf vs.toArray n) ∈ news) (hi : IntsAre vs ms) (h0 : 0 < ms.length) (hk : ms[ms.length - 1]? = some x) (h : ∀ t', Q (.int x t') s)
    (hs : subscripted slice false (.ref l) (.int (-1) u) = operate [.ref l, .int (-1) u] (getItem (.ref l) (.int (-1) u)) := by with_unfolding_all rfl) (hg : ∀ r, letTemporaryGo value (.ref l) r = pure () := by intro _; with_unfolding_all rfl) :
    wpAny (model prog w) A (subscriptTail value slice (.ref l) (.int (-1) u)) Q E s := by
  have hl := News.isList N hm
  obtain ⟨t', e⟩ := hi.get _ x hk
  have hz : vs.toArray.size = ms.length := by rw [List.size_toArray, hi.length]
  refine subscriptTail_builtin hl.typeIs slot_list_getitem.lookup (wpAny_getItem_list_neg hl (by decide) (by rw [hz]; omega) (by decide) ?_ (h t')) hs hg
  have : (-1 + (vs.toArray.size : Int)).toNat = ms.length - 1 := by rw [hz]; omega
  rw [this]; simpa using e
end
local macro_rules | `(tactic| walk_at "subscriptTail Name UnaryOp ref int") => `(tactic| (k_here; refine halt ?_))
local macro_rules | `(tactic| walk_at "subscriptTail Name Name ref int") => `(tactic| (k_here; refine halt ?_))
def grp (st : List (Int × Int)) (j : Nat) : List Int := (st.filter fun p => decide (lvl st p.1 = j)).map (·.1)
theorem dueL_grp (st : List (Int × Int)) (n : Nat) : dueL st n = (List.range (mv st n)).map (grp st) := rfl
/-- lists of ints -/
def GroupsOf (ys : List Value) (gs : List (List Int)) (K : Led) : Prop := ys.length = gs.length ∧ ∀ (i : Nat) ns, gs[i]? = some ns → ∃ G, ys[i]? = some (.ref G) ∧ IntsAt G ns K
theorem IntsAt.mono {l : Addr} {ns : List Int} {K K' : Led} (h : IntsAt l ns K) (k : ∀ p ∈ K, p ∈ K') : IntsAt l ns K' := let ⟨vs, n, a, b⟩ := h; ⟨vs, n, a, k _ b⟩
theorem GroupsOf.nil {K : Led} : GroupsOf [] [] K := ⟨rfl, fun i ns h => by simp at h⟩
theorem GroupsOf.mono {ys : List Value} {gs : List (List Int)} {K K' : Led} (h : GroupsOf ys gs K) (k : ∀ p ∈ K, p ∈ K') : GroupsOf ys gs K' :=
  ⟨h.1, fun i ns e => let ⟨G, a, b⟩ := h.2 i ns e; ⟨G, a, b.mono k⟩⟩
theorem GroupsOf.snoc {ys : List Value} {gs : List (List Int)} {K : Led} {G : Addr} {ns : List Int} (h : GroupsOf ys gs K) (hm : IntsAt G ns K) : GroupsOf (ys ++ [.ref G]) (gs ++ [ns]) K := by
  refine ⟨by simp [h.1], fun i x e => ?_⟩
  rcases Nat.lt_trichotomy i gs.length with h1 | h1 | h1
  · rw [List.getElem?_append_left h1] at e
    obtain ⟨G', q1, q2⟩ := h.2 i x e
    exact ⟨G', by rw [List.getElem?_append_left (by rw [h.1]; exact h1)]; exact q1, q2⟩
  · subst h1
    simp at e
    subst e
    exact ⟨G, by rw [← h.1]; simp, hm⟩
  · rw [List.getElem?_eq_none (by simp; omega)] at e; cases e
/-- a list of lists of ints -/
def GroupsAt (l : Addr) (gs : List (List Int)) (news : Led) : Prop := ∃ ys n, GroupsOf ys gs news ∧ (l, listOf ys.toArray n) ∈ news
theorem lvl_item {st : List (Int × Int)} {n : Nat} (hs : Str1 st n) {a b : Int} (h : (a, b) ∈ st) : ((mostL st n).map Int.ofNat)[a.toNat]? = some ((lvl st a : Nat) : Int) := by
  obtain ⟨h1, h2, h3⟩ := hs _ h
  dsimp only at h1 h2 h3
  exact most_at (by omega)
theorem mv_le {st : List (Int × Int)} {n : Nat} (hs : Str1 st n) : ∀ k, mv st k ≤ k
  | 0 => Nat.le_refl _
  | k + 1 => by
    rcases Nat.eq_zero_or_pos (mv st (k + 1)) with h | h
    · omega
    · obtain ⟨p, h1, h2, h3⟩ := lvl_ex hs (x := ((k + 1 : Nat) : Int)) (by show 0 < mv st _; simpa using h)
      have e : lvl st ((k + 1 : Nat) : Int) = mv st (k + 1) := rfl
      have h4 := hs p h1
      have h5 : lvl st p.1 ≤ mv st k := mv_mono hs (by omega)
      have := mv_le hs k
      omega
set_option maxRecDepth 100000 in
set_option maxHeartbeats 8000000 in
theorem lawGroupsDue {w : World} {st : List (Int × Int)} {Sx Ma : Addr} {n : Nat} {news : Led} (hP : PairsAt Sx st news) (hM : IntsAt Ma ((mostL st n).map Int.ofNat) news) (hst : st.length ≤ 11) (hn : n ≤ 11) (hs : Str1 st n) :
    Ctr w 222 [.ref Sx, .ref Ma] 100 900 news (fun r news' => ∃ Da, r = .ref Da ∧ GroupsAt Da (dueL st n) news' ∧ ∀ p ∈ news, p ∈ news') := by
  unfold Ctr
  k_fill
  intro mean mg mb dp un gd cn nm ig ic mo ad ccd cl outer A₀ base h₀ L m s Q E B F X N T hd hu hret
  refine wpAny_call ?_
  k_enter
  refine genC ?_
  intro C9 kC9
  obtain ⟨vs, vn, hvi, hv⟩ := hM
  refine kC9 ?_
  clear kC9 C9
  k_steps
  refine Halt.go ?_
  have hlm : ((mostL st n).map Int.ofNat).length = n + 1 := by rw [List.length_map, mostL_length]
  k_dflt (refine' ints_last (x := ((mv st n : Nat) : Int)) (by k_asm) (l := Ma) (n := vn) (by simp [hv]) hvi ?i0 ?i1 ?_)
  (case i0 => omega)
  (case i1 => rw [hlm]; exact most_at (Nat.le_refl _))
  intro t9
  k_steps
  (rename News _ _ _ _ => N3)
  (rename Fr _ _ _ _ => F3)
  (rename IsRange _ _ _ _ _ _ _ _ => hr3)
  have hmv := mv_le hs n
  k_dflt (refine' comp_rangeK (x := Str.ofString "k") (n := mv st n) (Inv := fun i ys K => GroupsOf ys ((List.range i).map (grp st)) K) ?hh ?ht ?hr ?hsm ?hn ?hsz ?hcf ?hpc ?hx ?hki ?hkx ?cF ?cN ?h0 ?turn ?done)
  (case hh => exact rfl)
  (case ht => exact rfl)
  (case hr => exact hr3)
  (case hsm => exact small_one (by omega) (by omega) (by omega) (by omega))
  (case hn => exact (rangeSize_nat _ _).trans (by simp))
  (case hsz => rw [sizeLine_eq]; omega)
  (case hcf => exact fun _ => rfl)
  (case hpc => exact fun _ => rfl)
  (case hx => exact rfl)
  (case hki => exact rfl)
  (case hkx => exact fun _ _ => rfl)
  (case cF => exact F3)
  (case cN => exact N3)
  (case h0 => exact GroupsOf.nil)
  (case turn =>
    clear F3 N3 hr3
    rintro i v I oI C oC Ck oK D ys K h tk E' hi ⟨t', rfl⟩ hI hC hK F4 N4 off ne offK offRK
    rw [List.forIn_nil]
    refine wpAny_pure ?_
    simp only [if_true]
    rw [Int.zero_add] at hK
    k_steps
    (rename News _ _ _ _ => N5)
    (rename Fr _ _ _ _ => F5)
    k_dflt (refine' comp_pairs (xa := Str.ofString "first") (xb := Str.ofString "behind") (st := st) (Inv := fun j zs Kj => IntsAre zs (((st.take j).filter fun p => decide (lvl st p.1 = i)).map (·.1))) ?hh ?ht ?hl ?hsz ?hab ?hce ?hki ?hxa ?hxb ?cF ?cN ?h0 ?turn2 ?done2)
    (case hh => exact rfl)
    (case ht => exact rfl)
    (case cF => exact F5)
    (case cN => exact N5)
    (case hl => exact hP.mono (fun p hp => by simp [hp]))
    (case hsz => rw [sizeLine_eq]; omega)
    (case hab => decide)
    (case hce => decide)
    (case hki => exact rfl)
    (case hxa => exact rfl)
    (case hxb => exact rfl)
    (case h0 => exact intsNil)
    (case turn2 =>
      clear F5 N5
      intro j a b ta tb I2 oI2 C2 oC2 D2 zs K2 m₂ h tk E' hj hsj hI2 ha hb hC2 F6 N6 off2 ne2
      refine wpAny_tests_one ?_
      k_steps
      refine Halt.go ?_
      have hab := hs (a, b) (List.mem_of_getElem? hsj)
      refine genC ?_
      intro C9 kC9
      obtain ⟨h0a, hlab, hbn⟩ := hab
      refine kC9 ?_
      clear kC9 C9
      dsimp only at h0a hlab hbn
      k_dflt (refine' ints_item (l := Ma) (n := vn) (by k_asm) (by simp [hv]) hvi h0a ?i1 (lvl_item hs (List.mem_of_getElem? hsj)) ?_)
      (case i1 => omega)
      intro t8
      k_steps
      · (rename News _ _ _ _ => N8)
        (rename Fr _ _ _ _ => F8)
        k_dflt (refine CEnd.intro K2 F8 N8 (fun p hp => hp) off2.left ?_)
        rw [tk_true hsj (by simp; omega)]
        exact hI2.append ints1
      · (rename News _ _ _ _ => N8)
        (rename Fr _ _ _ _ => F8)
        k_dflt (refine CEnd.intro K2 F8 N8 (fun p hp => hp) off2.left ?_)
        rw [tk_false hsj (by simp; omega)]
        exact hI2)
    (case done2 =>
      clear F5 N5
      intro D2 zs K2 h tk hI2 F6 N6 hD1 hD2
      rw [List.take_length] at hI2
      (try dsimp only)
      k_steps

      k_dflt (refine CEnd.intro ((D2, listOf zs.toArray zs.length) :: K) F6 N6 (fun p hp => ?_) (Off.cons off.left ?_ ?_ ?_) ⟨?_, ?_⟩)
      · simp only [List.mem_cons, List.mem_append, List.cons_append] at hp ⊢
        rcases hp with h | h | h | h | h | h
        · simp [h]
        · simp [h]
        · simp [h]
        · simp [h]
        · simp [h]
        · simp only [h, or_true]
      · exact Ne.symm (hD1 (I, oI) (by simp))
      · exact Ne.symm (hD1 (C, oC) (by simp))
      · exact Ne.symm (hD1 (D, LCg.lst ys) (by simp))
      · rw [List.range_succ, List.map_append]
        exact (hI.mono fun p hp => .tail _ hp).snoc ⟨zs, _, hI2, .head _⟩
      · intro p hp
        rcases List.mem_cons.mp hp with rfl | hp
        · exact Ne.symm (hD1 (Ck, oK) (by simp))
        · exact offK p hp))
  (case done =>
    intro D ys K h tk hI F4 N4 hD1 hD2
    clear F3 N3 hr3
    (try dsimp only)
    k_steps
    refine hret _ _ _ _ (by k_asm) (by k_asm) ⟨D, rfl, ⟨ys, _, ?_, .head _⟩, fun p hp => List.mem_cons_of_mem _ (List.mem_append_right _ (by simp [hp]))⟩
    rw [dueL_grp]
    exact hI.mono fun p hp => List.mem_cons_of_mem _ (List.mem_append_left _ hp))
end
section
local macro_rules | `(tactic| walk_at "pad") => `(tactic| fail)
local macro_rules | `(tactic| walk_at "subscriptTail Name Name ref int") => `(tactic| (k_here; refine halt ?_))
local macro_rules | `(tactic| walk_at "call builtin:min") => `(tactic| (k_here; refine halt ?_))
theorem rs_Y11 : True := by
  w_top off
  exact True.intro
theorem ans_ok {st : List (Int × Int)} {x : Int} {a b : Int} (h1 : (a, b) ∈ (st.filter fun p => decide ((lvl st p.1 : Int) = (lvl st x : Int) - 1)).map fun p => (p.2, -p.1))
    (h2 : ∀ q ∈ (st.filter fun p => decide ((lvl st p.1 : Int) = (lvl st x : Int) - 1)).map fun p => (p.2, -p.1), lexlt q (a, b) = false) : spanOf st x = some (-b, a) := by
  obtain ⟨p, hp, e⟩ := List.mem_map.mp h1
  obtain ⟨hp1, hp2⟩ := List.mem_filter.mp hp
  rw [decide_eq_true_eq] at hp2
  obtain ⟨rfl, rfl⟩ := Prod.mk.inj e
  refine (spanOf_is st x).uniq (o' := some (- -p.1, p.2)) ?_
  rw [Int.neg_neg]
  refine ⟨⟨hp1, by show lvl st p.1 + 1 = lvl st x; omega⟩, fun q hq => ?_⟩
  have h3 := h2 (q.2, -q.1) (List.mem_map.mpr ⟨q, List.mem_filter.mpr ⟨hq.1, by rw [decide_eq_true_eq]; omega⟩, rfl⟩)
  rw [lexlt_false] at h3
  dsimp only at h3 ⊢
  omega
theorem lvl_at {st : List (Int × Int)} {n : Nat} {x : Int} (h0 : 0 ≤ x) (h1 : x ≤ n) : ((mostL st n).map Int.ofNat)[x.toNat]? = some ((lvl st x : Nat) : Int) := most_at (by omega)
set_option maxRecDepth 100000 in
set_option maxHeartbeats 8000000 in
theorem lawAnswerDue {w : World} {st : List (Int × Int)} {Sx Ma : Addr} {n : Nat} {x : Int} {u : Tok} {news : Led} (hP : PairsAt Sx st news) (hM : IntsAt Ma ((mostL st n).map Int.ofNat) news) (hst : st.length ≤ 11) (hn : n ≤ 11) (hs : Str1 st n) (hx0 : 0 ≤ x) (hx1 : x ≤ n) :
    Ctr w 210 [.ref Sx, .ref Ma, .int x u] 100 900 news (fun r news' => PairRes r (spanOf st x) news' ∧ ∀ p ∈ news, p ∈ news') := by
  unfold Ctr
  k_fill
  intro mean mg mb dp un gd cn nm ig ic mo ad ccd cl outer A₀ base h₀ L m s Q E B F X N T hd hu hret
  refine genC ?_
  intro C9 kC9
  obtain ⟨vs, vn, hvi, hv⟩ := hM
  refine kC9 ?_
  clear kC9 C9
  have hxa := lvl_at (st := st) hx0 hx1
  refine wpAny_call ?_
  k_enter
  k_steps
  refine Halt.go ?_
  k_dflt (refine' ints_item (l := Ma) (n := vn) (by k_asm) (by simp [hv]) hvi hx0 ?i1 hxa ?_)
  (case i1 => omega)
  intro t9
  k_steps
  · have h0 : lvl st x = 0 := by omega
    exact hret _ _ _ _ (by k_asm) (by k_asm) ⟨by rw [(spanOf_none hs).mpr h0]; rfl, fun p hp => by simp [hp]⟩
  · (rename News _ _ _ _ => N5)
    (rename Fr _ _ _ _ => F5)
    have hne : (lvl st x : Int) ≠ 0 := by assumption
    k_dflt (refine' comp_pairs (xa := Str.ofString "first") (xb := Str.ofString "behind") (st := st) (Inv := fun j ys K => PairsOf ys (((st.take j).filter fun p => decide ((lvl st p.1 : Int) = (lvl st x : Int) - 1)).map fun p => (p.2, -p.1)) K) ?hh ?ht ?hl ?hsz ?hab ?hce ?hki ?hxa ?hxb ?cF ?cN ?h0 ?turn ?done)
    (case hh => exact rfl)
    (case ht => exact rfl)
    (case cF => exact F5)
    (case cN => exact N5)
    (case hl => exact hP.mono (fun p hp => by simp [hp]))
    (case hsz => rw [sizeLine_eq]; omega)
    (case hab => decide)
    (case hce => decide)
    (case hki => exact rfl)
    (case hxa => exact rfl)
    (case hxb => exact rfl)
    (case h0 => exact PairsOf.nil)
    (case turn =>
      clear F5 N5
      intro j a b ta tb I oI C oC D ys K m₂ h tk E' hj hsj hI ha hb hC F6 N6 off ne
      refine genC ?_
      intro C9 kC9
      obtain ⟨h0a, hlab, hbn⟩ := hs (a, b) (List.mem_of_getElem? hsj)
      refine kC9 ?_
      clear kC9 C9
      dsimp only at h0a hlab hbn
      refine wpAny_tests_one ?_
      k_steps
      refine Halt.go ?_
      k_dflt (refine' ints_item (l := Ma) (n := vn) (by k_asm) (by simp [hv]) hvi h0a ?i1 (lvl_item hs (List.mem_of_getElem? hsj)) ?_)
      (case i1 => omega)
      intro t8
      k_steps
      refine Halt.go ?_
      k_dflt (refine' ints_item (l := Ma) (n := vn) (by k_asm) (by simp [hv]) hvi hx0 ?i1 hxa ?_)
      (case i1 => omega)
      intro t7
      k_steps
      · (rename News _ _ _ _ => N8)
        (rename Fr _ _ _ _ => F8)
        (rename (_ ∧ _ ∧ _ ∧ AllLt _ _) => l8)
        refine genC ?_
        intro C9 kC9
        obtain ⟨g1, g2, g3, -⟩ := l8
        refine kC9 ?_
        clear kC9 C9
        k_dflt (refine CEnd.intro ((_, _) :: K) F8 N8 cs_sub (Off.cons off.left (Nat.ne_of_gt g1) (Nat.ne_of_gt g2) (Nat.ne_of_gt g3)) ?_)
        rw [tk_true hsj (by simp; omega)]
        exact (hI.mono fun p hp => List.mem_cons_of_mem _ hp).snoc (.head _)
      · (rename News _ _ _ _ => N8)
        (rename Fr _ _ _ _ => F8)
        k_dflt (refine CEnd.intro K F8 N8 (fun p hp => hp) off.left ?_)
        rw [tk_false hsj (by simp; omega)]
        exact hI)
    (case done =>
      clear F5 N5
      intro D ys K h tk hI F6 N6 hD1 hD2
      rw [List.take_length] at hI
      (try dsimp only)
      k_steps
      refine Halt.go ?_
      have hps : 0 < ((st.filter fun p => decide ((lvl st p.1 : Int) = (lvl st x : Int) - 1)).map fun p => (p.2, -p.1)).length := by
        refine genC ?_
        intro C9 kC9
        obtain ⟨p, q1, q2, q3⟩ := lvl_ex hs (x := x) (by omega)
        refine kC9 ?_
        clear kC9 C9
        exact List.length_pos_of_mem (List.mem_map_of_mem (List.mem_filter.mpr ⟨q1, by rw [decide_eq_true_eq]; omega⟩))
      k_dflt (refine' min_pairs (ys := ys) (nn := ys.length) rfl ?hu F6 N6 (.head _) (hI.mono fun p hp => List.mem_cons_of_mem _ (List.mem_append_left _ hp)) hps ?_)
      (case hu => ktr_units)
      intro T a b ta tb n9 h9 tk9 F9 N9 hm1 hm2 hT
      have hans := ans_ok hm1 hm2
      k_steps
      exact hret _ _ _ _ (by k_asm) (by k_asm) ⟨by rw [hans]; exact ⟨_, _, _, _, rfl, .head _⟩, fun p hp => by simp [hp]⟩)
end
section
theorem rs_Y12 : True := by
  w_top off
  exact True.intro
/-- the tables beside a frame -/
def Tabs (_x : Unit) (R news : Led) : Prop := ∃ K, CS K ∧ (∀ p ∈ K ++ R, p ∈ news) ∧ ∀ p ∈ R, ∀ q ∈ K, p.1 ≠ q.1
theorem tabs_framed : Framed Tabs where
  sub := fun ⟨_, _, h, _⟩ p hp => h p (List.mem_append_right _ hp)
  add := fun {x R n y o} ⟨K, hC, hs, hd⟩ h => ⟨K, hC, fun p hp => by
      rcases List.mem_append.mp hp with hp | hp
      · exact .tail _ (hs p (List.mem_append_left _ hp))
      · rcases List.mem_cons.mp hp with rfl | hp
        · exact .head _
        · exact .tail _ (hs p (List.mem_append_right _ hp)), fun p hp q hq => by
      rcases List.mem_cons.mp hp with rfl | hp
      · exact Ne.symm (h q (hs q (List.mem_append_left _ hq)))
      · exact hd p hp q hq⟩
  drop := fun {x R n y o} ⟨K, hC, hs, hd⟩ h => ⟨K, hC, fun p hp => by
      refine mem_offL.mpr ?_
      rcases List.mem_append.mp hp with hp | hp
      · exact ⟨hs p (List.mem_append_left _ hp), fun e => hd (y, o) (.head _) p hp (List.mem_singleton.mp e).symm⟩
      · exact ⟨hs p (List.mem_append_right _ (.tail _ hp)), fun e => h p hp (List.mem_singleton.mp e)⟩, fun p hp q hq => hd p (.tail _ hp) q hq⟩
theorem Tabs.off {K R news news' : Led} (hC : CS K) (hs : ∀ p ∈ K ++ R, p ∈ news) (hd : ∀ p ∈ R, ∀ q ∈ K, p.1 ≠ q.1) (T : TabPost CS news K news') (h : OffTabs news news') : Tabs () R news' := by
  obtain ⟨K', hC', hs', hn⟩ := T
  obtain ⟨o1, h1⟩ := hC.h150
  obtain ⟨o2, h2⟩ := hC.h157
  refine ⟨K', hC', fun p hp => ?_, fun p hp q hq e => ?_⟩
  · rcases List.mem_append.mp hp with hp | hp
    · exact hs' p hp
    · exact h p (hs p (List.mem_append_right _ hp)) (hd p hp _ h1) (hd p hp _ h2)
  · rcases hn q hq with z | z | z | z
    · exact hd p hp q z e
    · exact hd p hp _ h1 (e.trans z)
    · exact hd p hp _ h2 (e.trans z)
    · exact z p (hs p (List.mem_append_right _ hp)) e
theorem Tabs.wk {x : Unit} {R news news' : Led} (h : Tabs x R news) (k : ∀ p ∈ news, p ∈ news') : Tabs x R news' := let ⟨K, a, b, c⟩ := h; ⟨K, a, fun p hp => k p (b p hp), c⟩
set_option maxRecDepth 100000 in
set_option maxHeartbeats 8000000 in
theorem lawToldRight {w : World} {ds : List Nat} {t : Tok} {Sx Ma : Addr} {R news : Led} (hlen : ds.length ≤ 11) (hd4 : ∀ d ∈ ds, d ≤ 4) (hT : Tabs () R news) (hP : PairsAt Sx (stretches ds) R) (hM : IntsAt Ma ((mostL (stretches ds) ds.length).map Int.ofNat) R) :
    Ctr w 217 [.str (rowStr ds) t, .ref Sx, .ref Ma] 600 4800 news (fun r news' => r = .bool true ∧ Tabs () R news') := by
  unfold Ctr
  k_fill
  intro mean mg mb dp un gd cn nm ig ic mo ad ccd cl outer A₀ base h₀ L m s Q E B F X N T hd hu hret
  have hst : (stretches ds).length ≤ 11 := Nat.le_trans (stretches_len ds) hlen
  have hs := stretches_str ds
  generalize hste : stretches ds = st at *
  refine wpAny_call ?_
  k_enter
  k_steps
  (rename News _ _ _ _ => N3)
  (rename Fr _ _ _ _ => F3)
  (rename IsRange _ _ _ _ _ _ _ _ => hr3)
  k_dflt (refine' iter_range (Φ := Tabs) (x₀ := ()) (R := R) (Inv := fun i m x => (∃ t', Pins m [(Str.ofString "row", .str (rowStr ds) t'), (Str.ofString "stretches", .ref Sx), (Str.ofString "most", .ref Ma)])) tabs_framed ?hh ?hl ?hsm ?hn ?cF ?cN ?hgo ?cq ?i0 ?turn2 ?done2)
  (case hh => exact rfl)
  (case cF => exact F3)
  (case cN => exact N3)
  (case hl => exact hr3)
  (case hsm => exact small_one (by omega) (by omega) (by omega) (by omega))
  (case hn => exact (rangeSize_nat _ _).trans (show _ = ((ds.length + 1 : Nat) : Int) by omega))
  (case cq => exact hT)
  (case hgo => exact fun _ _ => rfl)
  (case i0 => exact ⟨_, rfl, rfl, rfl, trivial⟩)
  (case turn2 =>
    clear F3 N3 hr3
    intro i tt m₁ x R₁ news₁ h tk hi hr99 hR hr911 F4 N4
    refine genC ?_
    intro C9 kC9
    obtain ⟨t', hp⟩ := hr99
    obtain ⟨K, hC, hKs, hKd⟩ := hr911
    refine kC9 ?_
    clear kC9 C9
    rw [Int.mul_one, Int.zero_add]
    replace F4 := Fr.pin F4 hp
    dsimp only [pinned, envOf] at F4 N4
    (try k_fold)
    k_steps
    refine Halt.go ?_
    refine' ctr_use ?cB ?cF ?cX ?cN ?cT (lawSpan (x := (i : Int)) hlen hd4 (fun p hp => hKs p (List.mem_append_left _ hp)) hC) ?cd ?cu ?_
    (case cB => k_asm)
    (case cF => k_asm)
    (case cX => k_asm)
    (case cN => k_asm)
    (case cT => k_asm)
    (case cd => ktr_room)
    (case cu => ktr_units)
    intro r9 news9 h9 tk9 F9 N9 P9
    (try dsimp only)
    (try k_fold)
    rw [hste] at P9
    refine genC ?_
    intro C9 kC9
    obtain ⟨hR9, hT9, hO9⟩ := P9
    refine kC9 ?_
    clear kC9 C9
    have T5 := Tabs.off hC hKs hKd hT9 hO9
    clear hC hKs hKd hT9 hO9
    k_steps
    refine Halt.go ?_
    have hP9 := hP.mono fun p hp => tabs_framed.sub T5 p (hR p hp)
    have hM9 := hM.mono fun p hp => tabs_framed.sub T5 p (hR p hp)
    have hx1 : (i : Int) ≤ (ds.length : Nat) := by omega
    clear hT
    have hA := lawAnswerDue (w := w) (x := (i : Int)) (u := tt) hP9 hM9 hst hlen hs (Int.natCast_nonneg _) hx1
    cases hso : spanOf st (i : Int) with
    | none =>
      rw [hso] at hR9 hA
      obtain rfl : r9 = .none := hR9
      refine' ctr_use ?cB ?cF ?cX ?cN ?cT (hA) ?cd ?cu ?_
      (case cB => k_asm)
      (case cF => k_asm)
      (case cX => k_asm)
      (case cN => k_asm)
      (case cT => k_asm)
      (case cd => ktr_room)
      (case cu => ktr_units)
      intro r9 news9 h9 tk9 F9 N9 P9
      (try dsimp only)
      (try k_fold)
      obtain ⟨hR8, hK8⟩ := P9
      obtain rfl : r9 = .none := hR8
      k_steps
      (rename News _ _ _ _ => N7)
      (rename Fr _ _ _ _ => F7)
      k_dflt (exact TEnd.next () F7 N7 (T5.wk hK8) ⟨_, rfl, rfl, rfl, trivial⟩)
    | some sc =>
      obtain ⟨a, b⟩ := sc
      rw [hso] at hR9 hA
      refine genC ?_
      intro C9 kC9
      obtain ⟨T8, u1, u2, n8, rfl, hT8⟩ := hR9
      refine kC9 ?_
      clear kC9 C9
      refine' ctr_use ?cB ?cF ?cX ?cN ?cT (hA) ?cd ?cu ?_
      (case cB => k_asm)
      (case cF => k_asm)
      (case cX => k_asm)
      (case cN => k_asm)
      (case cT => k_asm)
      (case cd => ktr_room)
      (case cu => ktr_units)
      intro r9 news9 h9 tk9 F9 N9 P9
      (try dsimp only)
      (try k_fold)
      refine genC ?_
      intro C9 kC9
      obtain ⟨hR8, hK8⟩ := P9
      obtain ⟨T7, u3, u4, n7, rfl, hT7⟩ := hR8
      refine kC9 ?_
      clear kC9 C9
      have hT8' := hK8 _ hT8
      dsimp only at hT8' hT7
      k_steps
      (rename News _ _ _ _ => N7)
      (rename Fr _ _ _ _ => F7)
      k_dflt (exact TEnd.next () F7 N7 (T5.wk hK8) ⟨_, rfl, rfl, rfl, trivial⟩))
  (case done2 =>
    clear F3 N3 hr3
    rintro m₁ x news₁ h tk ⟨t', hp⟩ hP F4 N4
    replace F4 := Fr.pin F4 hp
    dsimp only [pinned, envOf] at F4 N4
    k_steps
    exact hret _ _ _ _ (by k_asm) (by k_asm) ⟨rfl, hP⟩)
end
section
local macro_rules | `(tactic| walk_at "subscriptTail Name Slice ref ref") => `(tactic| (k_here; refine halt ?_))
local macro_rules | `(tactic| walk_at "subscriptTail List Slice ref ref") => `(tactic| (k_here; refine halt ?_))
local macro_rules | `(tactic| walk_at "binaryOp Add ref ref") => `(tactic| (k_here; refine halt ?_))
local macro_rules | `(tactic| walk_at "call type:str") => `(tactic| (k_here; refine halt ?_))
local macro_rules | `(tactic| walk_at "call builtin:str.join") => `(tactic| (k_here; refine halt ?_))
theorem rs_Y13 : True := by
  w_top off
  exact True.intro
theorem ints_take : ∀ {vs : List Value} {ns : List Int} (k : Nat), IntsAre vs ns → IntsAre (vs.take k) (ns.take k)
  | _, _, 0, _ => by simpa using (IntsAre.nil : IntsAre [] [])
  | _, _, _ + 1, .nil => .nil
  | _, _, k + 1, .cons n t h => .cons n t (ints_take k h)
theorem ints_drop : ∀ {vs : List Value} {ns : List Int} (k : Nat), IntsAre vs ns → IntsAre (vs.drop k) (ns.drop k)
  | _, _, 0, h => by simpa using h
  | _, _, _ + 1, .nil => .nil
  | _, _, k + 1, .cons n t h => ints_drop k h
section
variable {prog : Program} {w : World} {A : Around} {E : Value → Shared → Prop} {s : Shared} {h₀ : Heap} {L l : Addr} {m : Str → Option Value} {news : Led} {Q : Value → Shared → Prop} {its : Array Value} {vl : Value} {value slice : Expr}
theorem slice_from {ms : List Int} {k : Nat} (F : Fr h₀ L s.heap m) (N : News h₀ L s.heap news) (hl : s.heap.IsList l its) (hi : IntsAre its.toList ms) (hk : k ≤ ms.length) (pl : IsPart vl (some (k : Int)))
    (h : ∀ D zs h', Fr h₀ L h' m → News h₀ L h' ((D, listOf zs.toArray 0) :: news) → (∀ p ∈ news, p.1 < D) → IntsAre zs (ms.drop k) → Q (.ref D) { s with heap := h' })
    (hs : subscripted slice false (.ref l) (.ref s.heap.objs.size) = operate [.ref s.heap.objs.size, .ref l] (getItem (.ref l) (.ref s.heap.objs.size))) (ht : ∀ r, letTemporaryGo value (.ref l) r = pure ()) (hz : its.size ≤ sizeLine) :
    wpAny (model prog w) A (subscriptTail value slice (.ref l) (.ref s.heap.objs.size)) Q E { s with heap := s.heap.push { cls := .type "slice", data := .fields #[vl, .none, .none] } } := by
  refine kms_slice_lit F N hl pl .none rfl (fun D h' F' N' l1 => h D _ h' F' N' l1 ?_) hs ht hz
  have e : kms_pick its.toList (some (k : Int)) none = its.toList.drop k := by
    unfold kms_pick kms_lo kms_hi
    have h1 : ¬ ((k : Int) < 0) := by omega
    have h2 : min ((k : Int).toNat) its.toList.length = k := by rw [hi.length]; omega
    simp only [if_neg h1, h2]
    rw [List.take_of_length_le (by rw [List.length_drop]; exact Nat.le_refl _)]
  rw [e]
  exact ints_drop k hi
end
/-- a contract whose base heap is known in part -/
def CtrH (w : World) (Pre : Heap → Prop) (f : Addr) (args : List Value) (dn ud : Nat) (news : Led) (Post : Value → Led → Prop) : Prop :=
  ∀ (mean : ExcName → Option Value) (mg mb : Str → Option Value) (dp un : Nat) (gd : Option (List Code)) (cn : Str) (nm : List (Str × NameKind)) (ig ic : Bool) (mo : List (Str × PySem.Const)) (a : Addr) (ccd : Value) (cl : List (Str × Addr)) (outer : List Env) (A₀ : Around) (base h₀ : Heap) (L : Addr) (m : Str → Option Value) (s : Shared) (Q E : Value → Shared → Prop),
    Below A₀ base outer h₀ → Fr h₀ L s.heap m → (heapK w.params).In h₀ → News h₀ L s.heap news →
    Top topProg gLoose mean mg mb h₀ → Pre h₀ → dp + dn < recursionLimit → un + ud < cLine →
    (∀ r news' h' tk', Fr h₀ L h' m → News h₀ L h' news' → Post r news' → Q r { s with heap := h', toks := tk' }) →
    wpAny (model PySem.Challenge.rw_mj0221_01.row.prog w) (ktrTop dp un gd cn (PySem.Scope.mk ScopeKind.function nm ig ic mo) L a ccd cl outer) (call (.ref f) args) Q E s
theorem ctrH_use {w : World} {Pre : Heap → Prop} {f : Addr} {args : List Value} {dn ud : Nat} {news : Led} {Post : Value → Led → Prop} {mean : ExcName → Option Value} {mg mb : Str → Option Value} {dp un : Nat} {gd : Option (List Code)} {cn : Str} {nm : List (Str × NameKind)} {ig ic : Bool} {mo : List (Str × PySem.Const)} {a : Addr} {ccd : Value} {cl : List (Str × Addr)} {outer : List Env} {A₀ : Around} {base h₀ : Heap} {L : Addr} {m : Str → Option Value} {s : Shared} {Q E : Value → Shared → Prop}
    (B : Below A₀ base outer h₀) (F : Fr h₀ L s.heap m) (X : (heapK w.params).In h₀) (N : News h₀ L s.heap news)
    (T : Top topProg gLoose mean mg mb h₀) (C : CtrH w Pre f args dn ud news Post) (hp : Pre h₀) (hd : dp + dn < recursionLimit) (hu : un + ud < cLine)
    (ret : ∀ r news' h' tk', Fr h₀ L h' m → News h₀ L h' news' → Post r news' → Q r { s with heap := h', toks := tk' }) :
    wpAny (model PySem.Challenge.rw_mj0221_01.row.prog w) (ktrTop dp un gd cn (PySem.Scope.mk ScopeKind.function nm ig ic mo) L a ccd cl outer) (call (.ref f) args) Q E s :=
  C _ _ _ _ _ _ _ _ _ _ _ _ _ _ _ _ _ _ _ _ _ _ _ B F X N T hp hd hu ret
def fill11 : List Int := [3, 1, 2, 4, 1, 0, 2, 2, 1, 3, 1]
/-- the row's numbers -/
def nums (ns : List Int) : List Int := ns.take 11 ++ fill11.drop (ns.take 11).length
def rowDs (ns : List Int) : List Nat := (nums ns).map fun x => (x % 5).toNat
theorem nums_len (ns : List Int) : (nums ns).length = 11 := by
  unfold nums
  rw [List.length_append, List.length_drop, List.length_take]
  show min 11 ns.length + (11 - min 11 ns.length) = 11
  omega
theorem rowDs_len (ns : List Int) : (rowDs ns).length = 11 := by rw [rowDs, List.length_map, nums_len]
theorem rowDs_le (ns : List Int) : ∀ d ∈ rowDs ns, d ≤ 4 := fun d hd => by
  obtain ⟨x, _, rfl⟩ := List.mem_map.mp hd
  have := Int.emod_lt_of_pos x (show (0 : Int) < 5 by decide)
  have := Int.emod_nonneg x (show (5 : Int) ≠ 0 by decide)
  omega
theorem digit_str (x : Int) : Str.ofString (toString (x % 5)) = ⟨#[48 + (x % 5).toNat]⟩ := by
  have h1 := Int.emod_lt_of_pos x (show (0 : Int) < 5 by decide)
  have h2 := Int.emod_nonneg x (show (5 : Int) ≠ 0 by decide)
  generalize x % 5 = y at h1 h2 ⊢
  have : y = 0 ∨ y = 1 ∨ y = 2 ∨ y = 3 ∨ y = 4 := by omega
  rcases this with rfl | rfl | rfl | rfl | rfl <;> decide +kernel
theorem strs_snoc {vs : List Value} {ys : List Str} {y : Str} {t : Tok} : StrsAre vs ys → StrsAre (vs ++ [.str y t]) (ys ++ [y])
  | .nil => .cons _ _ .nil
  | .cons y' t' h => .cons y' t' (strs_snoc h)
theorem join_fold : ∀ (r : List Nat) (acc : Array Nat), (r.map fun d => (⟨#[48 + d]⟩ : Str)).foldl (fun acc p => acc ++ (Str.ofString "").cps ++ p.cps) acc = acc ++ (r.map fun d => 48 + d).toArray
  | [], acc => by simp
  | d :: r, acc => by
    rw [List.map_cons, List.foldl_cons, join_fold r]
    have e : (Str.ofString "").cps = #[] := by decide +kernel
    rw [e]
    simp
theorem join_row : ∀ (ds : List Nat), PySem.Txt.join (Str.ofString "") (ds.map fun d => (⟨#[48 + d]⟩ : Str)) = rowStr ds
  | [] => by rfl
  | d :: r => by
    unfold PySem.Txt.join PySem.Builtin.Str.glued rowStr
    simp only [List.map_cons, List.drop_one, List.tail_cons, List.headD_cons]
    rw [join_fold r]
    simp
theorem small_log (x : Int) : (x % 5).natAbs.log2 < 1920 := by
  have h1 := Int.emod_lt_of_pos x (show (0 : Int) < 5 by decide)
  have h2 := Int.emod_nonneg x (show (5 : Int) ≠ 0 by decide)
  generalize x % 5 = y at h1 h2 ⊢
  have : y = 0 ∨ y = 1 ∨ y = 2 ∨ y = 3 ∨ y = 4 := by omega
  rcases this with rfl | rfl | rfl | rfl | rfl <;> decide
theorem sum_ones {l : List Int} : ((l.map fun x => (⟨#[48 + (x % 5).toNat]⟩ : Str)).map (·.length)).sum = l.length := by
  induction l with
  | nil => rfl
  | cons a r ih =>
    rw [List.map_cons, List.map_cons, List.sum_cons, ih]
    show 1 + r.length = r.length + 1
    omega
set_option maxRecDepth 100000 in
set_option maxHeartbeats 8000000 in
theorem lawRow {w : World} {sa : Addr} {vs : List Value} {ns : List Int} {news : Led} (hI : IntsAre vs ns) (hn : ns.length ≤ 63) :
    CtrH w (fun h => h.IsList sa vs.toArray) 167 [.ref sa] 100 900 news (fun r news' => (∃ t, r = .str (rowStr (rowDs ns)) t) ∧ ∀ p ∈ news, p ∈ news') := by
  unfold CtrH
  k_fill
  intro mean mg mb dp un gd cn nm ig ic mo ad ccd cl outer A₀ base h₀ L m s Q E B F X N T hPre hd hu hret
  have hl0 := hPre
  refine wpAny_call ?_
  k_enter
  have hl1 : Heap.IsList _ sa vs.toArray := hPre.at (fun o e => Fr.keep (by assumption) _ o e)
  k_steps
  refine Halt.go ?_
  k_dflt (refine' kms_slice_lit (its := vs.toArray) (lo := none) (hi := some 11) (by k_asm) (by k_asm) (Heap.IsList.at hl1 (fun o e => Fr.keep (by assumption) _ _ e)) ?p1 ?p2 rfl ?_ ?s ?t ?z)
  (case p1 => exact .none)
  (case p2 => exact IsPart.int _ _)
  (case s => with_unfolding_all rfl)
  (case t => kmk_pure)
  (case z => rw [sizeLine_eq, List.size_toArray, hI.length]; omega)
  intro D1 h1 F1 N1 l1
  have hI1 : IntsAre (kms_pick vs.toArray.toList none (some 11)) (ns.take 11) := by
    have e : kms_pick vs.toArray.toList none (some 11) = vs.take 11 := by
      unfold kms_pick kms_lo kms_hi
      simp
    rw [e]; exact ints_take 11 hI
  generalize kms_pick vs.toArray.toList none (some 11) = ws at N1 hI1
  have hwl : ws.length = min 11 ns.length := by rw [hI1.length, List.length_take]
  have hwz : ws.toArray.size = min 11 ns.length := by rw [List.size_toArray, hwl]
  k_steps
  refine Halt.go ?_
  k_dflt (refine' slice_from (k := min 11 ns.length) (ms := fill11) (by k_asm) (by k_asm) (News.isList (by k_asm) (.head _)) ?i1 ?i2 ?p1 ?_ ?s ?t ?z)
  (case i1 => repeat (first | exact .nil | refine .cons _ _ ?_))
  (case i2 => show min 11 ns.length ≤ 11; omega)
  (case p1 => rw [← hwz]; exact IsPart.int _ _)
  (case s => with_unfolding_all rfl)
  (case t => kmk_pure)
  (case z => rw [sizeLine_eq]; show (11 : Nat) ≤ _; decide)
  intro D2 zs h2 F2 N2 l2 hI2
  k_steps
  refine Halt.go ?_
  have hzl : zs.length = 11 - min 11 ns.length := by rw [hI2.length, List.length_drop]; rfl
  k_dflt (refine' add_lists_ints F2 N2 (News.isList N2 (.tail _ (.tail _ (.head _)))) (News.isList N2 (.head _)) hI1 hI2 ?_ ?hsz)
  (case hsz => rw [sizeLine_eq, ← hI1.length, ← hI2.length]; omega)
  intro h3 F3 N3 hI3
  have hI4 : IntsAre (ws ++ zs) (nums ns) := by
    unfold nums
    rw [List.length_take]; exact hI3
  clear hI3
  k_steps
  (rename News _ _ _ _ => N5)
  (rename Fr _ _ _ _ => F5)
  k_dflt (refine' comp_list (x := Str.ofString "x") (items := (ws ++ zs).toArray) (nn := 0) (Inv := fun j ys K => StrsAre ys (((nums ns).take j).map fun x => (⟨#[48 + (x % 5).toNat]⟩ : Str))) ?hh ?ht ?hl ?hsz ?hce ?hki ?hx ?cF ?cN ?h0 ?turn ?done)
  (case hh => exact rfl)
  (case ht => exact rfl)
  (case cF => exact F5)
  (case cN => exact N5)
  (case hl => exact .head _)
  (case hsz => rw [sizeLine_eq, List.size_toArray, hI4.length, nums_len]; decide)
  (case hce => decide)
  (case hki => exact rfl)
  (case hx => exact rfl)
  (case h0 => exact .nil)
  (case turn =>
    clear F5 N5
    intro i v I oI C oC D ys K m₂ h tk E' hi hv hI5 hm hC F6 N6 off ne
    refine genC ?_
    intro C9 kC9
    obtain ⟨xi, ti, hxi, rfl⟩ := ints_at hI4 hv
    refine kC9 ?_
    clear kC9 C9
    rw [List.forIn_nil]
    refine wpAny_pure ?_
    simp only [if_true]
    k_steps
    refine Halt.go ?_
    have efm : xi.fmod 5 = xi % 5 := Int.fmod_eq_emod_of_nonneg _ (by decide)
    rw [efm]
    k_dflt (refine P.str_of_int (small_log xi) ?_)
    (rename News _ _ _ _ => N8)
    (rename Fr _ _ _ _ => F8)
    k_dflt (refine CEnd.intro K F8 N8 (fun p hp => hp) off.left ?_)
    have et : ((nums ns).take (i + 1)).map (fun x => (⟨#[48 + (x % 5).toNat]⟩ : Str)) = ((nums ns).take i).map (fun x => (⟨#[48 + (x % 5).toNat]⟩ : Str)) ++ [⟨#[48 + (xi % 5).toNat]⟩] := by
      rw [List.take_add_one, hxi]; simp
    rw [et, digit_str]
    exact strs_snoc hI5)
  (case done =>
    clear F5 N5
    intro D ys K h tk hI5 F6 N6 hD1 hD2
    (try dsimp only)
    k_steps
    refine Halt.go ?_
    have el : ((ws ++ zs).toArray.size) = (nums ns).length := by rw [List.size_toArray, hI4.length]
    rw [el, List.take_length] at hI5
    k_dflt (refine' join_listW (News.isList N6 (.head _)) hI5 ?sep ?wt ?_)
    (case sep => decide +kernel)
    (case wt => rw [sum_ones, List.length_map, nums_len]; decide)
    intro t9 tk9
    k_steps
    refine hret _ _ _ _ (by k_asm) (by k_asm) ⟨⟨t9, ?_⟩, fun p hp => by simp [hp]⟩
    rw [← join_row, rowDs, List.map_map]; rfl)
end
section
open PySem.SeqAt in
section
theorem rs_Y14 : True := by
  w_top off
  exact True.intro
def gData (gs : List (List Int)) : List PyData := gs.map fun ns => PyData.list (ns.map PyData.int)
theorem gData_lay : ∀ gs, PyData.canLayAll0 (gData gs) = true
  | [] => rfl
  | ns :: r => by
    have ih := gData_lay r
    simp only [gData, List.map_cons, PyData.canLayAll0, PyData.canLay0, ke_canLayAll0, Bool.and_true, Bool.true_and] at ih ⊢
    exact ih
theorem gData_depth : ∀ gs, PyData.depthAll (gData gs) ≤ 1
  | [] => Nat.zero_le _
  | ns :: r => by
    have ih := gData_depth r
    simp only [gData, List.map_cons, PyData.depthAll, PyData.depth, ke_depthAll] at ih ⊢
    omega
theorem gData_eqv : ∀ gs, PyData.eqvAll (gData gs) (gData gs) = true
  | [] => by simp [gData, PyData.eqvAll]
  | ns :: r => by
    have ih := gData_eqv r
    simp only [gData, List.map_cons, PyData.eqvAll, PyData.eqv, ked_eqvAll, decide_true, Bool.true_and] at ih ⊢
    exact ih
theorem gData_shaped (gs : List (List Int)) : SeqAt.shaped (.list (gData gs)) = true := by
  have := gData_depth gs
  simp only [SeqAt.shaped, PyData.canLay0, gData_lay, PyData.depth, Bool.true_and]
  exact decide_eq_true (by omega)
theorem reads_groups {h₀ h : Heap} {L : Addr} {news : Led} (N : News h₀ L h news) : ∀ {ys : List Value} {gs : List (List Int)}, GroupsOf ys gs news → ∃ as, ReadsAll h ys (gData gs) as
  | [], [], _ => ⟨_, .nil⟩
  | [], _ :: _, g => by have := g.1; simp at this
  | _ :: _, [], g => by have := g.1; simp at this
  | y :: ys, ns :: gs, g => by
    obtain ⟨G, e, vs, n, hi, hm⟩ := g.2 0 ns rfl
    obtain rfl : y = .ref G := by simpa using e
    obtain ⟨as, ih⟩ := reads_groups N (ys := ys) (gs := gs) ⟨by have := g.1; simpa using this, fun i x q => by
      obtain ⟨G', q1, q2⟩ := g.2 (i + 1) x (by simpa using q)
      exact ⟨G', by simpa using q1, q2⟩⟩
    exact ⟨_, .cons (reads_newData (News.isList N hm) (ke_carried hi)) ih⟩
theorem eq_groups {prog : Program} {w : World} {A : Around} {E : Value → Shared → Prop} {s : Shared} {h₀ : Heap} {L : Addr} {news : Led} {la lb : Addr} {gs : List (List Int)} {Q : Value → Shared → Prop} (N : News h₀ L s.heap news) (ha : GroupsAt la gs news) (hb : GroupsAt lb gs news) (hu : A.units + 64 < cLine)
    (h : Q (.bool true) s) : wpAny (model prog w) A (compareOp .Eq (.ref la) (.ref lb)) Q E s := by
  refine genC ?_
  intro C9 kC9
  obtain ⟨ys, n, g1, m1⟩ := ha
  obtain ⟨zs, n', g2, m2⟩ := hb
  obtain ⟨as, r1⟩ := reads_groups N g1
  obtain ⟨bs, r2⟩ := reads_groups N g2
  refine kC9 ?_
  clear kC9 C9
  refine eq_dataH (reads_list_at (N _ m1).1 rfl rfl r1) (reads_list_at (N _ m2).1 rfl rfl r2) (gData_shaped gs) (gData_shaped gs) hu ?_
  have e : PyData.eqv (.list (gData gs)) (.list (gData gs)) = true := by simp only [PyData.eqv, gData_eqv]
  rw [e]; exact h
end
/-- the groups, as _law_groups leaves them -/
theorem groups_of {news : Led} {gs : List (Nat × List Int)} (h : ∀ x ∈ gs, ∃ vs n, IntsAre vs x.2 ∧ (x.1, listOf vs.toArray n) ∈ news) : GroupsOf (gs.map fun x => Value.ref x.1) (gs.map (·.2)) news := by
  refine ⟨by simp, fun i ns e => ?_⟩
  rw [List.getElem?_map] at e
  cases hx : gs[i]? with
  | none => rw [hx] at e; cases e
  | some x =>
    rw [hx] at e
    cases e
    obtain ⟨vs, n, q1, q2⟩ := h x (List.mem_of_getElem? hx)
    exact ⟨x.1, by rw [List.getElem?_map, hx]; rfl, vs, n, q1, q2⟩
/-- off an entry of another class -/
theorem off_ent {h₀ h : Heap} {L : Addr} {news : Led} (N : News h₀ L h news) {a : Addr} {o : Obj} {as : List Nat} (hm : (a, o) ∈ news) (ha : ∀ x ∈ as, ∃ o', (x, o') ∈ news ∧ o'.cls = .none) (hc : o.cls ≠ .none) : (a, o) ∈ offL as news :=
  mem_offL.mpr ⟨hm, fun q => by
    obtain ⟨o', h1, h2⟩ := ha a q
    have := News.uniq N hm h1
    rw [this] at hc
    exact hc h2⟩
theorem PairsAt.offE {h₀ h : Heap} {L : Addr} {news : Led} (N : News h₀ L h news) {S : Addr} {st : List (Int × Int)} {as : List Nat} (P : PairsAt S st news) (ha : ∀ x ∈ as, ∃ o', (x, o') ∈ news ∧ o'.cls = .none) : PairsAt S st (offL as news) := by
  obtain ⟨vs, n, h1, h2, h3⟩ := P
  refine ⟨vs, n, off_ent N h1 ha (by simp), h2, fun i a b e => ?_⟩
  obtain ⟨T, ta, tb, n', q1, q2⟩ := h3 i a b e
  exact ⟨T, ta, tb, n', q1, off_ent N q2 ha (by simp)⟩
theorem IntsAt.offE {h₀ h : Heap} {L : Addr} {news : Led} (N : News h₀ L h news) {S : Addr} {ns : List Int} {as : List Nat} (P : IntsAt S ns news) (ha : ∀ x ∈ as, ∃ o', (x, o') ∈ news ∧ o'.cls = .none) : IntsAt S ns (offL as news) := by
  obtain ⟨vs, n, h1, h2⟩ := P
  exact ⟨vs, n, h1, off_ent N h2 ha (by simp)⟩
theorem GroupsAt.offE {h₀ h : Heap} {L : Addr} {news : Led} (N : News h₀ L h news) {S : Addr} {gs : List (List Int)} {as : List Nat} (P : GroupsAt S gs news) (ha : ∀ x ∈ as, ∃ o', (x, o') ∈ news ∧ o'.cls = .none) : GroupsAt S gs (offL as news) := by
  obtain ⟨ys, n, h1, h2⟩ := P
  refine ⟨ys, n, ⟨h1.1, fun i ns e => ?_⟩, off_ent N h2 ha (by simp)⟩
  obtain ⟨G, q1, q2⟩ := h1.2 i ns e
  exact ⟨G, q1, q2.offE N ha⟩
theorem GroupsAt.mono {S : Addr} {gs : List (List Int)} {K K' : Led} (h : GroupsAt S gs K) (k : ∀ p ∈ K, p ∈ K') : GroupsAt S gs K' := let ⟨ys, n, a, b⟩ := h; ⟨ys, n, a.mono k, k _ b⟩
/-- the first sorter's levels -/
theorem all_lv {st : List (Int × Int)} {n : Nat} (h : Str1 st n) : Lv (st.reverse.foldl (needO st) SA.nil) (lvl st) ∧ (∀ k, k ∈ (st.reverse.foldl (needO st) SA.nil).D ↔ k ∈ st.map (·.1)) ∧ (st.reverse.foldl (needO st) SA.nil).rdl = none ∧ (st.reverse.foldl (needO st) SA.nil).npo = (st.reverse.foldl (needO st) SA.nil).nfi ∧ ∀ p, ((st.reverse.foldl (needO st) SA.nil).sc p).length ≤ st.length * st.length := by
  have hN : ∀ o ∈ st, o.1 ∈ st.map (·.1) := fun o ho => List.mem_map_of_mem ho
  have H := needO_gb hN st.reverse (fun o ho => hN o (by simpa using ho)) (GB.nil (N := st.map (·.1)))
  have G := H.1
  refine ⟨needs_lv h G fun p j => ?_, fun k => ⟨G.sub k, fun q => ?_⟩, G.rdl, G.eq, fun p => Nat.le_trans (G.len p) (by simp)⟩
  · constructor
    · rintro (q | ⟨t, ht, o, ho, q⟩)
      · exact q.elim
      · exact ⟨t, by simpa using ht, o, ho, q⟩
    · rintro ⟨t, ht, o, ho, q⟩
      exact .inr ⟨t, by simpa using ht, o, ho, q⟩
  · obtain ⟨t, ht, rfl⟩ := List.mem_map.mp q
    exact H.2.2 t (by simpa using ht)
/-- the second's -/
theorem one_all {st : List (Int × Int)} {n : Nat} (h : Str1 st n) : Lv (st.reverse.foldl (oneO (spanOf st)) SA.nil) (lvl st) ∧ (∀ k, k ∈ (st.reverse.foldl (oneO (spanOf st)) SA.nil).D ↔ k ∈ st.map (·.1)) ∧ (st.reverse.foldl (oneO (spanOf st)) SA.nil).rdl = none ∧ (st.reverse.foldl (oneO (spanOf st)) SA.nil).npo = (st.reverse.foldl (oneO (spanOf st)) SA.nil).nfi ∧ ∀ p, ((st.reverse.foldl (oneO (spanOf st)) SA.nil).sc p).length ≤ st.length := by
  have hN : ∀ o ∈ st, o.1 ∈ st.map (·.1) := fun o ho => List.mem_map_of_mem ho
  have H := oneO_gb (sp := spanOf st) (N := st.map (·.1)) (fun k s q => List.mem_map_of_mem (spanOf_mem q)) st.reverse (fun o ho => hN o (by simpa using ho)) (GB.nil (N := st.map (·.1)))
  have G := H.1
  refine ⟨one_lv h G fun p j => ?_, fun k => ⟨G.sub k, fun q => ?_⟩, G.rdl, G.eq, fun p => Nat.le_trans (G.len p) (by simp)⟩
  · constructor
    · rintro (q | ⟨t, ht, o, q⟩)
      · exact q.elim
      · exact ⟨t, by simpa using ht, o, q⟩
    · rintro ⟨t, ht, o, q⟩
      exact .inr ⟨t, by simpa using ht, o, q⟩
  · obtain ⟨t, ht, rfl⟩ := List.mem_map.mp q
    exact H.2.2 t (by simpa using ht)
end
section
local macro_rules | `(tactic| walk_at "compareOp Eq ref ref") => `(tactic| (k_here; refine halt ?_))
theorem rs_LW : True := by
  w_top off
  exact True.intro
theorem grown_of {h₀ h : Heap} {L : Addr} {news K : Led} (N : News h₀ L h news) (hC : CS K) (hs : ∀ p ∈ K, p ∈ news) : GrownAll [(154, 150), (161, 157)] h := by
  obtain ⟨KH, KF, rfl, h1, h2⟩ := hC
  refine ⟨?_, ?_, trivial⟩
  · rcases h1 with rfl | ⟨_, _, _, _, _, rfl, _⟩ <;> exact GrownAt.of N (hs _ (List.mem_append_left _ (.head _)))
  · rcases h2 with rfl | ⟨_, _, _, _, _, rfl, _⟩ <;> exact GrownAt.of N (hs _ (List.mem_append_right _ (.head _)))
set_option maxRecDepth 100000 in
set_option maxHeartbeats 8000000 in
theorem law_holds : PySem.Challenge.rw_mj0221_01.Holds := by
  w_on
  refine holds_law said fun _ => ?_
  refine holds_open (q := viewK) (loose := [Str.ofString "_NodeInfo"]) (Xt := fun s => xlAt viewK [] s && recOk (RowW.records PySem.Challenge.rw_mj0221_01.row.toRowW) s) (XP := XL viewK []) (Yf := Hook.obs (kmHook heapK asK asK_eq [150, 157])) (Ya := Hook.val (kmHook heapK asK asK_eq [150, 157])) (YP := Hook.says (kmHook heapK asK asK_eq [150, 157])) (N := 3096) left (Hook.of (kmHook heapK asK asK_eq [150, 157])) (Hook.keeps (kmHook heapK asK asK_eq [150, 157])) (fun s e => xl_of s (Bool.and_eq_true_iff.mp e).1) XL.keeps (by rfl) (by rfl) (by rfl) (fun s e => recFacts_of (Bool.and_eq_true_iff.mp e).2) (by rfl) (by assumption) (by decide +kernel) ⟨rfl, rfl, rfl, rfl, rfl, by decide +kernel⟩ ?hw ?hc
  (case hw => w_witness2)
  k_go0
  all_goals (try k_fold)
  k_steps
  refine Halt.go ?_
  rename IntsAre _ _ => hI0
  rename (¬ (63 : Int) < _) => hlen0
  rename (Heap.IsList (ghostOf _ _) _ _) => hL0
  refine' ctrH_use ?cB ?cF ?cX ?cN ?cT (lawRow hI0 (by omega)) ?cP ?cd ?cu ?_
  (case cB => k_asm)
  (case cF => k_asm)
  (case cX => k_asm)
  (case cN => k_asm)
  (case cT => k_asm)
  (case cP => exact hL0)
  (case cd => ktr_room)
  (case cu => ktr_units)
  intro r9 news9 h9 tk9 F9 N9 P9
  (try dsimp only)
  refine genC ?_
  intro C9 kC9
  obtain ⟨us, ns, eu, en⟩ := named_ints hI0
  refine kC9 ?_
  clear kC9 C9
  subst eu en
  refine genC ?_
  intro C9 kC9
  obtain ⟨⟨tr, rfl⟩, hK0⟩ := P9
  refine kC9 ?_
  clear kC9 C9
  have hl11 := rowDs_len ns
  have hd4 := rowDs_le ns
  generalize rowDs ns = ds at *
  clear hI0 hlen0 hL0
  have hst : (stretches ds).length ≤ 11 := Nat.le_trans (stretches_len ds) (by omega)
  have hs := stretches_str ds
  have z150 := hK0 (150, tabObj #[]) (by simp)
  have z157 := hK0 (157, tabObj #[]) (by simp)
  k_steps
  refine Halt.go ?_
  refine' ctr_use ?cB ?cF ?cX ?cN ?cT (lawStretches (ds := ds) (by omega) hd4) ?cd ?cu ?_
  (case cB => k_asm)
  (case cF => k_asm)
  (case cX => k_asm)
  (case cN => k_asm)
  (case cT => k_asm)
  (case cd => ktr_room)
  (case cu => ktr_units)
  intro r9 news9 h9 tk9 F9 N9 P9
  (try dsimp only)
  (try k_fold)
  refine genC ?_
  intro C9 kC9
  obtain ⟨Sx, rfl, hP, hK1⟩ := P9
  refine kC9 ?_
  clear kC9 C9
  have z150 := hK1 _ z150
  have z157 := hK1 _ z157
  k_steps
  refine Halt.go ?_
  refine' ctr_use ?cB ?cF ?cX ?cN ?cT (lawMost (ds := ds) (by omega) hP hst hs) ?cd ?cu ?_
  (case cB => k_asm)
  (case cF => k_asm)
  (case cX => k_asm)
  (case cN => k_asm)
  (case cT => k_asm)
  (case cd => ktr_room)
  (case cu => ktr_units)
  intro r9 news9 h9 tk9 F9 N9 P9
  (try dsimp only)
  (try k_fold)
  refine genC ?_
  intro C9 kC9
  obtain ⟨Ma, rfl, hM, hK2⟩ := P9
  refine kC9 ?_
  clear kC9 C9
  have z150 := hK2 _ z150
  have z157 := hK2 _ z157
  have hP := hP.mono hK2
  k_steps
  refine Halt.go ?_
  refine' ctr_use ?cB ?cF ?cX ?cN ?cT (lawGroupsDue (n := ds.length) hP hM hst (by omega) hs) ?cd ?cu ?_
  (case cB => k_asm)
  (case cF => k_asm)
  (case cX => k_asm)
  (case cN => k_asm)
  (case cT => k_asm)
  (case cd => ktr_room)
  (case cu => ktr_units)
  intro r9 news9 h9 tk9 F9 N9 P9
  (try dsimp only)
  (try k_fold)
  refine genC ?_
  intro C9 kC9
  obtain ⟨Da, rfl, hG, hK3⟩ := P9
  refine kC9 ?_
  clear kC9 C9
  have z150 := hK3 _ z150
  have z157 := hK3 _ z157
  have hP := hP.mono hK3
  have hM := hM.mono hK3
  k_steps
  refine Halt.go ?_
  refine' ctr_use ?cB ?cF ?cX ?cN ?cT (lawAllNeeds hP hst) ?cd ?cu ?_
  (case cB => k_asm)
  (case cF => k_asm)
  (case cX => k_asm)
  (case cN => k_asm)
  (case cT => k_asm)
  (case cd => ktr_room)
  (case cu => ktr_units)
  intro r9 news9 h9 tk9 F9 N9 P9
  (try dsimp only)
  (try k_fold)
  refine genC ?_
  intro C9 kC9
  obtain ⟨sf, g, rfl, S1⟩ := P9
  obtain ⟨a1, a2, a3, a4, a5⟩ := all_lv hs
  refine kC9 ?_
  clear kC9 C9
  have a6 : ((stretches ds).reverse.foldl (needO (stretches ds)) SA.nil).D.length ≤ 11 := Nat.le_trans (a1.nod.length_le_of_subset (fun k hk => (a2 k).mp hk)) (by rw [List.length_map]; exact hst)
  have a7 : (stretches ds).length * (stretches ds).length ≤ 121 := Nat.mul_le_mul hst hst
  rename PySem.W.Frag.In _ _ => XB
  rename Top topProg _ _ _ _ _ => TB
  k_steps
  refine Halt.go ?_
  refine' ctrS_use ?cB ?cF ?cX ?cN ?cT ?cXB ?cTB (lawGroups (lvl (stretches ds)) S1 a1 a3 a4 (by omega) (fun k _ => Nat.le_trans (a5 k) (by omega))) ?cd ?cu ?_
  (case cB => k_asm)
  (case cF => k_asm)
  (case cX => k_asm)
  (case cN => k_asm)
  (case cT => k_asm)
  (case cXB => exact XB)
  (case cTB => exact TB)
  (case cd => ktr_room)
  (case cu => ktr_units)
  intro r9 news9 h9 tk9 g9 so9 B9 X9 T9 F9 N9 P9
  (try dsimp only)
  (try k_fold)
  replace F9 := Fr.so_nil so9 F9
  replace N9 := News.so_nil so9 N9
  clear so9 B9 X9 T9
  refine genC ?_
  intro C9 kC9
  obtain ⟨Ga, gs, gn, rfl, hGa, hgs, hLv, hK4⟩ := P9
  refine kC9 ?_
  clear kC9 C9
  have eL := levels_due hs (stretches_sorted ds) a2 hLv
  have hg2 := groups_of hgs
  rw [eL] at hg2
  have hGG : GroupsAt Ga (dueL (stretches ds) ds.length) news9 := ⟨_, gn, hg2, hGa⟩
  have z150 := hK4 _ z150
  have z157 := hK4 _ z157
  have hP := hP.mono hK4
  have hM := hM.mono hK4
  have hG := hG.mono hK4
  clear hK4 hLv eL hg2 hgs hGa S1 a1 a2 a3 a4 a5 a6 a7
  k_steps
  refine Halt.go ?_
  k_dflt (refine' eq_groups N9 hGG hG ?hu ?_)
  (case hu => ktr_units)
  clear hGG
  k_steps
  refine Halt.go ?_
  have ha : ∀ x ∈ ([150, 157] : List Nat), ∃ o', ((x, o') : Addr × Obj) ∈ news9 ∧ o'.cls = .none := fun x hx => by
    simp only [List.mem_cons, List.not_mem_nil, or_false] at hx
    rcases hx with rfl | rfl
    · exact ⟨_, z150, rfl⟩
    · exact ⟨_, z157, rfl⟩
  (rename News _ _ _ news9 => N6)
  have hPo := hP.offE N6 ha
  have hMo := hM.offE N6 ha
  have hGo := hG.offE N6 ha
  have hsub : ∀ p ∈ ([(150, tabObj #[]), (157, tabObj #[])] : Led) ++ offL [150, 157] news9, p ∈ news9 := fun p hp => by
    rcases List.mem_append.mp hp with hp | hp
    · simp only [List.mem_cons, List.not_mem_nil, or_false] at hp
      rcases hp with rfl | rfl
      · exact z150
      · exact z157
    · exact (mem_offL.mp hp).1
  have hdj : ∀ p ∈ offL [150, 157] news9, ∀ q ∈ ([(150, tabObj #[]), (157, tabObj #[])] : Led), p.1 ≠ q.1 := fun p hp q hq e => by
    refine (mem_offL.mp hp).2 ?_
    simp only [List.mem_cons, List.not_mem_nil, or_false] at hq
    rcases hq with rfl | rfl <;> (rw [e]; simp)
  have hCS : CS [(150, tabObj #[]), (157, tabObj #[])] := ⟨[(150, tabObj #[])], [(157, tabObj #[])], rfl, .inl rfl, .inl rfl⟩
  obtain ⟨R, hRe⟩ : ∃ R, R = offL [150, 157] news9 := ⟨_, rfl⟩
  rw [← hRe] at hPo hMo hGo hsub hdj
  clear hRe hP hM hG z150 z157 ha
  refine' ctr_use ?cB ?cF ?cX ?cN ?cT (lawOneNeed (R := R) (by omega) hd4 hsub hCS hdj hPo) ?cd ?cu ?_
  (case cB => k_asm)
  (case cF => k_asm)
  (case cX => k_asm)
  (case cN => k_asm)
  (case cT => k_asm)
  (case cd => ktr_room)
  (case cu => ktr_units)
  intro r9 news9 h9 tk9 F9 N9 P9
  (try dsimp only)
  (try k_fold)
  clear hsub hdj hCS
  refine genC ?_
  intro C9 kC9
  obtain ⟨sf2, rfl, g2, K2, S2, hC2, hd2⟩ := P9
  obtain ⟨a1, a2, a3, a4, a5⟩ := one_all hs
  refine kC9 ?_
  clear kC9 C9
  have a6 : ((stretches ds).reverse.foldl (oneO (spanOf (stretches ds))) SA.nil).D.length ≤ 11 := Nat.le_trans (a1.nod.length_le_of_subset (fun k hk => (a2 k).mp hk)) (by rw [List.length_map]; exact hst)
  k_steps
  refine Halt.go ?_
  refine' ctrS_use ?cB ?cF ?cX ?cN ?cT ?cXB ?cTB (lawGroups (lvl (stretches ds)) S2 a1 a3 a4 (by omega) (fun k _ => Nat.le_trans (a5 k) (by omega))) ?cd ?cu ?_
  (case cB => k_asm)
  (case cF => k_asm)
  (case cX => k_asm)
  (case cN => k_asm)
  (case cT => k_asm)
  (case cXB => exact XB)
  (case cTB => exact TB)
  (case cd => ktr_room)
  (case cu => ktr_units)
  intro r9 news9 h9 tk9 g9 so9 B9 X9 T9 F9 N9 P9
  (try dsimp only)
  (try k_fold)
  replace F9 := Fr.so_nil so9 F9
  replace N9 := News.so_nil so9 N9
  clear so9 B9 X9 T9
  refine genC ?_
  intro C9 kC9
  obtain ⟨Gb, gs, gn, rfl, hGa, hgs, hLv, hK4⟩ := P9
  refine kC9 ?_
  clear kC9 C9
  have eL := levels_due hs (stretches_sorted ds) a2 hLv
  have hg2 := groups_of hgs
  rw [eL] at hg2
  have hGG : GroupsAt Gb (dueL (stretches ds) ds.length) news9 := ⟨_, gn, hg2, hGa⟩
  have hG9 := hGo.mono fun p hp => hK4 p (List.mem_append_right _ hp)
  clear hLv eL hg2 hgs hGa S2 a1 a2 a3 a4 a5 a6
  k_steps
  refine Halt.go ?_
  k_dflt (refine' eq_groups N9 hGG hG9 ?hu ?_)
  (case hu => ktr_units)
  clear hGG hG9
  k_steps
  refine Halt.go ?_
  refine' ctr_use ?cB ?cF ?cX ?cN ?cT (lawToldRight (R := R) (by omega) hd4 ⟨K2, hC2, hK4, hd2⟩ hPo hMo) ?cd ?cu ?_
  (case cB => k_asm)
  (case cF => k_asm)
  (case cX => k_asm)
  (case cN => k_asm)
  (case cT => k_asm)
  (case cd => ktr_room)
  (case cu => ktr_units)
  intro r9 news9 h9 tk9 F9 N9 P9
  (try dsimp only)
  (try k_fold)
  obtain ⟨rfl, hTb⟩ := P9
  repeat (first | (k_unfold; (try dsimp only)) | walk1)
  · exact goodW_bool (by k_asm) (by assumption) (fun _ => rfl) (by first | rfl | kernel_rfl)
  · obtain ⟨K9, hC9, hs9, _⟩ := hTb
    exact grown_of N9 hC9 fun p hp => hs9 p (List.mem_append_left _ hp)
end
end Mine
theorem PySem.Challenge.cw_mj0221_01_holds : PySem.Challenge.rw_mj0221_01.Holds := by
  exact Mine.law_holds
