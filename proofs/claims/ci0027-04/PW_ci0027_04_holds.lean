import PyProof.Rows.All
import Wide.All
import OpenK.AllK
import Wide.FinOn
import Lean
import PySem.Challenge.RW_ci0027_04
set_option Elab.async false
section
open PySem PySem.W PyProof.Rows
set_option maxRecDepth 100000
set_option maxHeartbeats 8000000
namespace Mine
abbrev prog : Program := PySem.Challenge.pw_ci0027_04

theorem topRun_of_seg {tb : String → Option Builtin} {p : Program} {w : World} {n₀ : Nat} {ann : Option Value} :
    ∀ {n : Nat} {s s' : Shared} {t : Thread} {f : Flow} {c : Code} {q : Pos}, segRun tb p w n₀ ann 0 n s t = some (f, s', c, q) → topRun tb p w n₀ ann n s t = some s'
  | 0, _, _, _, _, _, _, h => by cases h
  | n + 1, s, s', t, f, c, q, h => by
    unfold segRun at h
    unfold topRun
    have key : through t = (endAt 0 t).isSome := by
      obtain ⟨cur, code, pos, st⟩ := t
      unfold through endAt
      cases st with
      | nil => cases cur <;> first | rfl | (rename_i f; cases f <;> rfl)
      | cons a l => cases cur <;> first | rfl | (rename_i f; cases f <;> rfl)
    cases he : endAt 0 t with
    | some x => rw [he] at h; cases h; rw [key, he]; rfl
    | none =>
      rw [he] at h
      rw [key, he]
      cases hk : stepOk n₀ ann t with
      | false => rw [hk] at h; cases h
      | true =>
        rw [hk] at h
        cases hs : step (denote tb) p w s t with
        | halt o s₂ => rw [hs] at h; cases h
        | go s₂ t₂ => rw [hs] at h; exact topRun_of_seg h

theorem left_of_run {p q : Program} {loose : List Str} {Xt : Shared → Bool} {α : Type} {Yf : Shared → α} {Ya : World → α} {N : Nat} {H₀ : Params → Heap} {d₀ : Drawn} {k₀ m₀ n₀ : Nat} {T₀ : Params → BT} {life : Params → Life} {ann : Option Value}
    (open_ : ∀ w : World, (fencedOpening treeTable p w N).map (fun s => (s.heap, s.gens, s.drawn, s.toks)) = some (H₀ w.params, Array.mk [], d₀, k₀))
    (size : ∀ w : World, ((H₀ w.params).isNs mainGlobals, (H₀ w.params).objs.size, (H₀ w.params).nsMap mainGlobals "__annotations__") = (true, m₀, ann))
    (h0 : ∀ P, absHeap (T₀ P) n₀ (life P) = H₀ P)
    (run : ∀ (w : World) (os : OsState), (segRunT treeTable p w m₀ ann 0 N ⟨T₀ w.params, n₀, life w.params, Array.mk [], d₀, k₀, os⟩ (topStub p)).map (fun r =>
      ((staticsOk (importedModules p.main.body) (H₀ w.params) r.2.1.abs.heap && namesBound p r.2.1.abs.heap && gensDone r.2.1.abs && laidKept (H₀ w.params) r.2.1.abs.heap),
        openSeen q loose (importedModules p.main.body) Xt true r.2.1.abs, Yf r.2.1.abs)) = some (true, openGood q loose, Ya w)) : LeftO p q loose Xt Yf Ya N true := fun w => by
  obtain ⟨⟨h, gs, d, k, os⟩, e, e'⟩ := Option.map_eq_some_iff.mp (open_ w)
  obtain ⟨rfl, rfl, rfl, rfl⟩ : h = H₀ w.params ∧ gs = Array.mk [] ∧ d = d₀ ∧ k = k₀ := by simpa using e'
  obtain ⟨z1, z2, z3⟩ : _ ∧ _ ∧ _ := by simpa only [Prod.mk.injEq] using size w
  obtain ⟨⟨f, sT, c, q'⟩, hr, hl⟩ := Option.map_eq_some_iff.mp (run w os)
  obtain ⟨l1, l2, l3⟩ : _ ∧ _ ∧ _ := by simpa only [Prod.mk.injEq] using hl
  have r := topRun_of_seg (segRun_of hr)
  have hab : SharedT.abs ⟨T₀ w.params, n₀, life w.params, Array.mk [], d, k, os⟩ = ⟨H₀ w.params, Array.mk [], d, k, os⟩ := by
    unfold SharedT.abs
    rw [h0]
  rw [hab] at r
  have t : topFrom treeTable p w N ⟨H₀ w.params, Array.mk [], d, k, os⟩ = some sT.abs := by
    unfold topFrom
    dsimp only
    rw [z1, z2, z3, r]
    show (match staticsOk (importedModules p.main.body) (H₀ w.params) sT.abs.heap && namesBound p sT.abs.heap && gensDone sT.abs && laidKept (H₀ w.params) sT.abs.heap with | true => _ | false => _) = _
    rw [l1]
  unfold openEnds
  rw [e]
  show (topFrom treeTable p w N _).map _ = _
  rw [t]
  exact congrArg some (Prod.ext l2 l3)
end Mine
end
section
open PySem PySem.W PyProof.Rows
set_option maxRecDepth 100000
set_option maxHeartbeats 0
namespace Mine
noncomputable section
def stAt (l : List Stmt) (i : Nat) : Stmt := match l[i]? with
  | some s => s
  | none => .Pass default
def clsBody : Stmt → List Stmt
  | .ClassDef _ _ _ b _ _ _ _ _ _ _ => b
  | _ => []
def topSt (i : Nat) : Stmt := stAt prog.main.body i
def clsSt (i j : Nat) : Stmt := stAt (clsBody (topSt i)) j
def mkFn (st : Stmt) (qual : Str) (defaults kwdefaults : Value) (closure : List (Str × Addr)) (ct code pm : Value) : Obj := match st with
  | .FunctionDef n args body _ _ _ scope _ _ _ => ⟨.type "function", none, .func { name := n, qualname := qual, params := args, body := .stmts body, scope := scope, globals := 3, closure := closure, defaults := defaults, kwdefaults := kwdefaults, doc := .none, pyModule := pm, annotations := none, code := code, closureTuple := ct, builtins := 0 }, #[]⟩
  | _ => default
def o2 (P : Params) : Obj := ⟨.none, none, .dict [⟨PyData.keyHash P (Str.ofString "type.__subclasses__.Exception.0"), (.str (Str.ofString "type.__subclasses__.Exception.0") 411), (.int (187) 0)⟩, ⟨PyData.keyHash P (Str.ofString "type.__subclasses__.Exception.n"), (.str (Str.ofString "type.__subclasses__.Exception.n") 412), (.int (1) 0)⟩].toArray 2, [].toArray⟩
def o3 (P : Params) : Obj := ⟨(.type "dict"), none, .dict [⟨PyData.keyHash P (Str.ofString "__name__"), (.str (Str.ofString "__name__") 165), (.str (Str.ofString "law_ci0027_04") 1495)⟩, ⟨PyData.keyHash P (Str.ofString "__doc__"), (.str (Str.ofString "__doc__") 166), .none⟩, ⟨PyData.keyHash P (Str.ofString "__package__"), (.str (Str.ofString "__package__") 167), .none⟩, ⟨PyData.keyHash P (Str.ofString "__loader__"), (.str (Str.ofString "__loader__") 168), (.builtin "__main__.__loader__#opaque")⟩, ⟨PyData.keyHash P (Str.ofString "__spec__"), (.str (Str.ofString "__spec__") 169), .none⟩, ⟨PyData.keyHash P (Str.ofString "__annotations__"), (.str (Str.ofString "__annotations__") 170), (.ref 6)⟩, ⟨PyData.keyHash P (Str.ofString "__builtins__"), (.str (Str.ofString "__builtins__") 171), (.ref 4)⟩, ⟨PyData.keyHash P (Str.ofString "__file__"), (.str (Str.ofString "__file__") 173), (.str (Str.ofString "/claim/cut.py") 172)⟩, ⟨PyData.keyHash P (Str.ofString "__cached__"), (.str (Str.ofString "__cached__") 174), .none⟩, ⟨PyData.keyHash P (Str.ofString "_wall"), (.str (Str.ofString "_wall") 193), (.ref 21)⟩, ⟨PyData.keyHash P (Str.ofString "NodeView"), (.str (Str.ofString "NodeView") 263), (.ref 76)⟩, ⟨PyData.keyHash P (Str.ofString "OutEdgeView"), (.str (Str.ofString "OutEdgeView") 347), (.ref 140)⟩, ⟨PyData.keyHash P (Str.ofString "EdgeView"), (.str (Str.ofString "EdgeView") 392), (.ref 175)⟩, ⟨PyData.keyHash P (Str.ofString "NetworkXException"), (.str (Str.ofString "NetworkXException") 414), (.ref 187)⟩, ⟨PyData.keyHash P (Str.ofString "NetworkXError"), (.str (Str.ofString "NetworkXError") 430), (.ref 200)⟩, ⟨PyData.keyHash P (Str.ofString "_NOT_FOUND"), (.str (Str.ofString "_NOT_FOUND") 433), (.ref 203)⟩, ⟨PyData.keyHash P (Str.ofString "cached_property"), (.str (Str.ofString "cached_property") 496), (.ref 242)⟩, ⟨PyData.keyHash P (Str.ofString "Graph"), (.str (Str.ofString "Graph") 915), (.ref 540)⟩, ⟨PyData.keyHash P (Str.ofString "DiGraph"), (.str (Str.ofString "DiGraph") 1287), (.ref 755)⟩, ⟨PyData.keyHash P (Str.ofString "PlanarEmbedding"), (.str (Str.ofString "PlanarEmbedding") 1494), (.ref 906)⟩, ⟨PyData.keyHash P (Str.ofString "_law_next"), (.str (Str.ofString "_law_next") 1505), (.ref 915)⟩, ⟨PyData.keyHash P (Str.ofString "_law_begun"), (.str (Str.ofString "_law_begun") 1513), (.ref 922)⟩, ⟨PyData.keyHash P (Str.ofString "_law_put"), (.str (Str.ofString "_law_put") 1526), (.ref 929)⟩, ⟨PyData.keyHash P (Str.ofString "_law_is_refused"), (.str (Str.ofString "_law_is_refused") 1537), (.ref 936)⟩, ⟨PyData.keyHash P (Str.ofString "_law_is_told"), (.str (Str.ofString "_law_is_told") 1543), (.ref 941)⟩, ⟨PyData.keyHash P (Str.ofString "law"), (.str (Str.ofString "law") 1549), (.ref 946)⟩].toArray 26, [].toArray⟩
def o186 (P : Params) : Obj := ⟨(.type "dict"), none, .dict [⟨PyData.keyHash P (Str.ofString "__module__"), (.str (Str.ofString "__module__") 402), (.str (Str.ofString "networkx.exception") 393)⟩, ⟨PyData.keyHash P (Str.ofString "__firstlineno__"), (.str (Str.ofString "__firstlineno__") 406), (.int (80) 405)⟩, ⟨PyData.keyHash P (Str.ofString "__static_attributes__"), (.str (Str.ofString "__static_attributes__") 407), (.ref 185)⟩, ⟨PyData.keyHash P (Str.ofString "__weakref__"), (.str (Str.ofString "__weakref__") 409), (.ref 188)⟩, ⟨PyData.keyHash P (Str.ofString "__doc__"), (.str (Str.ofString "__doc__") 410), .none⟩].toArray 3, [].toArray⟩
def o187 (_P : Params) : Obj := ⟨(.type "type"), none, .cls { name := (Str.ofString "NetworkXException"), bases := [(.type "Exception")], mro := [(.ref 187), (.type "Exception"), (.type "BaseException"), (.type "object")], ns := 186, qualname := (Str.ofString "NetworkXException"), hasDict := true, slotNames := [], subclasses := [(.ref 200)], abstract := false, collection := none, hasDel := false }, [(some (.ref 178)), none, (some (.str (Str.ofString "NetworkXException") 395)), (some (.str (Str.ofString "NetworkXException") 403)), (some (.builtin "Exception.__new__")), (some (.bool true))].toArray⟩
def o188 (_P : Params) : Obj := ⟨(.type "getset_descriptor"), none, .fields [(.str (Str.ofString "__weakref__") 408), (.ref 187), (.builtin "ExceptionGroup.__weakref__"), .none].toArray, [].toArray⟩
def o199 (P : Params) : Obj := ⟨(.type "dict"), none, .dict [⟨PyData.keyHash P (Str.ofString "__module__"), (.str (Str.ofString "__module__") 422), (.str (Str.ofString "networkx.exception") 393)⟩, ⟨PyData.keyHash P (Str.ofString "__firstlineno__"), (.str (Str.ofString "__firstlineno__") 426), (.int (82) 425)⟩, ⟨PyData.keyHash P (Str.ofString "__static_attributes__"), (.str (Str.ofString "__static_attributes__") 427), (.ref 198)⟩, ⟨PyData.keyHash P (Str.ofString "__doc__"), (.str (Str.ofString "__doc__") 428), .none⟩].toArray 2, [].toArray⟩
def o200 (_P : Params) : Obj := ⟨(.type "type"), none, .cls { name := (Str.ofString "NetworkXError"), bases := [(.ref 187)], mro := [(.ref 200), (.ref 187), (.type "Exception"), (.type "BaseException"), (.type "object")], ns := 199, qualname := (Str.ofString "NetworkXError"), hasDict := true, slotNames := [], subclasses := [], abstract := false, collection := none, hasDel := false }, [(some (.ref 191)), none, (some (.str (Str.ofString "NetworkXError") 415)), (some (.str (Str.ofString "NetworkXError") 423)), (some (.builtin "Exception.__new__")), (some (.bool true))].toArray⟩
def o260 (_P : Params) : Obj := ⟨(.type "code"), none, .fields [(.str (Str.ofString "node_dict_factory") 511), (.str (Str.ofString "Graph.node_dict_factory") 512), (.str (Str.ofString "/claim/cut.py") 513), (.int (127) 0), (.int (1) 0), (.int (0) 0), (.int (0) 0), (.int (3) 0), (.ref 255), (.bool true), (.int (181) 0), (.ref 256), .none, (.ref 257), (.ref 258), (.ref 259), (.int (515) 0), (.int (127) 0), (.str (Str.ofString "/claim/cut.py") 516)].toArray, [].toArray⟩
def o261 (_P : Params) : Obj := mkFn (clsSt 12 0) (Str.ofString "Graph.node_dict_factory") .none .none [] .none (.ref 260) (.str (Str.ofString "networkx.classes.graph") 497)
def o267 (_P : Params) : Obj := ⟨(.type "code"), none, .fields [(.str (Str.ofString "node_attr_dict_factory") 518), (.str (Str.ofString "Graph.node_attr_dict_factory") 519), (.str (Str.ofString "/claim/cut.py") 520), (.int (130) 0), (.int (1) 0), (.int (0) 0), (.int (0) 0), (.int (3) 0), (.ref 262), (.bool true), (.int (181) 0), (.ref 263), .none, (.ref 264), (.ref 265), (.ref 266), (.int (522) 0), (.int (130) 0), (.str (Str.ofString "/claim/cut.py") 523)].toArray, [].toArray⟩
def o268 (_P : Params) : Obj := mkFn (clsSt 12 1) (Str.ofString "Graph.node_attr_dict_factory") .none .none [] .none (.ref 267) (.str (Str.ofString "networkx.classes.graph") 497)
def o274 (_P : Params) : Obj := ⟨(.type "code"), none, .fields [(.str (Str.ofString "adjlist_outer_dict_factory") 525), (.str (Str.ofString "Graph.adjlist_outer_dict_factory") 526), (.str (Str.ofString "/claim/cut.py") 527), (.int (133) 0), (.int (1) 0), (.int (0) 0), (.int (0) 0), (.int (3) 0), (.ref 269), (.bool true), (.int (181) 0), (.ref 270), .none, (.ref 271), (.ref 272), (.ref 273), (.int (529) 0), (.int (133) 0), (.str (Str.ofString "/claim/cut.py") 530)].toArray, [].toArray⟩
def o275 (_P : Params) : Obj := mkFn (clsSt 12 2) (Str.ofString "Graph.adjlist_outer_dict_factory") .none .none [] .none (.ref 274) (.str (Str.ofString "networkx.classes.graph") 497)
def o281 (_P : Params) : Obj := ⟨(.type "code"), none, .fields [(.str (Str.ofString "adjlist_inner_dict_factory") 532), (.str (Str.ofString "Graph.adjlist_inner_dict_factory") 533), (.str (Str.ofString "/claim/cut.py") 534), (.int (136) 0), (.int (1) 0), (.int (0) 0), (.int (0) 0), (.int (3) 0), (.ref 276), (.bool true), (.int (181) 0), (.ref 277), .none, (.ref 278), (.ref 279), (.ref 280), (.int (536) 0), (.int (136) 0), (.str (Str.ofString "/claim/cut.py") 537)].toArray, [].toArray⟩
def o282 (_P : Params) : Obj := mkFn (clsSt 12 3) (Str.ofString "Graph.adjlist_inner_dict_factory") .none .none [] .none (.ref 281) (.str (Str.ofString "networkx.classes.graph") 497)
def o288 (_P : Params) : Obj := ⟨(.type "code"), none, .fields [(.str (Str.ofString "edge_attr_dict_factory") 539), (.str (Str.ofString "Graph.edge_attr_dict_factory") 540), (.str (Str.ofString "/claim/cut.py") 541), (.int (139) 0), (.int (1) 0), (.int (0) 0), (.int (0) 0), (.int (3) 0), (.ref 283), (.bool true), (.int (181) 0), (.ref 284), .none, (.ref 285), (.ref 286), (.ref 287), (.int (543) 0), (.int (139) 0), (.str (Str.ofString "/claim/cut.py") 544)].toArray, [].toArray⟩
def o289 (_P : Params) : Obj := mkFn (clsSt 12 4) (Str.ofString "Graph.edge_attr_dict_factory") .none .none [] .none (.ref 288) (.str (Str.ofString "networkx.classes.graph") 497)
def o295 (_P : Params) : Obj := ⟨(.type "code"), none, .fields [(.str (Str.ofString "graph_attr_dict_factory") 546), (.str (Str.ofString "Graph.graph_attr_dict_factory") 547), (.str (Str.ofString "/claim/cut.py") 548), (.int (142) 0), (.int (1) 0), (.int (0) 0), (.int (0) 0), (.int (3) 0), (.ref 290), (.bool true), (.int (181) 0), (.ref 291), .none, (.ref 292), (.ref 293), (.ref 294), (.int (550) 0), (.int (142) 0), (.str (Str.ofString "/claim/cut.py") 551)].toArray, [].toArray⟩
def o296 (_P : Params) : Obj := mkFn (clsSt 12 5) (Str.ofString "Graph.graph_attr_dict_factory") .none .none [] .none (.ref 295) (.str (Str.ofString "networkx.classes.graph") 497)
def o327 (_P : Params) : Obj := ⟨(.type "code"), none, .fields [(.str (Str.ofString "__iter__") 588), (.str (Str.ofString "Graph.__iter__") 589), (.str (Str.ofString "/claim/cut.py") 590), (.int (159) 0), (.int (1) 0), (.int (0) 0), (.int (0) 0), (.int (3) 0), (.ref 322), (.bool true), (.int (181) 0), (.ref 323), .none, (.ref 324), (.ref 325), (.ref 326), (.int (592) 0), (.int (159) 0), (.str (Str.ofString "/claim/cut.py") 593)].toArray, [].toArray⟩
def o328 (_P : Params) : Obj := mkFn (clsSt 12 9) (Str.ofString "Graph.__iter__") .none .none [] .none (.ref 327) (.str (Str.ofString "networkx.classes.graph") 497)
def o539 (P : Params) : Obj := ⟨(.type "dict"), none, .dict [⟨PyData.keyHash P (Str.ofString "__module__"), (.str (Str.ofString "__module__") 506), (.str (Str.ofString "networkx.classes.graph") 497)⟩, ⟨PyData.keyHash P (Str.ofString "__firstlineno__"), (.str (Str.ofString "__firstlineno__") 510), (.int (125) 509)⟩, ⟨PyData.keyHash P (Str.ofString "node_dict_factory"), (.str (Str.ofString "node_dict_factory") 517), (.ref 261)⟩, ⟨PyData.keyHash P (Str.ofString "node_attr_dict_factory"), (.str (Str.ofString "node_attr_dict_factory") 524), (.ref 268)⟩, ⟨PyData.keyHash P (Str.ofString "adjlist_outer_dict_factory"), (.str (Str.ofString "adjlist_outer_dict_factory") 531), (.ref 275)⟩, ⟨PyData.keyHash P (Str.ofString "adjlist_inner_dict_factory"), (.str (Str.ofString "adjlist_inner_dict_factory") 538), (.ref 282)⟩, ⟨PyData.keyHash P (Str.ofString "edge_attr_dict_factory"), (.str (Str.ofString "edge_attr_dict_factory") 545), (.ref 289)⟩, ⟨PyData.keyHash P (Str.ofString "graph_attr_dict_factory"), (.str (Str.ofString "graph_attr_dict_factory") 552), (.ref 296)⟩, ⟨PyData.keyHash P (Str.ofString "fresh"), (.str (Str.ofString "fresh") 559), (.ref 303)⟩, ⟨PyData.keyHash P (Str.ofString "__init__"), (.str (Str.ofString "__init__") 568), (.ref 311)⟩, ⟨PyData.keyHash P (Str.ofString "adj"), (.str (Str.ofString "adj") 587), (.ref 320)⟩, ⟨PyData.keyHash P (Str.ofString "__iter__"), (.str (Str.ofString "__iter__") 594), (.ref 328)⟩, ⟨PyData.keyHash P (Str.ofString "__contains__"), (.str (Str.ofString "__contains__") 602), (.ref 335)⟩, ⟨PyData.keyHash P (Str.ofString "__len__"), (.str (Str.ofString "__len__") 609), (.ref 342)⟩, ⟨PyData.keyHash P (Str.ofString "__getitem__"), (.str (Str.ofString "__getitem__") 617), (.ref 349)⟩, ⟨PyData.keyHash P (Str.ofString "add_node"), (.str (Str.ofString "add_node") 626), (.ref 356)⟩, ⟨PyData.keyHash P (Str.ofString "add_nodes_from"), (.str (Str.ofString "add_nodes_from") 639), (.ref 363)⟩, ⟨PyData.keyHash P (Str.ofString "remove_node"), (.str (Str.ofString "remove_node") 651), (.ref 370)⟩, ⟨PyData.keyHash P (Str.ofString "remove_nodes_from"), (.str (Str.ofString "remove_nodes_from") 662), (.ref 377)⟩, ⟨PyData.keyHash P (Str.ofString "nodes"), (.str (Str.ofString "nodes") 681), (.ref 386)⟩, ⟨PyData.keyHash P (Str.ofString "number_of_nodes"), (.str (Str.ofString "number_of_nodes") 688), (.ref 394)⟩, ⟨PyData.keyHash P (Str.ofString "order"), (.str (Str.ofString "order") 695), (.ref 401)⟩, ⟨PyData.keyHash P (Str.ofString "has_node"), (.str (Str.ofString "has_node") 703), (.ref 408)⟩, ⟨PyData.keyHash P (Str.ofString "add_edge"), (.str (Str.ofString "add_edge") 716), (.ref 415)⟩, ⟨PyData.keyHash P (Str.ofString "add_edges_from"), (.str (Str.ofString "add_edges_from") 731), (.ref 422)⟩, ⟨PyData.keyHash P (Str.ofString "remove_edge"), (.str (Str.ofString "remove_edge") 741), (.ref 429)⟩, ⟨PyData.keyHash P (Str.ofString "remove_edges_from"), (.str (Str.ofString "remove_edges_from") 753), (.ref 436)⟩, ⟨PyData.keyHash P (Str.ofString "has_edge"), (.str (Str.ofString "has_edge") 762), (.ref 443)⟩, ⟨PyData.keyHash P (Str.ofString "neighbors"), (.str (Str.ofString "neighbors") 771), (.ref 450)⟩, ⟨PyData.keyHash P (Str.ofString "edges"), (.str (Str.ofString "edges") 790), (.ref 459)⟩, ⟨PyData.keyHash P (Str.ofString "get_edge_data"), (.str (Str.ofString "get_edge_data") 800), (.ref 468)⟩, ⟨PyData.keyHash P (Str.ofString "adjacency"), (.str (Str.ofString "adjacency") 807), (.ref 475)⟩, ⟨PyData.keyHash P (Str.ofString "degree"), (.str (Str.ofString "degree") 826), (.ref 484)⟩, ⟨PyData.keyHash P (Str.ofString "clear"), (.str (Str.ofString "clear") 833), (.ref 492)⟩, ⟨PyData.keyHash P (Str.ofString "clear_edges"), (.str (Str.ofString "clear_edges") 840), (.ref 499)⟩, ⟨PyData.keyHash P (Str.ofString "is_multigraph"), (.str (Str.ofString "is_multigraph") 847), (.ref 506)⟩, ⟨PyData.keyHash P (Str.ofString "is_directed"), (.str (Str.ofString "is_directed") 854), (.ref 513)⟩, ⟨PyData.keyHash P (Str.ofString "copy"), (.str (Str.ofString "copy") 863), (.ref 521)⟩, ⟨PyData.keyHash P (Str.ofString "size"), (.str (Str.ofString "size") 871), (.ref 529)⟩, ⟨PyData.keyHash P (Str.ofString "number_of_edges"), (.str (Str.ofString "number_of_edges") 880), (.ref 537)⟩, ⟨PyData.keyHash P (Str.ofString "__static_attributes__"), (.str (Str.ofString "__static_attributes__") 884), (.ref 538)⟩, ⟨PyData.keyHash P (Str.ofString "__dict__"), (.str (Str.ofString "__dict__") 886), (.ref 541)⟩, ⟨PyData.keyHash P (Str.ofString "__weakref__"), (.str (Str.ofString "__weakref__") 888), (.ref 542)⟩, ⟨PyData.keyHash P (Str.ofString "__doc__"), (.str (Str.ofString "__doc__") 889), .none⟩].toArray 4, [].toArray⟩
def o540 (_P : Params) : Obj := ⟨(.type "type"), none, .cls { name := (Str.ofString "Graph"), bases := [(.type "object")], mro := [(.ref 540), (.type "object")], ns := 539, qualname := (Str.ofString "Graph"), hasDict := true, slotNames := [], subclasses := [(.ref 755)], abstract := false, collection := none, hasDel := false }, [none, none, (some (.str (Str.ofString "Graph") 499)), (some (.str (Str.ofString "Graph") 507)), (some (.builtin "object.__new__")), (some (.bool true))].toArray⟩
def o541 (_P : Params) : Obj := ⟨(.type "getset_descriptor"), none, .fields [(.str (Str.ofString "__dict__") 885), (.ref 540), (.builtin "function.__dict__"), (.builtin "function.__dict__#set")].toArray, [].toArray⟩
def o542 (_P : Params) : Obj := ⟨(.type "getset_descriptor"), none, .fields [(.str (Str.ofString "__weakref__") 887), (.ref 540), (.builtin "ExceptionGroup.__weakref__"), .none].toArray, [].toArray⟩
def o563 (_P : Params) : Obj := ⟨(.type "tuple"), none, .seq [.none].toArray 0, [].toArray⟩
def o569 (_P : Params) : Obj := ⟨(.type "code"), none, .fields [(.str (Str.ofString "__init__") 937), (.str (Str.ofString "DiGraph.__init__") 938), (.str (Str.ofString "/claim/cut.py") 939), (.int (342) 0), (.int (2) 0), (.int (0) 0), (.int (0) 0), (.int (11) 0), (.ref 564), (.bool true), (.int (181) 0), (.ref 565), .none, (.ref 566), (.ref 567), (.ref 568), (.int (943) 0), (.int (342) 0), (.str (Str.ofString "/claim/cut.py") 944)].toArray, [].toArray⟩
def o570 (_P : Params) : Obj := mkFn (clsSt 14 1) (Str.ofString "DiGraph.__init__") (.ref 563) .none [] .none (.ref 569) (.str (Str.ofString "networkx.classes.digraph") 916)
def o613 (_P : Params) : Obj := ⟨(.type "code"), none, .fields [(.str (Str.ofString "add_nodes_from") 1012), (.str (Str.ofString "DiGraph.add_nodes_from") 1013), (.str (Str.ofString "/claim/cut.py") 1014), (.int (366) 0), (.int (2) 0), (.int (0) 0), (.int (0) 0), (.int (11) 0), (.ref 608), (.bool true), (.int (181) 0), (.ref 609), .none, (.ref 610), (.ref 611), (.ref 612), (.int (1022) 0), (.int (366) 0), (.str (Str.ofString "/claim/cut.py") 1023)].toArray, [].toArray⟩
def o614 (_P : Params) : Obj := mkFn (clsSt 14 6) (Str.ofString "DiGraph.add_nodes_from") .none .none [] .none (.ref 613) (.str (Str.ofString "networkx.classes.digraph") 916)
def o634 (_P : Params) : Obj := ⟨(.type "code"), none, .fields [(.str (Str.ofString "add_edge") 1047), (.str (Str.ofString "DiGraph.add_edge") 1048), (.str (Str.ofString "/claim/cut.py") 1049), (.int (411) 0), (.int (3) 0), (.int (0) 0), (.int (0) 0), (.int (11) 0), (.ref 629), (.bool true), (.int (181) 0), (.ref 630), .none, (.ref 631), (.ref 632), (.ref 633), (.int (1057) 0), (.int (411) 0), (.str (Str.ofString "/claim/cut.py") 1058)].toArray, [].toArray⟩
def o635 (_P : Params) : Obj := mkFn (clsSt 14 9) (Str.ofString "DiGraph.add_edge") .none .none [] .none (.ref 634) (.str (Str.ofString "networkx.classes.digraph") 916)
def o754 (P : Params) : Obj := ⟨(.type "dict"), none, .dict [⟨PyData.keyHash P (Str.ofString "__module__"), (.str (Str.ofString "__module__") 925), (.str (Str.ofString "networkx.classes.digraph") 916)⟩, ⟨PyData.keyHash P (Str.ofString "__firstlineno__"), (.str (Str.ofString "__firstlineno__") 929), (.int (337) 928)⟩, ⟨PyData.keyHash P (Str.ofString "fresh"), (.str (Str.ofString "fresh") 936), (.ref 562)⟩, ⟨PyData.keyHash P (Str.ofString "__init__"), (.str (Str.ofString "__init__") 945), (.ref 570)⟩, ⟨PyData.keyHash P (Str.ofString "adj"), (.str (Str.ofString "adj") 964), (.ref 579)⟩, ⟨PyData.keyHash P (Str.ofString "succ"), (.str (Str.ofString "succ") 983), (.ref 589)⟩, ⟨PyData.keyHash P (Str.ofString "pred"), (.str (Str.ofString "pred") 1002), (.ref 599)⟩, ⟨PyData.keyHash P (Str.ofString "add_node"), (.str (Str.ofString "add_node") 1011), (.ref 607)⟩, ⟨PyData.keyHash P (Str.ofString "add_nodes_from"), (.str (Str.ofString "add_nodes_from") 1024), (.ref 614)⟩, ⟨PyData.keyHash P (Str.ofString "remove_node"), (.str (Str.ofString "remove_node") 1035), (.ref 621)⟩, ⟨PyData.keyHash P (Str.ofString "remove_nodes_from"), (.str (Str.ofString "remove_nodes_from") 1046), (.ref 628)⟩, ⟨PyData.keyHash P (Str.ofString "add_edge"), (.str (Str.ofString "add_edge") 1059), (.ref 635)⟩, ⟨PyData.keyHash P (Str.ofString "add_edges_from"), (.str (Str.ofString "add_edges_from") 1074), (.ref 642)⟩, ⟨PyData.keyHash P (Str.ofString "remove_edge"), (.str (Str.ofString "remove_edge") 1084), (.ref 649)⟩, ⟨PyData.keyHash P (Str.ofString "remove_edges_from"), (.str (Str.ofString "remove_edges_from") 1095), (.ref 656)⟩, ⟨PyData.keyHash P (Str.ofString "has_successor"), (.str (Str.ofString "has_successor") 1104), (.ref 663)⟩, ⟨PyData.keyHash P (Str.ofString "has_predecessor"), (.str (Str.ofString "has_predecessor") 1113), (.ref 670)⟩, ⟨PyData.keyHash P (Str.ofString "successors"), (.str (Str.ofString "successors") 1122), (.ref 677)⟩, ⟨PyData.keyHash P (Str.ofString "neighbors"), (.str (Str.ofString "neighbors") 1123), (.ref 677)⟩, ⟨PyData.keyHash P (Str.ofString "predecessors"), (.str (Str.ofString "predecessors") 1132), (.ref 684)⟩, ⟨PyData.keyHash P (Str.ofString "edges"), (.str (Str.ofString "edges") 1151), (.ref 693)⟩, ⟨PyData.keyHash P (Str.ofString "degree"), (.str (Str.ofString "degree") 1170), (.ref 703)⟩, ⟨PyData.keyHash P (Str.ofString "in_degree"), (.str (Str.ofString "in_degree") 1189), (.ref 713)⟩, ⟨PyData.keyHash P (Str.ofString "out_degree"), (.str (Str.ofString "out_degree") 1208), (.ref 723)⟩, ⟨PyData.keyHash P (Str.ofString "clear"), (.str (Str.ofString "clear") 1215), (.ref 731)⟩, ⟨PyData.keyHash P (Str.ofString "clear_edges"), (.str (Str.ofString "clear_edges") 1222), (.ref 738)⟩, ⟨PyData.keyHash P (Str.ofString "is_multigraph"), (.str (Str.ofString "is_multigraph") 1229), (.ref 745)⟩, ⟨PyData.keyHash P (Str.ofString "is_directed"), (.str (Str.ofString "is_directed") 1236), (.ref 752)⟩, ⟨PyData.keyHash P (Str.ofString "__static_attributes__"), (.str (Str.ofString "__static_attributes__") 1242), (.ref 753)⟩, ⟨PyData.keyHash P (Str.ofString "__doc__"), (.str (Str.ofString "__doc__") 1243), .none⟩].toArray 2, [].toArray⟩
def o755 (_P : Params) : Obj := ⟨(.type "type"), none, .cls { name := (Str.ofString "DiGraph"), bases := [(.ref 540)], mro := [(.ref 755), (.ref 540), (.type "object")], ns := 754, qualname := (Str.ofString "DiGraph"), hasDict := true, slotNames := [], subclasses := [(.ref 906)], abstract := false, collection := none, hasDel := false }, [(some (.ref 549)), none, (some (.str (Str.ofString "DiGraph") 918)), (some (.str (Str.ofString "DiGraph") 926)), (some (.builtin "object.__new__")), (some (.bool true))].toArray⟩
def o768 (_P : Params) : Obj := ⟨(.type "cell"), none, .cell (some (.ref 906)), [].toArray⟩
def o773 (_P : Params) : Obj := ⟨(.type "tuple"), none, .seq [.none].toArray 0, [].toArray⟩
def o780 (_P : Params) : Obj := ⟨(.type "code"), none, .fields [(.str (Str.ofString "__init__") 1302), (.str (Str.ofString "PlanarEmbedding.__init__") 1303), (.str (Str.ofString "/claim/cut.py") 1304), (.int (521) 0), (.int (2) 0), (.int (0) 0), (.int (0) 0), (.int (11) 0), (.ref 775), (.bool true), (.int (181) 0), (.ref 776), .none, (.ref 777), (.ref 778), (.ref 779), (.int (1309) 0), (.int (521) 0), (.str (Str.ofString "/claim/cut.py") 1310)].toArray, [].toArray⟩
def o781 (_P : Params) : Obj := mkFn (clsSt 16 0) (Str.ofString "PlanarEmbedding.__init__") (.ref 773) .none [((Str.ofString "__class__"), 768)] (.ref 774) (.ref 780) (.str (Str.ofString "networkx.algorithms.planarity") 1288)
def o787 (_P : Params) : Obj := ⟨(.type "code"), none, .fields [(.str (Str.ofString "get_data") 1312), (.str (Str.ofString "PlanarEmbedding.get_data") 1313), (.str (Str.ofString "/claim/cut.py") 1314), (.int (524) 0), (.int (1) 0), (.int (0) 0), (.int (0) 0), (.int (3) 0), (.ref 782), (.bool true), (.int (181) 0), (.ref 783), .none, (.ref 784), (.ref 785), (.ref 786), (.int (1318) 0), (.int (524) 0), (.str (Str.ofString "/claim/cut.py") 1319)].toArray, [].toArray⟩
def o788 (_P : Params) : Obj := mkFn (clsSt 16 1) (Str.ofString "PlanarEmbedding.get_data") .none .none [] .none (.ref 787) (.str (Str.ofString "networkx.algorithms.planarity") 1288)
def o801 (_P : Params) : Obj := ⟨(.type "code"), none, .fields [(.str (Str.ofString "remove_node") 1332), (.str (Str.ofString "PlanarEmbedding.remove_node") 1333), (.str (Str.ofString "/claim/cut.py") 1334), (.int (537) 0), (.int (2) 0), (.int (0) 0), (.int (0) 0), (.int (3) 0), (.ref 796), (.bool true), (.int (181) 0), (.ref 797), .none, (.ref 798), (.ref 799), (.ref 800), (.int (1342) 0), (.int (537) 0), (.str (Str.ofString "/claim/cut.py") 1343)].toArray, [].toArray⟩
def o802 (_P : Params) : Obj := mkFn (clsSt 16 3) (Str.ofString "PlanarEmbedding.remove_node") .none .none [] .none (.ref 801) (.str (Str.ofString "networkx.algorithms.planarity") 1288)
def o808 (_P : Params) : Obj := ⟨(.type "code"), none, .fields [(.str (Str.ofString "remove_nodes_from") 1345), (.str (Str.ofString "PlanarEmbedding.remove_nodes_from") 1346), (.str (Str.ofString "/claim/cut.py") 1347), (.int (554) 0), (.int (2) 0), (.int (0) 0), (.int (0) 0), (.int (3) 0), (.ref 803), (.bool true), (.int (181) 0), (.ref 804), .none, (.ref 805), (.ref 806), (.ref 807), (.int (1351) 0), (.int (554) 0), (.str (Str.ofString "/claim/cut.py") 1352)].toArray, [].toArray⟩
def o809 (_P : Params) : Obj := mkFn (clsSt 16 4) (Str.ofString "PlanarEmbedding.remove_nodes_from") .none .none [] .none (.ref 808) (.str (Str.ofString "networkx.algorithms.planarity") 1288)
def o815 (_P : Params) : Obj := ⟨(.type "code"), none, .fields [(.str (Str.ofString "neighbors_cw_order") 1354), (.str (Str.ofString "PlanarEmbedding.neighbors_cw_order") 1355), (.str (Str.ofString "/claim/cut.py") 1356), (.int (559) 0), (.int (2) 0), (.int (0) 0), (.int (0) 0), (.int (35) 0), (.ref 810), (.bool true), (.int (181) 0), (.ref 811), .none, (.ref 812), (.ref 813), (.ref 814), (.int (1362) 0), (.int (559) 0), (.str (Str.ofString "/claim/cut.py") 1363)].toArray, [].toArray⟩
def o816 (_P : Params) : Obj := mkFn (clsSt 16 5) (Str.ofString "PlanarEmbedding.neighbors_cw_order") .none .none [] .none (.ref 815) (.str (Str.ofString "networkx.algorithms.planarity") 1288)
def o817 (P : Params) : Obj := ⟨(.type "dict"), none, .dict [⟨PyData.keyHash P (Str.ofString "cw"), (.str (Str.ofString "cw") 1365), .none⟩, ⟨PyData.keyHash P (Str.ofString "ccw"), (.str (Str.ofString "ccw") 1366), .none⟩].toArray 2, [].toArray⟩
def o824 (_P : Params) : Obj := ⟨(.type "code"), none, .fields [(.str (Str.ofString "add_half_edge") 1367), (.str (Str.ofString "PlanarEmbedding.add_half_edge") 1368), (.str (Str.ofString "/claim/cut.py") 1369), (.int (570) 0), (.int (3) 0), (.int (0) 0), (.int (2) 0), (.int (3) 0), (.ref 819), (.bool true), (.int (181) 0), (.ref 820), .none, (.ref 821), (.ref 822), (.ref 823), (.int (1381) 0), (.int (570) 0), (.str (Str.ofString "/claim/cut.py") 1382)].toArray, [].toArray⟩
def o825 (_P : Params) : Obj := mkFn (clsSt 16 6) (Str.ofString "PlanarEmbedding.add_half_edge") .none (.ref 817) [((Str.ofString "__class__"), 768)] (.ref 818) (.ref 824) (.str (Str.ofString "networkx.algorithms.planarity") 1288)
def o838 (_P : Params) : Obj := ⟨(.type "code"), none, .fields [(.str (Str.ofString "add_half_edge_ccw") 1391), (.str (Str.ofString "PlanarEmbedding.add_half_edge_ccw") 1392), (.str (Str.ofString "/claim/cut.py") 1393), (.int (604) 0), (.int (4) 0), (.int (0) 0), (.int (0) 0), (.int (3) 0), (.ref 833), (.bool true), (.int (181) 0), (.ref 834), .none, (.ref 835), (.ref 836), (.ref 837), (.int (1398) 0), (.int (604) 0), (.str (Str.ofString "/claim/cut.py") 1399)].toArray, [].toArray⟩
def o839 (_P : Params) : Obj := mkFn (clsSt 16 8) (Str.ofString "PlanarEmbedding.add_half_edge_ccw") .none .none [] .none (.ref 838) (.str (Str.ofString "networkx.algorithms.planarity") 1288)
def o845 (_P : Params) : Obj := ⟨(.type "code"), none, .fields [(.str (Str.ofString "add_half_edge_cw") 1401), (.str (Str.ofString "PlanarEmbedding.add_half_edge_cw") 1402), (.str (Str.ofString "/claim/cut.py") 1403), (.int (607) 0), (.int (4) 0), (.int (0) 0), (.int (0) 0), (.int (3) 0), (.ref 840), (.bool true), (.int (181) 0), (.ref 841), .none, (.ref 842), (.ref 843), (.ref 844), (.int (1408) 0), (.int (607) 0), (.str (Str.ofString "/claim/cut.py") 1409)].toArray, [].toArray⟩
def o846 (_P : Params) : Obj := mkFn (clsSt 16 9) (Str.ofString "PlanarEmbedding.add_half_edge_cw") .none .none [] .none (.ref 845) (.str (Str.ofString "networkx.algorithms.planarity") 1288)
def o852 (_P : Params) : Obj := ⟨(.type "code"), none, .fields [(.str (Str.ofString "remove_edge") 1411), (.str (Str.ofString "PlanarEmbedding.remove_edge") 1412), (.str (Str.ofString "/claim/cut.py") 1413), (.int (610) 0), (.int (3) 0), (.int (0) 0), (.int (0) 0), (.int (3) 0), (.ref 847), (.bool true), (.int (181) 0), (.ref 848), .none, (.ref 849), (.ref 850), (.ref 851), (.int (1424) 0), (.int (610) 0), (.str (Str.ofString "/claim/cut.py") 1425)].toArray, [].toArray⟩
def o853 (_P : Params) : Obj := mkFn (clsSt 16 10) (Str.ofString "PlanarEmbedding.remove_edge") .none .none [] .none (.ref 852) (.str (Str.ofString "networkx.algorithms.planarity") 1288)
def o859 (_P : Params) : Obj := ⟨(.type "code"), none, .fields [(.str (Str.ofString "remove_edges_from") 1427), (.str (Str.ofString "PlanarEmbedding.remove_edges_from") 1428), (.str (Str.ofString "/claim/cut.py") 1429), (.int (631) 0), (.int (2) 0), (.int (0) 0), (.int (0) 0), (.int (3) 0), (.ref 854), (.bool true), (.int (181) 0), (.ref 855), .none, (.ref 856), (.ref 857), (.ref 858), (.int (1435) 0), (.int (631) 0), (.str (Str.ofString "/claim/cut.py") 1436)].toArray, [].toArray⟩
def o860 (_P : Params) : Obj := mkFn (clsSt 16 11) (Str.ofString "PlanarEmbedding.remove_edges_from") .none .none [] .none (.ref 859) (.str (Str.ofString "networkx.algorithms.planarity") 1288)
def o866 (_P : Params) : Obj := ⟨(.type "code"), none, .fields [(.str (Str.ofString "connect_components") 1438), (.str (Str.ofString "PlanarEmbedding.connect_components") 1439), (.str (Str.ofString "/claim/cut.py") 1440), (.int (637) 0), (.int (3) 0), (.int (0) 0), (.int (0) 0), (.int (3) 0), (.ref 861), (.bool true), (.int (181) 0), (.ref 862), .none, (.ref 863), (.ref 864), (.ref 865), (.int (1445) 0), (.int (637) 0), (.str (Str.ofString "/claim/cut.py") 1446)].toArray, [].toArray⟩
def o867 (_P : Params) : Obj := mkFn (clsSt 16 12) (Str.ofString "PlanarEmbedding.connect_components") .none .none [] .none (.ref 866) (.str (Str.ofString "networkx.algorithms.planarity") 1288)
def o905 (P : Params) : Obj := ⟨(.type "dict"), none, .dict [⟨PyData.keyHash P (Str.ofString "__module__"), (.str (Str.ofString "__module__") 1297), (.str (Str.ofString "networkx.algorithms.planarity") 1288)⟩, ⟨PyData.keyHash P (Str.ofString "__firstlineno__"), (.str (Str.ofString "__firstlineno__") 1301), (.int (519) 1300)⟩, ⟨PyData.keyHash P (Str.ofString "__init__"), (.str (Str.ofString "__init__") 1311), (.ref 781)⟩, ⟨PyData.keyHash P (Str.ofString "get_data"), (.str (Str.ofString "get_data") 1320), (.ref 788)⟩, ⟨PyData.keyHash P (Str.ofString "set_data"), (.str (Str.ofString "set_data") 1331), (.ref 795)⟩, ⟨PyData.keyHash P (Str.ofString "remove_node"), (.str (Str.ofString "remove_node") 1344), (.ref 802)⟩, ⟨PyData.keyHash P (Str.ofString "remove_nodes_from"), (.str (Str.ofString "remove_nodes_from") 1353), (.ref 809)⟩, ⟨PyData.keyHash P (Str.ofString "neighbors_cw_order"), (.str (Str.ofString "neighbors_cw_order") 1364), (.ref 816)⟩, ⟨PyData.keyHash P (Str.ofString "add_half_edge"), (.str (Str.ofString "add_half_edge") 1383), (.ref 825)⟩, ⟨PyData.keyHash P (Str.ofString "check_structure"), (.str (Str.ofString "check_structure") 1390), (.ref 832)⟩, ⟨PyData.keyHash P (Str.ofString "add_half_edge_ccw"), (.str (Str.ofString "add_half_edge_ccw") 1400), (.ref 839)⟩, ⟨PyData.keyHash P (Str.ofString "add_half_edge_cw"), (.str (Str.ofString "add_half_edge_cw") 1410), (.ref 846)⟩, ⟨PyData.keyHash P (Str.ofString "remove_edge"), (.str (Str.ofString "remove_edge") 1426), (.ref 853)⟩, ⟨PyData.keyHash P (Str.ofString "remove_edges_from"), (.str (Str.ofString "remove_edges_from") 1437), (.ref 860)⟩, ⟨PyData.keyHash P (Str.ofString "connect_components"), (.str (Str.ofString "connect_components") 1447), (.ref 867)⟩, ⟨PyData.keyHash P (Str.ofString "add_half_edge_first"), (.str (Str.ofString "add_half_edge_first") 1456), (.ref 874)⟩, ⟨PyData.keyHash P (Str.ofString "next_face_half_edge"), (.str (Str.ofString "next_face_half_edge") 1465), (.ref 881)⟩, ⟨PyData.keyHash P (Str.ofString "traverse_face"), (.str (Str.ofString "traverse_face") 1475), (.ref 889)⟩, ⟨PyData.keyHash P (Str.ofString "faces"), (.str (Str.ofString "faces") 1482), (.ref 896)⟩, ⟨PyData.keyHash P (Str.ofString "is_directed"), (.str (Str.ofString "is_directed") 1489), (.ref 903)⟩, ⟨PyData.keyHash P (Str.ofString "__static_attributes__"), (.str (Str.ofString "__static_attributes__") 1490), (.ref 904)⟩, ⟨PyData.keyHash P (Str.ofString "__doc__"), (.str (Str.ofString "__doc__") 1492), .none⟩].toArray 3, [].toArray⟩
def o906 (_P : Params) : Obj := ⟨(.type "type"), none, .cls { name := (Str.ofString "PlanarEmbedding"), bases := [(.ref 755)], mro := [(.ref 906), (.ref 755), (.ref 540), (.type "object")], ns := 905, qualname := (Str.ofString "PlanarEmbedding"), hasDict := true, slotNames := [], subclasses := [], abstract := false, collection := none, hasDel := false }, [(some (.ref 765)), none, (some (.str (Str.ofString "PlanarEmbedding") 1290)), (some (.str (Str.ofString "PlanarEmbedding") 1298)), (some (.builtin "object.__new__")), (some (.bool true))].toArray⟩
def o914 (_P : Params) : Obj := ⟨(.type "code"), none, .fields [(.str (Str.ofString "_law_next") 1497), (.str (Str.ofString "_law_next") 1498), (.str (Str.ofString "/claim/cut.py") 1499), (.int (664) 0), (.int (2) 0), (.int (0) 0), (.int (0) 0), (.int (3) 0), (.ref 909), (.bool true), (.int (181) 0), (.ref 910), .none, (.ref 911), (.ref 912), (.ref 913), (.int (1503) 0), (.int (664) 0), (.str (Str.ofString "/claim/cut.py") 1504)].toArray, [].toArray⟩
def o915 (_P : Params) : Obj := mkFn (topSt 18) (Str.ofString "_law_next") .none .none [] .none (.ref 914) (.str (Str.ofString "law_ci0027_04") 1495)
def o921 (_P : Params) : Obj := ⟨(.type "code"), none, .fields [(.str (Str.ofString "_law_begun") 1506), (.str (Str.ofString "_law_begun") 1507), (.str (Str.ofString "/claim/cut.py") 1508), (.int (672) 0), (.int (1) 0), (.int (0) 0), (.int (0) 0), (.int (3) 0), (.ref 916), (.bool true), (.int (181) 0), (.ref 917), .none, (.ref 918), (.ref 919), (.ref 920), (.int (1511) 0), (.int (672) 0), (.str (Str.ofString "/claim/cut.py") 1512)].toArray, [].toArray⟩
def o922 (_P : Params) : Obj := mkFn (topSt 19) (Str.ofString "_law_begun") .none .none [] .none (.ref 921) (.str (Str.ofString "law_ci0027_04") 1495)
def o928 (_P : Params) : Obj := ⟨(.type "code"), none, .fields [(.str (Str.ofString "_law_put") 1514), (.str (Str.ofString "_law_put") 1515), (.str (Str.ofString "/claim/cut.py") 1516), (.int (677) 0), (.int (5) 0), (.int (0) 0), (.int (0) 0), (.int (3) 0), (.ref 923), (.bool true), (.int (181) 0), (.ref 924), .none, (.ref 925), (.ref 926), (.ref 927), (.int (1524) 0), (.int (677) 0), (.str (Str.ofString "/claim/cut.py") 1525)].toArray, [].toArray⟩
def o929 (_P : Params) : Obj := mkFn (topSt 20) (Str.ofString "_law_put") .none .none [] .none (.ref 928) (.str (Str.ofString "law_ci0027_04") 1495)
def o935 (_P : Params) : Obj := ⟨(.type "code"), none, .fields [(.str (Str.ofString "_law_is_refused") 1527), (.str (Str.ofString "_law_is_refused") 1528), (.str (Str.ofString "/claim/cut.py") 1529), (.int (692) 0), (.int (5) 0), (.int (0) 0), (.int (0) 0), (.int (3) 0), (.ref 930), (.bool true), (.int (181) 0), (.ref 931), .none, (.ref 932), (.ref 933), (.ref 934), (.int (1535) 0), (.int (692) 0), (.str (Str.ofString "/claim/cut.py") 1536)].toArray, [].toArray⟩
def o936 (_P : Params) : Obj := mkFn (topSt 21) (Str.ofString "_law_is_refused") .none .none [] .none (.ref 935) (.str (Str.ofString "law_ci0027_04") 1495)
def o940 (_P : Params) : Obj := ⟨(.type "code"), none, .fields [(.str (Str.ofString "_law_is_told") 1538), (.str (Str.ofString "_law_is_told") 1539), (.str (Str.ofString "/claim/cut.py") 1540), (.int (707) 0), (.int (2) 0), (.int (0) 0), (.int (0) 0), (.int (3) 0), (.ref 937), (.bool true), (.int (181) 0), (.ref 938), .none, .none, .none, (.ref 939), (.int (1541) 0), (.int (707) 0), (.str (Str.ofString "/claim/cut.py") 1542)].toArray, [].toArray⟩
def o941 (_P : Params) : Obj := mkFn (topSt 22) (Str.ofString "_law_is_told") .none .none [] .none (.ref 940) (.str (Str.ofString "law_ci0027_04") 1495)
def o945 (_P : Params) : Obj := ⟨(.type "code"), none, .fields [(.str (Str.ofString "law") 1544), (.str (Str.ofString "law") 1545), (.str (Str.ofString "/claim/cut.py") 1546), (.int (712) 0), (.int (1) 0), (.int (0) 0), (.int (0) 0), (.int (3) 0), (.ref 942), (.bool true), (.int (181) 0), (.ref 943), .none, .none, .none, (.ref 944), (.int (1547) 0), (.int (712) 0), (.str (Str.ofString "/claim/cut.py") 1548)].toArray, [].toArray⟩
def o946 (_P : Params) : Obj := mkFn (topSt 23) (Str.ofString "law") .none .none [] .none (.ref 945) (.str (Str.ofString "law_ci0027_04") 1495)
def frag (P : Params) : Frag := [(2, o2 P), (3, o3 P), (186, o186 P), (187, o187 P), (188, o188 P), (199, o199 P), (200, o200 P), (260, o260 P), (261, o261 P), (267, o267 P), (268, o268 P), (274, o274 P), (275, o275 P), (281, o281 P), (282, o282 P), (288, o288 P), (289, o289 P), (295, o295 P), (296, o296 P), (327, o327 P), (328, o328 P), (539, o539 P), (540, o540 P), (541, o541 P), (542, o542 P), (563, o563 P), (569, o569 P), (570, o570 P), (613, o613 P), (614, o614 P), (634, o634 P), (635, o635 P), (754, o754 P), (755, o755 P), (768, o768 P), (773, o773 P), (780, o780 P), (781, o781 P), (787, o787 P), (788, o788 P), (801, o801 P), (802, o802 P), (808, o808 P), (809, o809 P), (815, o815 P), (816, o816 P), (817, o817 P), (824, o824 P), (825, o825 P), (838, o838 P), (839, o839 P), (845, o845 P), (846, o846 P), (852, o852 P), (853, o853 P), (859, o859 P), (860, o860 P), (866, o866 P), (867, o867 P), (905, o905 P), (906, o906 P), (914, o914 P), (915, o915 P), (921, o921 P), (922, o922 P), (928, o928 P), (929, o929 P), (935, o935 P), (936, o936 P), (940, o940 P), (941, o941 P), (945, o945 P), (946, o946 P)]
def fragAt : List Addr := [2, 3, 186, 187, 188, 199, 200, 260, 261, 267, 268, 274, 275, 281, 282, 288, 289, 295, 296, 327, 328, 539, 540, 541, 542, 563, 569, 570, 613, 614, 634, 635, 754, 755, 768, 773, 780, 781, 787, 788, 801, 802, 808, 809, 815, 816, 817, 824, 825, 838, 839, 845, 846, 852, 853, 859, 860, 866, 867, 905, 906, 914, 915, 921, 922, 928, 929, 935, 936, 940, 941, 945, 946]
def topSize : Nat := 947
def topToks : Nat := 1550

def view : Program := { prog with main := { prog.main with body := [topSt 23] } }
def loose : List Str := (prog.boundNames.filter fun n => n != Str.ofString "law")
def bootTree (P : Params) : BT := [boot_o_0 P, boot_o_1 P, boot_o_2 P, boot_o_3 P, boot_o_4 P, boot_o_5 P, boot_o_6 P, boot_o_7 P, boot_o_8 P, boot_o_9 P, boot_o_10 P].zipIdx.foldl (fun t x => t.ins x.2 x.1) .nil
def obs (s : Shared) : List (Option Obj) × (Nat × Nat) := (fragAt.map s.heap.get?, (s.heap.objs.size, s.toks))
def obsV (w : World) : List (Option Obj) × (Nat × Nat) := ((frag w.params).map fun p => some p.2, (topSize, topToks))
def runL := fun (w : World) (os : OsState) => (segRunT treeTable prog w 11 (some (.ref 6)) 0 20000 ⟨bootTree w.params, 11, (boot_heap w.params).life, Array.mk [], boot_drawn, boot_toks, os⟩ (topStub prog)).map (fun r =>
      ((staticsOk (importedModules prog.main.body) (boot_heap w.params) r.2.1.abs.heap && namesBound prog r.2.1.abs.heap && gensDone r.2.1.abs && laidKept (boot_heap w.params) r.2.1.abs.heap),
        openSeen view loose (importedModules prog.main.body) (fun _ => true) true r.2.1.abs, obs r.2.1.abs))
def runR := fun (w : World) (_ : OsState) => some (true, openGood view loose, obsV w)
theorem runL_self : Mine.runL = Mine.runL := rfl
theorem runR_self : Mine.runR = Mine.runR := rfl
lay_quick Mine.runL Mine.runR
name_quick ciRunL for Mine.runL by Mine.runL_self
name_quick ciRunR for Mine.runR by Mine.runR_self
theorem run_tw : PySem.W.Fast.ciRunL = PySem.W.Fast.ciRunR := by kernel_rfl!
theorem run_ok : runL = runR := PySem.W.Fast.ciRunL_eq.trans (run_tw.trans PySem.W.Fast.ciRunR_eq.symm)
end
end Mine
end
section
open PySem PySem.W PyProof.Rows
set_option maxRecDepth 100000
set_option maxHeartbeats 0
namespace Mine
theorem frag_at (P : Params) : fragAt = (frag P).map (·.1) := by rfl
theorem left4 : LeftO prog view loose (fun _ => true) obs obsV 20000 true :=
  left_of_run (H₀ := boot_heap) (T₀ := bootTree) (life := fun P => (boot_heap P).life) (n₀ := 11) (m₀ := 11) (ann := some (.ref 6)) (d₀ := boot_drawn) (k₀ := boot_toks)
    (boot_open (p := prog) (N := 20000) (by kernel_rfl!) (by decide) (fun s => by kernel_rfl!))
    (fun w => by kernel_rfl!) (fun P => by kernel_rfl!) (fun w os => congrFun (congrFun run_ok w) os)
def Knows (w : World) (h : Heap) : Prop := (frag w.params).In h
theorem knows_of (w : World) (s : Shared) (e : obs s = obsV w) : Knows w s.heap := InK.of frag_at w s (congrArg Prod.fst e)
theorem knows_keeps (w : World) (h h' : Heap) (x : Knows w h) (k : ∀ b o, h.get? b = some o → h'.get? b = some o) : Knows w h' := Frag.In.keeps x k
end Mine
end
section
open PySem PySem.W PySem.Calls PyProof.Rows
set_option maxRecDepth 100000
set_option maxHeartbeats 0
namespace Mine
abbrev rowW : RowW := PySem.Challenge.rw_ci0027_04.row.toRowW
def Called : Prop := ∀ (w : World) (s₀ s₁ : Shared) (mg mb : Str → Option Value), Ground view loose rowW.records (fun _ _ => True) w s₀ mg mb s₁.heap → Knows w s₁.heap → ∀ a : Addr, mg (Str.ofString "law") = some (.ref a) → s₁.gens = #[] →
  ∀ (args : List WData) (vals : List Value) (as : List Addr), rowW.claim.pre args = true → ReadsAllW rowW.records (classAt s₀.heap) s₁.heap vals args as →
    wpAny (model prog w) callerA (PySem.call (.ref a) vals) (fun v s' => GoodWG rowW.claim (classAt s₀.heap) (ExcName.means s₀.heap) args s₁ (.ok (.ret v)) s')
        (fun e s' => GoodWG rowW.claim (classAt s₀.heap) (ExcName.means s₀.heap) args s₁ (.error e) s') s₁
theorem top_of (called : Called) : PySem.Challenge.rw_ci0027_04.Holds := by
  o_law
  refine holds_open (q := view) (loose := loose) (Xt := fun _ => true) (XP := fun _ _ => True) (Yf := obs) (Ya := obsV) (YP := Knows) (N := 20000) left4 knows_of knows_keeps (fun _ _ => trivial) (fun _ _ _ _ _ => trivial) (by rfl) (by rfl) (by rfl) (fun s _ => recFacts_nil rfl) (by rfl) (by assumption) (by decide +kernel) ⟨rfl, rfl, rfl, rfl, rfl, by decide +kernel⟩ ?hw ?hc
  case hw => w_witness2
  case hc =>
    intro w s₀ s₁ mg mb G Y a o pm cd doc dV kV ho hd hcd hD hmg hg args vals as hpre hlay hrd hwl hlo
    exact called w s₀ s₁ mg mb G Y a hmg hg args vals as hpre hrd
end Mine
end
section
open PySem PySem.W PySem.Calls PyProof.Rows
set_option maxRecDepth 100000
namespace Mine
structure EA where
  x : Addr
  dx : Addr
  dg : Addr
  dn : Addr
  ds : Addr
  dp : Addr
  inn : Int → Addr
  pin : Int → Addr
  att : Int → Addr
  dat : Int → Int → Addr
structure ES where
  nn : List Int
  ns : List Int
  np : List Int
  nbr : Int → List Int
  pnb : Int → List Int
  cw : Int → Int → Int
  ccw : Int → Int → Int
inductive Tg where
  | x | dx | dg | dn | ds | dp
  | inn (u : Int) | pin (u : Int) | dat (u v : Int)
  deriving DecidableEq
def EA.at (A : EA) : Tg → Addr
  | .x => A.x | .dx => A.dx | .dg => A.dg | .dn => A.dn | .ds => A.ds | .dp => A.dp
  | .inn u => A.inn u | .pin u => A.pin u | .dat u v => A.dat u v
def ES.live (S : ES) : Tg → Prop
  | .inn u => u ∈ S.ns
  | .pin u => u ∈ S.np
  | .dat u v => u ∈ S.ns ∧ v ∈ S.nbr u
  | _ => True
def refs (l : List Int) (f : Int → Addr) : List (Int × Value) := l.map fun u => (u, Value.ref (f u))
def DatAt (prog : Program) (w : World) (h : Heap) (a : Addr) (c d : Int) : Prop :=
  ∃ kvs, h.DictOf (strKind prog w) a kvs ∧ kvs.length = 2 ∧ (∃ t, valueAt kvs (Str.ofString "cw") = some (.int c t)) ∧ (∃ t, valueAt kvs (Str.ofString "ccw") = some (.int d t))
def instEs (P : Params) (A : EA) (t : Nat → Tok) : List DictEntry :=
  [⟨PyData.keyHash P (Str.ofString "graph"), .str (Str.ofString "graph") (t 0), .ref A.dg⟩,
   ⟨PyData.keyHash P (Str.ofString "_node"), .str (Str.ofString "_node") (t 1), .ref A.dn⟩,
   ⟨PyData.keyHash P (Str.ofString "_adj"), .str (Str.ofString "_adj") (t 2), .ref A.ds⟩,
   ⟨PyData.keyHash P (Str.ofString "_succ"), .str (Str.ofString "_succ") (t 3), .ref A.ds⟩,
   ⟨PyData.keyHash P (Str.ofString "_pred"), .str (Str.ofString "_pred") (t 4), .ref A.dp⟩]
structure EmbAt (prog : Program) (w : World) (h : Heap) (A : EA) (S : ES) : Prop where
  inst : h.get? A.x = some (instObj 906 A.dx)
  dict : ∃ t, h.get? A.dx = some (dictOf (instEs w.params A t) 5)
  graph : ∃ o, h.get? A.dg = some o
  node : h.DictOf (intKind prog w) A.dn (refs S.nn A.att)
  succ : h.DictOf (intKind prog w) A.ds (refs S.ns A.inn)
  pred : h.DictOf (intKind prog w) A.dp (refs S.np A.pin)
  inn : ∀ u ∈ S.ns, h.DictOf (intKind prog w) (A.inn u) (refs (S.nbr u) (A.dat u))
  pin : ∀ u ∈ S.np, h.DictOf (intKind prog w) (A.pin u) (refs (S.pnb u) fun v => A.dat v u)
  dat : ∀ u ∈ S.ns, ∀ v ∈ S.nbr u, DatAt prog w h (A.dat u v) (S.cw u v) (S.ccw u v)
  small : S.nn.length ≤ 100 ∧ S.ns.length ≤ 100 ∧ S.np.length ≤ 100 ∧ (∀ u ∈ S.ns, (S.nbr u).length ≤ 100) ∧ ∀ u ∈ S.np, (S.pnb u).length ≤ 100
  sep : ∀ t t', S.live t → S.live t' → A.at t = A.at t' → t = t'
  high : ∀ t, S.live t → topSize ≤ A.at t
def Bt (h : Heap) : Prop := ∃ mg mb, h.Ns mainGlobals mg ∧ h.Ns builtinsNs mb ∧ ∀ x : Str, x ≠ "__name__" → mb x = bootBuiltins x
structure V (prog : Program) (w : World) (h : Heap) (L : Addr) (m : Str → Option Value) (A : EA) (S : ES) : Prop where
  ns : h.Ns L m
  em : EmbAt prog w h A S
  kin : (frag w.params).In h
  bt : Bt h
structure Gd (w : World) (h : Heap) : Prop where
  kin : (frag w.params).In h
  lim : h.NoLimit
  bt : Bt h
structure C (prog : Program) (w : World) (T : Tg → Prop) (g : Heap) (L : Addr) (h : Heap) (m : Str → Option Value) (A : EA) (S : ES) : Prop where
  ns : h.Ns L m
  keep : ∀ b o, g.get? b = some o → h.get? b = some o
  gL : g.get? L = none
  em : EmbAt prog w h A S
  hid : ∀ t, S.live t → T t → g.get? (A.at t) = none
  nL : ∀ t, S.live t → A.at t ≠ L
  gnd : Gd w g
theorem Bt.keeps {h h' : Heap} (x : Bt h) (k : ∀ b o, h.get? b = some o → h'.get? b = some o) : Bt h' := let ⟨mg, mb, a, b, c⟩ := x; ⟨mg, mb, a.keeps k, b.keeps k, c⟩
theorem Gd.keeps {w : World} {h h' : Heap} (x : Gd w h) (k : ∀ b o, h.get? b = some o → h'.get? b = some o) : Gd w h' := ⟨x.kin.keeps k, x.lim.keeps k, x.bt.keeps k⟩
theorem C.gd {prog : Program} {w : World} {T : Tg → Prop} {g : Heap} {L : Addr} {h : Heap} {m : Str → Option Value} {A : EA} {S : ES} (c : C prog w T g L h m A S) : Gd w h := c.gnd.keeps c.keep
theorem C.v {prog : Program} {w : World} {T : Tg → Prop} {g : Heap} {L : Addr} {h : Heap} {m : Str → Option Value} {A : EA} {S : ES} (c : C prog w T g L h m A S) : V prog w h L m A S :=
  ⟨c.ns, c.em, c.gd.kin, c.gd.bt⟩
structure C0 (prog : Program) (w : World) (g : Heap) (L : Addr) (h : Heap) (m : Str → Option Value) (A : EA) (S : ES) : Prop where
  ns : h.Ns L m
  keep : ∀ b o, g.get? b = some o → h.get? b = some o
  gL : g.get? L = none
  em : EmbAt prog w g A S
  gnd : Gd w g
theorem C0.gd {prog : Program} {w : World} {g : Heap} {L : Addr} {h : Heap} {m : Str → Option Value} {A : EA} {S : ES} (c : C0 prog w g L h m A S) : Gd w h := c.gnd.keeps c.keep

section
variable {prog : Program} {w : World} {M : Model} {Ar : Around} {E : Value → Shared → Prop} {s : Shared} {g h h' : Heap} {L : Addr} {m : Str → Option Value} {A : EA} {S : ES}
theorem valueAt_refs {l : List Int} {f : Int → Addr} {u : Int} (hu : u ∈ l) : valueAt (refs l f) u = some (.ref (f u)) := by
  unfold valueAt refs
  induction l with
  | nil => cases hu
  | cons a r ih =>
    rw [List.map_cons, List.find?_cons]
    by_cases e : a = u
    · subst e; simp
    · rw [decide_eq_false (by simpa using e)]
      exact ih ((List.mem_cons.mp hu).resolve_left fun q => e q.symm)
theorem valueAt_refs_none {l : List Int} {f : Int → Addr} {u : Int} (hu : u ∉ l) : valueAt (refs l f) u = none := by
  unfold valueAt refs
  induction l with
  | nil => rfl
  | cons a r ih =>
    rw [List.map_cons, List.find?_cons]
    have e : a ≠ u := fun q => hu (q ▸ .head _)
    rw [decide_eq_false (by simpa using e)]
    exact ih fun q => hu (.tail _ q)
theorem refs_length (l : List Int) (f : Int → Addr) : (refs l f).length = l.length := List.length_map ..
theorem is_int (k : Int) (t : Tok) : (intKind prog w).is k (.int k t) = true := by simp [intKind, Value.isInt]
theorem is_str (x : Str) (t : Tok) : (PySem.strKind prog w).is x (.str x t) = true := by simp [PySem.strKind, Value.isStrOf]

theorem EmbAt.instAt (e : EmbAt prog w h A S) : ∃ t, InstAt h A.x (instObj 906 A.dx) 906 (some (dictOf (instEs w.params A t) 5)) := by
  obtain ⟨t, ht⟩ := e.dict
  exact ⟨t, e.inst, rfl, rfl, ht⟩
end
end Mine
end
section
open PySem PySem.W PySem.Calls PyProof.Rows
set_option maxRecDepth 100000
namespace Mine
theorem kf_ga (P : Params) : findIn (frag P) (.ref 906) (Str.ofString "__getattribute__") = some (some (.builtin "object.__getattribute__")) := by kernel_rfl!
theorem kf_gat (P : Params) : findIn (frag P) (.ref 906) (Str.ofString "__getattr__") = some none := by kernel_rfl!
theorem kf_hd (P : Params) : hasDictIn (frag P) 906 = true := by kernel_rfl!
theorem kf_succ (P : Params) : findIn (frag P) (.ref 906) (Str.ofString "_succ") = some none := by kernel_rfl!
theorem kf_pred (P : Params) : findIn (frag P) (.ref 906) (Str.ofString "_pred") = some none := by kernel_rfl!
theorem kf_node (P : Params) : findIn (frag P) (.ref 906) (Str.ofString "_node") = some none := by kernel_rfl!
theorem kf_adj (P : Params) : findIn (frag P) (.ref 906) (Str.ofString "_adj") = some none := by kernel_rfl!
theorem kf_graph (P : Params) : findIn (frag P) (.ref 906) (Str.ofString "graph") = some none := by kernel_rfl!
end Mine
end
section
open PySem PySem.W PySem.Calls PyProof.Rows
set_option maxRecDepth 100000
namespace Mine
def upd {β : Type} (f : Int → β) (u : Int) (x : β) : Int → β := fun a => if a = u then x else f a
@[simp] theorem upd_same {β : Type} (f : Int → β) (u : Int) (x : β) : upd f u x u = x := by simp [upd]
theorem upd_ne {β : Type} (f : Int → β) {u a : Int} (x : β) (h : a ≠ u) : upd f u x a = f a := by simp [upd, h]
def ES.setCw (S : ES) (u v y : Int) : ES := { S with cw := upd S.cw u (upd (S.cw u) v y) }
def ES.setCcw (S : ES) (u v y : Int) : ES := { S with ccw := upd S.ccw u (upd (S.ccw u) v y) }
def del (l : List Int) (v : Int) : List Int := l.filter fun x => x ≠ v
def ES.delNbr (S : ES) (u v : Int) : ES := { S with nbr := upd S.nbr u (del (S.nbr u) v) }
def ES.delPnb (S : ES) (v u : Int) : ES := { S with pnb := upd S.pnb v (del (S.pnb v) u) }
def ES.delNode (S : ES) (n : Int) : ES := { S with nn := del S.nn n }
def ES.delSucc (S : ES) (n : Int) : ES := { S with ns := del S.ns n }
def ES.delPred (S : ES) (n : Int) : ES := { S with np := del S.np n }
theorem mem_del {l : List Int} {v x : Int} : x ∈ del l v ↔ x ∈ l ∧ x ≠ v := by simp [del]
theorem del_length_le (l : List Int) (v : Int) : (del l v).length ≤ l.length := List.length_filter_le ..
theorem without_refs (l : List Int) (f : Int → Addr) (v : Int) : without (refs l f) v = refs (del l v) f := by
  unfold without refs del
  induction l with
  | nil => rfl
  | cons a r ih => by_cases h : a = v <;> simp_all [List.filter_cons]

section
variable {prog : Program} {w : World} {Ar : Around} {E : Value → Shared → Prop} {s : Shared} {g h h' : Heap} {L : Addr} {m : Str → Option Value} {A : EA} {S S' : ES}

theorem EmbAt.ne (e : EmbAt prog w h A S) {t t' : Tg} (l : S.live t) (l' : S.live t') (n : t ≠ t') : A.at t ≠ A.at t' := fun q => n (e.sep t t' l l' q)

theorem EmbAt.turn (e : EmbAt prog w h A S) {t₀ : Tg} (l₀ : S.live t₀) (hs : Heap.SameBut (A.at t₀) h h') (sub : ∀ t, S'.live t → S.live t)
    (hnx : t₀ ≠ .x) (hnd : t₀ ≠ .dx) (hng : t₀ ≠ .dg)
    (node : if t₀ = .dn then h'.DictOf (PySem.intKind prog w) A.dn (refs S'.nn A.att) else S'.nn = S.nn)
    (succ : if t₀ = .ds then h'.DictOf (PySem.intKind prog w) A.ds (refs S'.ns A.inn) else S'.ns = S.ns)
    (pred : if t₀ = .dp then h'.DictOf (PySem.intKind prog w) A.dp (refs S'.np A.pin) else S'.np = S.np)
    (inn : ∀ u ∈ S'.ns, if t₀ = .inn u then h'.DictOf (PySem.intKind prog w) (A.inn u) (refs (S'.nbr u) (A.dat u)) else S'.nbr u = S.nbr u)
    (pin : ∀ u ∈ S'.np, if t₀ = .pin u then h'.DictOf (PySem.intKind prog w) (A.pin u) (refs (S'.pnb u) fun v => A.dat v u) else S'.pnb u = S.pnb u)
    (dat : ∀ u ∈ S'.ns, ∀ v ∈ S'.nbr u, if t₀ = .dat u v then DatAt prog w h' (A.dat u v) (S'.cw u v) (S'.ccw u v) else S'.cw u v = S.cw u v ∧ S'.ccw u v = S.ccw u v)
    (small : S'.nn.length ≤ 100 ∧ S'.ns.length ≤ 100 ∧ S'.np.length ≤ 100 ∧ (∀ u ∈ S'.ns, (S'.nbr u).length ≤ 100) ∧ ∀ u ∈ S'.np, (S'.pnb u).length ≤ 100) :
    EmbAt prog w h' A S' := by
  have key : ∀ t, S.live t → t ≠ t₀ → h'.get? (A.at t) = h.get? (A.at t) := fun t l n => hs.2 _ (e.ne l l₀ n)
  have kd : ∀ {K : Type} [DecidableEq K] {knd : PySem.KeyKind prog w K} {kvs : List (K × Value)} t, S.live t → t ≠ t₀ → h.DictOf knd (A.at t) kvs → h'.DictOf knd (A.at t) kvs :=
    fun t l n d => d.sameBut hs (e.ne l l₀ n)
  refine ⟨(key .x trivial hnx.symm).trans e.inst, ?_, ?_, ?_, ?_, ?_, fun u hu => ?_, fun u hu => ?_, fun u hu v hv => ?_, small, fun t t' l l' => e.sep t t' (sub t l) (sub t' l'), fun t l => e.high t (sub t l)⟩
  · obtain ⟨tk, ht⟩ := e.dict
    exact ⟨tk, (key .dx trivial hnd.symm).trans ht⟩
  · obtain ⟨o, ho⟩ := e.graph
    exact ⟨o, (key .dg trivial hng.symm).trans ho⟩
  · by_cases q : t₀ = .dn
    · rw [if_pos q] at node; exact node
    · rw [if_neg q] at node; rw [node]; exact kd .dn trivial (Ne.symm q) e.node
  · by_cases q : t₀ = .ds
    · rw [if_pos q] at succ; exact succ
    · rw [if_neg q] at succ; rw [succ]; exact kd .ds trivial (Ne.symm q) e.succ
  · by_cases q : t₀ = .dp
    · rw [if_pos q] at pred; exact pred
    · rw [if_neg q] at pred; rw [pred]; exact kd .dp trivial (Ne.symm q) e.pred
  · have x := inn u hu
    have lu : S.live (.inn u) := sub (.inn u) hu
    by_cases q : t₀ = .inn u
    · rw [if_pos q] at x; exact x
    · rw [if_neg q] at x; rw [x]; exact kd (.inn u) lu (Ne.symm q) (e.inn u lu)
  · have x := pin u hu
    have lu : S.live (.pin u) := sub (.pin u) hu
    by_cases q : t₀ = .pin u
    · rw [if_pos q] at x; exact x
    · rw [if_neg q] at x; rw [x]; exact kd (.pin u) lu (Ne.symm q) (e.pin u lu)
  · have x := dat u hu v hv
    have lu : S.live (.dat u v) := sub (.dat u v) ⟨hu, hv⟩
    by_cases q : t₀ = .dat u v
    · rw [if_pos q] at x; exact x
    · rw [if_neg q] at x
      rw [x.1, x.2]
      obtain ⟨kvs, d, r⟩ := e.dat u lu.1 v lu.2
      exact ⟨kvs, kd (.dat u v) lu (Ne.symm q) d, r⟩
end
end Mine
end
section
open PySem PySem.W PySem.Calls PyProof.Rows
set_option maxRecDepth 100000
namespace Mine
section
variable {K : Type} [DecidableEq K]
theorem valueAt_stored (kvs : List (K × Value)) (k x : K) (v : Value) : valueAt (stored kvs k v) x = if x = k then some v else valueAt kvs x := by
  unfold stored
  by_cases h : (kvs.any fun kv => decide (kv.1 = k)) = true
  · rw [if_pos h]
    unfold valueAt
    induction kvs with
    | nil => simp at h
    | cons a r ih =>
      simp only [List.map_cons, List.find?_cons]
      by_cases ak : a.1 = k
      · rw [if_pos ak]
        by_cases xk : x = k
        · subst xk; simp [ak]
        · have : ¬ a.1 = x := fun q => xk (q.symm.trans ak)
          simp only [decide_eq_false this, if_neg xk]
          clear ih h
          induction r with
          | nil => rfl
          | cons b r ih =>
            simp only [List.map_cons, List.find?_cons]
            by_cases bk : b.1 = k
            · have : ¬ b.1 = x := fun q => xk (q.symm.trans bk)
              rw [if_pos bk]; simp only [decide_eq_false this]; exact ih
            · rw [if_neg bk]
              by_cases bx : b.1 = x
              · simp [bx]
              · simp only [decide_eq_false bx]; exact ih
      · rw [if_neg ak]
        have h' : (r.any fun kv => decide (kv.1 = k)) = true := by simpa [ak] using h
        by_cases ax : a.1 = x
        · have : ¬ x = k := fun q => ak (ax.trans q)
          simp [ax, this]
        · simp only [decide_eq_false ax]; exact ih h'
  · rw [if_neg h]
    unfold valueAt
    rw [List.find?_append]
    have hn : ∀ kv ∈ kvs, kv.1 ≠ k := by
      intro kv hm e
      exact h (List.any_eq_true.mpr ⟨kv, hm, by simp [e]⟩)
    by_cases xk : x = k
    · subst xk
      have : (kvs.find? fun kv => decide (kv.1 = x)) = none := List.find?_eq_none.mpr fun kv hm => by simpa using hn kv hm
      rw [this]; simp
    · rw [if_neg xk]
      have : ¬ k = x := fun q => xk q.symm
      cases kvs.find? fun kv => decide (kv.1 = x) <;> simp [this]
theorem stored_length_there {kvs : List (K × Value)} {k : K} {v : Value} (h : (valueAt kvs k).isSome = true) : (stored kvs k v).length = kvs.length := by
  unfold stored
  rw [if_pos, List.length_map]
  unfold valueAt at h
  rw [Option.isSome_map] at h
  obtain ⟨x, hx⟩ := Option.isSome_iff_exists.mp h
  exact List.any_eq_true.mpr ⟨x, List.mem_of_find?_eq_some hx, List.find?_some (p := fun (kv : K × Value) => decide (kv.1 = k)) hx⟩
end
section
variable {prog : Program} {w : World} {T : Tg → Prop} {Ar : Around} {E : Value → Shared → Prop} {s : Shared} {g h h' : Heap} {L : Addr} {m : Str → Option Value} {A : EA} {S S' : ES}
theorem C.turn (c : C prog w T g L h m A S) {t₀ : Tg} (l₀ : S.live t₀) (hT : T t₀) (hs : Heap.SameBut (A.at t₀) h h') (sub : ∀ t, S'.live t → S.live t) (e : EmbAt prog w h' A S') : C prog w T g L h' m A S' :=
  ⟨c.ns.sameBut hs (c.nL t₀ l₀).symm, fun b o q => (hs.2 b fun z => by rw [z, c.hid t₀ l₀ hT] at q; cases q).trans (c.keep b o q), c.gL, e, fun t l => c.hid t (sub t l), fun t l => c.nL t (sub t l), c.gnd⟩

theorem DatAt.set {a : Addr} {c d y : Int} {t : Tok} {b : Bool} (hd : DatAt prog w h a c d) {kvs'} (hm : h'.DictOf (PySem.strKind prog w) a kvs') 
    (hk : ∃ kvs, kvs.length = 2 ∧ (∃ t, valueAt kvs (Str.ofString "cw") = some (.int c t)) ∧ (∃ t, valueAt kvs (Str.ofString "ccw") = some (.int d t)) ∧ kvs' = stored kvs (if b then Str.ofString "cw" else Str.ofString "ccw") (.int y t)) :
    DatAt prog w h' a (if b then y else c) (if b then d else y) := by
  obtain ⟨kvs, hl, ⟨t1, h1⟩, ⟨t2, h2⟩, rfl⟩ := hk
  have n1 : ¬ Str.ofString "ccw" = Str.ofString "cw" := by decide +kernel
  have n2 : ¬ Str.ofString "cw" = Str.ofString "ccw" := by decide +kernel
  cases b with
  | true => exact ⟨_, hm, by rw [if_pos rfl, stored_length_there (by rw [h1]; rfl)]; exact hl, ⟨t, by rw [if_pos rfl, valueAt_stored, if_pos rfl]; rfl⟩, ⟨t2, by rw [if_pos rfl, valueAt_stored, if_neg n1]; exact h2⟩⟩
  | false => exact ⟨_, hm, by rw [if_neg Bool.false_ne_true, stored_length_there (by rw [h2]; rfl)]; exact hl, ⟨t1, by rw [if_neg Bool.false_ne_true, valueAt_stored, if_neg n2]; exact h1⟩, ⟨t, by rw [if_neg Bool.false_ne_true, valueAt_stored, if_pos rfl]; rfl⟩⟩

theorem set_cw {u v y : Int} {t t' : Tok} {Q : Unit → Shared → Prop} (c : C prog w T g L s.heap m A S) (hu : u ∈ S.ns) (hv : v ∈ S.nbr u) (hT : T (.dat u v))
    (k : ∀ h', C prog w T g L h' m A (S.setCw u v y) → Q () { s with heap := h', toks := s.toks + 1 }) :
    wpAny (model prog w) Ar (setItem (.ref (A.dat u v)) (.str (Str.ofString "cw") t) (.int y t')) Q E s := by
  have D := c.em.dat u hu v hv
  obtain ⟨kvs, hd, hl, h1, h2⟩ := id D
  refine wpAny_setItem_pairs (is_str _ _) hd (fun h' hm hs => k h' ?_) (by rw [hl]; decide)
  have D' := D.set (b := true) (y := y) hm ⟨kvs, hl, h1, h2, rfl⟩
  refine c.turn (t₀ := .dat u v) ⟨hu, hv⟩ hT hs (fun t l => by cases t <;> exact l) (c.em.turn (t₀ := .dat u v) ⟨hu, hv⟩ hs (fun t l => by cases t <;> exact l) (by simp) (by simp) (by simp) rfl rfl rfl
    (fun u _ => by simp [ES.setCw]) (fun u _ => by simp [ES.setCw]) (fun a ha b hb => ?_) c.em.small)
  by_cases q : Tg.dat u v = Tg.dat a b
  · rw [if_pos q]
    injection q with q1 q2; subst q1 q2
    simpa [ES.setCw] using D'
  · rw [if_neg q]
    refine ⟨?_, rfl⟩
    unfold ES.setCw
    by_cases qa : a = u
    · subst qa
      have : b ≠ v := fun z => q (by rw [z])
      simp [upd_ne _ _ this]
    · simp [upd_ne _ _ qa]
theorem set_ccw {u v y : Int} {t t' : Tok} {Q : Unit → Shared → Prop} (c : C prog w T g L s.heap m A S) (hu : u ∈ S.ns) (hv : v ∈ S.nbr u) (hT : T (.dat u v))
    (k : ∀ h', C prog w T g L h' m A (S.setCcw u v y) → Q () { s with heap := h', toks := s.toks + 1 }) :
    wpAny (model prog w) Ar (setItem (.ref (A.dat u v)) (.str (Str.ofString "ccw") t) (.int y t')) Q E s := by
  have D := c.em.dat u hu v hv
  obtain ⟨kvs, hd, hl, h1, h2⟩ := id D
  refine wpAny_setItem_pairs (is_str _ _) hd (fun h' hm hs => k h' ?_) (by rw [hl]; decide)
  have D' := D.set (b := false) (y := y) hm ⟨kvs, hl, h1, h2, rfl⟩
  refine c.turn (t₀ := .dat u v) ⟨hu, hv⟩ hT hs (fun t l => by cases t <;> exact l) (c.em.turn (t₀ := .dat u v) ⟨hu, hv⟩ hs (fun t l => by cases t <;> exact l) (by simp) (by simp) (by simp) rfl rfl rfl
    (fun u _ => by simp [ES.setCcw]) (fun u _ => by simp [ES.setCcw]) (fun a ha b hb => ?_) c.em.small)
  by_cases q : Tg.dat u v = Tg.dat a b
  · rw [if_pos q]
    injection q with q1 q2; subst q1 q2
    simpa [ES.setCcw] using D'
  · rw [if_neg q]
    refine ⟨rfl, ?_⟩
    unfold ES.setCcw
    by_cases qa : a = u
    · subst qa
      have : b ≠ v := fun z => q (by rw [z])
      simp [upd_ne _ _ this]
    · simp [upd_ne _ _ qa]

theorem del_item {K : Type} [DecidableEq K] {knd : PySem.KeyKind prog w K} {d : Addr} {kvs : List (K × Value)} {k : K} {key : Value} {Q : Unit → Shared → Prop} (hkey : knd.is k key = true) (hD : s.heap.DictOf knd d kvs) (hl : (valueAt kvs k).isSome = true) (hsz : kvs.length ≤ sizeLine)
    (h : ∀ h', h'.DictOf knd d (without kvs k) → Heap.SameBut d s.heap h' → Q () { s with heap := h', toks := s.toks + 1 }) : wpAny (model prog w) Ar (delItem (.ref d) key) Q E s := by
  unfold delItem
  try with_reducible refine wpAny_holding ?_
  refine wpAny_bind (wpAny_sequenceKey hD.typeIs (by decide) ?_)
  refine wpAny_bind (wpAny_callSpecial?_slot (name := Str.ofString "__delitem__") hD.typeIs PySem.F.slot_dict_delitem
    (call_meetsIn PySem.F.slot_dict_delitem hD.typeIs PySem.F.entry_dict_delitem (PySem.F.args_dict_delitem_2 _ _) (meets_dict_delitem_pairs knd d hkey) ⟨kvs, hD, hsz, hl, fun h' hmm hs => ?_⟩))
  exact wpAny_pure (h h' hmm hs)

theorem line_of {n : Nat} (h : n ≤ 100) : n ≤ sizeLine := by rw [sizeLine_eq]; omega

theorem del_nbr {u v : Int} {t : Tok} {Q : Unit → Shared → Prop} (c : C prog w T g L s.heap m A S) (hu : u ∈ S.ns) (hv : v ∈ S.nbr u) (hT : T (.inn u))
    (k : ∀ h', C prog w T g L h' m A (S.delNbr u v) → Q () { s with heap := h', toks := s.toks + 1 }) :
    wpAny (model prog w) Ar (delItem (.ref (A.inn u)) (.int v t)) Q E s := by
  refine del_item (is_int _ _) (c.em.inn u hu) (by rw [valueAt_refs hv]; rfl) (by rw [refs_length]; exact line_of (c.em.small.2.2.2.1 u hu)) (fun h' hm hs => k h' ?_)
  rw [without_refs] at hm
  have sub : ∀ t, (S.delNbr u v).live t → S.live t := fun t l => by
    cases t <;> try exact l
    rename_i a b
    refine ⟨l.1, ?_⟩
    have lb := l.2
    unfold ES.delNbr at lb
    by_cases q : a = u
    · subst q; simp only [upd_same] at lb; exact (mem_del.mp lb).1
    · simp only [upd_ne _ _ q] at lb; exact lb
  refine c.turn (t₀ := .inn u) hu hT hs sub (c.em.turn (t₀ := .inn u) hu hs sub (by simp) (by simp) (by simp) rfl rfl rfl
    (fun a ha => ?_) (fun a _ => by simp [ES.delNbr]) (fun a ha b hb => by simp [ES.delNbr]) ⟨c.em.small.1, c.em.small.2.1, c.em.small.2.2.1, fun a ha => ?_, c.em.small.2.2.2.2⟩)
  · by_cases q : Tg.inn u = Tg.inn a
    · rw [if_pos q]; injection q with q; subst q; simpa [ES.delNbr] using hm
    · rw [if_neg q]; exact upd_ne _ _ fun z => q (by rw [z])
  · unfold ES.delNbr
    by_cases q : a = u
    · subst q; simp only [upd_same]; exact Nat.le_trans (del_length_le _ _) (c.em.small.2.2.2.1 a ha)
    · simp only [upd_ne _ _ q]; exact c.em.small.2.2.2.1 a ha
theorem del_pnb {u v : Int} {t : Tok} {Q : Unit → Shared → Prop} (c : C prog w T g L s.heap m A S) (hv : v ∈ S.np) (hu : u ∈ S.pnb v) (hT : T (.pin v))
    (k : ∀ h', C prog w T g L h' m A (S.delPnb v u) → Q () { s with heap := h', toks := s.toks + 1 }) :
    wpAny (model prog w) Ar (delItem (.ref (A.pin v)) (.int u t)) Q E s := by
  refine del_item (is_int _ _) (c.em.pin v hv) (by rw [valueAt_refs hu]; rfl) (by rw [refs_length]; exact line_of (c.em.small.2.2.2.2 v hv)) (fun h' hm hs => k h' ?_)
  rw [without_refs] at hm
  have sub : ∀ t, (S.delPnb v u).live t → S.live t := fun t l => by cases t <;> exact l
  refine c.turn (t₀ := .pin v) hv hT hs sub (c.em.turn (t₀ := .pin v) hv hs sub (by simp) (by simp) (by simp) rfl rfl rfl
    (fun a _ => by simp [ES.delPnb]) (fun a ha => ?_) (fun a ha b hb => by simp [ES.delPnb]) ⟨c.em.small.1, c.em.small.2.1, c.em.small.2.2.1, c.em.small.2.2.2.1, fun a ha => ?_⟩)
  · by_cases q : Tg.pin v = Tg.pin a
    · rw [if_pos q]; injection q with q; subst q; simpa [ES.delPnb] using hm
    · rw [if_neg q]; exact upd_ne _ _ fun z => q (by rw [z])
  · unfold ES.delPnb
    by_cases q : a = v
    · subst q; simp only [upd_same]; exact Nat.le_trans (del_length_le _ _) (c.em.small.2.2.2.2 a ha)
    · simp only [upd_ne _ _ q]; exact c.em.small.2.2.2.2 a ha
end
end Mine
end
section
open PySem PySem.W PySem.Calls PyProof.Rows
set_option maxRecDepth 100000
namespace Mine
section
variable {prog : Program} {w : World} {T : Tg → Prop} {Ar : Around} {E : Value → Shared → Prop} {s : Shared} {g h h' : Heap} {L : Addr} {m : Str → Option Value} {A : EA} {S S' : ES}
theorem attr_of {name : Str} {a : Addr} {expr : Bool} {Q : Value → Shared → Prop} (c : V prog w s.heap L m A S) (hf : findIn (frag w.params) (.ref 906) name = some none) (hl : ∀ t, getL name (instEs w.params A t) = some (some (.ref a)))
    (k : Q (.ref a) { s with toks := s.toks + 1 }) : wpAny (model prog w) Ar (getAttr (.ref A.x) name expr) Q E s := by
  obtain ⟨t, I⟩ := c.em.instAt
  exact get_value c.kin I (kf_ga _) (findObj_own (kf_hd _) hf rfl (by rw [lookIn_dict]; exact hl t)) rfl k
theorem attr_succ {expr : Bool} {Q : Value → Shared → Prop} (c : V prog w s.heap L m A S) (k : Q (.ref A.ds) { s with toks := s.toks + 1 }) :
    wpAny (model prog w) Ar (getAttr (.ref A.x) (Str.ofString "_succ") expr) Q E s := attr_of c (kf_succ _) (fun t => by with_unfolding_all rfl) k
theorem attr_adj {expr : Bool} {Q : Value → Shared → Prop} (c : V prog w s.heap L m A S) (k : Q (.ref A.ds) { s with toks := s.toks + 1 }) :
    wpAny (model prog w) Ar (getAttr (.ref A.x) (Str.ofString "_adj") expr) Q E s := attr_of c (kf_adj _) (fun t => by with_unfolding_all rfl) k
theorem attr_pred {expr : Bool} {Q : Value → Shared → Prop} (c : V prog w s.heap L m A S) (k : Q (.ref A.dp) { s with toks := s.toks + 1 }) :
    wpAny (model prog w) Ar (getAttr (.ref A.x) (Str.ofString "_pred") expr) Q E s := attr_of c (kf_pred _) (fun t => by with_unfolding_all rfl) k
theorem attr_node {expr : Bool} {Q : Value → Shared → Prop} (c : V prog w s.heap L m A S) (k : Q (.ref A.dn) { s with toks := s.toks + 1 }) :
    wpAny (model prog w) Ar (getAttr (.ref A.x) (Str.ofString "_node") expr) Q E s := attr_of c (kf_node _) (fun t => by with_unfolding_all rfl) k
theorem get_ds {u : Int} {t : Tok} {Q : Value → Shared → Prop} (c : V prog w s.heap L m A S) (hu : u ∈ S.ns) (k : Q (.ref (A.inn u)) { s with toks := s.toks + 1 }) :
    wpAny (model prog w) Ar (getItem (.ref A.ds) (.int u t)) Q E s := wpAny_getItem_of (is_int _ _) c.em.succ.mapOf (valueAt_refs hu) k
theorem get_dp {u : Int} {t : Tok} {Q : Value → Shared → Prop} (c : V prog w s.heap L m A S) (hu : u ∈ S.np) (k : Q (.ref (A.pin u)) { s with toks := s.toks + 1 }) :
    wpAny (model prog w) Ar (getItem (.ref A.dp) (.int u t)) Q E s := wpAny_getItem_of (is_int _ _) c.em.pred.mapOf (valueAt_refs hu) k
theorem get_inn {u v : Int} {t : Tok} {Q : Value → Shared → Prop} (c : V prog w s.heap L m A S) (hu : u ∈ S.ns) (hv : v ∈ S.nbr u) (k : Q (.ref (A.dat u v)) { s with toks := s.toks + 1 }) :
    wpAny (model prog w) Ar (getItem (.ref (A.inn u)) (.int v t)) Q E s := wpAny_getItem_of (is_int _ _) (c.em.inn u hu).mapOf (valueAt_refs hv) k
theorem get_cw {u v : Int} {t : Tok} {Q : Value → Shared → Prop} (c : V prog w s.heap L m A S) (hu : u ∈ S.ns) (hv : v ∈ S.nbr u) (k : ∀ t, Q (.int (S.cw u v) t) { s with toks := s.toks + 1 }) :
    wpAny (model prog w) Ar (getItem (.ref (A.dat u v)) (.str (Str.ofString "cw") t)) Q E s := by
  obtain ⟨kvs, hd, hl, ⟨t1, h1⟩, h2⟩ := c.em.dat u hu v hv
  exact wpAny_getItem_of (is_str _ _) hd.mapOf h1 (k t1)
theorem get_ccw {u v : Int} {t : Tok} {Q : Value → Shared → Prop} (c : V prog w s.heap L m A S) (hu : u ∈ S.ns) (hv : v ∈ S.nbr u) (k : ∀ t, Q (.int (S.ccw u v) t) { s with toks := s.toks + 1 }) :
    wpAny (model prog w) Ar (getItem (.ref (A.dat u v)) (.str (Str.ofString "ccw") t)) Q E s := by
  obtain ⟨kvs, hd, hl, h1, ⟨t2, h2⟩⟩ := c.em.dat u hu v hv
  exact wpAny_getItem_of (is_str _ _) hd.mapOf h2 (k t2)
theorem EmbAt.keeps (e : EmbAt prog w h A S) (hk : ∀ t, S.live t → ∀ o, h.get? (A.at t) = some o → h'.get? (A.at t) = some o) : EmbAt prog w h' A S := by
  have kd : ∀ {K : Type} [DecidableEq K] {knd : PySem.KeyKind prog w K} {kvs : List (K × Value)} t, S.live t → h.DictOf knd (A.at t) kvs → h'.DictOf knd (A.at t) kvs :=
    fun t l d => d.at (hk t l)
  refine ⟨hk .x trivial _ e.inst, ?_, ?_, kd .dn trivial e.node, kd .ds trivial e.succ, kd .dp trivial e.pred, fun u hu => kd (.inn u) hu (e.inn u hu), fun u hu => kd (.pin u) hu (e.pin u hu),
    fun u hu v hv => ?_, e.small, e.sep, e.high⟩
  · obtain ⟨tk, ht⟩ := e.dict
    exact ⟨tk, hk .dx trivial _ ht⟩
  · obtain ⟨o, ho⟩ := e.graph
    exact ⟨o, hk .dg trivial _ ho⟩
  · obtain ⟨kvs, d, r⟩ := e.dat u hu v hv
    exact ⟨kvs, kd (.dat u v) ⟨hu, hv⟩ d, r⟩
theorem C.other (c : C prog w T g L h m A S) {b : Addr} (hs : Heap.SameBut b h h') (hg : g.get? b = none) (hL : b ≠ L) (ht : ∀ t, S.live t → A.at t ≠ b) : C prog w T g L h' m A S :=
  ⟨c.ns.sameBut hs hL.symm, fun x o q => (hs.2 x fun z => by rw [z, hg] at q; cases q).trans (c.keep x o q), c.gL, c.em.keeps fun t l o q => (hs.2 _ (ht t l)).trans q, c.hid, c.nL, c.gnd⟩
theorem C0.other (c : C0 prog w g L h m A S) {b : Addr} (hs : Heap.SameBut b h h') (hg : g.get? b = none) (hL : b ≠ L) : C0 prog w g L h' m A S :=
  ⟨c.ns.sameBut hs hL.symm, fun x o q => (hs.2 x fun z => by rw [z, hg] at q; cases q).trans (c.keep x o q), c.gL, c.em, c.gnd⟩
theorem C.loc (c : C prog w T g L h m A S) {m' : Str → Option Value} (hn : h'.Ns L m') (hs : Heap.SameBut L h h') : C prog w T g L h' m' A S :=
  ⟨hn, fun x o q => (hs.2 x fun z => by rw [z, c.gL] at q; cases q).trans (c.keep x o q), c.gL, c.em.keeps fun t l o q => (hs.2 _ (c.nL t l)).trans q, c.hid, c.nL, c.gnd⟩
theorem C0.loc (c : C0 prog w g L h m A S) {m' : Str → Option Value} (hn : h'.Ns L m') (hs : Heap.SameBut L h h') : C0 prog w g L h' m' A S :=
  ⟨hn, fun x o q => (hs.2 x fun z => by rw [z, c.gL] at q; cases q).trans (c.keep x o q), c.gL, c.em, c.gnd⟩
theorem C.keeps (c : C prog w T g L h m A S) (hk : ∀ b o, h.get? b = some o → h'.get? b = some o) : C prog w T g L h' m A S :=
  ⟨c.ns.keeps hk, fun b o q => hk b o (c.keep b o q), c.gL, c.em.keeps fun t _ => hk _, c.hid, c.nL, c.gnd⟩
theorem C0.v (c : C0 prog w g L h m A S) : V prog w h L m A S := ⟨c.ns, c.em.keeps fun _ _ => c.keep _, c.gd.kin, c.gd.bt⟩
theorem C0.keeps (c : C0 prog w g L h m A S) (hk : ∀ b o, h.get? b = some o → h'.get? b = some o) : C0 prog w g L h' m A S :=
  ⟨c.ns.keeps hk, fun b o q => hk b o (c.keep b o q), c.gL, c.em, c.gnd⟩
theorem C.push (c : C prog w T g L h m A S) (o : Obj) : C prog w T g L (h.push o) m A S := c.keeps fun _ _ e => Heap.get?_push_of_some _ e
theorem C0.push (c : C0 prog w g L h m A S) (o : Obj) : C0 prog w g L (h.push o) m A S := c.keeps fun _ _ e => Heap.get?_push_of_some _ e
end
end Mine
end
section
open PySem PySem.W PySem.Calls PyProof.Rows
set_option maxRecDepth 100000
namespace Mine
open Classical in
noncomputable def hide (h : Heap) (P : Addr → Prop) : Heap := ⟨h.objs.mapIdx fun i o => if P i then { o with data := .freed } else o, h.life⟩
theorem hide_size (h : Heap) (P : Addr → Prop) : (hide h P).objs.size = h.objs.size := by simp [hide]
open Classical in
theorem hide_get (h : Heap) (P : Addr → Prop) (a : Addr) : (hide h P).get? a = if P a then none else h.get? a := by
  unfold Heap.get? hide
  simp only [Array.getElem?_mapIdx]
  by_cases q : P a
  · rw [if_pos q]
    cases e : h.objs[a]? with
    | none => rfl
    | some o => simp [q]
  · rw [if_neg q]
    cases e : h.objs[a]? with
    | none => rfl
    | some o => simp [q]
def Fp (A : EA) (S : ES) (a : Addr) : Prop := ∃ t, S.live t ∧ A.at t = a
def Keep (A : EA) (S : ES) (h h' : Heap) : Prop := ∀ b o, ¬ Fp A S b → h.get? b = some o → h'.get? b = some o
structure Back (prog : Program) (w : World) (A : EA) (S : ES) (h : Heap) (A' : EA) (S' : ES) (h' : Heap) : Prop where
  em : EmbAt prog w h' A' S'
  keep : Keep A S h h'
  new : ∀ t, S'.live t → Fp A S (A'.at t) ∨ h.get? (A'.at t) = none
section
variable {prog : Program} {w : World} {T : Tg → Prop} {Ar : Around} {E : Value → Shared → Prop} {s : Shared} {g h h' : Heap} {L : Addr} {m : Str → Option Value} {A A' : EA} {S S' : ES}
theorem EmbAt.some (e : EmbAt prog w h A S) : ∀ t, S.live t → ∃ o, h.get? (A.at t) = some o := by
  have kd : ∀ {K : Type} [DecidableEq K] {knd : PySem.KeyKind prog w K} {a : Addr} {kvs : List (K × Value)}, h.DictOf knd a kvs → ∃ o, h.get? a = Option.some o := fun ⟨o, _, _, ho, _⟩ => ⟨o, ho⟩
  have hi := e.inst
  intro t l
  cases t with
  | x => exact ⟨_, e.inst⟩
  | dx => obtain ⟨tk, ht⟩ := e.dict; exact ⟨_, ht⟩
  | dg => exact e.graph
  | dn => exact kd e.node
  | ds => exact kd e.succ
  | dp => exact kd e.pred
  | inn u => exact kd (e.inn u l)
  | pin u => exact kd (e.pin u l)
  | dat u v => obtain ⟨kvs, d, _⟩ := e.dat u l.1 v l.2; exact kd d
def Tt : Tg → Prop := fun _ => True
theorem back_of (c : C prog w Tt (hide h (Fp A S)) L h' m A' S') : Back prog w A S h A' S' h' :=
  ⟨c.em, fun b o n e => c.keep b o (by rw [hide_get, if_neg n]; exact e), fun t l => by
    have := c.hid t l trivial
    rw [hide_get] at this
    by_cases q : Fp A S (A'.at t)
    · exact .inl q
    · rw [if_neg q] at this; exact .inr this⟩
theorem C.back (c : C prog w Tt g L h m A S) (b : Back prog w A S h A' S' h') : C prog w Tt g L h' m A' S' := by
  have hL : ¬ Fp A S L := fun ⟨t, l, q⟩ => c.nL t l q
  have hg : ∀ x, Fp A S x → g.get? x = none := fun x ⟨t, l, q⟩ => q ▸ c.hid t l trivial
  obtain ⟨oL, a1, a2, hoL, a3⟩ := c.ns
  refine ⟨⟨oL, a1, a2, b.keep L _ hL hoL, a3⟩, fun x o e => b.keep x o (fun q => by rw [hg x q] at e; cases e) (c.keep x o e), c.gL, b.em, fun t l _ => ?_, fun t l z => ?_, c.gnd⟩
  · rcases b.new t l with q | q
    · exact hg _ q
    · cases e : g.get? (A'.at t) with
      | none => rfl
      | some o => rw [c.keep _ _ e] at q; cases q
  · rcases b.new t l with q | q
    · exact hL (z ▸ q)
    · rw [z, hoL] at q; cases q
theorem frag_low (P : Params) (a : Addr) (o : Obj) (e : (frag P).lookup a = some o) : a < topSize := by
  have : a ∈ fragAt := by
    have q : fragAt = (frag P).map (·.1) := rfl
    rw [q]
    clear q
    generalize frag P = l at e
    induction l with
    | nil => cases e
    | cons p r ih =>
      obtain ⟨b, x⟩ := p
      simp only [List.lookup] at e
      split at e
      · rename_i z; rw [beq_iff_eq.mp z]; exact .head _
      · exact .tail _ (ih e)
  revert this
  have all : ∀ x ∈ fragAt, x < topSize := by decide
  exact all a
theorem kin_hide (X : (frag w.params).In h) (e : EmbAt prog w h A S) : (frag w.params).In (hide h (Fp A S)) := fun a o q => by
  rw [hide_get, if_neg]
  · exact X a o q
  · rintro ⟨t, l, z⟩
    have h1 := frag_low _ a o q
    have h2 := e.high t l
    rw [z] at h2
    exact absurd h1 (Nat.not_lt.mpr h2)
theorem lim_hide (X : h.NoLimit) (e : EmbAt prog w h A S) : (hide h (Fp A S)).NoLimit := by
  obtain ⟨mc, ⟨o, es, ep, ho, r⟩, x⟩ := X
  refine ⟨mc, ⟨o, es, ep, ?_, r⟩, x⟩
  rw [hide_get, if_neg]
  · exact ho
  · rintro ⟨t, l, z⟩
    have h2 := e.high t l
    rw [z] at h2
    exact absurd h2 (by decide)

theorem bt_hide (X : Bt h) (e : EmbAt prog w h A S) : Bt (hide h (Fp A S)) := by
  obtain ⟨mg, mb, ⟨o, es, ep, ho, r⟩, ⟨o', es', ep', ho', r'⟩, x⟩ := X
  have low : ∀ a, a < topSize → ¬ Fp A S a := fun a ha ⟨t, l, z⟩ => absurd (e.high t l) (by rw [z]; exact Nat.not_le.mpr ha)
  exact ⟨mg, mb, ⟨o, es, ep, by rw [hide_get, if_neg (low _ (by decide))]; exact ho, r⟩, ⟨o', es', ep', by rw [hide_get, if_neg (low _ (by decide))]; exact ho', r'⟩, x⟩
theorem gd_hide (G : Gd w h) (e : EmbAt prog w h A S) : Gd w (hide h (Fp A S)) := ⟨kin_hide G.kin e, lim_hide G.lim e, bt_hide G.bt e⟩
def Fq (T : Tg → Prop) (L : Addr) (A : EA) (S : ES) (a : Addr) : Prop := a = L ∨ ∃ t, S.live t ∧ T t ∧ A.at t = a
theorem C.rebase (c : C prog w Tt g L h m A S) (T : Tg → Prop) (hL : topSize ≤ L) : C prog w T (hide h (Fq T L A S)) L h m A S := by
  have low : ∀ a, a < topSize → ¬ Fq T L A S a := fun a ha q => by
    rcases q with z | ⟨t, l, _, z⟩
    · rw [z] at ha; exact absurd hL (Nat.not_le.mpr ha)
    · exact absurd (c.em.high t l) (by rw [z]; exact Nat.not_le.mpr ha)
  have kp : ∀ a o, a < topSize → h.get? a = some o → (hide h (Fq T L A S)).get? a = some o := fun a o ha e => by rw [hide_get, if_neg (low a ha)]; exact e
  refine ⟨c.ns, fun b o q => ?_, by rw [hide_get, if_pos (.inl rfl)], c.em, fun t l ht => by rw [hide_get, if_pos (.inr ⟨t, l, ht, rfl⟩)], c.nL, ?_, ?_, ?_⟩
  · rw [hide_get] at q
    split at q
    · cases q
    · exact q
  · exact fun a o q => kp a o (frag_low _ a o q) (c.gd.kin a o q)
  · obtain ⟨mc, ⟨o, es, ep, ho, r⟩, x⟩ := c.gd.lim
    exact ⟨mc, ⟨o, es, ep, kp _ _ (by decide) ho, r⟩, x⟩
  · obtain ⟨mg, mb, ⟨o, es, ep, ho, r⟩, ⟨o', es', ep', ho', r'⟩, x⟩ := c.gd.bt
    exact ⟨mg, mb, ⟨o, es, ep, kp _ _ (by decide) ho, r⟩, ⟨o', es', ep', kp _ _ (by decide) ho', r'⟩, x⟩
theorem C.rejoin {m' : Str → Option Value} (c : C prog w Tt g L h m A S) (d : C prog w T (hide h (Fq T L A S)) L h' m' A S') (sub : ∀ t, S'.live t → S.live t) : C prog w Tt g L h' m' A S' := by
  refine ⟨d.ns, fun b o q => d.keep b o ?_, c.gL, d.em, fun t l _ => c.hid t (sub t l) trivial, fun t l => c.nL t (sub t l), c.gnd⟩
  rw [hide_get, if_neg]
  · exact c.keep b o q
  · rintro (z | ⟨t, l, _, z⟩)
    · rw [z, c.gL] at q; cases q
    · rw [← z, c.hid t l trivial] at q; cases q
theorem enter_emb {R : Result → Shared → Prop} {fa : Addr} {o : Obj} {fd : FuncData} {body : List Stmt} {args : Args} {binds : List (Str × Value)} 
    (e : EmbAt prog w s.heap A S) (G : Gd w s.heap) (hroom : Ar.depth < recursionLimit)
    (ho : (frag w.params).lookup fa = some o) (hdata : o.data = .func fd) (hcd : codeIn (frag w.params) fd.code fd.qualname = true)
    (hbody : fd.body = .stmts body) (hbind : BindsTo s fd args binds)
    (hcell : (fd.scope.names.all fun x => decide (x.2 ≠ NameKind.cell)) = true) (hloc : (binds.all fun x => decide (fd.scope.names.lookup x.1 = some NameKind.local)) = true)
    (k : ∀ L h₁, L = s.heap.objs.size → topSize ≤ L → C prog w Tt (hide s.heap (Fp A S)) L h₁ (fun x => binds.reverse.lookup x) A S →
      wpAny (model prog w) (Ar.deeper (callEnv fd L fa)) (execs body (callEnv fd L fa)) (fun f s' => R (.ok (.ret (match f with | .ret v => v | _ => .none))) s')
        (fun e s' => wpAny (model prog w) (Ar.deeper (callEnv fd L fa)) (leaving (callEnv fd L fa) e) (fun _ s'' => R (.error e) s'') (fun e' s'' => R (.error e') s'') s')
        { s with heap := h₁, toks := s.toks + binds.length })
    (hco : fd.scope.isCoroutine = false := by rfl) (hgen : fd.scope.isGenerator = false := by rfl) (hk : fd.scope.kind = .function := by rfl) :
    codeAny (model prog w) Ar (.call (.ref fa) args) R s := by
  have hx : topSize < s.heap.objs.size := Nat.lt_of_le_of_lt (e.high .x trivial) (Heap.lt_size e.inst)
  refine codeAny_call_def hroom (G.kin _ _ ho) hdata G.lim (codeRec_of G.kin hcd) hbody hbind (fun x hx => of_decide_eq_true (List.all_eq_true.mp hcell x hx)) (fun x hx => of_decide_eq_true (List.all_eq_true.mp hloc x hx)) (fun h₁ hns hk₁ => k _ h₁ rfl (Nat.le_of_lt hx) ?_) hco hgen hk
  refine ⟨hns, fun b x q => ?_, ?_, e.keeps fun t _ => hk₁ _, fun t l _ => by rw [hide_get, if_pos ⟨t, l, rfl⟩], fun t l => ?_, gd_hide G e⟩
  · rw [hide_get] at q
    split at q
    · cases q
    · exact hk₁ _ _ q
  · rw [hide_get]
    split
    · rfl
    · exact Heap.get?_none_of_le (Nat.le_refl _)
  · obtain ⟨x, hx⟩ := e.some t l
    exact Nat.ne_of_lt (Heap.lt_size hx)
theorem enter_emb0 {R : Result → Shared → Prop} {fa : Addr} {o : Obj} {fd : FuncData} {body : List Stmt} {args : Args} {binds : List (Str × Value)} 
    (e : EmbAt prog w s.heap A S) (G : Gd w s.heap) (hroom : Ar.depth < recursionLimit)
    (ho : (frag w.params).lookup fa = some o) (hdata : o.data = .func fd) (hcd : codeIn (frag w.params) fd.code fd.qualname = true)
    (hbody : fd.body = .stmts body) (hbind : BindsTo s fd args binds)
    (hcell : (fd.scope.names.all fun x => decide (x.2 ≠ NameKind.cell)) = true) (hloc : (binds.all fun x => decide (fd.scope.names.lookup x.1 = some NameKind.local)) = true)
    (k : ∀ L h₁, L = s.heap.objs.size → topSize ≤ L → C0 prog w s.heap L h₁ (fun x => binds.reverse.lookup x) A S →
      wpAny (model prog w) (Ar.deeper (callEnv fd L fa)) (execs body (callEnv fd L fa)) (fun f s' => R (.ok (.ret (match f with | .ret v => v | _ => .none))) s')
        (fun e s' => wpAny (model prog w) (Ar.deeper (callEnv fd L fa)) (leaving (callEnv fd L fa) e) (fun _ s'' => R (.error e) s'') (fun e' s'' => R (.error e') s'') s')
        { s with heap := h₁, toks := s.toks + binds.length })
    (hco : fd.scope.isCoroutine = false := by rfl) (hgen : fd.scope.isGenerator = false := by rfl) (hk : fd.scope.kind = .function := by rfl) :
    codeAny (model prog w) Ar (.call (.ref fa) args) R s := by
  have hx : topSize < s.heap.objs.size := Nat.lt_of_le_of_lt (e.high .x trivial) (Heap.lt_size e.inst)
  refine codeAny_call_def hroom (G.kin _ _ ho) hdata G.lim (codeRec_of G.kin hcd) hbody hbind (fun x hx => of_decide_eq_true (List.all_eq_true.mp hcell x hx)) (fun x hx => of_decide_eq_true (List.all_eq_true.mp hloc x hx)) (fun h₁ hns hk₁ => k _ h₁ rfl (Nat.le_of_lt hx) ?_) hco hgen hk
  exact ⟨hns, hk₁, Heap.get?_none_of_le (Nat.le_refl _), e, G⟩
end
end Mine
end
section
open PySem PySem.W PySem.Calls PyProof.Rows
set_option maxRecDepth 100000
namespace Mine
section
variable {prog : Program} {w : World} {T : Tg → Prop} {Ar : Around} {E : Value → Shared → Prop} {s : Shared} {g h h' : Heap} {L : Addr} {m : Str → Option Value} {A : EA} {S S' : ES}
variable {env : Env}
theorem st_v {x : Str} {v : Value} {Q : Unit → Shared → Prop} (c : C prog w T g L s.heap m A S)
    (k : ∀ h', C prog w T g L h' (fun y => if y = x then some v else m y) A S → Q () { s with heap := h', toks := s.toks + 1 })
    (hl : env.kindOf x = some .local := by rfl) (he : env.locals = L := by rfl) 
    (hp : (env.scope.kind == .class || (env.scope.kind == .module && env.locals != env.globals)) = false := by rfl) :
    wpAny (model prog w) Ar (storeName env x v) Q E s := by
  subst he
  exact wpAny_storeName_local hl c.ns (fun h' hn hs => k h' (c.loc hn hs)) hp
theorem st_v0 {x : Str} {v : Value} {Q : Unit → Shared → Prop} (c : C0 prog w g L s.heap m A S)
    (k : ∀ h', C0 prog w g L h' (fun y => if y = x then some v else m y) A S → Heap.SameBut L s.heap h' → Q () { s with heap := h', toks := s.toks + 1 })
    (hl : env.kindOf x = some .local := by rfl) (he : env.locals = L := by rfl) 
    (hp : (env.scope.kind == .class || (env.scope.kind == .module && env.locals != env.globals)) = false := by rfl) :
    wpAny (model prog w) Ar (storeName env x v) Q E s := by
  subst he
  exact wpAny_storeName_local hl c.ns (fun h' hn hs => k h' (c.loc hn hs) hs) hp
theorem ld_v {x : Str} {pos : Pos} {v : Value} {Q : Value → Shared → Prop} (c : V prog w s.heap L m A S) (hv : m x = some v) (k : Q v s)
    (hl : env.kindOf x = some .local := by rfl) (he : env.locals = L := by rfl) (hk : env.scope.kind = .function := by rfl)
    (hd : (x == ("__debug__" : Str)) = false := by decide) :
    wpAny (model prog w) Ar (eval (.Name x pos) env) Q E s := by
  subst he
  exact wpAny_Name (wpAny_loadName_local hk hl c.ns hv k) hd
theorem gl_v {x : Str} {pos : Pos} {v : Value} {Q : Value → Shared → Prop} (c : V prog w s.heap L m A S) (e : nsIn (frag w.params) mainGlobals x = some (some v)) (h : Q v s)
    (hk : env.scope.kind = .function := by rfl) (hx : env.kindOf x = some .globalImplicit := by rfl) (hg : env.globals = mainGlobals := by rfl) (hd : (x == ("__debug__" : Str)) = false := by decide) :
    wpAny (model prog w) Ar (eval (.Name x pos) env) Q E s := by
  obtain ⟨mg, _, hm, _⟩ := c.bt
  exact Name_function_global hk hx (loadGlobal_global (hg ▸ hm) (mg_of c.kin hm e) h) hd
theorem bi_v {x : Str} {pos : Pos} {v : Value} {Q : Value → Shared → Prop} (c : V prog w s.heap L m A S) (e : nsIn (frag w.params) mainGlobals x = some none) (hv : bootBuiltins x = some v) (hn : x ≠ "__name__") (h : Q v s)
    (hk : env.scope.kind = .function := by rfl) (hx : env.kindOf x = some .globalImplicit := by rfl) (hg : env.globals = mainGlobals := by rfl) (hb : env.builtins = builtinsNs := by rfl) (hd : (x == ("__debug__" : Str)) = false := by decide) :
    wpAny (model prog w) Ar (eval (.Name x pos) env) Q E s := by
  obtain ⟨mg, mb, hm, hmb, hall⟩ := c.bt
  exact Name_function_global hk hx (loadGlobal_builtin (hg ▸ hm) (mg_none_of c.kin hm e) (hb ▸ hmb) ((hall x hn).trans hv) h) hd
theorem tail_dict {value slice : Expr} {K : Type} [DecidableEq K] {knd : PySem.KeyKind prog w K} {kvs : List (K × Value)} {d : Addr} {i : Value} {Q : Value → Shared → Prop} (hd : s.heap.DictOf knd d kvs)
    (hq : wpAny (model prog w) Ar (getItem (.ref d) i) Q E s) (hs : subscripted slice false (.ref d) i = operate [.ref d, i] (getItem (.ref d) i) := by with_unfolding_all rfl) :
    wpAny (model prog w) Ar (subscriptTail value slice (.ref d) i) Q E s :=
  tail_any hd.typeIs PySem.F.slot_dict_getitem.lookup hq hs
theorem del_one {t : Expr} {pos : Pos} {Q : Flow → Shared → Prop} (h : wpAny (model prog w) Ar (delete t env) (fun _ s' => Q .next s') E s) : wpAny (model prog w) Ar (exec (.Delete [t] pos) env) Q E s :=
  wpAny_Delete (wpAny_deleteEach_cons (wpAny_mono h (fun _ _ x => wpAny_deleteEach_nil x) fun _ _ x => x))
end
end Mine
end
section
open PySem PySem.W PySem.Calls PyProof.Rows
set_option maxRecDepth 100000
namespace Mine
def fbody : Stmt → List Stmt
  | .FunctionDef _ _ b _ _ _ _ _ _ _ => b
  | _ => []
def fdOf (o : Obj) : FuncData := match o.data with | .func f => f | _ => default
def m0 (l : List (Str × Value)) : Str → Option Value := fun x => l.reverse.lookup x
section
variable {prog : Program} {w : World} {Ar : Around} {E : Value → Shared → Prop} {s : Shared} {g h h' : Heap} {L : Addr} {m : Str → Option Value} {A : EA} {S S' : ES}
variable {env : Env} {value slice : Expr}
theorem sub_ds {u : Int} {t : Tok} {Q : Value → Shared → Prop} (c : V prog w s.heap L m A S) (hu : u ∈ S.ns) (k : Q (.ref (A.inn u)) { s with toks := s.toks + 1 })
    (hs : subscripted slice false (.ref A.ds) (.int u t) = operate [.ref A.ds, .int u t] (getItem (.ref A.ds) (.int u t))) :
    wpAny (model prog w) Ar (subscriptTail value slice (.ref A.ds) (.int u t)) Q E s := tail_dict c.em.succ (get_ds c hu k) hs
theorem sub_dp {u : Int} {t : Tok} {Q : Value → Shared → Prop} (c : V prog w s.heap L m A S) (hu : u ∈ S.np) (k : Q (.ref (A.pin u)) { s with toks := s.toks + 1 })
    (hs : subscripted slice false (.ref A.dp) (.int u t) = operate [.ref A.dp, .int u t] (getItem (.ref A.dp) (.int u t))) :
    wpAny (model prog w) Ar (subscriptTail value slice (.ref A.dp) (.int u t)) Q E s := tail_dict c.em.pred (get_dp c hu k) hs
theorem sub_inn {u v : Int} {t : Tok} {Q : Value → Shared → Prop} (c : V prog w s.heap L m A S) (hu : u ∈ S.ns) (hv : v ∈ S.nbr u) (k : Q (.ref (A.dat u v)) { s with toks := s.toks + 1 })
    (hs : subscripted slice false (.ref (A.inn u)) (.int v t) = operate [.ref (A.inn u), .int v t] (getItem (.ref (A.inn u)) (.int v t))) :
    wpAny (model prog w) Ar (subscriptTail value slice (.ref (A.inn u)) (.int v t)) Q E s := tail_dict (c.em.inn u hu) (get_inn c hu hv k) hs
theorem sub_cw {u v : Int} {t : Tok} {Q : Value → Shared → Prop} (c : V prog w s.heap L m A S) (hu : u ∈ S.ns) (hv : v ∈ S.nbr u) (k : ∀ t, Q (.int (S.cw u v) t) { s with toks := s.toks + 1 })
    (hs : subscripted slice false (.ref (A.dat u v)) (.str (Str.ofString "cw") t) = operate [.ref (A.dat u v), .str (Str.ofString "cw") t] (getItem (.ref (A.dat u v)) (.str (Str.ofString "cw") t))) :
    wpAny (model prog w) Ar (subscriptTail value slice (.ref (A.dat u v)) (.str (Str.ofString "cw") t)) Q E s :=
  have ⟨_, hd, _⟩ := c.em.dat u hu v hv
  tail_dict hd (get_cw c hu hv k) hs
theorem sub_ccw {u v : Int} {t : Tok} {Q : Value → Shared → Prop} (c : V prog w s.heap L m A S) (hu : u ∈ S.ns) (hv : v ∈ S.nbr u) (k : ∀ t, Q (.int (S.ccw u v) t) { s with toks := s.toks + 1 })
    (hs : subscripted slice false (.ref (A.dat u v)) (.str (Str.ofString "ccw") t) = operate [.ref (A.dat u v), .str (Str.ofString "ccw") t] (getItem (.ref (A.dat u v)) (.str (Str.ofString "ccw") t))) :
    wpAny (model prog w) Ar (subscriptTail value slice (.ref (A.dat u v)) (.str (Str.ofString "ccw") t)) Q E s :=
  have ⟨_, hd, _⟩ := c.em.dat u hu v hv
  tail_dict hd (get_ccw c hu hv k) hs
end
end Mine
end
section
open PySem PySem.W PySem.Calls PyProof.Rows
set_option maxRecDepth 100000
namespace Mine
theorem kf_m_add_half_edge (P : Params) : findIn (frag P) (.ref 906) (Str.ofString "add_half_edge") = some (some (.ref 825)) := by kernel_rfl!
theorem kt_825 (P : Params) : typeIn (frag P) (.ref 825) = some (.type "function") := by kernel_rfl!
theorem kk_825 (P : Params) : keepIn (frag P) (.ref 825) = true := by kernel_rfl!
theorem kf_m_remove_node (P : Params) : findIn (frag P) (.ref 906) (Str.ofString "remove_node") = some (some (.ref 802)) := by kernel_rfl!
theorem kt_802 (P : Params) : typeIn (frag P) (.ref 802) = some (.type "function") := by kernel_rfl!
theorem kk_802 (P : Params) : keepIn (frag P) (.ref 802) = true := by kernel_rfl!
theorem kf_m_remove_edge (P : Params) : findIn (frag P) (.ref 906) (Str.ofString "remove_edge") = some (some (.ref 853)) := by kernel_rfl!
theorem kt_853 (P : Params) : typeIn (frag P) (.ref 853) = some (.type "function") := by kernel_rfl!
theorem kk_853 (P : Params) : keepIn (frag P) (.ref 853) = true := by kernel_rfl!
theorem kf_m_get_data (P : Params) : findIn (frag P) (.ref 906) (Str.ofString "get_data") = some (some (.ref 788)) := by kernel_rfl!
theorem kt_788 (P : Params) : typeIn (frag P) (.ref 788) = some (.type "function") := by kernel_rfl!
theorem kk_788 (P : Params) : keepIn (frag P) (.ref 788) = true := by kernel_rfl!
theorem kf_m_neighbors_cw_order (P : Params) : findIn (frag P) (.ref 906) (Str.ofString "neighbors_cw_order") = some (some (.ref 816)) := by kernel_rfl!
theorem kt_816 (P : Params) : typeIn (frag P) (.ref 816) = some (.type "function") := by kernel_rfl!
theorem kk_816 (P : Params) : keepIn (frag P) (.ref 816) = true := by kernel_rfl!
theorem kf_m_add_nodes_from (P : Params) : findIn (frag P) (.ref 906) (Str.ofString "add_nodes_from") = some (some (.ref 614)) := by kernel_rfl!
theorem kt_614 (P : Params) : typeIn (frag P) (.ref 614) = some (.type "function") := by kernel_rfl!
theorem kk_614 (P : Params) : keepIn (frag P) (.ref 614) = true := by kernel_rfl!
theorem kf_m_remove_nodes_from (P : Params) : findIn (frag P) (.ref 906) (Str.ofString "remove_nodes_from") = some (some (.ref 809)) := by kernel_rfl!
theorem kt_809 (P : Params) : typeIn (frag P) (.ref 809) = some (.type "function") := by kernel_rfl!
theorem kk_809 (P : Params) : keepIn (frag P) (.ref 809) = true := by kernel_rfl!
theorem kf_m_remove_edges_from (P : Params) : findIn (frag P) (.ref 906) (Str.ofString "remove_edges_from") = some (some (.ref 860)) := by kernel_rfl!
theorem kt_860 (P : Params) : typeIn (frag P) (.ref 860) = some (.type "function") := by kernel_rfl!
theorem kk_860 (P : Params) : keepIn (frag P) (.ref 860) = true := by kernel_rfl!
theorem kf_m_connect_components (P : Params) : findIn (frag P) (.ref 906) (Str.ofString "connect_components") = some (some (.ref 867)) := by kernel_rfl!
theorem kt_867 (P : Params) : typeIn (frag P) (.ref 867) = some (.type "function") := by kernel_rfl!
theorem kk_867 (P : Params) : keepIn (frag P) (.ref 867) = true := by kernel_rfl!
theorem kf_m_add_half_edge_ccw (P : Params) : findIn (frag P) (.ref 906) (Str.ofString "add_half_edge_ccw") = some (some (.ref 839)) := by kernel_rfl!
theorem kt_839 (P : Params) : typeIn (frag P) (.ref 839) = some (.type "function") := by kernel_rfl!
theorem kk_839 (P : Params) : keepIn (frag P) (.ref 839) = true := by kernel_rfl!
theorem kf_m_add_half_edge_cw (P : Params) : findIn (frag P) (.ref 906) (Str.ofString "add_half_edge_cw") = some (some (.ref 846)) := by kernel_rfl!
theorem kt_846 (P : Params) : typeIn (frag P) (.ref 846) = some (.type "function") := by kernel_rfl!
theorem kk_846 (P : Params) : keepIn (frag P) (.ref 846) = true := by kernel_rfl!
theorem kf_m_node_dict_factory (P : Params) : findIn (frag P) (.ref 906) (Str.ofString "node_dict_factory") = some (some (.ref 261)) := by kernel_rfl!
theorem kt_261 (P : Params) : typeIn (frag P) (.ref 261) = some (.type "function") := by kernel_rfl!
theorem kk_261 (P : Params) : keepIn (frag P) (.ref 261) = true := by kernel_rfl!
theorem kf_m_node_attr_dict_factory (P : Params) : findIn (frag P) (.ref 906) (Str.ofString "node_attr_dict_factory") = some (some (.ref 268)) := by kernel_rfl!
theorem kt_268 (P : Params) : typeIn (frag P) (.ref 268) = some (.type "function") := by kernel_rfl!
theorem kk_268 (P : Params) : keepIn (frag P) (.ref 268) = true := by kernel_rfl!
theorem kf_m_adjlist_outer_dict_factory (P : Params) : findIn (frag P) (.ref 906) (Str.ofString "adjlist_outer_dict_factory") = some (some (.ref 275)) := by kernel_rfl!
theorem kt_275 (P : Params) : typeIn (frag P) (.ref 275) = some (.type "function") := by kernel_rfl!
theorem kk_275 (P : Params) : keepIn (frag P) (.ref 275) = true := by kernel_rfl!
theorem kf_m_adjlist_inner_dict_factory (P : Params) : findIn (frag P) (.ref 906) (Str.ofString "adjlist_inner_dict_factory") = some (some (.ref 282)) := by kernel_rfl!
theorem kt_282 (P : Params) : typeIn (frag P) (.ref 282) = some (.type "function") := by kernel_rfl!
theorem kk_282 (P : Params) : keepIn (frag P) (.ref 282) = true := by kernel_rfl!
theorem kf_m_edge_attr_dict_factory (P : Params) : findIn (frag P) (.ref 906) (Str.ofString "edge_attr_dict_factory") = some (some (.ref 289)) := by kernel_rfl!
theorem kt_289 (P : Params) : typeIn (frag P) (.ref 289) = some (.type "function") := by kernel_rfl!
theorem kk_289 (P : Params) : keepIn (frag P) (.ref 289) = true := by kernel_rfl!
theorem kf_m_graph_attr_dict_factory (P : Params) : findIn (frag P) (.ref 906) (Str.ofString "graph_attr_dict_factory") = some (some (.ref 296)) := by kernel_rfl!
theorem kt_296 (P : Params) : typeIn (frag P) (.ref 296) = some (.type "function") := by kernel_rfl!
theorem kk_296 (P : Params) : keepIn (frag P) (.ref 296) = true := by kernel_rfl!

theorem depth_deeper (Ar : Around) (env : Env) : (Ar.deeper env).depth = Ar.depth + 1 := rfl
theorem handled_deeper (Ar : Around) (env : Env) : (Ar.deeper env).handled = Ar.handled := rfl
theorem handled_deeper' {Ar : Around} {env : Env} (h : Ar.handled = none) : (Ar.deeper env).handled = none := h
theorem room_deeper {Ar : Around} {env : Env} {n : Nat} (h : Ar.depth + (n + 1) < recursionLimit) : (Ar.deeper env).depth + n < recursionLimit := by
  rw [depth_deeper]; omega
section
variable {prog : Program} {w : World} {Ar : Around} {E : Value → Shared → Prop} {s : Shared} {g h h' : Heap} {L : Addr} {m : Str → Option Value} {A : EA} {S S' : ES}
variable {env : Env}
theorem m_v {name : Str} {f : Addr} {pl : Sem Bool} {Q : Value × List Value → Shared → Prop} (c : V prog w s.heap L m A S) (hf : findIn (frag w.params) (.ref 906) name = some (some (.ref f))) (ht : typeIn (frag w.params) (.ref f) = some (.type "function"))
    (hs : ∀ t, shadowIn (some (dictOf (instEs w.params A t) 5)) name = some false) (k : Q (.ref f, [.ref A.x]) s) : wpAny (model prog w) Ar (getMethod (.ref A.x) name pl) Q E s := by
  obtain ⟨t, I⟩ := c.em.instAt
  exact method_fn c.kin I (kf_ga _) (kf_gat _) hf ht (hs t) k
theorem for_upto {R : Result → Shared → Prop} {target : Expr} {it : Value} {body orelse : List Stmt} (n : Nat) (I : Nat → Shared → Prop)
    (item : ∀ i s, i < n → I i s → wpAny (model prog w) Ar (pyNext it) (fun r s₁ => ∃ v, r = some v ∧ wpAny (model prog w) Ar (assign target env v) (fun _ s₂ =>
      wpAny (model prog w) Ar (execs body env) (fun f s₃ => match f with | .next | .cont => I (i + 1) s₃ | .brk => R (.ok .next) s₃ | .ret v => R (.ok (.ret v)) s₃)
        (notedBy (model prog w) Ar env fun e s' => R (.error e) s') s₂) (notedBy (model prog w) Ar env fun e s' => R (.error e) s') s₁) (notedBy (model prog w) Ar env fun e s' => R (.error e) s') s)
    (done : ∀ s, I n s → wpAny (model prog w) Ar (pyNext it) (fun r s₁ => r = none ∧ wpAny (model prog w) Ar (execs orelse env) (fun f s₃ => R (.ok f) s₃) (notedBy (model prog w) Ar env fun e s' => R (.error e) s') s₁) (notedBy (model prog w) Ar env fun e s' => R (.error e) s') s)
    (h0 : I 0 s) (hgo : ∀ v, letOwnedTupleGo target it v = pure ()) : codeAny (model prog w) Ar (.forLoop target it body orelse env) R s := by
  refine codeAny_forLoop_any (fun k s => ∃ i, i + k = n ∧ I i s) (fun k s hI => ?_) n ⟨0, Nat.zero_add _, h0⟩
  obtain ⟨i, hi, hI⟩ := hI
  by_cases q : i < n
  · refine wpAny_mono (item i s q hI) (fun r s₁ h₁ => ?_) fun _ _ x => x
    obtain ⟨v, rfl, h₁⟩ := h₁
    dsimp only
    rw [hgo]
    refine wpAny_pure (wpAny_mono h₁ (fun _ s₂ h₂ => wpAny_mono h₂ (fun f s₃ h₃ => ?_) fun _ _ x => x) fun _ _ x => x)
    cases f with
    | next => exact ⟨k - 1, by omega, i + 1, by omega, h₃⟩
    | cont => exact ⟨k - 1, by omega, i + 1, by omega, h₃⟩
    | brk => exact h₃
    | ret v => exact h₃
  · obtain rfl : i = n := by omega
    refine wpAny_mono (done s hI) (fun r s₁ h₁ => ?_) fun _ _ x => x
    obtain ⟨rfl, h₁⟩ := h₁
    exact h₁
end
end Mine
end
section
open PySem PySem.W PySem.Calls PyProof.Rows
set_option maxRecDepth 100000
set_option linter.all false
namespace Mine
section
variable {prog : Program} {w : World} {T : Tg → Prop} {Ar : Around} {E : Value → Shared → Prop} {s : Shared} {g h h' : Heap} {L : Addr} {m : Str → Option Value} {A : EA} {S S' : ES}
variable {env : Env}
theorem del_dn {n : Int} {t : Tok} {Q : Unit → Shared → Prop} (c : C prog w T g L s.heap m A S) (hn : n ∈ S.nn) (hT : T .dn)
    (k : ∀ h', C prog w T g L h' m A (S.delNode n) → Q () { s with heap := h', toks := s.toks + 1 }) :
    wpAny (model prog w) Ar (delItem (.ref A.dn) (.int n t)) Q E s := by
  refine del_item (is_int _ _) c.em.node (by rw [valueAt_refs hn]; rfl) (by rw [refs_length]; exact line_of c.em.small.1) (fun h' hm hs => k h' ?_)
  rw [without_refs] at hm
  have sub : ∀ t, (S.delNode n).live t → S.live t := fun t l => by cases t <;> exact l
  refine c.turn (t₀ := .dn) trivial hT hs sub (c.em.turn (t₀ := .dn) trivial hs sub (by simp) (by simp) (by simp) ?_ rfl rfl
    (fun a ha => by simp [ES.delNode]) (fun a _ => by simp [ES.delNode]) (fun a ha b hb => by simp [ES.delNode]) ⟨Nat.le_trans (del_length_le _ _) c.em.small.1, c.em.small.2⟩)
  rw [if_pos rfl]; exact hm
theorem del_ds {n : Int} {t : Tok} {Q : Unit → Shared → Prop} (c : C prog w T g L s.heap m A S) (hn : n ∈ S.ns) (hT : T .ds)
    (k : ∀ h', C prog w T g L h' m A (S.delSucc n) → Q () { s with heap := h', toks := s.toks + 1 }) :
    wpAny (model prog w) Ar (delItem (.ref A.ds) (.int n t)) Q E s := by
  refine del_item (is_int _ _) c.em.succ (by rw [valueAt_refs hn]; rfl) (by rw [refs_length]; exact line_of c.em.small.2.1) (fun h' hm hs => k h' ?_)
  rw [without_refs] at hm
  have sub : ∀ t, (S.delSucc n).live t → S.live t := fun t l => by
    cases t <;> try exact l
    · exact (mem_del.mp l).1
    · exact ⟨(mem_del.mp l.1).1, l.2⟩
  refine c.turn (t₀ := .ds) trivial hT hs sub (c.em.turn (t₀ := .ds) trivial hs sub (by simp) (by simp) (by simp) rfl ?_ rfl
    (fun a ha => by simp [ES.delSucc]) (fun a _ => by simp [ES.delSucc]) (fun a ha b hb => by simp [ES.delSucc]) ⟨c.em.small.1, Nat.le_trans (del_length_le _ _) c.em.small.2.1, c.em.small.2.2.1, fun u hu => c.em.small.2.2.2.1 u (mem_del.mp hu).1, c.em.small.2.2.2.2⟩)
  rw [if_pos rfl]; exact hm
theorem del_dp {n : Int} {t : Tok} {Q : Unit → Shared → Prop} (c : C prog w T g L s.heap m A S) (hn : n ∈ S.np) (hT : T .dp)
    (k : ∀ h', C prog w T g L h' m A (S.delPred n) → Q () { s with heap := h', toks := s.toks + 1 }) :
    wpAny (model prog w) Ar (delItem (.ref A.dp) (.int n t)) Q E s := by
  refine del_item (is_int _ _) c.em.pred (by rw [valueAt_refs hn]; rfl) (by rw [refs_length]; exact line_of c.em.small.2.2.1) (fun h' hm hs => k h' ?_)
  rw [without_refs] at hm
  have sub : ∀ t, (S.delPred n).live t → S.live t := fun t l => by
    cases t <;> try exact l
    exact (mem_del.mp l).1
  refine c.turn (t₀ := .dp) trivial hT hs sub (c.em.turn (t₀ := .dp) trivial hs sub (by simp) (by simp) (by simp) rfl rfl ?_
    (fun a ha => by simp [ES.delPred]) (fun a _ => by simp [ES.delPred]) (fun a ha b hb => by simp [ES.delPred]) ⟨c.em.small.1, c.em.small.2.1, Nat.le_trans (del_length_le _ _) c.em.small.2.2.1, c.em.small.2.2.2.1, fun u hu => c.em.small.2.2.2.2 u (mem_del.mp hu).1⟩)
  rw [if_pos rfl]; exact hm

theorem C.otherE (c : C prog w T g L h m A S) {b : Addr} (hs : Heap.ExtBut b h h') (hg : g.get? b = none) (hL : b ≠ L) (ht : ∀ t, S.live t → A.at t ≠ b) : C prog w T g L h' m A S :=
  ⟨let ⟨o, x, y, ho, r⟩ := c.ns; ⟨o, x, y, hs _ _ hL.symm ho, r⟩, fun x o q => hs x o (fun z => by rw [z, hg] at q; cases q) (c.keep x o q), c.gL, c.em.keeps fun t l o q => hs _ _ (ht t l) q, c.hid, c.nL, c.gnd⟩
theorem C0.otherE (c : C0 prog w g L h m A S) {b : Addr} (hs : Heap.ExtBut b h h') (hg : g.get? b = none) (hL : b ≠ L) : C0 prog w g L h' m A S :=
  ⟨let ⟨o, x, y, ho, r⟩ := c.ns; ⟨o, x, y, hs _ _ hL.symm ho, r⟩, fun x o q => hs x o (fun z => by rw [z, hg] at q; cases q) (c.keep x o q), c.gL, c.em, c.gnd⟩
theorem for_pin {Q : Flow → Shared → Prop} {x : Str} {px pos : Pos} {iter : Expr} {body : List Stmt} {n : Int} (F : Nat → ES) (P : Nat → (Str → Option Value) → Prop)
    (hh : Ar.handled = none) (hF : F 0 = S) (hP : P 0 m)
    (hi : ∀ i, i ≤ (S.pnb n).length → n ∈ (F i).np ∧ (F i).pnb n = S.pnb n) (sub : ∀ i, i < (S.pnb n).length → ∀ t, (F (i + 1)).live t → (F i).live t)
    (h : wpAny (model prog w) Ar (eval iter env) (fun v s₁ => v = .ref (A.pin n) ∧ topSize ≤ L ∧ C prog w Tt g L s₁.heap m A S ∧
      (∀ i u, (S.pnb n)[i]? = some u → ∀ g' m' s₂ t, C prog w (fun t => t ≠ .pin n) g' L s₂.heap m' A (F i) → P i m' →
        wpAny (model prog w) Ar (storeName env x (.int u t)) (fun _ s₃ => wpAny (model prog w) Ar (execs body env) (fun f s₄ => f = .next ∧ ∃ h₄ tk m'', s₄ = { s₂ with heap := h₄, toks := tk } ∧ C prog w (fun t => t ≠ .pin n) g' L h₄ m'' A (F (i + 1)) ∧ P (i + 1) m'')
          (notedBy (model prog w) Ar env fun e s' => cameBackBy (model prog w) Ar env E e s') s₃) (notedBy (model prog w) Ar env fun e s' => cameBackBy (model prog w) Ar env E e s') s₂) ∧
      (∀ h' tk m', C prog w Tt g L h' m' A (F (S.pnb n).length) → P (S.pnb n).length m' → Q .next { s₁ with heap := h', toks := tk })) E s)
    (hs : ∀ x, foldedSetIterable iter env x = pure x := by intro _; rfl) :
    wpAny (model prog w) Ar (exec (.For (.Name x px) iter body [] pos) env) Q E s := by
  refine wpAny_For (wpAny_mono h (fun v s₁ h₁ => ?_) fun _ _ z => z) hs
  obtain ⟨rfl, hLt, c, turn, fin⟩ := h₁
  have hn : n ∈ S.np := by have := (hi 0 (Nat.zero_le _)).1; rwa [hF] at this
  obtain ⟨ep, hd⟩ := (c.em.pin n hn).dictAt
  have hsys : (A.pin n == sysModules) = false := by
    have := c.em.high (.pin n) hn
    exact beq_eq_false_iff_ne.mpr fun z => absurd this (by show ¬ topSize ≤ A.pin n; rw [z]; decide)
  refine wpAny_pyIter_dict hsys hd ?_
  generalize hI : s₁.heap.objs.size = I
  have c₁ := c.push { cls := .type "dict_keyiterator", data := .fields #[.ref (A.pin n), .int 0 0, .int (refs (S.pnb n) fun v => A.dat v n).length 0, .int ep 0] }
  have dead : ∀ b o, s₁.heap.get? b = some o → b ≠ I := fun b o e z => absurd (Heap.lt_size e) (by rw [z, hI]; exact Nat.lt_irrefl _)
  have hgI : g.get? I = none := by
    cases e : g.get? I with
    | none => rfl
    | some o => exact absurd rfl (dead _ _ (c.keep _ _ e))
  have hIL : I ≠ L := by obtain ⟨o, _, _, ho, _⟩ := c.ns; exact (dead _ _ ho).symm
  have hIt : ∀ t, S.live t → A.at t ≠ I := fun t l => by obtain ⟨o, ho⟩ := c.em.some t l; exact dead _ _ ho
  have subs : ∀ i, i ≤ (S.pnb n).length → ∀ t, (F i).live t → S.live t := by
    intro i
    induction i with
    | zero => intro _ t l; rwa [hF] at l
    | succ i ih => intro hi t l; exact ih (Nat.le_of_lt hi) t (sub i hi t l)
  have len : (refs (S.pnb n) fun v => A.dat v n).length = (S.pnb n).length := refs_length _ _
  refine for_upto (S.pnb n).length (fun i s' => ∃ h' tk m', s' = { s₁ with heap := h', toks := tk } ∧ C prog w Tt g L h' m' A (F i) ∧ P i m' ∧ h'.IsKeyIter I (A.pin n) i (refs (S.pnb n) fun v => A.dat v n).length ep ∧
      h'.DictAt (PySem.intKind prog w) (A.pin n) (refs (S.pnb n) fun v => A.dat v n) ep) ?_ ?_ ⟨_, _, m, rfl, hF ▸ c₁, hP, ⟨_, by rw [← hI]; exact Heap.get?_push_size _ rfl, rfl, rfl⟩, hd.push _⟩ (fun _ => by rfl)
  · rintro i _ hlt ⟨h', tk, m', rfl, c', p', it, da⟩
    have hu : (S.pnb n)[i]? = some (S.pnb n)[i] := List.getElem?_eq_getElem hlt
    have hx : (refs (S.pnb n) fun v => A.dat v n)[i]? = some ((S.pnb n)[i], .ref (A.dat (S.pnb n)[i] n)) := by unfold refs; rw [List.getElem?_map, hu]; rfl
    refine wpAny_pyNext_dict_item it da hx fun key h₂ hk it₂ hs₂ => ⟨key, rfl, ?_⟩
    obtain ⟨t, rfl⟩ : ∃ t, key = .int (S.pnb n)[i] t := by
      cases key <;> simp [PySem.intKind, Value.isInt] at hk
      exact ⟨_, by rw [hk]⟩
    have cI := c'.other hs₂ hgI hIL fun t l => hIt t (subs i (Nat.le_of_lt hlt) t l)
    have cT := cI.rebase (fun t => t ≠ .pin n) hLt
    have da₂ : h₂.DictAt (PySem.intKind prog w) (A.pin n) (refs (S.pnb n) fun v => A.dat v n) ep := da.extBut hs₂.extBut (hIt (.pin n) hn)
    have live' : (F i).live (.pin n) := (hi i (Nat.le_of_lt hlt)).1
    have notq : ∀ b, b ≠ L → (∀ t, (F i).live t → t ≠ .pin n → A.at t ≠ b) → ¬ Fq (fun t => t ≠ .pin n) L A (F i) b := fun b h1 h2 z => by
      rcases z with z | ⟨t, l, hn, z⟩
      · exact h1 z
      · exact h2 t l hn z
    refine wpAny_assign_Name (wpAny_mono (turn i _ hu _ m' { s₁ with heap := h₂, toks := tk } t cT p') (fun _ s₃ h₃ => wpAny_mono h₃ (fun f s₄ h₄ => ?_) fun _ _ z => z) fun _ _ z => z)
    obtain ⟨rfl, h₄, tk₄, m'', rfl, d, p''⟩ := h₄
    refine ⟨h₄, tk₄, m'', rfl, cI.rejoin d (sub i hlt), p'', it₂.at fun o e => ?_, da₂.at' fun o e => ?_⟩
    · refine d.keep _ o ?_
      rw [hide_get, if_neg (notq I hIL fun t l _ => hIt t (subs i (Nat.le_of_lt hlt) t l))]
      exact e
    · refine d.keep _ o ?_
      rw [hide_get, if_neg (notq (A.pin n) (c.nL (.pin n) hn) fun t l hne => fun z => hne (cI.em.sep t (.pin n) l live' z))]
      exact e
  · rintro _ ⟨h', tk, m', rfl, c', p', it, da⟩
    rw [← len] at it
    refine wpAny_pyNext_dict_end hh it da (List.getElem?_eq_none (Nat.le_refl _)) (fun h₂ hk => ⟨rfl, wpAny_execs_nil ?_⟩)
    exact fin _ _ _ (c'.otherE hk hgI hIL fun t l => hIt t (subs _ (Nat.le_refl _) t l)) p'
end
end Mine
end
section
open PySem PySem.W PySem.Calls PyProof.Rows
set_option maxRecDepth 100000
set_option linter.all false
namespace Mine
section
variable {prog : Program} {w : World} {T : Tg → Prop} {Ar : Around} {E : Value → Shared → Prop} {s : Shared} {g h h' : Heap} {L : Addr} {m : Str → Option Value} {A A' : EA} {S S' : ES}
variable {env : Env}
theorem C.rejoinT {m' : Str → Option Value} (c : C prog w Tt g L h m A S) (d : C prog w Tt (hide h (Fq Tt L A S)) L h' m' A' S') : C prog w Tt g L h' m' A' S' := by
  have up : ∀ b o, g.get? b = some o → (hide h (Fq Tt L A S)).get? b = some o := fun b o q => by
    rw [hide_get, if_neg]
    · exact c.keep b o q
    · rintro (z | ⟨t, l, _, z⟩)
      · rw [z, c.gL] at q; cases q
      · rw [← z, c.hid t l trivial] at q; cases q
  refine ⟨d.ns, fun b o q => d.keep b o (up b o q), c.gL, d.em, fun t l _ => ?_, d.nL, c.gnd⟩
  cases e : g.get? (A'.at t) with
  | none => rfl
  | some o => have := up _ _ e; rw [d.hid t l trivial] at this; cases this
theorem for_list {Q : Flow → Shared → Prop} {x : Str} {px pos : Pos} {iter : Expr} {body : List Stmt} {l : Addr} {items : Array Value} (J : Nat → EA → ES → Prop) (P : Nat → (Str → Option Value) → Prop)
    (hh : Ar.handled = none) (hJ : J 0 A S) (hP : P 0 m) (hl : g.IsList l items)
    (h : wpAny (model prog w) Ar (eval iter env) (fun v s₁ => v = .ref l ∧ topSize ≤ L ∧ C prog w Tt g L s₁.heap m A S ∧
      (∀ i v, items[i]? = some v → ∀ g' m' A' S' s₂, C prog w Tt g' L s₂.heap m' A' S' → (∀ b o, g.get? b = some o → g'.get? b = some o) → J i A' S' → P i m' →
        wpAny (model prog w) Ar (storeName env x v) (fun _ s₃ => wpAny (model prog w) Ar (execs body env) (fun f s₄ => (f = .next ∨ f = .cont) ∧ ∃ h₄ tk m'' A'' S'', s₄ = { s₂ with heap := h₄, toks := tk } ∧ C prog w Tt g' L h₄ m'' A'' S'' ∧ J (i + 1) A'' S'' ∧ P (i + 1) m'')
          (notedBy (model prog w) Ar env fun e s' => cameBackBy (model prog w) Ar env E e s') s₃) (notedBy (model prog w) Ar env fun e s' => cameBackBy (model prog w) Ar env E e s') s₂) ∧
      (∀ h' tk m' A' S', C prog w Tt g L h' m' A' S' → J items.size A' S' → P items.size m' → Q .next { s₁ with heap := h', toks := tk })) E s)
    (hs : ∀ x, foldedSetIterable iter env x = pure x := by intro _; rfl) :
    wpAny (model prog w) Ar (exec (.For (.Name x px) iter body [] pos) env) Q E s := by
  refine wpAny_For (wpAny_mono h (fun v s₁ h₁ => ?_) fun _ _ z => z) hs
  obtain ⟨rfl, hLt, c, turn, fin⟩ := h₁
  have hl₁ : s₁.heap.IsList l items := hl.at fun o e => c.keep _ o e
  refine wpAny_pyIter_list hl₁ ?_
  generalize hI : s₁.heap.objs.size = I
  have c₁ := c.push { cls := .type "list_iterator", data := .fields #[.ref l, .int 0 0] }
  have dead : ∀ b o, s₁.heap.get? b = some o → b ≠ I := fun b o e z => absurd (Heap.lt_size e) (by rw [z, hI]; exact Nat.lt_irrefl _)
  have hgI : g.get? I = none := by
    cases e : g.get? I with
    | none => rfl
    | some o => exact absurd rfl (dead _ _ (c.keep _ _ e))
  have hIL : I ≠ L := by obtain ⟨o, _, _, ho, _⟩ := c.ns; exact (dead _ _ ho).symm
  have hIt : ∀ t, S.live t → A.at t ≠ I := fun t l => by obtain ⟨o, ho⟩ := c.em.some t l; exact dead _ _ ho
  refine for_upto items.size (fun i s' => ∃ h' tk m' A' S', s' = { s₁ with heap := h', toks := tk } ∧ C prog w Tt g L h' m' A' S' ∧ J i A' S' ∧ P i m' ∧ h'.IsListIter I l i ∧ (∀ t, S'.live t → A'.at t ≠ I)) ?_ ?_ ⟨_, _, m, A, S, rfl, c₁, hJ, hP, ⟨_, by rw [← hI]; exact Heap.get?_push_size _ rfl, rfl, rfl⟩, hIt⟩ (fun _ => by rfl)
  · rintro i _ hlt ⟨h', tk, m', A', S', rfl, c', j', p', it, hIt'⟩
    have hu : items[i]? = some items[i] := Array.getElem?_eq_getElem hlt
    refine wpAny_pyNext_list_item it (hl.at fun o e => c'.keep _ o e) hu fun h₂ it₂ hs₂ => ⟨_, rfl, ?_⟩
    have cI := c'.other hs₂ hgI hIL hIt'
    have cT := cI.rebase Tt hLt
    have notq : ¬ Fq Tt L A' S' I := fun z => by
      rcases z with z | ⟨t, l, _, z⟩
      · exact hIL z
      · exact hIt' t l z
    have up : ∀ b o, g.get? b = some o → (hide h₂ (Fq Tt L A' S')).get? b = some o := fun b o q => by
      rw [hide_get, if_neg]
      · exact cI.keep b o q
      · rintro (z | ⟨t, l, _, z⟩)
        · rw [z, c.gL] at q; cases q
        · rw [← z, cI.hid t l trivial] at q; cases q
    refine wpAny_assign_Name (wpAny_mono (turn i _ hu _ m' A' S' { s₁ with heap := h₂, toks := tk } cT up j' p') (fun _ s₃ h₃ => wpAny_mono h₃ (fun f s₄ h₄ => ?_) fun _ _ z => z) fun _ _ z => z)
    obtain ⟨hf, h₄, tk₄, m'', A'', S'', rfl, d, j'', p''⟩ := h₄
    obtain ⟨oI, hoI, rI⟩ := it₂
    have kI : (hide h₂ (Fq Tt L A' S')).get? I = some oI := by rw [hide_get, if_neg notq]; exact hoI
    have : ∃ h' tk m' A' S', ({ { s₁ with heap := h₂, toks := tk } with heap := h₄, toks := tk₄ } : Shared) = { s₁ with heap := h', toks := tk } ∧ C prog w Tt g L h' m' A' S' ∧ J (i + 1) A' S' ∧ P (i + 1) m' ∧ h'.IsListIter I l (i + 1) ∧ (∀ t, S'.live t → A'.at t ≠ I) :=
      ⟨h₄, tk₄, m'', A'', S'', rfl, cI.rejoinT d, j'', p'', ⟨oI, d.keep _ _ kI, rI⟩, fun t l z => by have := d.hid t l trivial; rw [z, kI] at this; cases this⟩
    rcases hf with rfl | rfl <;> exact this
  · rintro _ ⟨h', tk, m', A', S', rfl, c', j', p', it, hIt'⟩
    refine wpAny_pyNext_list_end hh it (hl.at fun o e => c'.keep _ o e) (by simp) (fun h₂ hk => ⟨rfl, wpAny_execs_nil ?_⟩)
    exact fin _ _ _ _ _ (c'.otherE hk hgI hIL hIt') j' p'
theorem refs_isSome {l : List Int} {f : Int → Addr} {n : Int} : (valueAt (refs l f) n).isSome = decide (n ∈ l) := by
  by_cases q : n ∈ l
  · rw [valueAt_refs q, decide_eq_true q]; rfl
  · rw [valueAt_refs_none q, decide_eq_false q]; rfl
theorem not_sys {a : Addr} (h : topSize ≤ a) : (a == sysModules) = false := beq_eq_false_iff_ne.mpr fun z => absurd h (by rw [z]; decide)
theorem in_ds {n : Int} {t : Tok} {Q : Value → Shared → Prop} (c : V prog w s.heap L m A S) (k : Q (.bool (decide (n ∈ S.ns))) { s with toks := s.toks + 1 }) : wpAny (model prog w) Ar (compareOp .In (.int n t) (.ref A.ds)) Q E s :=
  wpAny_in_of (is_int _ _) (not_sys (c.em.high .ds trivial)) c.em.succ.mapOf (by rw [refs_isSome]; exact k)
theorem in_dn {n : Int} {t : Tok} {Q : Value → Shared → Prop} (c : V prog w s.heap L m A S) (k : Q (.bool (decide (n ∈ S.nn))) { s with toks := s.toks + 1 }) : wpAny (model prog w) Ar (compareOp .In (.int n t) (.ref A.dn)) Q E s :=
  wpAny_in_of (is_int _ _) (not_sys (c.em.high .dn trivial)) c.em.node.mapOf (by rw [refs_isSome]; exact k)
theorem in_inn {u n : Int} {t : Tok} {Q : Value → Shared → Prop} (c : V prog w s.heap L m A S) (hu : u ∈ S.ns) (k : Q (.bool (decide (n ∈ S.nbr u))) { s with toks := s.toks + 1 }) : wpAny (model prog w) Ar (compareOp .In (.int n t) (.ref (A.inn u))) Q E s :=
  wpAny_in_of (is_int _ _) (not_sys (c.em.high (.inn u) hu)) (c.em.inn u hu).mapOf (by rw [refs_isSome]; exact k)
theorem nin_ds {n : Int} {t : Tok} {Q : Value → Shared → Prop} (c : V prog w s.heap L m A S) (k : Q (.bool (!decide (n ∈ S.ns))) { s with toks := s.toks + 1 }) : wpAny (model prog w) Ar (compareOp .NotIn (.int n t) (.ref A.ds)) Q E s :=
  wpAny_notIn_of (is_int _ _) (not_sys (c.em.high .ds trivial)) c.em.succ.mapOf (by rw [refs_isSome]; exact k)
theorem nin_dn {n : Int} {t : Tok} {Q : Value → Shared → Prop} (c : V prog w s.heap L m A S) (k : Q (.bool (!decide (n ∈ S.nn))) { s with toks := s.toks + 1 }) : wpAny (model prog w) Ar (compareOp .NotIn (.int n t) (.ref A.dn)) Q E s :=
  wpAny_notIn_of (is_int _ _) (not_sys (c.em.high .dn trivial)) c.em.node.mapOf (by rw [refs_isSome]; exact k)
theorem nin_inn {u n : Int} {t : Tok} {Q : Value → Shared → Prop} (c : V prog w s.heap L m A S) (hu : u ∈ S.ns) (k : Q (.bool (!decide (n ∈ S.nbr u))) { s with toks := s.toks + 1 }) : wpAny (model prog w) Ar (compareOp .NotIn (.int n t) (.ref (A.inn u))) Q E s :=
  wpAny_notIn_of (is_int _ _) (not_sys (c.em.high (.inn u) hu)) (c.em.inn u hu).mapOf (by rw [refs_isSome]; exact k)
theorem truthy_inn {u : Int} {Q : Bool → Shared → Prop} (c : V prog w s.heap L m A S) (hu : u ∈ S.ns) (k : Q (!(S.nbr u).isEmpty) { s with toks := s.toks + 1 + 1 }) : wpAny (model prog w) Ar (truthy (.ref (A.inn u))) Q E s :=
  wpAny_truthy_dict (not_sys (c.em.high (.inn u) hu)) (c.em.inn u hu) (by have := c.em.small.2.2.2.1 u hu; rw [refs_length]; omega) (by
    have : (refs (S.nbr u) (A.dat u)).isEmpty = (S.nbr u).isEmpty := by unfold refs; cases S.nbr u <;> rfl
    rw [this]; exact k)
theorem get_ds_m {pl : Sem Bool} {Q : Value × List Value → Shared → Prop} (c : V prog w s.heap L m A S) (h : Q (.builtin "dict.get", [.ref A.ds]) s) : wpAny (model prog w) Ar (getMethod (.ref A.ds) (Str.ofString "get") pl) Q E s :=
  getMethod_builtin c.em.succ.typeIs PySem.F.plainAttrs_dict PySem.F.slot_dict_get PySem.F.type_dict_get c.em.succ.mapOf.noDict h
theorem get_ds_c {u : Int} {t : Tok} {Q : Value → Shared → Prop} (c : V prog w s.heap L m A S) (h : Q (if u ∈ S.ns then .ref (A.inn u) else .none) { s with toks := s.toks + 1 }) :
    wpAny (model prog w) Ar (call (.builtin "dict.get") [.ref A.ds, .int u t]) Q E s :=
  call_meetsIn PySem.F.slot_dict_get c.em.succ.typeIs PySem.F.entry_dict_get (PySem.F.args_dict_get_2 _ _) (meets_dict_get (PySem.intKind prog w) A.ds (is_int u t) (not_sys (c.em.high .ds trivial))) ⟨_, c.em.succ.mapOf, by
    by_cases q : u ∈ S.ns
    · rw [valueAt_refs q]; rw [if_pos q] at h; exact h
    · rw [valueAt_refs_none q]; rw [if_neg q] at h; exact h⟩
theorem pop_inn_m {u : Int} {pl : Sem Bool} {Q : Value × List Value → Shared → Prop} (c : V prog w s.heap L m A S) (hu : u ∈ S.ns) (h : Q (.builtin "dict.pop", [.ref (A.inn u)]) s) : wpAny (model prog w) Ar (getMethod (.ref (A.inn u)) (Str.ofString "pop") pl) Q E s :=
  getMethod_builtin (c.em.inn u hu).typeIs PySem.F.plainAttrs_dict PySem.F.slot_dict_pop PySem.F.type_dict_pop (c.em.inn u hu).mapOf.noDict h
end
end Mine
end
section
open PySem PySem.W PySem.Calls PyProof.Rows
set_option maxRecDepth 100000
set_option linter.all false
set_option linter.unusedSimpArgs false
namespace Mine
def EA.setDat (A : EA) (u v : Int) (a : Addr) : EA := { A with dat := upd A.dat u (upd (A.dat u) v a) }
def EA.setInn (A : EA) (u : Int) (a : Addr) : EA := { A with inn := upd A.inn u a }
def EA.setPin (A : EA) (u : Int) (a : Addr) : EA := { A with pin := upd A.pin u a }
def EA.setAtt (A : EA) (u : Int) (a : Addr) : EA := { A with att := upd A.att u a }
def ES.addNbr (S : ES) (u v c d : Int) : ES := { S with nbr := upd S.nbr u (S.nbr u ++ [v]), cw := upd S.cw u (upd (S.cw u) v c), ccw := upd S.ccw u (upd (S.ccw u) v d) }
def ES.addPnb (S : ES) (v u : Int) : ES := { S with pnb := upd S.pnb v (S.pnb v ++ [u]) }
def ES.addSucc (S : ES) (n : Int) : ES := { S with ns := S.ns ++ [n], nbr := upd S.nbr n [] }
def ES.addPred (S : ES) (n : Int) : ES := { S with np := S.np ++ [n], pnb := upd S.pnb n [] }
def ES.addNode (S : ES) (n : Int) : ES := { S with nn := S.nn ++ [n] }
theorem stored_new {kvs : List (Int × Value)} {k : Int} {v : Value} (h : valueAt kvs k = none) : stored kvs k v = kvs ++ [(k, v)] := by
  unfold stored
  rw [if_neg]
  unfold valueAt at h
  rw [Option.map_eq_none_iff, List.find?_eq_none] at h
  intro q
  obtain ⟨x, hx, hk⟩ := List.any_eq_true.mp q
  exact h x hx hk
theorem refs_snoc {l : List Int} {f : Int → Addr} {v : Int} {a : Addr} (h : v ∉ l) : refs l f ++ [(v, .ref a)] = refs (l ++ [v]) (upd f v a) := by
  unfold refs
  rw [List.map_append, List.map_singleton, upd_same]
  congr 1
  refine List.map_congr_left fun x hx => ?_
  rw [upd_ne]; exact fun q => h (q ▸ hx)
section
variable {prog : Program} {w : World} {T : Tg → Prop} {Ar : Around} {E : Value → Shared → Prop} {s : Shared} {g h h' : Heap} {L : Addr} {m : Str → Option Value} {A A' : EA} {S S' : ES}
variable {env : Env}
theorem add_nbr {u v c d : Int} {a : Addr} {t : Tok} {Q : Unit → Shared → Prop} (cc : C prog w T g L s.heap m A S) (hu : u ∈ S.ns) (hv : v ∉ S.nbr u) (hlen : (S.nbr u).length < 100) (hT : T (.inn u)) (hD : DatAt prog w s.heap a c d) (hg : g.get? a = none) (haL : a ≠ L)
    (hfr : ∀ t, S.live t → A.at t ≠ a) (hhi : topSize ≤ a) (hp : v ∈ S.np → u ∈ S.pnb v → A.dat u v = a)
    (k : ∀ h', C prog w T g L h' m (A.setDat u v a) (S.addNbr u v c d) → Q () { s with heap := h', toks := s.toks + 1 }) :
    wpAny (model prog w) Ar (setItem (.ref (A.inn u)) (.int v t) (.ref a)) Q E s := by
  have e := cc.em
  have hd := e.inn u hu
  refine wpAny_setItem_pairs (is_int _ _) hd (fun h' hm hs => k h' ?_) (by rw [refs_length]; exact line_of (e.small.2.2.2.1 u hu))
  rw [stored_new (valueAt_refs_none hv), refs_snoc hv] at hm
  have iat : ∀ t, (A.setDat u v a).at t = if t = .dat u v then a else A.at t := by
    intro t
    cases t <;> try rfl
    rename_i x y
    by_cases q : Tg.dat x y = .dat u v
    · rw [if_pos q]; injection q with q1 q2; subst q1 q2; simp [EA.setDat, EA.at]
    · rw [if_neg q]
      by_cases qx : x = u
      · subst qx
        have : y ≠ v := fun z => q (by rw [z])
        simp [EA.setDat, EA.at, upd_ne _ _ this]
      · simp [EA.setDat, EA.at, upd_ne _ _ qx]
  have lv : ∀ t, (S.addNbr u v c d).live t → S.live t ∨ t = .dat u v := by
    intro t l
    cases t <;> try exact .inl l
    rename_i x y
    obtain ⟨l1, l2⟩ := l
    by_cases qx : x = u
    · subst qx
      have l2' : y ∈ S.nbr x ++ [v] := by simpa [ES.addNbr] using l2
      rcases List.mem_append.mp l2' with z | z
      · exact .inl ⟨l1, z⟩
      · rw [List.mem_singleton.mp z]; exact .inr rfl
    · have l2' : y ∈ S.nbr x := by simpa [ES.addNbr, upd_ne _ _ qx] using l2
      exact .inl ⟨l1, l2'⟩
  have nd : ¬ S.live (.dat u v) := fun l => hv l.2
  have ne_of : ∀ {t}, S.live t → t ≠ .dat u v := fun l z => nd (z ▸ l)
  have key : ∀ t, S.live t → t ≠ .inn u → h'.get? (A.at t) = s.heap.get? (A.at t) := fun t l n => hs.2 _ (e.ne l (t' := .inn u) hu n)
  have kd : ∀ {K : Type} [DecidableEq K] {knd : PySem.KeyKind prog w K} {kvs : List (K × Value)} t, S.live t → t ≠ .inn u → s.heap.DictOf knd (A.at t) kvs → h'.DictOf knd (A.at t) kvs :=
    fun t l n d => d.sameBut hs (e.ne l (t' := .inn u) hu n)
  have nai : A.inn u ≠ a := hfr (.inn u) hu
  have emb : EmbAt prog w h' (A.setDat u v a) (S.addNbr u v c d) := by
    refine ⟨(key .x trivial (by simp)).trans e.inst, ?_, ?_, kd .dn trivial (by simp) e.node, kd .ds trivial (by simp) e.succ, kd .dp trivial (by simp) e.pred, fun x hx => ?_, fun x hx => ?_, fun x hx y hy => ?_, ?_, fun t t' l l' q => ?_, fun t l => ?_⟩
    · obtain ⟨tk, ht⟩ := e.dict
      exact ⟨tk, (key .dx trivial (by simp)).trans ht⟩
    · obtain ⟨o, ho⟩ := e.graph
      exact ⟨o, (key .dg trivial (by simp)).trans ho⟩
    · by_cases qx : x = u
      · subst qx
        simpa [ES.addNbr, EA.setDat] using hm
      · have := kd (.inn x) (show x ∈ S.ns from hx) (fun z => qx (by injection z)) (e.inn x hx)
        simpa [ES.addNbr, EA.setDat, upd_ne _ _ qx, EA.at] using this
    · have := kd (.pin x) (show x ∈ S.np from hx) (fun z => by cases z) (e.pin x hx)
      have r : (refs (S.pnb x) fun y => (A.setDat u v a).dat y x) = refs (S.pnb x) fun y => A.dat y x := by
        unfold refs
        refine List.map_congr_left fun y hy => ?_
        have : (A.setDat u v a).dat y x = A.dat y x := by
          show (A.setDat u v a).at (.dat y x) = A.at (.dat y x)
          rw [iat]
          by_cases q : Tg.dat y x = .dat u v
          · rw [if_pos q]; injection q with q1 q2; subst q1 q2; exact (hp hx hy).symm
          · rw [if_neg q]
        show (y, Value.ref ((A.setDat u v a).dat y x)) = (y, Value.ref (A.dat y x))
        rw [this]
      show h'.DictOf _ (A.pin x) (refs (S.pnb x) fun y => (A.setDat u v a).dat y x)
      rw [r]; exact this
    · rcases lv (.dat x y) ⟨hx, hy⟩ with l | q
      · have qn : Tg.dat x y ≠ .dat u v := fun z => nd (z ▸ l)
        obtain ⟨kvs, dd, r⟩ := e.dat x l.1 y l.2
        have i : (A.setDat u v a).dat x y = A.dat x y := by
          have := iat (.dat x y); rw [if_neg qn] at this; exact this
        have i2 : (S.addNbr u v c d).cw x y = S.cw x y ∧ (S.addNbr u v c d).ccw x y = S.ccw x y := by
          by_cases qx : x = u
          · subst qx
            have : y ≠ v := fun z => qn (by rw [z])
            simp [ES.addNbr, upd_ne _ _ this]
          · simp [ES.addNbr, upd_ne _ _ qx]
        rw [i, i2.1, i2.2]
        exact ⟨kvs, kd (.dat x y) l (fun z => by cases z) dd, r⟩
      · injection q with q1 q2; subst q1 q2
        have i : (A.setDat x y a).dat x y = a := by simp [EA.setDat]
        rw [i]
        obtain ⟨kvs, dd, r⟩ := hD
        exact ⟨kvs, dd.sameBut hs nai.symm, by simpa [ES.addNbr] using r⟩
    · refine ⟨e.small.1, e.small.2.1, e.small.2.2.1, fun x hx => ?_, e.small.2.2.2.2⟩
      by_cases qx : x = u
      · subst qx; simp [ES.addNbr]; omega
      · simpa [ES.addNbr, upd_ne _ _ qx] using e.small.2.2.2.1 x hx
    · rw [iat, iat] at q
      rcases lv t l with l1 | q1 <;> rcases lv t' l' with l2 | q2
      · rw [if_neg (ne_of l1), if_neg (ne_of l2)] at q; exact e.sep t t' l1 l2 q
      · rw [if_neg (ne_of l1), if_pos q2] at q; exact absurd q (hfr t l1)
      · rw [if_pos q1, if_neg (ne_of l2)] at q; exact absurd q.symm (hfr t' l2)
      · rw [q1, q2]
    · rw [iat]
      rcases lv t l with l1 | q1
      · rw [if_neg (ne_of l1)]; exact e.high t l1
      · rw [if_pos q1]; exact hhi
  refine ⟨cc.ns.sameBut hs (cc.nL (.inn u) hu).symm, fun b o q => (hs.2 b fun z => by have q' := cc.hid (.inn u) hu hT; rw [z] at q; have := q'.symm.trans q; cases this).trans (cc.keep b o q), cc.gL, emb, fun t l ht => ?_, fun t l => ?_, cc.gnd⟩
  · rw [iat]
    rcases lv t l with l1 | q1
    · rw [if_neg (ne_of l1)]; exact cc.hid t l1 ht
    · rw [if_pos q1]; exact hg
  · rw [iat]
    rcases lv t l with l1 | q1
    · rw [if_neg (ne_of l1)]; exact cc.nL t l1
    · rw [if_pos q1]; exact haL
theorem add_pnb {u v : Int} {t : Tok} {Q : Unit → Shared → Prop} (cc : C prog w T g L s.heap m A S) (hv : v ∈ S.np) (hu : u ∉ S.pnb v) (hlen : (S.pnb v).length < 100) (hT : T (.pin v))
    (k : ∀ h', C prog w T g L h' m A (S.addPnb v u) → Q () { s with heap := h', toks := s.toks + 1 }) :
    wpAny (model prog w) Ar (setItem (.ref (A.pin v)) (.int u t) (.ref (A.dat u v))) Q E s := by
  have e := cc.em
  refine wpAny_setItem_pairs (is_int _ _) (e.pin v hv) (fun h' hm hs => k h' ?_) (by rw [refs_length]; exact line_of (e.small.2.2.2.2 v hv))
  rw [stored_new (valueAt_refs_none hu)] at hm
  have hm' : h'.DictOf (PySem.intKind prog w) (A.pin v) (refs (S.pnb v ++ [u]) fun y => A.dat y v) := by
    have : (refs (S.pnb v) fun y => A.dat y v) ++ [(u, .ref (A.dat u v))] = refs (S.pnb v ++ [u]) fun y => A.dat y v := by unfold refs; rw [List.map_append]; rfl
    rwa [this] at hm
  have sub : ∀ t, (S.addPnb v u).live t → S.live t := fun t l => by cases t <;> exact l
  refine cc.turn (t₀ := .pin v) hv hT hs sub (e.turn (t₀ := .pin v) hv hs sub (by simp) (by simp) (by simp) rfl rfl rfl
    (fun a _ => by simp [ES.addPnb]) (fun a ha => ?_) (fun a ha b hb => by simp [ES.addPnb]) ⟨e.small.1, e.small.2.1, e.small.2.2.1, e.small.2.2.2.1, fun a ha => ?_⟩)
  · by_cases q : Tg.pin v = Tg.pin a
    · rw [if_pos q]; injection q with q; subst q; simpa [ES.addPnb] using hm'
    · rw [if_neg q]; exact upd_ne _ _ fun z => q (by rw [z])
  · unfold ES.addPnb
    by_cases q : a = v
    · subst q; simp; omega
    · simp only [upd_ne _ _ q]; exact e.small.2.2.2.2 a ha
end
end Mine
end
section
open PySem PySem.W PySem.Calls PyProof.Rows
set_option maxRecDepth 100000
set_option linter.all false
namespace Mine
section
variable {prog : Program} {w : World} {T : Tg → Prop} {Ar : Around} {E : Value → Shared → Prop} {s : Shared} {g h h' : Heap} {L d : Addr} {m : Str → Option Value} {A A' : EA} {S S' : ES}
variable {env : Env}
theorem kw_set {es : List DictEntry} {n : Nat} {k : Str} {v : Value} {Q : Unit → Shared → Prop} (D : s.heap.get? d = some (dictOf es n))
    (hs : ∀ e ∈ es, e.key.isStr k = false) (hr : ∀ e ∈ es, e.refKey = false)
    (h : ∀ h', h'.get? d = some (dictOf (es ++ [⟨PyData.keyHash w.params k, .str k s.toks, v⟩]) (n + 1)) → Heap.SameBut d s.heap h' → Q () { s with heap := h', toks := s.toks + 1 }) :
    wpAny (model prog w) Ar (nsSet d k v) Q E s := by
  have e1 : es.any (·.key.isStr k) = false := by
    cases q : es.any (·.key.isStr k) with
    | false => rfl
    | true => obtain ⟨e, he, z⟩ := List.any_eq_true.mp q; rw [hs e he] at z; cases z
  have e2 : es.any (·.refKey) = false := by
    cases q : es.any (·.refKey) with
    | false => rfl
    | true => obtain ⟨e, he, z⟩ := List.any_eq_true.mp q; rw [hr e he] at z; cases z
  have e : Obj.putName k (PyData.keyHash w.params k) (.str k s.toks) v (dictOf es n) = dictOf (es ++ [⟨PyData.keyHash w.params k, .str k s.toks, v⟩]) (n + 1) := by
    rw [putName_dict, putL_new hs]
    show dictOf _ (if es.any (·.key.isStr k) then n else n + 1) = _
    rw [e1, if_neg Bool.false_ne_true]
  have c : aRefKeyMayBeTheName k es.toArray = false := by
    rw [aRefKeyMayBeTheName_at, ← Array.any_toList, ← Array.any_toList]
    show (!es.any (·.key.isStr k) && es.any (·.refKey)) = false
    rw [e2, Bool.and_false]
  unfold nsSet
  refine wpAny_bind (wpAny_bind (wpAny_askSetting (wpAny_pure (wpAny_bind (wpAny_mkText (wpAny_bind (wpAny_loadPart D ?_)))))))
  dsimp only
  rw [c]
  refine wpAny_updatePart D ?_
  show Q () { s with heap := s.heap.update d (Obj.putName k (PyData.keyHash w.params k) (.str k s.toks) v), toks := s.toks + 1 }
  refine h _ ?_ (Heap.SameBut.update ..)
  rw [Heap.get?_update_self _ D (by rw [e]; rfl), e]
theorem kw_fill {Q : PUnit → Shared → Prop} : ∀ (ex : List (Str × Value)) (s : Shared) (es : List DictEntry) (n : Nat), s.heap.get? d = some (dictOf es n) →
    (∀ e ∈ es, ∀ x ∈ ex, e.key.isStr x.1 = false) → (∀ e ∈ es, e.refKey = false) → (ex.map (·.1)).Nodup →
    (∀ h', h'.get? d = some (dictOf (es ++ kwEs w.params s.toks ex) (n + ex.length)) → Heap.SameBut d s.heap h' → Q ⟨⟩ { s with heap := h', toks := s.toks + ex.length }) →
    wpAny (model prog w) Ar (forIn ex PUnit.unit fun x _ => (nsSet d x.1 x.2 >>= fun _ => pure (ForInStep.yield PUnit.unit))) Q E s
  | [], s, es, n, D, _, _, _, h => by
    rw [List.forIn_nil]
    refine wpAny_pure (h s.heap ?_ (Heap.SameBut.refl _ _))
    show s.heap.get? d = some (dictOf (es ++ []) n)
    rw [List.append_nil]; exact D
  | x :: r, s, es, n, D, hs, hr, hn, h => by
    obtain ⟨hn1, hn2⟩ := List.nodup_cons.mp (show (x.1 :: r.map (·.1)).Nodup from hn)
    rw [List.forIn_cons]
    refine wpAny_bind (wpAny_bind (kw_set D (fun e he => hs e he x (.head _)) hr fun h' D' hs' => wpAny_pure ?_))
    show wpAny (model prog w) Ar (forIn r PUnit.unit fun x _ => (nsSet d x.1 x.2 >>= fun _ => pure (ForInStep.yield PUnit.unit))) Q E { s with heap := h', toks := s.toks + 1 }
    refine kw_fill r { s with heap := h', toks := s.toks + 1 } _ _ D' (fun e he y hy => ?_) (fun e he => ?_) hn2 fun h'' D'' hs'' => ?_
    · rcases List.mem_append.mp he with he | he
      · exact hs e he y (.tail _ hy)
      · obtain rfl := List.mem_singleton.mp he
        show (x.1 == y.1) = false
        exact beq_eq_false_iff_ne.mpr fun q => hn1 (by rw [q]; exact List.mem_map_of_mem hy)
    · rcases List.mem_append.mp he with he | he
      · exact hr e he
      · obtain rfl := List.mem_singleton.mp he
        rfl
    · have t1 : s.toks + 1 + r.length = s.toks + (r.length + 1) := by omega
      have t2 : n + 1 + r.length = n + (r.length + 1) := by omega
      show Q ⟨⟩ { s with heap := h'', toks := s.toks + 1 + r.length }
      rw [t1]
      refine h h'' ?_ (hs'.trans hs'')
      rw [t2, List.append_assoc] at D''
      exact D''
theorem isDict_at {K : Type} [DecidableEq K] {knd : PySem.KeyKind prog w K} {o : Obj} {kvs : List (K × Value)} (h1 : h.get? d = some o) (h2 : o.IsDictOf knd kvs) : h.DictOf knd d kvs := by
  obtain ⟨es, ep, r⟩ := h2
  exact ⟨o, es, ep, h1, r⟩
theorem empty_at {K : Type} [DecidableEq K] {knd : PySem.KeyKind prog w K} (h1 : h.get? d = some (dictOf [] 0)) : h.DictOf knd d [] :=
  ⟨_, #[], 0, h1, ⟨rfl, rfl, rfl⟩, rfl, fun _ he => by simp at he, Pairs.nil, List.nodup_nil⟩
def Bk (Ar : Around) (fd : FuncData) (L fa : Addr) (body : List Stmt) (w : World) (R : Result → Shared → Prop) (s : Shared) : Prop :=
  wpAny (model Mine.prog w) (Ar.deeper (callEnv fd L fa)) (execs body (callEnv fd L fa)) (fun f s' => R (.ok (.ret (match f with | .ret v => v | _ => .none))) s')
        (fun e s' => wpAny (model Mine.prog w) (Ar.deeper (callEnv fd L fa)) (leaving (callEnv fd L fa) e) (fun _ s'' => R (.error e) s'') (fun e' s'' => R (.error e') s'') s') s
theorem call_kw {R : Result → Shared → Prop} {fa : Addr} {o : Obj} {fd : FuncData} {body : List Stmt} {args : Args} {ex front : List (Str × Value)} {nm : Str}
    (G : Gd w s.heap) (hroom : Ar.depth < recursionLimit)
    (ho : (frag w.params).lookup fa = some o) (hdata : o.data = .func fd) (hcd : codeIn (frag w.params) fd.code fd.qualname = true)
    (hbody : fd.body = .stmts body) (hb : bindArgs fd args = (alloc { cls := .type "dict", data := .dict #[] } >>= fun d => (forIn ex PUnit.unit (fun x _ => nsSet d x.1 x.2 >>= fun _ => pure (ForInStep.yield PUnit.unit))) >>= fun _ => pure (front ++ [(nm, Value.ref d)])))
    (hn : (ex.map (·.1)).Nodup)
    (hcell : (fd.scope.names.all fun x => decide (x.2 ≠ NameKind.cell)) = true) (hloc : ((front ++ [(nm, Value.none)]).all fun x => decide (fd.scope.names.lookup x.1 = some NameKind.local)) = true)
    (k : ∀ h₁ D tk, D = s.heap.objs.size → h₁.Ns (D + 1) (fun x => (front ++ [(nm, Value.ref D)]).reverse.lookup x) → (∀ b o, s.heap.get? b = some o → h₁.get? b = some o) →
      h₁.DictOf (PySem.strKind Mine.prog w) D ex → Bk Ar fd (D + 1) fa body w R { s with heap := h₁, toks := tk })
    (hco : fd.scope.isCoroutine = false := by rfl) (hgen : fd.scope.isGenerator = false := by rfl) (hk : fd.scope.kind = .function := by rfl) :
    codeAny (model Mine.prog w) Ar (.call (.ref fa) args) R s := by
  refine codeAny_call_function hroom (G.kin _ _ ho) hdata hco hgen hbody (codeRec_of G.kin hcd) ?_
  rw [hb]
  refine wpAny_bind (wpAny_alloc ?_)
  generalize hD : s.heap.objs.size = D
  have D0 : (s.heap.push { cls := .type "dict", data := .dict #[] }).get? D = some (dictOf [] 0) := by rw [← hD]; exact Heap.get?_push_size _ rfl
  refine wpAny_bind (kw_fill ex { s with heap := s.heap.push { cls := .type "dict", data := .dict #[] } } [] 0 D0 (fun _ he => nomatch he) (fun _ he => nomatch he) hn fun h' D' hs' => wpAny_pure ?_)
  have keep : ∀ b o, s.heap.get? b = some o → h'.get? b = some o := fun b o e => (hs'.2 b fun z => by have := Heap.lt_size e; rw [z, hD] at this; exact Nat.lt_irrefl _ this).trans (Heap.get?_push_of_some _ e)
  have sz : h'.objs.size = D + 1 := by rw [hs'.1, Heap.size_push, hD]
  refine wpAny_newFunctionEnv (fun x hx => of_decide_eq_true (List.all_eq_true.mp hcell x hx)) (fun x hx => ?_) (fun h₀ hns₀ hsb₀ => ⟨(G.lim.keeps keep).fresh _ hsb₀, codeAny_func ?_⟩) hk
  · rcases List.mem_append.mp hx with z | z
    · exact of_decide_eq_true (List.all_eq_true.mp hloc x (List.mem_append_left _ z))
    · have := of_decide_eq_true (List.all_eq_true.mp hloc (nm, Value.none) (List.mem_append_right _ (.head _)))
      rw [List.mem_singleton.mp z]; exact this
  · have keep₀ : ∀ b o, h'.get? b = some o → h₀.get? b = some o := fun b o e => hsb₀.extBut b o (Nat.ne_of_lt (Heap.lt_size e)) (Heap.get?_push_of_some _ e)
    have hns₁ : h₀.Ns (D + 1) (fun x => (front ++ [(nm, Value.ref D)]).reverse.lookup x) := sz ▸ hns₀
    have := k h₀ D (s.toks + ex.length + (front ++ [(nm, Value.ref D)]).length) hD.symm hns₁ (fun b o e => keep₀ b o (keep b o e)) ?_
    · unfold Bk at this
      rw [← sz] at this
      exact this
    · exact (isDict_at D' (kp_isDict _ _ hn)).at fun o e => keep₀ _ o e
end
end Mine
end
section
open PySem PySem.W PySem.Calls PyProof.Rows
set_option maxRecDepth 100000
set_option maxHeartbeats 4000000
set_option linter.all false
namespace Mine
section
variable {w : World} {T : Tg → Prop} {Ar : Around} {E : Value → Shared → Prop} {s : Shared} {g h h' : Heap} {L d : Addr} {m : Str → Option Value} {A A' : EA} {S S' : ES}
variable {env : Env} {pl : Sem Bool}
theorem callDef {R : Result → Shared → Prop} {fa : Addr} {o : Obj} {fd : FuncData} {body : List Stmt} {args : Args} {binds : List (Str × Value)} 
    (G : Gd w s.heap) (hroom : Ar.depth < recursionLimit)
    (ho : (frag w.params).lookup fa = some o) (hdata : o.data = .func fd) (hcd : codeIn (frag w.params) fd.code fd.qualname = true)
    (hbody : fd.body = .stmts body) (hbind : BindsTo s fd args binds)
    (hcell : (fd.scope.names.all fun x => decide (x.2 ≠ NameKind.cell)) = true) (hloc : (binds.all fun x => decide (fd.scope.names.lookup x.1 = some NameKind.local)) = true)
    (k : ∀ L h₁, L = s.heap.objs.size → h₁.Ns L (fun x => binds.reverse.lookup x) → (∀ b o, s.heap.get? b = some o → h₁.get? b = some o) → Bk Ar fd L fa body w R { s with heap := h₁, toks := s.toks + binds.length })
    (hco : fd.scope.isCoroutine = false := by rfl) (hgen : fd.scope.isGenerator = false := by rfl) (hk : fd.scope.kind = .function := by rfl) :
    codeAny (model prog w) Ar (.call (.ref fa) args) R s :=
  codeAny_call_def hroom (G.kin _ _ ho) hdata G.lim (codeRec_of G.kin hcd) hbody hbind (fun x hx => of_decide_eq_true (List.all_eq_true.mp hcell x hx)) (fun x hx => of_decide_eq_true (List.all_eq_true.mp hloc x hx)) (fun h₁ hns hk₁ => k _ h₁ rfl hns hk₁) hco hgen hk
theorem fac_body {R : Result → Shared → Prop} {fd : FuncData} {fa : Addr} {p1 p2 : Pos} (k : ∀ h', h'.get? s.heap.objs.size = some (dictOf [] 0) → (∀ b o, s.heap.get? b = some o → h'.get? b = some o) → R (.ok (.ret (.ref s.heap.objs.size))) { s with heap := h' }) :
    Bk Ar fd L fa [.Return (some (.Dict [] [] p1)) p2] w R s := by
  refine wpAny_execs_cons (wpAny_Return_some (wpAny_Dict_empty ?_))
  exact k _ (Heap.get?_push_size _ rfl) fun b o e => Heap.get?_push_of_some _ e
theorem m_add_half_edge {Q : Value × List Value → Shared → Prop} (c : V prog w s.heap L m A S) (k : Q (.ref 825, [.ref A.x]) s) : wpAny (model prog w) Ar (getMethod (.ref A.x) (Str.ofString "add_half_edge") pl) Q E s :=
  m_v c (kf_m_add_half_edge _) (kt_825 _) (fun t => by with_unfolding_all rfl) k
theorem m_remove_node {Q : Value × List Value → Shared → Prop} (c : V prog w s.heap L m A S) (k : Q (.ref 802, [.ref A.x]) s) : wpAny (model prog w) Ar (getMethod (.ref A.x) (Str.ofString "remove_node") pl) Q E s :=
  m_v c (kf_m_remove_node _) (kt_802 _) (fun t => by with_unfolding_all rfl) k
theorem m_remove_edge {Q : Value × List Value → Shared → Prop} (c : V prog w s.heap L m A S) (k : Q (.ref 853, [.ref A.x]) s) : wpAny (model prog w) Ar (getMethod (.ref A.x) (Str.ofString "remove_edge") pl) Q E s :=
  m_v c (kf_m_remove_edge _) (kt_853 _) (fun t => by with_unfolding_all rfl) k
theorem m_get_data {Q : Value × List Value → Shared → Prop} (c : V prog w s.heap L m A S) (k : Q (.ref 788, [.ref A.x]) s) : wpAny (model prog w) Ar (getMethod (.ref A.x) (Str.ofString "get_data") pl) Q E s :=
  m_v c (kf_m_get_data _) (kt_788 _) (fun t => by with_unfolding_all rfl) k
theorem m_neighbors_cw_order {Q : Value × List Value → Shared → Prop} (c : V prog w s.heap L m A S) (k : Q (.ref 816, [.ref A.x]) s) : wpAny (model prog w) Ar (getMethod (.ref A.x) (Str.ofString "neighbors_cw_order") pl) Q E s :=
  m_v c (kf_m_neighbors_cw_order _) (kt_816 _) (fun t => by with_unfolding_all rfl) k
theorem m_add_nodes_from {Q : Value × List Value → Shared → Prop} (c : V prog w s.heap L m A S) (k : Q (.ref 614, [.ref A.x]) s) : wpAny (model prog w) Ar (getMethod (.ref A.x) (Str.ofString "add_nodes_from") pl) Q E s :=
  m_v c (kf_m_add_nodes_from _) (kt_614 _) (fun t => by with_unfolding_all rfl) k
theorem m_remove_nodes_from {Q : Value × List Value → Shared → Prop} (c : V prog w s.heap L m A S) (k : Q (.ref 809, [.ref A.x]) s) : wpAny (model prog w) Ar (getMethod (.ref A.x) (Str.ofString "remove_nodes_from") pl) Q E s :=
  m_v c (kf_m_remove_nodes_from _) (kt_809 _) (fun t => by with_unfolding_all rfl) k
theorem m_remove_edges_from {Q : Value × List Value → Shared → Prop} (c : V prog w s.heap L m A S) (k : Q (.ref 860, [.ref A.x]) s) : wpAny (model prog w) Ar (getMethod (.ref A.x) (Str.ofString "remove_edges_from") pl) Q E s :=
  m_v c (kf_m_remove_edges_from _) (kt_860 _) (fun t => by with_unfolding_all rfl) k
theorem m_connect_components {Q : Value × List Value → Shared → Prop} (c : V prog w s.heap L m A S) (k : Q (.ref 867, [.ref A.x]) s) : wpAny (model prog w) Ar (getMethod (.ref A.x) (Str.ofString "connect_components") pl) Q E s :=
  m_v c (kf_m_connect_components _) (kt_867 _) (fun t => by with_unfolding_all rfl) k
theorem m_add_half_edge_ccw {Q : Value × List Value → Shared → Prop} (c : V prog w s.heap L m A S) (k : Q (.ref 839, [.ref A.x]) s) : wpAny (model prog w) Ar (getMethod (.ref A.x) (Str.ofString "add_half_edge_ccw") pl) Q E s :=
  m_v c (kf_m_add_half_edge_ccw _) (kt_839 _) (fun t => by with_unfolding_all rfl) k
theorem m_add_half_edge_cw {Q : Value × List Value → Shared → Prop} (c : V prog w s.heap L m A S) (k : Q (.ref 846, [.ref A.x]) s) : wpAny (model prog w) Ar (getMethod (.ref A.x) (Str.ofString "add_half_edge_cw") pl) Q E s :=
  m_v c (kf_m_add_half_edge_cw _) (kt_846 _) (fun t => by with_unfolding_all rfl) k
theorem sum261 {R : Result → Shared → Prop} {v : Value} (G : Gd w s.heap) (hroom : Ar.depth < recursionLimit)
    (k : ∀ h' D tk, s.heap.objs.size ≤ D → h'.get? D = some (dictOf [] 0) → (∀ b o, s.heap.get? b = some o → h'.get? b = some o) → R (.ok (.ret (.ref D))) { s with heap := h', toks := tk }) :
    codeAny (model prog w) Ar (.call (.ref 261) ⟨[v], []⟩) R s := by
  refine callDef (o := o261 w.params) (fd := fdOf (o261 w.params)) (body := fbody (clsSt 12 0)) (binds := [("self", v)]) G hroom (by rfl) (by rfl) (by kernel_rfl!) (by rfl) (BindsTo.of_eq (by rfl)) (by kernel_rfl!) (by kernel_rfl!) fun L h₁ hL hn hk => ?_
  refine fac_body fun h' hd hk' => ?_
  exact k _ _ _ (Nat.le_trans (Nat.le_of_eq hL.symm) (Nat.le_of_lt (hn.lt))) hd fun b o e => hk' b o (hk b o e)
theorem m_node_dict_factory {Q : Value × List Value → Shared → Prop} (c : V prog w s.heap L m A S) (k : Q (.ref 261, [.ref A.x]) s) : wpAny (model prog w) Ar (getMethod (.ref A.x) (Str.ofString "node_dict_factory") pl) Q E s :=
  m_v c (kf_m_node_dict_factory _) (kt_261 _) (fun t => by with_unfolding_all rfl) k
theorem sum268 {R : Result → Shared → Prop} {v : Value} (G : Gd w s.heap) (hroom : Ar.depth < recursionLimit)
    (k : ∀ h' D tk, s.heap.objs.size ≤ D → h'.get? D = some (dictOf [] 0) → (∀ b o, s.heap.get? b = some o → h'.get? b = some o) → R (.ok (.ret (.ref D))) { s with heap := h', toks := tk }) :
    codeAny (model prog w) Ar (.call (.ref 268) ⟨[v], []⟩) R s := by
  refine callDef (o := o268 w.params) (fd := fdOf (o268 w.params)) (body := fbody (clsSt 12 1)) (binds := [("self", v)]) G hroom (by rfl) (by rfl) (by kernel_rfl!) (by rfl) (BindsTo.of_eq (by rfl)) (by kernel_rfl!) (by kernel_rfl!) fun L h₁ hL hn hk => ?_
  refine fac_body fun h' hd hk' => ?_
  exact k _ _ _ (Nat.le_trans (Nat.le_of_eq hL.symm) (Nat.le_of_lt (hn.lt))) hd fun b o e => hk' b o (hk b o e)
theorem m_node_attr_dict_factory {Q : Value × List Value → Shared → Prop} (c : V prog w s.heap L m A S) (k : Q (.ref 268, [.ref A.x]) s) : wpAny (model prog w) Ar (getMethod (.ref A.x) (Str.ofString "node_attr_dict_factory") pl) Q E s :=
  m_v c (kf_m_node_attr_dict_factory _) (kt_268 _) (fun t => by with_unfolding_all rfl) k
theorem sum275 {R : Result → Shared → Prop} {v : Value} (G : Gd w s.heap) (hroom : Ar.depth < recursionLimit)
    (k : ∀ h' D tk, s.heap.objs.size ≤ D → h'.get? D = some (dictOf [] 0) → (∀ b o, s.heap.get? b = some o → h'.get? b = some o) → R (.ok (.ret (.ref D))) { s with heap := h', toks := tk }) :
    codeAny (model prog w) Ar (.call (.ref 275) ⟨[v], []⟩) R s := by
  refine callDef (o := o275 w.params) (fd := fdOf (o275 w.params)) (body := fbody (clsSt 12 2)) (binds := [("self", v)]) G hroom (by rfl) (by rfl) (by kernel_rfl!) (by rfl) (BindsTo.of_eq (by rfl)) (by kernel_rfl!) (by kernel_rfl!) fun L h₁ hL hn hk => ?_
  refine fac_body fun h' hd hk' => ?_
  exact k _ _ _ (Nat.le_trans (Nat.le_of_eq hL.symm) (Nat.le_of_lt (hn.lt))) hd fun b o e => hk' b o (hk b o e)
theorem m_adjlist_outer_dict_factory {Q : Value × List Value → Shared → Prop} (c : V prog w s.heap L m A S) (k : Q (.ref 275, [.ref A.x]) s) : wpAny (model prog w) Ar (getMethod (.ref A.x) (Str.ofString "adjlist_outer_dict_factory") pl) Q E s :=
  m_v c (kf_m_adjlist_outer_dict_factory _) (kt_275 _) (fun t => by with_unfolding_all rfl) k
theorem sum282 {R : Result → Shared → Prop} {v : Value} (G : Gd w s.heap) (hroom : Ar.depth < recursionLimit)
    (k : ∀ h' D tk, s.heap.objs.size ≤ D → h'.get? D = some (dictOf [] 0) → (∀ b o, s.heap.get? b = some o → h'.get? b = some o) → R (.ok (.ret (.ref D))) { s with heap := h', toks := tk }) :
    codeAny (model prog w) Ar (.call (.ref 282) ⟨[v], []⟩) R s := by
  refine callDef (o := o282 w.params) (fd := fdOf (o282 w.params)) (body := fbody (clsSt 12 3)) (binds := [("self", v)]) G hroom (by rfl) (by rfl) (by kernel_rfl!) (by rfl) (BindsTo.of_eq (by rfl)) (by kernel_rfl!) (by kernel_rfl!) fun L h₁ hL hn hk => ?_
  refine fac_body fun h' hd hk' => ?_
  exact k _ _ _ (Nat.le_trans (Nat.le_of_eq hL.symm) (Nat.le_of_lt (hn.lt))) hd fun b o e => hk' b o (hk b o e)
theorem m_adjlist_inner_dict_factory {Q : Value × List Value → Shared → Prop} (c : V prog w s.heap L m A S) (k : Q (.ref 282, [.ref A.x]) s) : wpAny (model prog w) Ar (getMethod (.ref A.x) (Str.ofString "adjlist_inner_dict_factory") pl) Q E s :=
  m_v c (kf_m_adjlist_inner_dict_factory _) (kt_282 _) (fun t => by with_unfolding_all rfl) k
theorem sum289 {R : Result → Shared → Prop} {v : Value} (G : Gd w s.heap) (hroom : Ar.depth < recursionLimit)
    (k : ∀ h' D tk, s.heap.objs.size ≤ D → h'.get? D = some (dictOf [] 0) → (∀ b o, s.heap.get? b = some o → h'.get? b = some o) → R (.ok (.ret (.ref D))) { s with heap := h', toks := tk }) :
    codeAny (model prog w) Ar (.call (.ref 289) ⟨[v], []⟩) R s := by
  refine callDef (o := o289 w.params) (fd := fdOf (o289 w.params)) (body := fbody (clsSt 12 4)) (binds := [("self", v)]) G hroom (by rfl) (by rfl) (by kernel_rfl!) (by rfl) (BindsTo.of_eq (by rfl)) (by kernel_rfl!) (by kernel_rfl!) fun L h₁ hL hn hk => ?_
  refine fac_body fun h' hd hk' => ?_
  exact k _ _ _ (Nat.le_trans (Nat.le_of_eq hL.symm) (Nat.le_of_lt (hn.lt))) hd fun b o e => hk' b o (hk b o e)
theorem m_edge_attr_dict_factory {Q : Value × List Value → Shared → Prop} (c : V prog w s.heap L m A S) (k : Q (.ref 289, [.ref A.x]) s) : wpAny (model prog w) Ar (getMethod (.ref A.x) (Str.ofString "edge_attr_dict_factory") pl) Q E s :=
  m_v c (kf_m_edge_attr_dict_factory _) (kt_289 _) (fun t => by with_unfolding_all rfl) k
theorem sum296 {R : Result → Shared → Prop} {v : Value} (G : Gd w s.heap) (hroom : Ar.depth < recursionLimit)
    (k : ∀ h' D tk, s.heap.objs.size ≤ D → h'.get? D = some (dictOf [] 0) → (∀ b o, s.heap.get? b = some o → h'.get? b = some o) → R (.ok (.ret (.ref D))) { s with heap := h', toks := tk }) :
    codeAny (model prog w) Ar (.call (.ref 296) ⟨[v], []⟩) R s := by
  refine callDef (o := o296 w.params) (fd := fdOf (o296 w.params)) (body := fbody (clsSt 12 5)) (binds := [("self", v)]) G hroom (by rfl) (by rfl) (by kernel_rfl!) (by rfl) (BindsTo.of_eq (by rfl)) (by kernel_rfl!) (by kernel_rfl!) fun L h₁ hL hn hk => ?_
  refine fac_body fun h' hd hk' => ?_
  exact k _ _ _ (Nat.le_trans (Nat.le_of_eq hL.symm) (Nat.le_of_lt (hn.lt))) hd fun b o e => hk' b o (hk b o e)
theorem m_graph_attr_dict_factory {Q : Value × List Value → Shared → Prop} (c : V prog w s.heap L m A S) (k : Q (.ref 296, [.ref A.x]) s) : wpAny (model prog w) Ar (getMethod (.ref A.x) (Str.ofString "graph_attr_dict_factory") pl) Q E s :=
  m_v c (kf_m_graph_attr_dict_factory _) (kt_296 _) (fun t => by with_unfolding_all rfl) k
end
end Mine
end
section
open PySem PySem.W PySem.Calls PyProof.Rows
set_option maxRecDepth 100000
set_option linter.all false
namespace Mine
structure N (prog : Program) (w : World) (g : Heap) (L : Addr) (h : Heap) (m : Str → Option Value) : Prop where
  ns : h.Ns L m
  keep : ∀ b o, g.get? b = some o → h.get? b = some o
  gL : g.get? L = none
  gnd : Gd w g
section
variable {w : World} {Ar : Around} {E : Value → Shared → Prop} {s : Shared} {g h h' : Heap} {L : Addr} {m : Str → Option Value} {env : Env}
theorem N.gd (c : N prog w g L h m) : Gd w h := c.gnd.keeps c.keep
theorem N.loc (c : N prog w g L h m) {m' : Str → Option Value} (hn : h'.Ns L m') (hs : Heap.SameBut L h h') : N prog w g L h' m' :=
  ⟨hn, fun x o q => (hs.2 x fun z => by rw [z, c.gL] at q; cases q).trans (c.keep x o q), c.gL, c.gnd⟩
theorem N.keeps (c : N prog w g L h m) (hk : ∀ b o, h.get? b = some o → h'.get? b = some o) : N prog w g L h' m := ⟨c.ns.keeps hk, fun b o q => hk b o (c.keep b o q), c.gL, c.gnd⟩
theorem N.other (c : N prog w g L h m) {b : Addr} (hs : Heap.SameBut b h h') (hg : g.get? b = none) (hL : b ≠ L) : N prog w g L h' m :=
  ⟨c.ns.sameBut hs hL.symm, fun x o q => (hs.2 x fun z => by rw [z, hg] at q; cases q).trans (c.keep x o q), c.gL, c.gnd⟩
theorem gd_hideP (G : Gd w h) {P : Addr → Prop} (up : ∀ a, P a → topSize ≤ a) : Gd w (hide h P) := by
  have kp : ∀ a o, a < topSize → h.get? a = some o → (hide h P).get? a = some o := fun a o ha e => by rw [hide_get, if_neg fun z => absurd (up a z) (Nat.not_le.mpr ha)]; exact e
  refine ⟨fun a o q => kp a o (frag_low _ a o q) (G.kin a o q), ?_, ?_⟩
  · obtain ⟨mc, ⟨o, es, ep, ho, r⟩, x⟩ := G.lim
    exact ⟨mc, ⟨o, es, ep, kp _ _ (by decide) ho, r⟩, x⟩
  · obtain ⟨mg, mb, ⟨o, es, ep, ho, r⟩, ⟨o', es', ep', ho', r'⟩, x⟩ := G.bt
    exact ⟨mg, mb, ⟨o, es, ep, kp _ _ (by decide) ho, r⟩, ⟨o', es', ep', kp _ _ (by decide) ho', r'⟩, x⟩
theorem ld_n {x : Str} {pos : Pos} {v : Value} {Q : Value → Shared → Prop} (c : N prog w g L s.heap m) (hv : m x = some v) (k : Q v s)
    (hl : env.kindOf x = some .local := by rfl) (he : env.locals = L := by rfl) (hk : env.scope.kind = .function := by rfl)
    (hd : (x == ("__debug__" : Str)) = false := by decide) :
    wpAny (model prog w) Ar (eval (.Name x pos) env) Q E s := by
  subst he
  exact wpAny_Name (wpAny_loadName_local hk hl c.ns hv k) hd
theorem st_n {x : Str} {v : Value} {Q : Unit → Shared → Prop} (c : N prog w g L s.heap m)
    (k : ∀ h', N prog w g L h' (fun y => if y = x then some v else m y) → Heap.SameBut L s.heap h' → Q () { s with heap := h', toks := s.toks + 1 })
    (hl : env.kindOf x = some .local := by rfl) (he : env.locals = L := by rfl) 
    (hp : (env.scope.kind == .class || (env.scope.kind == .module && env.locals != env.globals)) = false := by rfl) :
    wpAny (model prog w) Ar (storeName env x v) Q E s := by
  subst he
  exact wpAny_storeName_local hl c.ns (fun h' hn hs => k h' (c.loc hn hs) hs) hp
theorem gl_n {x : Str} {pos : Pos} {v : Value} {Q : Value → Shared → Prop} (c : N prog w g L s.heap m) (e : nsIn (frag w.params) mainGlobals x = some (some v)) (h : Q v s)
    (hk : env.scope.kind = .function := by rfl) (hx : env.kindOf x = some .globalImplicit := by rfl) (hg : env.globals = mainGlobals := by rfl) (hd : (x == ("__debug__" : Str)) = false := by decide) :
    wpAny (model prog w) Ar (eval (.Name x pos) env) Q E s := by
  obtain ⟨mg, _, hm, _⟩ := c.gd.bt
  exact Name_function_global hk hx (loadGlobal_global (hg ▸ hm) (mg_of c.gd.kin hm e) h) hd
theorem bi_n {x : Str} {pos : Pos} {v : Value} {Q : Value → Shared → Prop} (c : N prog w g L s.heap m) (e : nsIn (frag w.params) mainGlobals x = some none) (hv : bootBuiltins x = some v) (hn : x ≠ "__name__") (h : Q v s)
    (hk : env.scope.kind = .function := by rfl) (hx : env.kindOf x = some .globalImplicit := by rfl) (hg : env.globals = mainGlobals := by rfl) (hb : env.builtins = builtinsNs := by rfl) (hd : (x == ("__debug__" : Str)) = false := by decide) :
    wpAny (model prog w) Ar (eval (.Name x pos) env) Q E s := by
  obtain ⟨mg, mb, hm, hmb, hall⟩ := c.gd.bt
  exact Name_function_global hk hx (loadGlobal_builtin (hg ▸ hm) (mg_none_of c.gd.kin hm e) (hb ▸ hmb) ((hall x hn).trans hv) h) hd
theorem item_v {value slice : Expr} {a : Addr} {items : Array Value} {k : Int} {t : Tok} {x : Value} {Q : Value → Shared → Prop} (hl : s.heap.IsList a items) (h0 : 0 ≤ k) (hf : k < 2 ^ 63) (hx : items[k.toNat]? = some x)
    (q : Q x s) (hs : subscripted slice false (.ref a) (.int k t) = operate [.ref a, .int k t] (getItem (.ref a) (.int k t))) : wpAny (model prog w) Ar (subscriptTail value slice (.ref a) (.int k t)) Q E s :=
  tail_any hl.typeIs slot_list_getitem.lookup (wpAny_getItem_list hl h0 hf hx q) hs
end
end Mine
end
section
open PySem PySem.W PySem.Calls PyProof.Rows
set_option maxRecDepth 100000
set_option maxHeartbeats 4000000
set_option linter.all false
namespace Mine
def cdOf (o : Obj) : ClassData := match o.data with | .cls c => c | _ => default
theorem kc_906 (P : Params) : clsIn (frag P) 906 = some (cdOf (o906 P)) := by kernel_rfl!
theorem ka_add_edge (P : Params) : alongIn (frag P) (Str.ofString "add_edge") (((cdOf (o906 P)).mro.dropWhile (· != .ref 906)).drop 1) = some (some (.ref 635)) := by kernel_rfl!
theorem ka_init (P : Params) : alongIn (frag P) (Str.ofString "__init__") (((cdOf (o906 P)).mro.dropWhile (· != .ref 906)).drop 1) = some (some (.ref 570)) := by kernel_rfl!
theorem km_906 (P : Params) : mroIn (frag P) 906 (.ref 906) = some true := by kernel_rfl!
theorem kn_super (P : Params) : nsIn (frag P) mainGlobals (Str.ofString "super") = some none := by kernel_rfl!
theorem kf_635 (P : Params) : fnIn (frag P) 635 = true := by kernel_rfl!
theorem kf_570 (P : Params) : fnIn (frag P) 570 = true := by kernel_rfl!
theorem k_opaque (P : Params) : nsIn (frag P) cStatics "thirdparty.any" = some none := by kernel_rfl!
theorem kt_635 (P : Params) : typeIn (frag P) (.ref 635) = some (.type "function") := by kernel_rfl!
theorem kt_570 (P : Params) : typeIn (frag P) (.ref 570) = some (.type "function") := by kernel_rfl!
theorem boot_super : bootBuiltins (Str.ofString "super") = some (.type "super") := by kernel_rfl!
section
variable {w : World} {T : Tg → Prop} {Ar : Around} {E : Value → Shared → Prop} {s : Shared} {g h h' : Heap} {L d x : Addr} {m : Str → Option Value} {A A' : EA} {S S' : ES}
variable {env : Env}
theorem fn_obj {h : Heap} (X : (frag w.params).In h) {f : Addr} (ht : typeIn (frag w.params) (.ref f) = some (.type "function")) : ∃ of, h.get? f = some of ∧ of.cls = .type "function" := by
  have ht' : ((frag w.params).lookup f).map (·.cls) = some (.type "function") := ht
  cases z : (frag w.params).lookup f with
  | none => rw [z] at ht'; cases ht'
  | some of => rw [z] at ht'; exact ⟨of, X _ _ z, Option.some.inj ht'⟩
theorem super_call {body : List Stmt} {p0 p1 apos pos : Pos} {name : Str} {args : List Expr} {kws : List Keyword} {dx fa f2 cc : Addr} {of oc : Obj} {fd : FuncData} {ar : Arg} {vs : Array Value} {file : Str} {tf : Tok} {Q : Value → Shared → Prop}
    (G : Gd w s.heap) (hx : s.heap.get? x = some (instObj 906 dx)) (hxh : topSize ≤ x) (hself : ∀ s' : Shared, s'.heap = s.heap → ∀ Q' : Value → Shared → Prop, Q' (.ref x) s' → wpAny (model prog w) Ar (loadName env ar.arg) Q' E s')
    (hks : env.kindOf "super" = some .globalImplicit) (hkc : env.kindOf "__class__" = some .free) (hkf : env.scope.kind = .function) (hcl : env.cells.lookup (Str.ofString "__class__") = some 768) (hgl : env.globals = mainGlobals) (hbl : env.builtins = builtinsNs)
    (hat : (name == ("__class__" : Str)) = false) (hfu : env.func = some fa) (hf : (frag w.params).lookup fa = some of) (hfd : of.data = .func fd)
    (hp : (fd.params.posonlyargs ++ fd.params.args).head? = some ar) (hco : env.code = .ref cc) (hcc : (frag w.params).lookup cc = some oc) (hoc : oc.data = .fields vs) (hvs : vs[2]? = some (.str file tf))
    (hfile : ((prog.main.file : Str) == file) = true)
    (ha : alongIn (frag w.params) name (((cdOf (o906 w.params)).mro.dropWhile (· != .ref 906)).drop 1) = some (some (.ref f2))) (ht : typeIn (frag w.params) (.ref f2) = some (.type "function")) (hfn : fnIn (frag w.params) f2 = true)
    (h : ∀ q h1 tk, (∀ b o, s.heap.get? b = some o → h1.get? b = some o) → h1.get? q = some (methodObj (.ref f2) (.ref x)) → 
      wpAny (model prog w) Ar (evalArgs (.ref q) true (backTo pos (starEach args env)) (backToKw pos (keywordEach kws env))) (fun a s₂ => (∀ b o, h1.get? b = some o → s₂.heap.get? b = some o) ∧
        codeAny (model prog w) Ar (.call (.ref f2) ⟨.ref x :: a.pos, a.kw⟩) (fun r s' => ∃ v, r = .ok (.ret v) ∧ Q v s') s₂) E { s with heap := h1, toks := tk })
    (hplain : ((backTo pos (starEach args env)).any (·.1) || (backToKw pos (keywordEach kws env)).any (·.1.isNone)) = false) {pl : Sem Bool}
    (he : eval (.Call (.Attribute (.Call (.Name "super" p0) [] [] p1) name apos) args kws pos) env = (do
      let ov ← attributeBase (.Call (.Name "super" p0) [] [] p1) name env (eval (.Call (.Name "super" p0) [] [] p1) env)
      standAt apos.atName
      let (f, first) ← holding [ov] (getMethod ov name pl)
      callWith pos f first (backTo pos (starEach args env)) (backToKw pos (keywordEach kws env))) := by rfl) :
    PySem.wpAt (model prog w) Ar (.func body env) (eval (.Call (.Attribute (.Call (.Name "super" p0) [] [] p1) name apos) args kws pos) env) Q E s := by
  rw [he]
  have X := G.kin
  obtain ⟨mg, mb, hmg, hmb, hall⟩ := G.bt
  obtain ⟨ofn, hofn, hofc⟩ := fn_obj X ht
  refine PySem.wpAt_bind ?_
  refine ks_wpAt_super_base hks hkc hat hfu (X _ _ hf) hfd hp hco (X _ _ hcc) hoc hvs hfile (by kernel_rfl!) ?_
  refine ks_loadName_global hkf hks (loadGlobal_builtin (hgl ▸ hmg) (mg_none_of X hmg (kn_super _)) (hbl ▸ hmb) ((hall (Str.ofString "super") (by decide +kernel)).trans boot_super) ⟨rfl, ?_⟩)
  refine wpAny_loadName_free hkf hkc hcl ⟨_, X 768 (o768 w.params) (by kernel_rfl!), rfl⟩ ?_
  refine hself _ rfl _ ?_
  have h906 : s.heap.get? 906 = some (o906 w.params) := X 906 (o906 w.params) (by kernel_rfl!)
  obtain ⟨hh, gg, dd, tk, os⟩ := s
  refine ks_wpAny_isType_cls h906 rfl ⟨rfl, ?_⟩
  refine ks_wpAny_call_super h906 rfl hx rfl (fun c e => by cases e) (looks_mroIn X (km_906 _)) (fun h' e k => ?_)
  refine PySem.wpAt_of_wpAny (wpAny_bind (wpAny_standAt (wpAny_bind (wpAny_holding ?_))))
  have X' := X.keeps k
  have hne : x ≠ 906 := fun z => absurd hxh (by rw [z]; decide)
  refine ks_wpAny_getMethod_super (l₀ := (cdOf (o906 w.params)).mro) e (looks_opaque X' (k_opaque _)) ?_ rfl X' ha (k _ _ hofn) hofc hne hat ?_
  · exact fun A Q E s k q => wpAny_bind ((looks_clsIn X' (kc_906 _)) A _ E s k (wpAny_pure q))
  · dsimp only
    have hq : (h'.push { cls := .type "method", data := .fields #[.ref f2, .ref x] }).get? h'.objs.size = some (methodObj (.ref f2) (.ref x)) := Heap.get?_push_size _ rfl
    refine callWith_of hplain (keeps_M (self := .ref x) hfn) (wpAny_mono (h h'.objs.size _ (tk + 1) (fun b o q => Heap.get?_push_of_some _ (k b o q)) hq) (fun a s₂ h₂ => ?_) fun _ _ z => z)
    refine ⟨⟨h₂.1 _ _ hq, X'.keeps fun b o q => h₂.1 b o (Heap.get?_push_of_some _ q)⟩, ?_⟩
    refine wpAny_call (ks_codeAny_call_bound (h₂.1 _ _ hq) (codeAny_mono h₂.2 fun r s' q => ?_))
    obtain ⟨v, rfl, q⟩ := q
    exact q
end
end Mine
end
section
open PySem PySem.W PySem.Calls PyProof.Rows
set_option maxRecDepth 100000
set_option maxHeartbeats 4000000
set_option linter.all false
namespace Mine
def IL (h : Heap) (a : Addr) (ns : List Int) : Prop := ∃ vs, h.PlainList a vs.toArray ∧ IntsAre vs ns
section
variable {w : World} {T : Tg → Prop} {Ar : Around} {E : Value → Shared → Prop} {s : Shared} {g h h' : Heap} {L d x : Addr} {m : Str → Option Value} {A A' : EA} {S S' : ES}
variable {env : Env}
theorem IL.keeps {a : Addr} {ns : List Int} (x : IL h a ns) (k : ∀ b o, h.get? b = some o → h'.get? b = some o) : IL h' a ns := let ⟨vs, l, i⟩ := x; ⟨vs, l.at fun o e => k _ o e, i⟩
theorem IL.at {a : Addr} {ns : List Int} (x : IL h a ns) (k : ∀ o, h.get? a = some o → h'.get? a = some o) : IL h' a ns := let ⟨vs, l, i⟩ := x; ⟨vs, l.at k, i⟩
theorem ints_of_get : ∀ {vs : List Value} {ns : List Int}, vs.length = ns.length → (∀ (j : Nat) (v : Value), vs[j]? = some v → ∃ k t, ns[j]? = some k ∧ v = .int k t) → IntsAre vs ns
  | [], [], _, _ => .nil
  | [], _ :: _, h, _ => by simp at h
  | _ :: _, [], h, _ => by simp at h
  | v :: vs, n :: ns, h, g => by
    obtain ⟨k, t, e, rfl⟩ := g 0 v rfl
    obtain rfl : n = k := by simpa using e
    exact .cons _ _ (ints_of_get (by simpa using h) fun j w e => g (j + 1) w (by simpa using e))
theorem list_dict {l : List Int} {f : Int → Addr} {Q : Value → Shared → Prop} (hh : Ar.handled = none) (lo : (d == sysModules) = false) (hd : s.heap.DictOf (PySem.intKind prog w) d (refs l f)) (hz : l.length ≤ 100)
    (k : ∀ h' tk, (∀ b o, s.heap.get? b = some o → h'.get? b = some o) → IL h' s.heap.objs.size l → Q (.ref s.heap.objs.size) { s with heap := h', toks := tk }) :
    wpAny (model prog w) Ar (call (.type "list") [.ref d]) Q E s := by
  obtain ⟨ep, hat⟩ := hd.dictAt
  refine kdl_call (kdl_dict (knd := PySem.intKind prog w) (kvs := refs l f) (ep := ep) lo) hh hat (by rw [refs_length]; exact line_of hz) fun h' tk acc' c' hk hS hacc => k h' tk hk ⟨acc'.toList, ⟨c', by rw [Array.toArray_toList]; exact hS⟩, ints_of_get (by rw [Array.length_toList, hacc.1, refs_length]) fun j v e => ?_⟩
  obtain ⟨n, x, hx, hi⟩ := hacc.2 j v (by rw [← Array.getElem?_toList]; exact e)
  unfold refs at hx
  rw [List.getElem?_map] at hx
  cases hl : l[j]? with
  | none => rw [hl] at hx; cases hx
  | some y =>
    rw [hl] at hx
    injection hx with hx
    injection hx with h1 h2
    cases v <;> simp [PySem.intKind, Value.isInt] at hi
    exact ⟨y, _, rfl, by rw [h1, hi]⟩
theorem list_inn {u : Int} {Q : Value → Shared → Prop} (hh : Ar.handled = none) (c : V prog w s.heap L m A S) (hu : u ∈ S.ns)
    (k : ∀ h' tk, (∀ b o, s.heap.get? b = some o → h'.get? b = some o) → IL h' s.heap.objs.size (S.nbr u) → Q (.ref s.heap.objs.size) { s with heap := h', toks := tk }) :
    wpAny (model prog w) Ar (call (.type "list") [.ref (A.inn u)]) Q E s :=
  list_dict hh (not_sys (c.em.high (.inn u) hu)) (c.em.inn u hu) (c.em.small.2.2.2.1 u hu) k
theorem ints_at : ∀ {vs : List Value} {ns : List Int}, IntsAre vs ns → ∀ {j : Nat} {k : Int}, ns[j]? = some k → ∃ t, vs[j]? = some (.int k t)
  | _, _, .nil, j, k, h => by cases j <;> cases h
  | _, _, .cons n t r, 0, k, h => by obtain rfl : n = k := by simpa using h
                                     exact ⟨t, rfl⟩
  | _, _, .cons n t r, j + 1, k, h => ints_at r (j := j) (by simpa using h)
theorem item_last {value slice : Expr} {a : Addr} {ns : List Int} {t : Tok} {x : Int} {Q : Value → Shared → Prop} (hl : IL s.heap a ns) (hx : ns.getLast? = some x)
    (k : ∀ t, Q (.int x t) s) (hs : subscripted slice false (.ref a) (.int (-1) t) = operate [.ref a, .int (-1) t] (getItem (.ref a) (.int (-1) t))) : wpAny (model prog w) Ar (subscriptTail value slice (.ref a) (.int (-1) t)) Q E s := by
  obtain ⟨vs, lp, i⟩ := hl
  have l := lp.isList
  have hlen : vs.length = ns.length := i.length
  have hpos : 0 < ns.length := by cases ns with
    | nil => cases hx
    | cons => simp
  rw [List.getLast?_eq_getElem?] at hx
  obtain ⟨t', e⟩ := ints_at i hx
  refine tail_any l.typeIs slot_list_getitem.lookup (wpAny_getItem_list_neg l (by omega) (by simp; omega) (by omega) (x := .int x t') ?_ (k t')) hs
  have : ((-1 : Int) + (vs.toArray.size : Int)).toNat = ns.length - 1 := by simp; omega
  rw [this]
  simpa using e
end
end Mine
end
section
open PySem PySem.W PySem.Calls PyProof.Rows
set_option maxRecDepth 100000
set_option maxHeartbeats 4000000
set_option linter.all false
namespace Mine
def ES.moveEnd (S : ES) (u l : Int) : ES := { S with nbr := upd S.nbr u (del (S.nbr u) l ++ [l]) }
theorem del_lt {l : List Int} {x : Int} (h : x ∈ l) : (del l x).length < l.length := by
  unfold del
  exact List.length_filter_lt_length_iff_exists.mpr ⟨x, h, by simp⟩
theorem upd_self {β : Type} (f : Int → β) (u : Int) : upd f u (f u) = f := by
  funext a; unfold upd; split
  · rename_i h; rw [h]
  · rfl
theorem upd_upd {β : Type} (f : Int → β) (u : Int) (x y : β) : upd (upd f u x) u y = upd f u y := by
  funext a; unfold upd; split <;> rfl
section
variable {w : World} {T : Tg → Prop} {Ar : Around} {E : Value → Shared → Prop} {s : Shared} {g h h' : Heap} {L d x : Addr} {m : Str → Option Value} {A A' : EA} {S S' : ES}
variable {env : Env}
theorem get_ds_y {u : Int} {t : Tok} {Q : Value → Shared → Prop} (c : V prog w s.heap L m A S) (hu : u ∈ S.ns) (h : Q (.ref (A.inn u)) { s with toks := s.toks + 1 }) :
    wpAny (model prog w) Ar (call (.builtin "dict.get") [.ref A.ds, .int u t]) Q E s := get_ds_c c (by rw [if_pos hu]; exact h)
theorem nbr_popped (c : C prog w T g L s.heap m A S) {u v : Int} (hu : u ∈ S.ns) (hv : v ∈ S.nbr u) (hT : T (.inn u)) {h' : Heap}
    (hm : h'.DictOf (PySem.intKind prog w) (A.inn u) (without (refs (S.nbr u) (A.dat u)) v)) (hs : Heap.SameBut (A.inn u) s.heap h') : C prog w T g L h' m A (S.delNbr u v) := by
  rw [without_refs] at hm
  have sub : ∀ t, (S.delNbr u v).live t → S.live t := fun t l => by
    cases t <;> try exact l
    rename_i a b
    refine ⟨l.1, ?_⟩
    have lb := l.2
    unfold ES.delNbr at lb
    by_cases q : a = u
    · subst q; simp only [upd_same] at lb; exact (mem_del.mp lb).1
    · simp only [upd_ne _ _ q] at lb; exact lb
  refine c.turn (t₀ := .inn u) hu hT hs sub (c.em.turn (t₀ := .inn u) hu hs sub (by simp) (by simp) (by simp) rfl rfl rfl
    (fun a ha => ?_) (fun a _ => by simp [ES.delNbr]) (fun a ha b hb => by simp [ES.delNbr]) ⟨c.em.small.1, c.em.small.2.1, c.em.small.2.2.1, fun a ha => ?_, c.em.small.2.2.2.2⟩)
  · by_cases q : Tg.inn u = Tg.inn a
    · rw [if_pos q]; injection q with q; subst q; simpa [ES.delNbr] using hm
    · rw [if_neg q]; exact upd_ne _ _ fun z => q (by rw [z])
  · unfold ES.delNbr
    by_cases q : a = u
    · subst q; simp only [upd_same]; exact Nat.le_trans (del_length_le _ _) (c.em.small.2.2.2.1 a ha)
    · simp only [upd_ne _ _ q]; exact c.em.small.2.2.2.1 a ha
theorem pop_inn {u l : Int} {t : Tok} {Q : Value → Shared → Prop} (c : C prog w Tt g L s.heap m A S) (hu : u ∈ S.ns) (hl : l ∈ S.nbr u)
    (k : ∀ h', C prog w Tt g L h' m A (S.delNbr u l) → DatAt prog w h' (A.dat u l) (S.cw u l) (S.ccw u l) → g.get? (A.dat u l) = none → A.dat u l ≠ L → (∀ t, (S.delNbr u l).live t → A.at t ≠ A.dat u l) → topSize ≤ A.dat u l →
      Q (.ref (A.dat u l)) { s with heap := h', toks := s.toks + 1 }) :
    wpAny (model prog w) Ar (call (.builtin "dict.pop") [.ref (A.inn u), .int l t]) Q E s := by
  have hd := c.em.inn u hu
  have ll : S.live (.dat u l) := ⟨hu, hl⟩
  have nai : A.dat u l ≠ A.inn u := c.em.ne ll (t' := .inn u) hu (by simp)
  refine call_meetsIn PySem.F.slot_dict_pop hd.typeIs PySem.F.entry_dict_pop (PySem.F.args_dict_pop_2 _ _) (meets_dict_pop_there (PySem.intKind prog w) (A.inn u) (is_int l t) [] (.inl rfl) (by rfl)) ⟨_, _, hd, by rw [refs_length]; exact line_of (c.em.small.2.2.2.1 u hu), valueAt_refs hl, fun h' hm hs => ?_⟩
  obtain ⟨kvs, dd, r⟩ := c.em.dat u hu l hl
  refine k h' (nbr_popped c hu hl trivial hm hs) ⟨kvs, dd.sameBut hs nai, r⟩ (c.hid _ ll trivial) (c.nL _ ll) (fun t lt => ?_) (c.em.high _ ll)
  have sub : S.live t ∧ t ≠ .dat u l := by
    cases t <;> try exact ⟨lt, by simp⟩
    rename_i a b
    have lb := lt.2
    unfold ES.delNbr at lb
    by_cases q : a = u
    · subst q; simp only [upd_same] at lb
      exact ⟨⟨lt.1, (mem_del.mp lb).1⟩, fun z => (mem_del.mp lb).2 (by injection z)⟩
    · simp only [upd_ne _ _ q] at lb
      exact ⟨⟨lt.1, lb⟩, fun z => q (by injection z)⟩
  exact c.em.ne sub.1 ll sub.2
theorem readd {u l : Int} {t : Tok} {Q : Unit → Shared → Prop} (c : C prog w Tt g L s.heap m A (S.delNbr u l)) (hu : u ∈ S.ns) (hl : l ∈ S.nbr u) (hz : (S.nbr u).length ≤ 100)
    (hD : DatAt prog w s.heap (A.dat u l) (S.cw u l) (S.ccw u l)) (hg : g.get? (A.dat u l) = none) (haL : A.dat u l ≠ L) (hfr : ∀ t, (S.delNbr u l).live t → A.at t ≠ A.dat u l) (hhi : topSize ≤ A.dat u l)
    (k : ∀ h', C prog w Tt g L h' m A (S.moveEnd u l) → Q () { s with heap := h', toks := s.toks + 1 }) :
    wpAny (model prog w) Ar (setItem (.ref (A.inn u)) (.int l t) (.ref (A.dat u l))) Q E s := by
  have e : (S.delNbr u l).nbr u = del (S.nbr u) l := by simp [ES.delNbr]
  have hle : ((S.delNbr u l).nbr u).length ≤ 100 := c.em.small.2.2.2.1 u hu
  refine add_nbr c hu (by rw [e]; exact fun q => (mem_del.mp q).2 rfl) ?_ trivial hD hg haL hfr hhi (fun _ _ => rfl) fun h' c' => k h' ?_
  · rw [e]; exact Nat.lt_of_lt_of_le (del_lt hl) hz
  · have a1 : A.setDat u l (A.dat u l) = A := by
      unfold EA.setDat
      rw [upd_self, upd_self]
    have a2 : (S.delNbr u l).addNbr u l (S.cw u l) (S.ccw u l) = S.moveEnd u l := by
      unfold ES.addNbr ES.delNbr ES.moveEnd
      simp only [upd_same, upd_upd, upd_self]
    rw [a1, a2] at c'
    exact c'
end
end Mine
end
section
open PySem PySem.W PySem.Calls PyProof.Rows
set_option maxRecDepth 100000
set_option maxHeartbeats 4000000
set_option linter.all false
namespace Mine
theorem kn_list (P : Params) : nsIn (frag P) mainGlobals (Str.ofString "list") = some none := by kernel_rfl!
theorem kn_range (P : Params) : nsIn (frag P) mainGlobals (Str.ofString "range") = some none := by kernel_rfl!
theorem kn_min (P : Params) : nsIn (frag P) mainGlobals (Str.ofString "min") = some none := by kernel_rfl!
theorem kn_abs (P : Params) : nsIn (frag P) mainGlobals (Str.ofString "abs") = some none := by kernel_rfl!
theorem kn_len (P : Params) : nsIn (frag P) mainGlobals (Str.ofString "len") = some none := by kernel_rfl!
theorem kn_iter (P : Params) : nsIn (frag P) mainGlobals (Str.ofString "iter") = some none := by kernel_rfl!
theorem kn_KeyError (P : Params) : nsIn (frag P) mainGlobals (Str.ofString "KeyError") = some none := by kernel_rfl!
theorem kn_TypeError (P : Params) : nsIn (frag P) mainGlobals (Str.ofString "TypeError") = some none := by kernel_rfl!
theorem boot_list : bootBuiltins (Str.ofString "list") = some (.type "list") := by kernel_rfl!
theorem boot_range : bootBuiltins (Str.ofString "range") = some (.type "range") := by kernel_rfl!
theorem boot_min : bootBuiltins (Str.ofString "min") = some (.builtin "min") := by kernel_rfl!
theorem boot_abs : bootBuiltins (Str.ofString "abs") = some (.builtin "abs") := by kernel_rfl!
theorem boot_len : bootBuiltins (Str.ofString "len") = some (.builtin "len") := by kernel_rfl!
theorem boot_iter : bootBuiltins (Str.ofString "iter") = some (.builtin "iter") := by kernel_rfl!
theorem kg_next (P : Params) : nsIn (frag P) mainGlobals (Str.ofString "_law_next") = some (some (.ref 915)) := by kernel_rfl!
theorem kg_begun (P : Params) : nsIn (frag P) mainGlobals (Str.ofString "_law_begun") = some (some (.ref 922)) := by kernel_rfl!
theorem kg_put (P : Params) : nsIn (frag P) mainGlobals (Str.ofString "_law_put") = some (some (.ref 929)) := by kernel_rfl!
theorem kg_refused (P : Params) : nsIn (frag P) mainGlobals (Str.ofString "_law_is_refused") = some (some (.ref 936)) := by kernel_rfl!
theorem kg_told (P : Params) : nsIn (frag P) mainGlobals (Str.ofString "_law_is_told") = some (some (.ref 941)) := by kernel_rfl!
theorem kg_PE (P : Params) : nsIn (frag P) mainGlobals (Str.ofString "PlanarEmbedding") = some (some (.ref 906)) := by kernel_rfl!
theorem kg_NXE (P : Params) : nsIn (frag P) mainGlobals (Str.ofString "NetworkXError") = some (some (.ref 200)) := by kernel_rfl!
section
variable {w : World} {Ar : Around} {E : Value → Shared → Prop} {s : Shared} {L : Addr} {m : Str → Option Value} {A : EA} {S : ES} {env : Env} {pos : Pos}
theorem isnot_in {k : Int} {t : Tok} {Q : Value → Shared → Prop} (h : Q (.bool true) s) : wpAny (model prog w) Ar (compareOp .IsNot (.int k t) .none) Q E s := wpAny_isNot_other rfl (by intro q; cases q) h
theorem isnot_nn {Q : Value → Shared → Prop} (h : Q (.bool false) s) : wpAny (model prog w) Ar (compareOp .IsNot .none .none) Q E s := wpAny_isNot_self rfl h
theorem in_and {K : Frag} {h : Heap} {P : Prop} (x : K.In h) (q : P) : K.In h ∧ P := ⟨x, q⟩
theorem ld_list {Q : Value → Shared → Prop} (c : V prog w s.heap L m A S) (h : Q (.type "list") s) (hk : env.scope.kind = .function) (hx : env.kindOf "list" = some .globalImplicit) (hg : env.globals = mainGlobals) (hb : env.builtins = builtinsNs) :
    wpAny (model prog w) Ar (eval (.Name "list" pos) env) Q E s := bi_v c (kn_list _) boot_list (by decide +kernel) h hk hx hg hb
end
end Mine
end
section
open PySem PySem.W PySem.Calls PyProof.Rows
set_option maxRecDepth 100000
set_option maxHeartbeats 4000000
set_option linter.all false
namespace Mine
section
variable {w : World} {Ar : Around} {E : Value → Shared → Prop} {s : Shared} {g h h' : Heap} {L : Addr} {m : Str → Option Value} {A : EA} {S S' : ES} {T : Tg → Prop}
local macro_rules | `(tactic| tm_at "k") => `(tactic| first | exact kk_825 _ | exact kk_802 _ | exact kk_853 _ | exact kk_788 _ | exact kk_816 _ | exact kk_614 _ | exact kk_809 _ | exact kk_860 _ | exact kk_867 _ | exact kk_839 _ | exact kk_846 _ | exact kk_261 _ | exact kk_268 _ | exact kk_275 _ | exact kk_282 _ | exact kk_289 _ | exact kk_296 _)
local macro_rules | `(tactic| tm_at "V") => `(tactic| first | assumption | exact C.v (by assumption) | exact C0.v (by assumption))
local macro_rules | `(tactic| tm_at "h") => `(tactic| first | assumption | with_unfolding_all assumption)
local macro_rules | `(tactic| tm_at "t") => `(tactic| first | assumption | (with_unfolding_all exact True.intro) | (with_unfolding_all exact fun q => Tg.noConfusion q))
local macro_rules | `(tactic| tm_at "u") => `(tactic| with_unfolding_all rfl)
local macro_rules | `(tactic| tm_at "s0") => `(tactic| (with_reducible refine wpAny_execs_cons ?_))
local macro_rules | `(tactic| tm_at "s1") => `(tactic| (with_reducible refine wpAny_execs_nil ?_))
local macro_rules | `(tactic| tm_at "s2") => `(tactic| (with_reducible refine wpAny_Assign_Name ?_ (by tm_at "u")))
local macro_rules | `(tactic| tm_at "s3") => `(tactic| (with_reducible refine wpAny_Assign_Subscript ?_ (by tm_at "u")))
local macro_rules | `(tactic| tm_at "s6") => `(tactic| (with_reducible refine wpAny_If ?_))
local macro_rules | `(tactic| tm_at "s7") => `(tactic| (with_reducible refine wpAny_isTrue_Compare1 ?_ (by tm_at "u")))
local macro_rules | `(tactic| tm_at "s9") => `(tactic| (with_reducible refine Subscript_ ?_))
local macro_rules | `(tactic| tm_at "s10") => `(tactic| (with_reducible refine Attribute_Name_ ?_ (by tm_at "u")))
local macro_rules | `(tactic| tm_at "s17") => `(tactic| (with_reducible refine wpAny_Expr_any ?_ (by tm_at "u") (by tm_at "u")))
local macro_rules | `(tactic| tm_at "s20") => `(tactic| (with_reducible refine MethodCall_ ?_ (by tm_at "u")))
local macro_rules | `(tactic| tm_at "s23") => `(tactic| ((with_reducible show wpAny _ _ (callWith _ _ _ _ _) _ _ _); dsimp only; first
     | (with_reducible refine callWith_method1 ?_ (by tm_at "u") (by tm_at "u"))
     | (with_reducible refine callWith_K (V.kin (by tm_at "V")) (by tm_at "k") ?_ (by tm_at "u") (by tm_at "u"))
     | (with_reducible refine callWith_K0 (V.kin (by tm_at "V")) (by tm_at "k") ?_)
     | (with_reducible refine callWith_KW (V.kin (by tm_at "V")) (by tm_at "k") (by tm_at "u") ?_ (by tm_at "u") (by tm_at "u"))
     | (with_reducible refine PyProof.Rows.callWith_type1 ?_ (by tm_at "u") (by tm_at "u"))))
local macro_rules | `(tactic| tm_at "s24") => `(tactic| (with_reducible refine spliced_more ?_ (by tm_at "u")))
local macro_rules | `(tactic| tm_at "s25") => `(tactic| ((with_reducible refine spliced_none ?_); try dsimp only [List.cons_append, List.nil_append]))
local macro_rules | `(tactic| tm_at "s30") => `(tactic| (with_reducible refine wpAny_bindName ?_))
local macro_rules | `(tactic| tm_at "v0") => `(tactic| (with_unfolding_all refine ld_v (by tm_at "V") (by first | rfl | assumption) ?_))
local macro_rules | `(tactic| tm_at "v1") => `(tactic| ((with_reducible refine st_v (by assumption) ?_ (by tm_at "u") (by tm_at "u") (by tm_at "u")); intro _ _; try dsimp only))
local macro_rules | `(tactic| tm_at "v3") => `(tactic| (with_reducible refine attr_succ (by tm_at "V") ?_))
local macro_rules | `(tactic| tm_at "v6") => `(tactic| (with_reducible refine attr_adj (by tm_at "V") ?_))
local macro_rules | `(tactic| tm_at "v25") => `(tactic| (with_reducible refine m_edge_attr_dict_factory (by tm_at "V") ?_))
local macro_rules | `(tactic| tm_at "v30") => `(tactic| (with_reducible refine nin_ds (by tm_at "V") ?_))
local macro_rules | `(tactic| tm_at "v33") => `(tactic| (with_reducible refine PySem.wpAny_truthy_bool ?_))
local macro_rules | `(tactic| tm_at "v47") => `(tactic| (with_reducible refine sub_ds (by tm_at "V") (by tm_at "h") ?_ (by tm_at "u")))
local macro_rules | `(tactic| tm_at "v48") => `(tactic| (with_reducible refine sub_dp (by tm_at "V") (by tm_at "h") ?_ (by tm_at "u")))
theorem dict_m {K : Type} [DecidableEq K] {knd : PySem.KeyKind prog w K} {d : Addr} {kvs : List (K × Value)} {pl : Sem Bool} {Q : Value × List Value → Shared → Prop} (hd : s.heap.DictOf knd d kvs) (h : Q (.builtin "dict.get", [.ref d]) s) : wpAny (model prog w) Ar (getMethod (.ref d) (Str.ofString "get") pl) Q E s :=
  getMethod_builtin hd.typeIs PySem.F.plainAttrs_dict PySem.F.slot_dict_get PySem.F.type_dict_get hd.mapOf.noDict h
theorem dict_u {K : Type} [DecidableEq K] {knd : PySem.KeyKind prog w K} {d : Addr} {kvs : List (K × Value)} {pl : Sem Bool} {Q : Value × List Value → Shared → Prop} (hd : s.heap.DictOf knd d kvs) (h : Q (.builtin "dict.update", [.ref d]) s) : wpAny (model prog w) Ar (getMethod (.ref d) (Str.ofString "update") pl) Q E s :=
  getMethod_builtin hd.typeIs PySem.F.plainAttrs_dict PySem.F.slot_dict_update PySem.F.type_dict_update hd.mapOf.noDict h
theorem callR {f : Value} {pos : List Value} {kw : List (Str × Value)} {Q : Value → Shared → Prop} (h : codeAny (model prog w) Ar (.call f ⟨pos, kw⟩) (fun r s' => ∃ v, r = .ok (.ret v) ∧ Q v s') s) : wpAny (model prog w) Ar (call f pos kw) Q E s :=
  wpAny_call (codeAny_mono h fun r s' q => by obtain ⟨v, rfl, q⟩ := q; exact q)
theorem get2_inn {u v : Int} {t : Tok} {dflt : Value} {Q : Value → Shared → Prop} (c : V prog w s.heap L m A S) (hu : u ∈ S.ns) (hv : v ∉ S.nbr u) (h : Q dflt { s with toks := s.toks + 1 }) :
    wpAny (model prog w) Ar (call (.builtin "dict.get") [.ref (A.inn u), .int v t, dflt]) Q E s :=
  call_meetsIn PySem.F.slot_dict_get (c.em.inn u hu).typeIs PySem.F.entry_dict_get (PySem.F.args_dict_get_3 _ _ _) (meets_dict_get_default (PySem.intKind prog w) (A.inn u) (is_int v t) (not_sys (c.em.high (.inn u) hu)) dflt) ⟨_, (c.em.inn u hu).mapOf, by
    rw [valueAt_refs_none hv]; exact h⟩
theorem C.fresh {D : Addr} (c : C prog w T g L h m A S) (hD : h.objs.size ≤ D) : g.get? D = none ∧ D ≠ L ∧ (∀ t, S.live t → A.at t ≠ D) ∧ topSize ≤ D := by
  have lt : ∀ b o, h.get? b = some o → b ≠ D := fun b o e z => absurd (Heap.lt_size e) (by rw [z]; exact Nat.not_lt.mpr hD)
  refine ⟨?_, ?_, fun t l => ?_, Nat.le_trans (Nat.le_trans (c.em.high .x trivial) (Nat.le_of_lt (Heap.lt_size c.em.inst))) hD⟩
  · cases e : g.get? D with
    | none => rfl
    | some o => exact absurd rfl (lt _ _ (c.keep _ _ e))
  · obtain ⟨o, _, _, ho, _⟩ := c.ns
    exact (lt _ _ ho).symm
  · obtain ⟨o, ho⟩ := c.em.some t l
    exact lt _ _ ho
theorem st_w {env : Env} {x : Str} {v : Value} {Q : Unit → Shared → Prop} (c : C prog w T g L s.heap m A S)
    (k : ∀ h', C prog w T g L h' (fun y => if y = x then some v else m y) A S → Heap.SameBut L s.heap h' → Q () { s with heap := h', toks := s.toks + 1 })
    (hl : env.kindOf x = some .local) (he : env.locals = L) 
    (hp : (env.scope.kind == .class || (env.scope.kind == .module && env.locals != env.globals)) = false) :
    wpAny (model prog w) Ar (storeName env x v) Q E s := by
  subst he
  exact wpAny_storeName_local hl c.ns (fun h' hn hs => k h' (c.loc hn hs) hs) hp
theorem upd_dict {ex : List (Str × Value)} {D Da : Addr} {Q : Value → Shared → Prop} (hD : s.heap.DictOf (PySem.strKind prog w) D []) (ha : s.heap.DictOf (PySem.strKind prog w) Da ex) (hne : D ≠ Da) (hs : (Da == sysModules) = false) (hn : (ex.map (·.1)).Nodup) (hsz : ex.length ≤ sizeLine)
    (k : ∀ h', h'.DictOf (PySem.strKind prog w) D ex → Heap.SameBut D s.heap h' → Q .none { s with heap := h' }) :
    wpAny (model prog w) Ar (call (.builtin "dict.update") [.ref D, .ref Da]) Q E s :=
  call_meetsIn PySem.F.slot_dict_update hD.typeIs PySem.F.entry_dict_update (PySem.F.args_dict_update_2 _ _) (meets_dict_update (PySem.strKind prog w) D Da hne hs) ⟨_, _, hD, ha, by simpa using hsz, fun h' hm _ hs' => k h' (by rw [merged_nil_of_nodup _ hn] at hm; exact hm) hs'⟩
theorem add_pnb' {u v : Int} {t : Tok} {a : Addr} {Q : Unit → Shared → Prop} (ea : A.dat u v = a) (cc : C prog w T g L s.heap m A S) (hv : v ∈ S.np) (hu : u ∉ S.pnb v) (hlen : (S.pnb v).length < 100) (hT : T (.pin v))
    (k : ∀ h', C prog w T g L h' m A (S.addPnb v u) → Q () { s with heap := h', toks := s.toks + 1 }) :
    wpAny (model prog w) Ar (setItem (.ref (A.pin v)) (.int u t) (.ref a)) Q E s := by
  subst ea
  exact add_pnb cc hv hu hlen hT k
theorem tuple2 {env : Env} {e1 e2 : Expr} {k : Nat} {pos : Pos} {a b : Value} {Q : Value → Shared → Prop}
   (h : wpAny (model prog w) Ar (eval e1 env) (fun x s₁ => x = a ∧ wpAny (model prog w) Ar (eval e2 env) (fun y s₂ => y = b ∧ 
      ∀ h', h'.IsTuple s₂.heap.objs.size #[a, b] → (∀ b o, s₂.heap.get? b = some o → h'.get? b = some o) → Q (.ref s₂.heap.objs.size) { s₂ with heap := h' }) E s₁) E s)
   (he : starEach [e1, e2] env = [(false, eval e1 env), (false, eval e2 env)]) :
   wpAny (model prog w) Ar (eval (.Tuple [e1, e2] k pos) env) Q E s := by
  refine wpAny_Tuple ?_
  rw [he]
  refine Calls.spliced_cons (wpAny_mono h (fun x s₁ h₁ => ?_) fun _ _ z => z)
  obtain ⟨rfl, h₁⟩ := h₁
  refine Calls.spliced_cons (wpAny_mono h₁ (fun y s₂ h₂ => ?_) fun _ _ z => z)
  obtain ⟨rfl, h₂⟩ := h₂
  refine Calls.spliced_nil ⟨by show 2 ≤ sizeLine; rw [sizeLine_eq]; decide, ?_⟩
  exact h₂ _ ⟨_, Heap.get?_push_size _ rfl, rfl, _, rfl⟩ fun b o e => Heap.get?_push_of_some _ e
theorem unpack2 {t : Addr} {a b : Value} {Q : List Value → Shared → Prop} (hh : Ar.handled = none) (ht : s.heap.IsTuple t #[a, b])
    (hQ : ∀ h', (∀ b o, s.heap.get? b = some o → h'.get? b = some o) → Q [a, b] { s with heap := h' }) : wpAny (model prog w) Ar (unpackItems (.ref t) 2 none) Q E s := by
  have q : (#[a, b] : Array Value).size = 2 := rfl
  rw [← q]
  exact wpAny_unpackItems_tuple hh ht fun h' he => hQ h' fun b o e => he b o (Nat.ne_of_lt (Heap.lt_size e)) e
theorem body635 {P : Params} {t1 t2 : Tok} {u v x y : Int} {Da : Addr} {Q : Flow → Shared → Prop} {ex : List (Str × Value)} (c : C prog w Tt g L s.heap (m0 [("self", .ref A.x), ("u_of_edge", .int u t1), ("v_of_edge", .int v t2), ("attr", .ref Da)]) A S) 
   (hh : Ar.handled = none) (hroom : Ar.depth < recursionLimit) (hL : topSize ≤ L)
   (ha : g.DictOf (PySem.strKind prog w) Da ex) (hDa : topSize ≤ Da) (hn : (ex.map (·.1)).Nodup) (hsz : ex.length = 2) (hx : ∃ t, valueAt ex (Str.ofString "cw") = some (.int x t)) (hy : ∃ t, valueAt ex (Str.ofString "ccw") = some (.int y t))
   (hu : u ∈ S.ns) (hv : v ∈ S.ns) (uv : v ∉ S.nbr u) (hv' : v ∈ S.np) (vu' : u ∉ S.pnb v) (l1 : (S.nbr u).length < 100) (l2 : (S.pnb v).length < 100)
   (k : ∀ h' tk m' D, g.get? D = none → C prog w Tt g L h' m' (A.setDat u v D) ((S.addNbr u v x y).addPnb v u) → Q .next { s with heap := h', toks := tk }) :
   wpAny (model prog w) Ar (execs (fbody (clsSt 14 9)) (callEnv (fdOf (o635 P)) L 635)) Q E s := by
  refine wpAny_execs_cons ?_
  refine Assign_Tuple_swapped (names := ["u", "v"]) ?_ (by tm_at "u") (by tm_at "u")
  refine tuple2 (a := .int u t1) (b := .int v t2) ?_ (by tm_at "u")
  tm_at "v0"
  refine ⟨rfl, ?_⟩
  tm_at "v0"
  refine ⟨rfl, fun h' ht hk => ?_⟩
  have c1 := c.keeps hk
  clear c
  refine unpack2 hh ht fun h'' hk2 => ?_
  have c2 := c1.keeps hk2
  clear c1
  refine wpAny_assignInOrder_more ?_
  (tm_at "s30"; tm_at "v1")
  refine wpAny_assignInOrder_more ?_
  (tm_at "s30"; tm_at "v1")
  refine wpAny_assignInOrder_none ?_
  (tm_at "s0"; tm_at "s6"; tm_at "s7"; tm_at "v0"; tm_at "s10"; tm_at "v0"; tm_at "v3"; tm_at "v30"; tm_at "v33")
  rw [if_neg (by simp [hu])]
  (tm_at "s1"; tm_at "s0"; tm_at "s6"; tm_at "s7"; tm_at "v0"; tm_at "s10"; tm_at "v0"; tm_at "v3"; tm_at "v30"; tm_at "v33")
  rw [if_neg (by simp [hv])]
  (tm_at "s1"; tm_at "s0"; tm_at "s2"; tm_at "s20"; tm_at "s9"; tm_at "s10"; tm_at "v0"; tm_at "v6"; tm_at "v0"; tm_at "v47")
  refine dict_m ((by assumption : C prog w Tt g L _ _ A S).em.inn u hu) ?_
  (tm_at "s23"; tm_at "s24"; tm_at "v0"; tm_at "s24"; tm_at "s20"; tm_at "v0"; tm_at "v25"; tm_at "s23")
  refine callR (sum289 (C.gd (by assumption)) hroom fun h3 D tk hD hd hk3 => ⟨_, rfl, ?_⟩)
  have c3 := C.keeps (by assumption) hk3
  dsimp only at hD c3
  (tm_at "s25")
  obtain ⟨gD, DL, Dt, Dhi⟩ := C.fresh (by assumption : C prog w Tt g L _ _ A S) hD
  refine get2_inn c3.v hu uv ?_
  refine st_w c3 (fun h4 c4 hs4 => ?_) (by tm_at "u") (by tm_at "u") (by tm_at "u")
  have hd4 : h4.get? D = some (dictOf [] 0) := (hs4.2 D DL).trans hd
  clear hs4 hd
  (tm_at "s0"; tm_at "s17"; tm_at "s20"; tm_at "v0")
  refine dict_u (knd := PySem.strKind prog w) (empty_at hd4) ?_
  (tm_at "s23"; tm_at "s24"; tm_at "v0"; tm_at "s25")
  have neD : D ≠ Da := fun z => by
    obtain ⟨o, _, _, ho, _⟩ := ha
    rw [← z, gD] at ho; cases ho
  refine upd_dict (empty_at hd4) (ha.at fun o e => c4.keep _ o e) neD (not_sys hDa) hn (line_of (by rw [hsz]; decide)) fun h5 hd5 hs5 => ?_
  have c5 := c4.other hs5 gD DL Dt
  (tm_at "s0"; tm_at "s3"; tm_at "v0"; tm_at "s9"; tm_at "s10"; tm_at "v0"; tm_at "v3"; tm_at "v0"; tm_at "v47"; tm_at "v0")
  refine add_nbr c5 hu uv l1 trivial ⟨ex, hd5, hsz, hx, hy⟩ gD DL Dt Dhi (fun _ q => absurd q vu') fun h6 c6 => ?_
  dsimp only
  (tm_at "s0"; tm_at "s3"; tm_at "v0"; tm_at "s9"; tm_at "s10"; tm_at "v0")
  have eD : (A.setDat u v D).dat u v = D := by simp [EA.setDat]
  refine attr_pred (A := A.setDat u v D) c6.v ?_
  (tm_at "v0"; tm_at "v48"; tm_at "v0")
  refine add_pnb' (T := Tt) (A := A.setDat u v D) (S := S.addNbr u v x y) eD (by exact c6) hv' vu' l2 trivial fun h7 c7 => ?_
  (tm_at "s1")
  exact k _ _ _ D gD c7
theorem sum635 {R : Result → Shared → Prop} {t1 t2 : Tok} {u v x y : Int} {ex : List (Str × Value)} (e : EmbAt prog w s.heap A S) (G : Gd w s.heap) (hroom : Ar.depth + 1 < recursionLimit) (hh : Ar.handled = none)
   (hb : bindArgs (fdOf (o635 w.params)) ⟨[.ref A.x, .int u t1, .int v t2], ex⟩ = (alloc { cls := .type "dict", data := .dict #[] } >>= fun d => (forIn ex PUnit.unit (fun x _ => nsSet d x.1 x.2 >>= fun _ => pure (ForInStep.yield PUnit.unit))) >>= fun _ => pure ([(Str.ofString "self", Value.ref A.x), (Str.ofString "u_of_edge", Value.int u t1), (Str.ofString "v_of_edge", Value.int v t2)] ++ [(Str.ofString "attr", Value.ref d)])))
   (hn : (ex.map (·.1)).Nodup) (hsz : ex.length = 2) (hx : ∃ t, valueAt ex (Str.ofString "cw") = some (.int x t)) (hy : ∃ t, valueAt ex (Str.ofString "ccw") = some (.int y t))
   (hu : u ∈ S.ns) (hv : v ∈ S.ns) (uv : v ∉ S.nbr u) (hv' : v ∈ S.np) (vu' : u ∉ S.pnb v) (l1 : (S.nbr u).length < 100) (l2 : (S.pnb v).length < 100)
   (k : ∀ h' tk D, Back prog w A S s.heap (A.setDat u v D) ((S.addNbr u v x y).addPnb v u) h' → R (.ok (.ret .none)) { s with heap := h', toks := tk }) :
   codeAny (model prog w) Ar (.call (.ref 635) ⟨[.ref A.x, .int u t1, .int v t2], ex⟩) R s := by
  refine call_kw (o := o635 w.params) (fd := fdOf (o635 w.params)) (body := fbody (clsSt 14 9)) (ex := ex) (front := [("self", Value.ref A.x), ("u_of_edge", .int u t1), ("v_of_edge", .int v t2)]) (nm := "attr") G (by omega) (by rfl) (by rfl) (by kernel_rfl!) (by rfl) hb hn (by kernel_rfl!) (by kernel_rfl!) fun h₁ Da tk hDa hns hk ha => ?_
  have low : topSize ≤ Da := by rw [hDa]; exact Nat.le_trans (e.high .x trivial) (Nat.le_of_lt (Heap.lt_size e.inst))
  have old : ∀ b o, s.heap.get? b = some o → b ≠ Da + 1 ∧ b ≠ Da := fun b o q => by
    have := Heap.lt_size q
    rw [← hDa] at this
    exact ⟨Nat.ne_of_lt (Nat.lt_succ_of_lt this), Nat.ne_of_lt this⟩
  have c0 : C prog w Tt (hide s.heap (Fp A S)) (Da + 1) h₁ (m0 [("self", Value.ref A.x), ("u_of_edge", .int u t1), ("v_of_edge", .int v t2), ("attr", .ref Da)]) A S := by
    refine ⟨hns, fun b x q => ?_, ?_, e.keeps fun t _ => hk _, fun t l _ => by rw [hide_get, if_pos ⟨t, l, rfl⟩], fun t l => ?_, gd_hide G e⟩
    · rw [hide_get] at q
      split at q
      · cases q
      · exact hk _ _ q
    · rw [hide_get]
      split
      · rfl
      · exact Heap.get?_none_of_le (by rw [hDa]; exact Nat.le_succ _)
    · obtain ⟨x, hx⟩ := e.some t l
      exact (old _ _ hx).1
  have c1 := c0.rebase Tt (Nat.le_succ_of_le low)
  have nq : ¬ Fq Tt (Da + 1) A S Da := fun z => by
    rcases z with z | ⟨t, l, _, z⟩
    · exact absurd z (Nat.ne_of_lt (Nat.lt_succ_self _))
    · obtain ⟨x, hx⟩ := e.some t l
      exact (old _ _ hx).2 z
  have ha' : (hide h₁ (Fq Tt (Da + 1) A S)).DictOf (PySem.strKind prog w) Da ex := by
    obtain ⟨o, es, ep, ho, r⟩ := ha
    exact ⟨o, es, ep, by rw [hide_get, if_neg nq]; exact ho, r⟩
  refine body635 (P := w.params) c1 (handled_deeper' hh) (by rw [depth_deeper]; omega) (Nat.le_succ_of_le low) ha' low hn hsz hx hy hu hv uv hv' vu' l1 l2 fun h' tk m' D gD c' => ?_
  exact k h' tk D (back_of (c0.rejoinT c'))
end
end Mine
end
section
open PySem PySem.W PySem.Calls PyProof.Rows
set_option maxRecDepth 100000
set_option linter.all false
set_option linter.unusedSimpArgs false
namespace Mine
section
variable {prog : Program} {w : World} {T : Tg → Prop} {Ar : Around} {E : Value → Shared → Prop} {s : Shared} {g h h' : Heap} {L : Addr} {m : Str → Option Value} {A A' : EA} {S S' : ES}
variable {env : Env}
theorem add_succ {n : Int} {a : Addr} {t : Tok} {Q : Unit → Shared → Prop} (cc : C prog w T g L s.heap m A S) (hn : n ∉ S.ns) (hlen : S.ns.length < 100) (hT : T .ds) (hD : s.heap.DictOf (intKind prog w) a []) (hg : g.get? a = none) (haL : a ≠ L)
    (hfr : ∀ t, S.live t → A.at t ≠ a) (hhi : topSize ≤ a)
    (k : ∀ h', (∀ b, b ≠ A.ds → h'.get? b = s.heap.get? b) → C prog w T g L h' m (A.setInn n a) (S.addSucc n) → Q () { s with heap := h', toks := s.toks + 1 }) :
    wpAny (model prog w) Ar (setItem (.ref A.ds) (.int n t) (.ref a)) Q E s := by
  have e := cc.em
  have hd := e.succ
  refine wpAny_setItem_pairs (is_int _ _) hd (fun h' hm hs => k h' (fun b hb => hs.2 b hb) ?_) (by rw [refs_length]; exact line_of e.small.2.1)
  rw [stored_new (valueAt_refs_none hn), refs_snoc hn] at hm
  have iat : ∀ t, (A.setInn n a).at t = if t = .inn n then a else A.at t := by
    intro t
    cases t <;> try rfl
    rename_i x
    by_cases q : Tg.inn x = .inn n
    · rw [if_pos q]; injection q with q1; subst q1; simp [EA.setInn, EA.at]
    · rw [if_neg q]
      have : x ≠ n := fun z => q (by rw [z])
      simp [EA.setInn, EA.at, upd_ne _ _ this]
  have lv : ∀ t, (S.addSucc n).live t → S.live t ∨ t = .inn n := by
    intro t l
    cases t <;> try exact .inl l
    · rename_i x
      have l' : x ∈ S.ns ++ [n] := l
      rcases List.mem_append.mp l' with z | z
      · exact .inl z
      · rw [List.mem_singleton.mp z]; exact .inr rfl
    · rename_i x y
      obtain ⟨l1, l2⟩ := l
      by_cases qx : x = n
      · subst qx
        have l2' : y ∈ upd S.nbr x [] x := l2
        rw [upd_same] at l2'
        cases l2'
      · have l2' : y ∈ S.nbr x := by have z : y ∈ upd S.nbr n [] x := l2; rwa [upd_ne _ _ qx] at z
        have l1' : x ∈ S.ns ++ [n] := l1
        rcases List.mem_append.mp l1' with z | z
        · exact .inl ⟨z, l2'⟩
        · exact absurd (List.mem_singleton.mp z) qx
  have nd : ¬ S.live (.inn n) := fun l => hn l
  have ne_of : ∀ {t}, S.live t → t ≠ .inn n := fun l z => nd (z ▸ l)
  have key : ∀ t, S.live t → t ≠ .ds → h'.get? (A.at t) = s.heap.get? (A.at t) := fun t l q => hs.2 _ (e.ne l (t' := .ds) trivial q)
  have kd : ∀ {K : Type} [DecidableEq K] {knd : PySem.KeyKind prog w K} {kvs : List (K × Value)} t, S.live t → t ≠ .ds → s.heap.DictOf knd (A.at t) kvs → h'.DictOf knd (A.at t) kvs :=
    fun t l q d => d.sameBut hs (e.ne l (t' := .ds) trivial q)
  have nai : A.ds ≠ a := hfr .ds trivial
  have emb : EmbAt prog w h' (A.setInn n a) (S.addSucc n) := by
    refine ⟨(key .x trivial (by simp)).trans e.inst, ?_, ?_, kd .dn trivial (by simp) e.node, hm, kd .dp trivial (by simp) e.pred, fun x hx => ?_, fun x hx => kd (.pin x) hx (fun z => by cases z) (e.pin x hx), fun x hx y hy => ?_, ?_, fun t t' l l' q => ?_, fun t l => ?_⟩
    · obtain ⟨tk, ht⟩ := e.dict
      exact ⟨tk, (key .dx trivial (by simp)).trans ht⟩
    · obtain ⟨o, ho⟩ := e.graph
      exact ⟨o, (key .dg trivial (by simp)).trans ho⟩
    · by_cases qx : x = n
      · subst qx
        simp only [ES.addSucc, EA.setInn, upd_same]
        exact hD.sameBut hs nai.symm
      · have hx' : x ∈ S.ns := by
          rcases List.mem_append.mp (show x ∈ S.ns ++ [n] from hx) with z | z
          · exact z
          · exact absurd (List.mem_singleton.mp z) qx
        have := kd (.inn x) hx' (fun z => by cases z) (e.inn x hx')
        simpa [ES.addSucc, EA.setInn, upd_ne _ _ qx, EA.at] using this
    · rcases lv (.dat x y) ⟨hx, hy⟩ with l | q
      · obtain ⟨kvs, dd, r⟩ := e.dat x l.1 y l.2
        exact ⟨kvs, kd (.dat x y) l (fun z => by cases z) dd, r⟩
      · cases q
    · refine ⟨e.small.1, by simp [ES.addSucc]; omega, e.small.2.2.1, fun x hx => ?_, e.small.2.2.2.2⟩
      by_cases qx : x = n
      · subst qx; simp [ES.addSucc]
      · have hx' : x ∈ S.ns := by
          rcases List.mem_append.mp (show x ∈ S.ns ++ [n] from hx) with z | z
          · exact z
          · exact absurd (List.mem_singleton.mp z) qx
        simpa [ES.addSucc, upd_ne _ _ qx] using e.small.2.2.2.1 x hx'
    · rw [iat, iat] at q
      rcases lv t l with l1 | q1 <;> rcases lv t' l' with l2 | q2
      · rw [if_neg (ne_of l1), if_neg (ne_of l2)] at q; exact e.sep t t' l1 l2 q
      · rw [if_neg (ne_of l1), if_pos q2] at q; exact absurd q (hfr t l1)
      · rw [if_pos q1, if_neg (ne_of l2)] at q; exact absurd q.symm (hfr t' l2)
      · rw [q1, q2]
    · rw [iat]
      rcases lv t l with l1 | q1
      · rw [if_neg (ne_of l1)]; exact e.high t l1
      · rw [if_pos q1]; exact hhi
  refine ⟨cc.ns.sameBut hs (cc.nL .ds trivial).symm, fun b o q => (hs.2 b fun z => by have q' := cc.hid .ds trivial hT; rw [z] at q; have := q'.symm.trans q; cases this).trans (cc.keep b o q), cc.gL, emb, fun t l ht => ?_, fun t l => ?_, cc.gnd⟩
  · rw [iat]
    rcases lv t l with l1 | q1
    · rw [if_neg (ne_of l1)]; exact cc.hid t l1 ht
    · rw [if_pos q1]; exact hg
  · rw [iat]
    rcases lv t l with l1 | q1
    · rw [if_neg (ne_of l1)]; exact cc.nL t l1
    · rw [if_pos q1]; exact haL
theorem add_pred {n : Int} {a : Addr} {t : Tok} {Q : Unit → Shared → Prop} (cc : C prog w T g L s.heap m A S) (hn : n ∉ S.np) (hlen : S.np.length < 100) (hT : T .dp) (hD : s.heap.DictOf (intKind prog w) a []) (hg : g.get? a = none) (haL : a ≠ L)
    (hfr : ∀ t, S.live t → A.at t ≠ a) (hhi : topSize ≤ a)
    (k : ∀ h', (∀ b, b ≠ A.dp → h'.get? b = s.heap.get? b) → C prog w T g L h' m (A.setPin n a) (S.addPred n) → Q () { s with heap := h', toks := s.toks + 1 }) :
    wpAny (model prog w) Ar (setItem (.ref A.dp) (.int n t) (.ref a)) Q E s := by
  have e := cc.em
  have hd := e.pred
  refine wpAny_setItem_pairs (is_int _ _) hd (fun h' hm hs => k h' (fun b hb => hs.2 b hb) ?_) (by rw [refs_length]; exact line_of e.small.2.2.1)
  rw [stored_new (valueAt_refs_none hn), refs_snoc hn] at hm
  have iat : ∀ t, (A.setPin n a).at t = if t = .pin n then a else A.at t := by
    intro t
    cases t <;> try rfl
    rename_i x
    by_cases q : Tg.pin x = .pin n
    · rw [if_pos q]; injection q with q1; subst q1; simp [EA.setPin, EA.at]
    · rw [if_neg q]
      have : x ≠ n := fun z => q (by rw [z])
      simp [EA.setPin, EA.at, upd_ne _ _ this]
  have lv : ∀ t, (S.addPred n).live t → S.live t ∨ t = .pin n := by
    intro t l
    cases t <;> try exact .inl l
    · rename_i x
      have l' : x ∈ S.np ++ [n] := l
      rcases List.mem_append.mp l' with z | z
      · exact .inl z
      · rw [List.mem_singleton.mp z]; exact .inr rfl
  have nd : ¬ S.live (.pin n) := fun l => hn l
  have ne_of : ∀ {t}, S.live t → t ≠ .pin n := fun l z => nd (z ▸ l)
  have key : ∀ t, S.live t → t ≠ .dp → h'.get? (A.at t) = s.heap.get? (A.at t) := fun t l q => hs.2 _ (e.ne l (t' := .dp) trivial q)
  have kd : ∀ {K : Type} [DecidableEq K] {knd : PySem.KeyKind prog w K} {kvs : List (K × Value)} t, S.live t → t ≠ .dp → s.heap.DictOf knd (A.at t) kvs → h'.DictOf knd (A.at t) kvs :=
    fun t l q d => d.sameBut hs (e.ne l (t' := .dp) trivial q)
  have nai : A.dp ≠ a := hfr .dp trivial
  have emb : EmbAt prog w h' (A.setPin n a) (S.addPred n) := by
    refine ⟨(key .x trivial (by simp)).trans e.inst, ?_, ?_, kd .dn trivial (by simp) e.node, kd .ds trivial (by simp) e.succ, hm, fun x hx => kd (.inn x) hx (fun z => by cases z) (e.inn x hx), fun x hx => ?_, fun x hx y hy => ?_, ?_, fun t t' l l' q => ?_, fun t l => ?_⟩
    · obtain ⟨tk, ht⟩ := e.dict
      exact ⟨tk, (key .dx trivial (by simp)).trans ht⟩
    · obtain ⟨o, ho⟩ := e.graph
      exact ⟨o, (key .dg trivial (by simp)).trans ho⟩
    · by_cases qx : x = n
      · subst qx
        simp only [ES.addPred, EA.setPin, upd_same]
        exact hD.sameBut hs nai.symm
      · have hx' : x ∈ S.np := by
          rcases List.mem_append.mp (show x ∈ S.np ++ [n] from hx) with z | z
          · exact z
          · exact absurd (List.mem_singleton.mp z) qx
        have := kd (.pin x) hx' (fun z => by cases z) (e.pin x hx')
        simpa [ES.addPred, EA.setPin, upd_ne _ _ qx, EA.at] using this
    · obtain ⟨kvs, dd, r⟩ := e.dat x hx y hy
      exact ⟨kvs, kd (.dat x y) ⟨hx, hy⟩ (fun z => by cases z) dd, r⟩
    · refine ⟨e.small.1, e.small.2.1, by simp [ES.addPred]; omega, e.small.2.2.2.1, fun x hx => ?_⟩
      by_cases qx : x = n
      · subst qx; simp [ES.addPred]
      · have hx' : x ∈ S.np := by
          rcases List.mem_append.mp (show x ∈ S.np ++ [n] from hx) with z | z
          · exact z
          · exact absurd (List.mem_singleton.mp z) qx
        simpa [ES.addPred, upd_ne _ _ qx] using e.small.2.2.2.2 x hx'
    · rw [iat, iat] at q
      rcases lv t l with l1 | q1 <;> rcases lv t' l' with l2 | q2
      · rw [if_neg (ne_of l1), if_neg (ne_of l2)] at q; exact e.sep t t' l1 l2 q
      · rw [if_neg (ne_of l1), if_pos q2] at q; exact absurd q (hfr t l1)
      · rw [if_pos q1, if_neg (ne_of l2)] at q; exact absurd q.symm (hfr t' l2)
      · rw [q1, q2]
    · rw [iat]
      rcases lv t l with l1 | q1
      · rw [if_neg (ne_of l1)]; exact e.high t l1
      · rw [if_pos q1]; exact hhi
  refine ⟨cc.ns.sameBut hs (cc.nL .dp trivial).symm, fun b o q => (hs.2 b fun z => by have q' := cc.hid .dp trivial hT; rw [z] at q; have := q'.symm.trans q; cases this).trans (cc.keep b o q), cc.gL, emb, fun t l ht => ?_, fun t l => ?_, cc.gnd⟩
  · rw [iat]
    rcases lv t l with l1 | q1
    · rw [if_neg (ne_of l1)]; exact cc.hid t l1 ht
    · rw [if_pos q1]; exact hg
  · rw [iat]
    rcases lv t l with l1 | q1
    · rw [if_neg (ne_of l1)]; exact cc.nL t l1
    · rw [if_pos q1]; exact haL
theorem add_node {n : Int} {a : Addr} {t : Tok} {Q : Unit → Shared → Prop} (cc : C prog w T g L s.heap m A S) (hn : n ∉ S.nn) (hlen : S.nn.length < 100) (hT : T .dn)
    (k : ∀ h', (∀ b, b ≠ A.dn → h'.get? b = s.heap.get? b) → C prog w T g L h' m (A.setAtt n a) (S.addNode n) → Q () { s with heap := h', toks := s.toks + 1 }) :
    wpAny (model prog w) Ar (setItem (.ref A.dn) (.int n t) (.ref a)) Q E s := by
  have e := cc.em
  have hd := e.node
  refine wpAny_setItem_pairs (is_int _ _) hd (fun h' hm hs => k h' (fun b hb => hs.2 b hb) ?_) (by rw [refs_length]; exact line_of e.small.1)
  rw [stored_new (valueAt_refs_none hn), refs_snoc hn] at hm
  have iat : ∀ t, (A.setAtt n a).at t = A.at t := fun t => by cases t <;> rfl
  have lv : ∀ t, (S.addNode n).live t → S.live t := fun t l => by cases t <;> exact l
  have key : ∀ t, S.live t → t ≠ .dn → h'.get? (A.at t) = s.heap.get? (A.at t) := fun t l q => hs.2 _ (e.ne l (t' := .dn) trivial q)
  have kd : ∀ {K : Type} [DecidableEq K] {knd : PySem.KeyKind prog w K} {kvs : List (K × Value)} t, S.live t → t ≠ .dn → s.heap.DictOf knd (A.at t) kvs → h'.DictOf knd (A.at t) kvs :=
    fun t l q d => d.sameBut hs (e.ne l (t' := .dn) trivial q)
  have emb : EmbAt prog w h' (A.setAtt n a) (S.addNode n) := by
    refine ⟨(key .x trivial (by simp)).trans e.inst, ?_, ?_, hm, kd .ds trivial (by simp) e.succ, kd .dp trivial (by simp) e.pred, fun x hx => kd (.inn x) hx (fun z => by cases z) (e.inn x hx), fun x hx => kd (.pin x) hx (fun z => by cases z) (e.pin x hx), fun x hx y hy => ?_, ?_, fun t t' l l' q => ?_, fun t l => ?_⟩
    · obtain ⟨tk, ht⟩ := e.dict
      exact ⟨tk, (key .dx trivial (by simp)).trans ht⟩
    · obtain ⟨o, ho⟩ := e.graph
      exact ⟨o, (key .dg trivial (by simp)).trans ho⟩
    · obtain ⟨kvs, dd, r⟩ := e.dat x hx y hy
      exact ⟨kvs, kd (.dat x y) ⟨hx, hy⟩ (fun z => by cases z) dd, r⟩
    · exact ⟨by simp [ES.addNode]; omega, e.small.2.1, e.small.2.2.1, e.small.2.2.2.1, e.small.2.2.2.2⟩
    · rw [iat, iat] at q
      exact e.sep t t' (lv t l) (lv t' l') q
    · rw [iat]; exact e.high t (lv t l)
  refine ⟨cc.ns.sameBut hs (cc.nL .dn trivial).symm, fun b o q => (hs.2 b fun z => by have q' := cc.hid .dn trivial hT; rw [z] at q; have := q'.symm.trans q; cases this).trans (cc.keep b o q), cc.gL, emb, fun t l ht => ?_, fun t l => ?_, cc.gnd⟩
  · rw [iat]; exact cc.hid t (lv t l) ht
  · rw [iat]; exact cc.nL t (lv t l)
end
end Mine
end
section
open PySem PySem.W PySem.Calls PyProof.Rows
set_option maxRecDepth 100000
set_option maxHeartbeats 4000000
set_option linter.all false
namespace Mine
section
variable {w : World} {Ar : Around} {E : Value → Shared → Prop} {s : Shared} {g h h' : Heap} {L : Addr} {m : Str → Option Value} {A : EA} {S S' : ES} {T : Tg → Prop}
local macro_rules | `(tactic| tm_at "k") => `(tactic| first | exact kk_825 _ | exact kk_802 _ | exact kk_853 _ | exact kk_788 _ | exact kk_816 _ | exact kk_614 _ | exact kk_809 _ | exact kk_860 _ | exact kk_867 _ | exact kk_839 _ | exact kk_846 _ | exact kk_261 _ | exact kk_268 _ | exact kk_275 _ | exact kk_282 _ | exact kk_289 _ | exact kk_296 _)
local macro_rules | `(tactic| tm_at "V") => `(tactic| first | assumption | exact C.v (by assumption) | exact C0.v (by assumption))
local macro_rules | `(tactic| tm_at "h") => `(tactic| first | assumption | with_unfolding_all assumption)
local macro_rules | `(tactic| tm_at "t") => `(tactic| first | assumption | (with_unfolding_all exact True.intro) | (with_unfolding_all exact fun q => Tg.noConfusion q))
local macro_rules | `(tactic| tm_at "u") => `(tactic| with_unfolding_all rfl)
local macro_rules | `(tactic| tm_at "s0") => `(tactic| (with_reducible refine wpAny_execs_cons ?_))
local macro_rules | `(tactic| tm_at "s1") => `(tactic| (with_reducible refine wpAny_execs_nil ?_))
local macro_rules | `(tactic| tm_at "s2") => `(tactic| (with_reducible refine wpAny_Assign_Name ?_ (by tm_at "u")))
local macro_rules | `(tactic| tm_at "s3") => `(tactic| (with_reducible refine wpAny_Assign_Subscript ?_ (by tm_at "u")))
local macro_rules | `(tactic| tm_at "s6") => `(tactic| (with_reducible refine wpAny_If ?_))
local macro_rules | `(tactic| tm_at "s7") => `(tactic| (with_reducible refine wpAny_isTrue_Compare1 ?_ (by tm_at "u")))
local macro_rules | `(tactic| tm_at "s8") => `(tactic| (with_reducible refine wpAny_Compare1 ?_ (by tm_at "u")))
local macro_rules | `(tactic| tm_at "s9") => `(tactic| (with_reducible refine Subscript_ ?_))
local macro_rules | `(tactic| tm_at "s10") => `(tactic| (with_reducible refine Attribute_Name_ ?_ (by tm_at "u")))
local macro_rules | `(tactic| tm_at "s11") => `(tactic| (with_reducible refine wpAny_Constant_str ?_))
local macro_rules | `(tactic| tm_at "s13") => `(tactic| (with_reducible refine wpAny_Constant_none ?_))
local macro_rules | `(tactic| tm_at "s14") => `(tactic| (with_reducible refine wpAny_Constant_int ?_))
local macro_rules | `(tactic| tm_at "s15") => `(tactic| (with_reducible refine wpAny_Constant_bool ?_))
local macro_rules | `(tactic| tm_at "s20") => `(tactic| (with_reducible refine MethodCall_ ?_ (by tm_at "u")))
local macro_rules | `(tactic| tm_at "s21") => `(tactic| (with_reducible refine Call_ ?_ (by tm_at "u")))
local macro_rules | `(tactic| tm_at "s23") => `(tactic| ((with_reducible show wpAny _ _ (callWith _ _ _ _ _) _ _ _); dsimp only; first
     | (with_reducible refine callWith_method1 ?_ (by tm_at "u") (by tm_at "u"))
     | (with_reducible refine callWith_K (V.kin (by tm_at "V")) (by tm_at "k") ?_ (by tm_at "u") (by tm_at "u"))
     | (with_reducible refine callWith_K0 (V.kin (by tm_at "V")) (by tm_at "k") ?_)
     | (with_reducible refine callWith_KW (V.kin (by tm_at "V")) (by tm_at "k") (by tm_at "u") ?_ (by tm_at "u") (by tm_at "u"))
     | (with_reducible refine PyProof.Rows.callWith_type1 ?_ (by tm_at "u") (by tm_at "u"))))
local macro_rules | `(tactic| tm_at "s24") => `(tactic| (with_reducible refine spliced_more ?_ (by tm_at "u")))
local macro_rules | `(tactic| tm_at "s25") => `(tactic| ((with_reducible refine spliced_none ?_); try dsimp only [List.cons_append, List.nil_append]))
local macro_rules | `(tactic| tm_at "s26") => `(tactic| (with_reducible refine wpAny_UnaryOp ?_))
local macro_rules | `(tactic| tm_at "s27") => `(tactic| (with_reducible refine kwAll_cons ?_))
local macro_rules | `(tactic| tm_at "s28") => `(tactic| (with_reducible refine kwAll_nil ?_))
local macro_rules | `(tactic| tm_at "s33") => `(tactic| (with_reducible refine isTrue_or ?_))
local macro_rules | `(tactic| tm_at "s35") => `(tactic| (with_reducible refine isTrue_or_nil ?_))
local macro_rules | `(tactic| tm_at "s36") => `(tactic| (with_reducible refine isTrue_plain ?_ (by tm_at "u")))
local macro_rules | `(tactic| tm_at "s37") => `(tactic| (with_reducible refine PySem.ks_wpAt_execs_cons ?_))
local macro_rules | `(tactic| tm_at "v0") => `(tactic| (with_unfolding_all refine ld_v (by tm_at "V") (by first | rfl | assumption) ?_))
local macro_rules | `(tactic| tm_at "v1") => `(tactic| ((with_reducible refine st_v (by assumption) ?_ (by tm_at "u") (by tm_at "u") (by tm_at "u")); intro _ _; try dsimp only))
local macro_rules | `(tactic| tm_at "v3") => `(tactic| (with_reducible refine attr_succ (by tm_at "V") ?_))
local macro_rules | `(tactic| tm_at "v7") => `(tactic| (with_reducible refine ne_int ?_))
local macro_rules | `(tactic| tm_at "v8") => `(tactic| (with_reducible refine PyProof.Rows.neg_int ?_))
local macro_rules | `(tactic| tm_at "v9") => `(tactic| (with_reducible refine ld_list (by tm_at "V") ?_ (by tm_at "u") (by tm_at "u") (by tm_at "u") (by tm_at "u")))
local macro_rules | `(tactic| tm_at "v32") => `(tactic| (with_reducible refine nin_inn (by tm_at "V") (by tm_at "h") ?_))
local macro_rules | `(tactic| tm_at "v33") => `(tactic| (with_reducible refine PySem.wpAny_truthy_bool ?_))
local macro_rules | `(tactic| tm_at "v34") => `(tactic| (with_reducible refine isnot_in ?_))
local macro_rules | `(tactic| tm_at "v35") => `(tactic| (with_reducible refine isnot_nn ?_))
local macro_rules | `(tactic| tm_at "v36") => `(tactic| (with_reducible refine get_ds_m (by tm_at "V") ?_))
local macro_rules | `(tactic| tm_at "v37") => `(tactic| (with_reducible refine get_ds_y (by tm_at "V") (by tm_at "h") ?_))
local macro_rules | `(tactic| tm_at "v38") => `(tactic| (with_reducible refine truthy_inn (by tm_at "V") (by tm_at "h") ?_))
local macro_rules | `(tactic| tm_at "v39") => `(tactic| (with_reducible refine pop_inn_m (by tm_at "V") (by tm_at "h") ?_))
local macro_rules | `(tactic| tm_at "v40") => `(tactic| ((with_reducible refine set_cw (by assumption) (by tm_at "h") (by tm_at "h") (by tm_at "t") ?_); intro _ _; try dsimp only))
local macro_rules | `(tactic| tm_at "v41") => `(tactic| ((with_reducible refine set_ccw (by assumption) (by tm_at "h") (by tm_at "h") (by tm_at "t") ?_); intro _ _; try dsimp only))
local macro_rules | `(tactic| tm_at "v47") => `(tactic| (with_reducible refine sub_ds (by tm_at "V") (by tm_at "h") ?_ (by tm_at "u")))
local macro_rules | `(tactic| tm_at "v49") => `(tactic| (with_reducible refine sub_inn (by tm_at "V") (by tm_at "h") (by tm_at "h") ?_ (by tm_at "u")))
local macro_rules | `(tactic| tm_at "v50") => `(tactic| (with_reducible refine sub_cw (by tm_at "V") (by tm_at "h") (by tm_at "h") (fun _ => ?_) (by tm_at "u")))
local macro_rules | `(tactic| tm_at "v51") => `(tactic| (with_reducible refine sub_ccw (by tm_at "V") (by tm_at "h") (by tm_at "h") (fun _ => ?_) (by tm_at "u")))
theorem nodup_cc : ([Str.ofString "cw", Str.ofString "ccw"] : List Str).Nodup := by decide +kernel
theorem nodup_ccr : ([Str.ofString "ccw", Str.ofString "cw"] : List Str).Nodup := by decide +kernel
theorem super_ae {P : Params} {t1 t2 : Tok} {u v x y : Int} {p0 p1 apos pos pa pb : Pos} {body : List Stmt} {kws : List Keyword} {ex : List (Str × Value)} {Q : Value → Shared → Prop} (hP : P = w.params)
   (c : C prog w Tt g L s.heap m A S) (hh : Ar.handled = none) (hroom : Ar.depth + 1 < recursionLimit)
   (hself : m (Str.ofString "self") = some (.ref A.x)) (h1 : m (Str.ofString "start_node") = some (.int u t1)) (h2 : m (Str.ofString "end_node") = some (.int v t2))
   (hall : (backToKw pos (keywordEach kws (callEnv (fdOf (o825 P)) L 825))).all (·.1.isSome) = true)
   (hkw : ∀ s', C prog w Tt g L s'.heap m A S → wpAny (model prog w) Ar (evalAll ((backToKw pos (keywordEach kws (callEnv (fdOf (o825 P)) L 825))).map (·.2))) (fun ks s₂ => s₂ = s' ∧ ((backToKw pos (keywordEach kws (callEnv (fdOf (o825 P)) L 825))).filterMap (·.1)).zip ks = ex) E s')
   (hb : bindArgs (fdOf (o635 w.params)) ⟨[.ref A.x, .int u t1, .int v t2], ex⟩ = (alloc { cls := .type "dict", data := .dict #[] } >>= fun d => (forIn ex PUnit.unit (fun x _ => nsSet d x.1 x.2 >>= fun _ => pure (ForInStep.yield PUnit.unit))) >>= fun _ => pure ([(Str.ofString "self", Value.ref A.x), (Str.ofString "u_of_edge", Value.int u t1), (Str.ofString "v_of_edge", Value.int v t2)] ++ [(Str.ofString "attr", Value.ref d)])))
   (hn : (ex.map (·.1)).Nodup) (hsz : ex.length = 2) (hx : ∃ t, valueAt ex (Str.ofString "cw") = some (.int x t)) (hy : ∃ t, valueAt ex (Str.ofString "ccw") = some (.int y t))
   (hu : u ∈ S.ns) (hv : v ∈ S.ns) (uv : v ∉ S.nbr u) (hv' : v ∈ S.np) (vu' : u ∉ S.pnb v) (l1 : (S.nbr u).length < 100) (l2 : (S.pnb v).length < 100)
   (hplain : ((backTo pos (starEach [Expr.Name "start_node" pa, Expr.Name "end_node" pb] (callEnv (fdOf (o825 P)) L 825))).any (·.1) || (backToKw pos (keywordEach kws (callEnv (fdOf (o825 P)) L 825))).any (·.1.isNone)) = false) {pl : Sem Bool}
    (he : eval (.Call (.Attribute (.Call (.Name "super" p0) [] [] p1) "add_edge" apos) [Expr.Name "start_node" pa, Expr.Name "end_node" pb] kws pos) (callEnv (fdOf (o825 P)) L 825) = (do
      let ov ← attributeBase (.Call (.Name "super" p0) [] [] p1) "add_edge" (callEnv (fdOf (o825 P)) L 825) (eval (.Call (.Name "super" p0) [] [] p1) (callEnv (fdOf (o825 P)) L 825))
      standAt apos.atName
      let (f, first) ← holding [ov] (getMethod ov "add_edge" pl)
      callWith pos f first (backTo pos (starEach [Expr.Name "start_node" pa, Expr.Name "end_node" pb] (callEnv (fdOf (o825 P)) L 825))) (backToKw pos (keywordEach kws (callEnv (fdOf (o825 P)) L 825)))))
   (k : ∀ h' tk D, C prog w Tt g L h' m (A.setDat u v D) ((S.addNbr u v x y).addPnb v u) → Q .none { s with heap := h', toks := tk }) :
   PySem.wpAt (model prog w) Ar (.func body (callEnv (fdOf (o825 P)) L 825)) (eval (.Call (.Attribute (.Call (.Name "super" p0) [] [] p1) "add_edge" apos) [Expr.Name "start_node" pa, Expr.Name "end_node" pb] kws pos) (callEnv (fdOf (o825 P)) L 825)) Q E s := by
  subst hP
  refine super_call (x := A.x) (dx := A.dx) (fa := 825) (f2 := 635) (cc := 824) (of := o825 w.params) (oc := o824 w.params) (fd := fdOf (o825 w.params)) (ar := ((fdOf (o825 w.params)).params.args.head?.getD default)) c.gd c.em.inst (c.em.high .x trivial) ?_ (by tm_at "u") (by tm_at "u") (by tm_at "u") (by kernel_rfl!) (by tm_at "u") (by tm_at "u") (by kernel_rfl!) (by tm_at "u") (by kernel_rfl!) (by tm_at "u") (by tm_at "u") (by tm_at "u") (by kernel_rfl!) (by tm_at "u") (by tm_at "u") (by kernel_rfl!) (ka_add_edge _) (kt_635 _) (kf_635 _) ?_ hplain he
  · intro s' hs' Q' hQ'
    show wpAny _ _ (loadName _ (Str.ofString "self")) _ _ _
    exact wpAny_loadName_local (by tm_at "u") (by tm_at "u") (show s'.heap.Ns L m from hs' ▸ c.ns) hself hQ'
  · intro q hq tk hk hm
    have c1 := c.keeps hk
    refine evalArgs_kw2 hall ?_ (by tm_at "u")
    (tm_at "s24"; tm_at "v0"; tm_at "s24"; tm_at "v0"; tm_at "s25")
    refine wpAny_mono (hkw _ c1) (fun ks s₂ h => ?_) fun _ _ z => z
    obtain ⟨rfl, hz⟩ := h
    refine ⟨fun _ _ z => z, ?_⟩
    rw [hz]
    refine sum635 c1.em c1.gd hroom hh hb hn hsz hx hy hu hv uv hv' vu' l1 l2 fun h' tk D b => ⟨_, rfl, ?_⟩
    exact k _ _ D (c1.back b)
def ES.insCw (S : ES) (u v x l : Int) : ES :=
  let S6 := (((S.addNbr u v x (S.ccw u x)).addPnb v u).setCw u (S.ccw u x) v).setCcw u x v
  if x != l then S6.moveEnd u l else S6
theorem body825_cw {P : Params} {t1 t2 t3 : Tok} {u v x l : Int} {Q : Flow → Shared → Prop} {body : List Stmt} (hP : P = w.params)
   (c : C prog w Tt g L s.heap (m0 [("self", .ref A.x), ("start_node", .int u t1), ("end_node", .int v t2), ("cw", .int x t3), ("ccw", .none)]) A S) (hh : Ar.handled = none) (hroom : Ar.depth + 1 < recursionLimit)
   (hu : u ∈ S.ns) (hv : v ∈ S.ns) (uv : v ∉ S.nbr u) (hv' : v ∈ S.np) (vu' : u ∉ S.pnb v) (l1 : (S.nbr u).length < 100) (l2 : (S.pnb v).length < 100)
   (hx : x ∈ S.nbr u) (hy : S.ccw u x ∈ S.nbr u) (hl : (S.nbr u).getLast? = some l)
   (k : ∀ h' tk m' D, C prog w Tt g L h' m' (A.setDat u v D) (S.insCw u v x l) → Q .next { s with heap := h', toks := tk }) :
   PySem.wpAt (model prog w) Ar (.func body (callEnv (fdOf (o825 P)) L 825)) (execs (fbody (clsSt 16 6)) (callEnv (fdOf (o825 P)) L 825)) Q E s := by
  have ne : (S.nbr u).isEmpty = false := by cases h : S.nbr u with
    | nil => rw [h] at hx; cases hx
    | cons => rfl
  refine PySem.ks_wpAt_execs_cons (PySem.wpAt_of_wpAny ?_)
  (tm_at "s2"; tm_at "s20"; tm_at "s10"; tm_at "v0"; tm_at "v3"; tm_at "v36"; tm_at "s23"; tm_at "s24"; tm_at "v0"; tm_at "s25"; tm_at "v37"; tm_at "v1"; tm_at "s37")
  refine PySem.ks_wpAt_If (PySem.wpAt_of_wpAny ?_)
  (tm_at "s36"; tm_at "v0"; tm_at "v38")
  rw [ne]
  simp only [Bool.not_false, if_true]
  (tm_at "s37")
  refine PySem.wpAt_of_wpAny ?_
  (tm_at "s2"; tm_at "s9"; tm_at "s21"; tm_at "v9"; tm_at "s23"; tm_at "s24"; tm_at "s9"; tm_at "s10"; tm_at "v0"; tm_at "v3"; tm_at "v0"; tm_at "v47"; tm_at "s25")
  refine list_inn hh (by tm_at "V") hu fun h2 tk2 hk2 il => ?_
  have c2 := C.keeps (by assumption) hk2
  clear hk2
  (tm_at "s26"; tm_at "s14"; tm_at "v8")
  refine item_last il hl (fun t => ?_) (by tm_at "u")
  (tm_at "v1"; tm_at "s37")
  refine PySem.ks_wpAt_If (PySem.wpAt_of_wpAny ?_)
  (tm_at "s7"; tm_at "v0"; tm_at "s13"; tm_at "v34"; tm_at "v33")
  simp only [if_true]
  (tm_at "s37")
  refine PySem.wpAt_of_wpAny ?_
  (tm_at "s6"; tm_at "s7"; tm_at "v0"; tm_at "v0"; tm_at "v32"; tm_at "v33")
  rw [decide_eq_true hx]
  simp only [Bool.not_true, Bool.false_eq_true, if_false]
  (tm_at "s1"; tm_at "s37")
  refine PySem.wpAt_of_wpAny ?_
  (tm_at "s6"; tm_at "s7"; tm_at "v0"; tm_at "s13"; tm_at "v35"; tm_at "v33")
  simp only [Bool.false_eq_true, if_false]
  (tm_at "s1"; tm_at "s37")
  refine PySem.wpAt_of_wpAny ?_
  (tm_at "s2"; tm_at "s9"; tm_at "s9"; tm_at "v0"; tm_at "v0"; tm_at "v49"; tm_at "s11"; tm_at "v51"; tm_at "v1"; tm_at "s37")
  rename_i tr h3 c3
  refine PySem.ks_wpAt_Expr_any ?_ (by tm_at "u") (by tm_at "u")
  refine super_ae (u := u) (v := v) (x := x) (y := S.ccw u x) (ex := [(Str.ofString "cw", .int x t3), (Str.ofString "ccw", .int (S.ccw u x) tr)]) hP c3 hh hroom (by tm_at "u") (by tm_at "u") (by tm_at "u") (by tm_at "u") (fun s' c' => ?_) (by with_unfolding_all rfl) nodup_cc (by rfl) ⟨_, by with_unfolding_all rfl⟩ ⟨_, by with_unfolding_all rfl⟩ hu hv uv hv' vu' l1 l2 (by tm_at "u") (by tm_at "u") fun h4 tk4 D c4 => ?_
  · (tm_at "s27"; tm_at "v0"; tm_at "s27"; tm_at "v0"; tm_at "s28")
    exact ⟨rfl, by with_unfolding_all rfl⟩
  dsimp only
  obtain ⟨A4, hA4⟩ : ∃ A4, A4 = A.setDat u v D := ⟨_, rfl⟩
  obtain ⟨S4, hS4⟩ : ∃ S4, S4 = (S.addNbr u v x (S.ccw u x)).addPnb v u := ⟨_, rfl⟩
  rw [← hA4, ← hS4] at c4
  have i1 : A.inn u = A4.inn u := by rw [hA4]; rfl
  have i2 : A.x = A4.x := by rw [hA4]; rfl
  simp only [i1, i2] at c4
  have u4 : u ∈ S4.ns := by rw [hS4]; exact hu
  have n4 : S4.nbr u = S.nbr u ++ [v] := by rw [hS4]; simp [ES.addPnb, ES.addNbr]
  have x4 : x ∈ S4.nbr u := by rw [n4]; exact List.mem_append_left _ hx
  have y4 : S.ccw u x ∈ S4.nbr u := by rw [n4]; exact List.mem_append_left _ hy
  (tm_at "s37")
  refine PySem.wpAt_of_wpAny ?_
  (tm_at "s3"; tm_at "v0"; tm_at "s9"; tm_at "v0"; tm_at "v0"; tm_at "v49"; tm_at "s11"; tm_at "v40"; tm_at "s37")
  refine PySem.wpAt_of_wpAny ?_
  (tm_at "s3"; tm_at "v0"; tm_at "s9"; tm_at "v0"; tm_at "v0"; tm_at "v49"; tm_at "s11"; tm_at "v41"; tm_at "s37")
  refine PySem.wpAt_of_wpAny ?_
  (tm_at "s2"; tm_at "s8"; tm_at "v0"; tm_at "v0"; tm_at "v7"; tm_at "v1")
  refine PySem.wpAt_of_wpAny ?_
  (tm_at "s1"; tm_at "s37")
  refine PySem.wpAt_of_wpAny ?_
  (tm_at "s6"; tm_at "s36"; tm_at "v0"; tm_at "v33")
  rename_i h6 c6
  obtain ⟨S6, hS6⟩ : ∃ S6, S6 = (S4.setCw u (S.ccw u x) v).setCcw u x v := ⟨_, rfl⟩
  rw [← hS6] at c6
  have u6 : u ∈ S6.ns := by rw [hS6]; exact u4
  have n6 : S6.nbr u = S.nbr u ++ [v] := by rw [hS6, ← n4]; rfl
  have l6 : l ∈ S6.nbr u := by rw [n6]; exact List.mem_append_left _ (List.mem_of_getLast? hl)
  have k6 : ∀ h' tk m', C prog w Tt g L h' m' A4 (if x != l then S6.moveEnd u l else S6) → Q .next { s with heap := h', toks := tk } := fun h' tk m' c' => k h' tk m' D (by unfold ES.insCw; rw [← hS4, ← hS6, ← hA4]; exact c')
  by_cases q : x = l
  · have q' : (x != l) = false := by simpa using q
    rw [q'] at k6 ⊢
    simp only [Bool.false_eq_true, if_false] at k6 ⊢
    (tm_at "s1")
    refine PySem.wpAt_of_wpAny (wpAny_execs_nil ?_)
    refine PySem.wpAt_of_wpAny (wpAny_execs_nil ?_)
    exact k6 _ _ _ c6
  · have q' : (x != l) = true := by simpa using q
    rw [q'] at k6 ⊢
    simp only [if_true] at k6 ⊢
    (tm_at "s0"; tm_at "s3"; tm_at "s20"; tm_at "v0"; tm_at "v39"; tm_at "s23"; tm_at "s24"; tm_at "v0"; tm_at "s25")
    refine pop_inn c6 u6 l6 fun h7 c7 d1 d2 d3 d4 d5 => ?_
    have c7v := c7.v
    refine ld_v c7v (by tm_at "u") ?_ (by tm_at "u") (by tm_at "u") (by tm_at "u")
    refine ld_v c7v (by tm_at "u") ?_ (by tm_at "u") (by tm_at "u") (by tm_at "u")
    refine readd c7 u6 l6 (by rw [n6, List.length_append]; simp; omega) d1 d2 d3 d4 d5 fun h8 c8 => ?_
    (tm_at "s1")
    refine PySem.wpAt_of_wpAny (wpAny_execs_nil ?_)
    refine PySem.wpAt_of_wpAny (wpAny_execs_nil ?_)
    exact k6 _ _ _ c8
def ES.insCcw (S : ES) (u v x l : Int) : ES :=
  let S6 := (((S.addNbr u v (S.cw u x) x).addPnb v u).setCcw u (S.cw u x) v).setCw u x v
  S6.moveEnd u l
theorem body825_ccw {P : Params} {t1 t2 t3 : Tok} {u v x l : Int} {Q : Flow → Shared → Prop} {body : List Stmt} (hP : P = w.params)
   (c : C prog w Tt g L s.heap (m0 [("self", .ref A.x), ("start_node", .int u t1), ("end_node", .int v t2), ("cw", .none), ("ccw", .int x t3)]) A S) (hh : Ar.handled = none) (hroom : Ar.depth + 1 < recursionLimit)
   (hu : u ∈ S.ns) (hv : v ∈ S.ns) (uv : v ∉ S.nbr u) (hv' : v ∈ S.np) (vu' : u ∉ S.pnb v) (l1 : (S.nbr u).length < 100) (l2 : (S.pnb v).length < 100)
   (hx : x ∈ S.nbr u) (hy : S.cw u x ∈ S.nbr u) (hl : (S.nbr u).getLast? = some l)
   (k : ∀ h' tk m' D, C prog w Tt g L h' m' (A.setDat u v D) (S.insCcw u v x l) → Q .next { s with heap := h', toks := tk }) :
   PySem.wpAt (model prog w) Ar (.func body (callEnv (fdOf (o825 P)) L 825)) (execs (fbody (clsSt 16 6)) (callEnv (fdOf (o825 P)) L 825)) Q E s := by
  have ne : (S.nbr u).isEmpty = false := by cases h : S.nbr u with
    | nil => rw [h] at hx; cases hx
    | cons => rfl
  refine PySem.ks_wpAt_execs_cons (PySem.wpAt_of_wpAny ?_)
  (tm_at "s2"; tm_at "s20"; tm_at "s10"; tm_at "v0"; tm_at "v3"; tm_at "v36"; tm_at "s23"; tm_at "s24"; tm_at "v0"; tm_at "s25"; tm_at "v37"; tm_at "v1"; tm_at "s37")
  refine PySem.ks_wpAt_If (PySem.wpAt_of_wpAny ?_)
  (tm_at "s36"; tm_at "v0"; tm_at "v38")
  rw [ne]
  simp only [Bool.not_false, if_true]
  (tm_at "s37")
  refine PySem.wpAt_of_wpAny ?_
  (tm_at "s2"; tm_at "s9"; tm_at "s21"; tm_at "v9"; tm_at "s23"; tm_at "s24"; tm_at "s9"; tm_at "s10"; tm_at "v0"; tm_at "v3"; tm_at "v0"; tm_at "v47"; tm_at "s25")
  refine list_inn hh (by tm_at "V") hu fun h2 tk2 hk2 il => ?_
  have c2 := C.keeps (by assumption) hk2
  clear hk2
  (tm_at "s26"; tm_at "s14"; tm_at "v8")
  refine item_last il hl (fun t => ?_) (by tm_at "u")
  (tm_at "v1"; tm_at "s37")
  refine PySem.ks_wpAt_If (PySem.wpAt_of_wpAny ?_)
  (tm_at "s7"; tm_at "v0"; tm_at "s13"; tm_at "v35"; tm_at "v33")
  simp only [Bool.false_eq_true, if_false]
  (tm_at "s37")
  refine PySem.ks_wpAt_If (PySem.wpAt_of_wpAny ?_)
  (tm_at "s7"; tm_at "v0"; tm_at "s13"; tm_at "v34"; tm_at "v33")
  simp only [if_true]
  (tm_at "s37")
  refine PySem.wpAt_of_wpAny ?_
  (tm_at "s6"; tm_at "s7"; tm_at "v0"; tm_at "v0"; tm_at "v32"; tm_at "v33")
  rw [decide_eq_true hx]
  simp only [Bool.not_true, Bool.false_eq_true, if_false]
  (tm_at "s1"; tm_at "s37")
  refine PySem.wpAt_of_wpAny ?_
  (tm_at "s2"; tm_at "s9"; tm_at "s9"; tm_at "v0"; tm_at "v0"; tm_at "v49"; tm_at "s11"; tm_at "v50"; tm_at "v1"; tm_at "s37")
  rename_i tr h3 c3
  refine PySem.ks_wpAt_Expr_any ?_ (by tm_at "u") (by tm_at "u")
  refine super_ae (u := u) (v := v) (x := S.cw u x) (y := x) (ex := [(Str.ofString "cw", .int (S.cw u x) tr), (Str.ofString "ccw", .int x t3)]) hP c3 hh hroom (by tm_at "u") (by tm_at "u") (by tm_at "u") (by tm_at "u") (fun s' c' => ?_) (by with_unfolding_all rfl) nodup_cc (by rfl) ⟨_, by with_unfolding_all rfl⟩ ⟨_, by with_unfolding_all rfl⟩ hu hv uv hv' vu' l1 l2 (by tm_at "u") (by tm_at "u") fun h4 tk4 D c4 => ?_
  · (tm_at "s27"; tm_at "v0"; tm_at "s27"; tm_at "v0"; tm_at "s28")
    exact ⟨rfl, by with_unfolding_all rfl⟩
  dsimp only
  obtain ⟨A4, hA4⟩ : ∃ A4, A4 = A.setDat u v D := ⟨_, rfl⟩
  obtain ⟨S4, hS4⟩ : ∃ S4, S4 = (S.addNbr u v (S.cw u x) x).addPnb v u := ⟨_, rfl⟩
  rw [← hA4, ← hS4] at c4
  have i1 : A.inn u = A4.inn u := by rw [hA4]; rfl
  have i2 : A.x = A4.x := by rw [hA4]; rfl
  simp only [i1, i2] at c4
  have u4 : u ∈ S4.ns := by rw [hS4]; exact hu
  have n4 : S4.nbr u = S.nbr u ++ [v] := by rw [hS4]; simp [ES.addPnb, ES.addNbr]
  have x4 : x ∈ S4.nbr u := by rw [n4]; exact List.mem_append_left _ hx
  have y4 : S.cw u x ∈ S4.nbr u := by rw [n4]; exact List.mem_append_left _ hy
  (tm_at "s37")
  refine PySem.wpAt_of_wpAny ?_
  (tm_at "s3"; tm_at "v0"; tm_at "s9"; tm_at "v0"; tm_at "v0"; tm_at "v49"; tm_at "s11"; tm_at "v41"; tm_at "s37")
  refine PySem.wpAt_of_wpAny ?_
  (tm_at "s3"; tm_at "v0"; tm_at "s9"; tm_at "v0"; tm_at "v0"; tm_at "v49"; tm_at "s11"; tm_at "v40"; tm_at "s37")
  refine PySem.wpAt_of_wpAny ?_
  (tm_at "s2"; tm_at "s15"; tm_at "v1")
  refine PySem.wpAt_of_wpAny (wpAny_execs_nil ?_)
  skip
  refine PySem.wpAt_of_wpAny (wpAny_execs_nil ?_)
  (tm_at "s37")
  refine PySem.wpAt_of_wpAny ?_
  (tm_at "s6"; tm_at "s36"; tm_at "v0"; tm_at "v33")
  simp only [if_true]
  rename_i h6 c6
  obtain ⟨S6, hS6⟩ : ∃ S6, S6 = (S4.setCcw u (S.cw u x) v).setCw u x v := ⟨_, rfl⟩
  rw [← hS6] at c6
  have u6 : u ∈ S6.ns := by rw [hS6]; exact u4
  have n6 : S6.nbr u = S.nbr u ++ [v] := by rw [hS6, ← n4]; rfl
  have l6 : l ∈ S6.nbr u := by rw [n6]; exact List.mem_append_left _ (List.mem_of_getLast? hl)
  (tm_at "s0"; tm_at "s3"; tm_at "s20"; tm_at "v0"; tm_at "v39"; tm_at "s23"; tm_at "s24"; tm_at "v0"; tm_at "s25")
  refine pop_inn c6 u6 l6 fun h7 c7 d1 d2 d3 d4 d5 => ?_
  have c7v := c7.v
  refine ld_v c7v (by tm_at "u") ?_ (by tm_at "u") (by tm_at "u") (by tm_at "u")
  refine ld_v c7v (by tm_at "u") ?_ (by tm_at "u") (by tm_at "u") (by tm_at "u")
  refine readd c7 u6 l6 (by rw [n6, List.length_append]; simp; omega) d1 d2 d3 d4 d5 fun h8 c8 => ?_
  (tm_at "s1")
  refine PySem.wpAt_of_wpAny (wpAny_execs_nil ?_)
  refine PySem.wpAt_of_wpAny (wpAny_execs_nil ?_)
  exact k _ _ _ D (by unfold ES.insCcw; rw [← hS4, ← hS6, ← hA4]; exact c8)
def ES.insFirst (S : ES) (u v : Int) : ES := (S.addNbr u v v v).addPnb v u
theorem body825_none {P : Params} {t1 t2 : Tok} {u v : Int} {Q : Flow → Shared → Prop} {body : List Stmt} (hP : P = w.params)
   (c : C prog w Tt g L s.heap (m0 [("self", .ref A.x), ("start_node", .int u t1), ("end_node", .int v t2), ("cw", .none), ("ccw", .none)]) A S) (hh : Ar.handled = none) (hroom : Ar.depth + 1 < recursionLimit)
   (hu : u ∈ S.ns) (hv : v ∈ S.ns) (ne : S.nbr u = []) (hv' : v ∈ S.np) (vu' : u ∉ S.pnb v) (l2 : (S.pnb v).length < 100)
   (k : ∀ h' tk m' D, C prog w Tt g L h' m' (A.setDat u v D) (S.insFirst u v) → Q .next { s with heap := h', toks := tk }) :
   PySem.wpAt (model prog w) Ar (.func body (callEnv (fdOf (o825 P)) L 825)) (execs (fbody (clsSt 16 6)) (callEnv (fdOf (o825 P)) L 825)) Q E s := by
  refine PySem.ks_wpAt_execs_cons (PySem.wpAt_of_wpAny ?_)
  (tm_at "s2"; tm_at "s20"; tm_at "s10"; tm_at "v0"; tm_at "v3"; tm_at "v36"; tm_at "s23"; tm_at "s24"; tm_at "v0"; tm_at "s25"; tm_at "v37"; tm_at "v1"; tm_at "s37")
  refine PySem.ks_wpAt_If (PySem.wpAt_of_wpAny ?_)
  (tm_at "s36"; tm_at "v0"; tm_at "v38")
  rw [ne]
  simp only [List.isEmpty_nil, Bool.not_true, Bool.false_eq_true, if_false]
  (tm_at "s37")
  refine PySem.wpAt_of_wpAny ?_
  (tm_at "s6"; tm_at "s33"; tm_at "s7"; tm_at "v0"; tm_at "s13"; tm_at "v35"; tm_at "v33")
  simp only [Bool.false_eq_true, if_false]
  (tm_at "s33"; tm_at "s7"; tm_at "v0"; tm_at "s13"; tm_at "v35"; tm_at "v33")
  simp only [Bool.false_eq_true, if_false]
  (tm_at "s35")
  simp only [Bool.false_eq_true, if_false]
  (tm_at "s1"; tm_at "s37")
  refine PySem.ks_wpAt_Expr_any ?_ (by tm_at "u") (by tm_at "u")
  refine super_ae (u := u) (v := v) (x := v) (y := v) (ex := [(Str.ofString "ccw", .int v t2), (Str.ofString "cw", .int v t2)]) hP (by assumption) hh hroom (by tm_at "u") (by tm_at "u") (by tm_at "u") (by tm_at "u") (fun s' c' => ?_) (by with_unfolding_all rfl) nodup_ccr (by rfl) ⟨_, by with_unfolding_all rfl⟩ ⟨_, by with_unfolding_all rfl⟩ hu hv (by rw [ne]; simp) hv' vu' (by rw [ne]; decide) l2 (by tm_at "u") (by tm_at "u") fun h4 tk4 D c4 => ?_
  · (tm_at "s27"; tm_at "v0"; tm_at "s27"; tm_at "v0"; tm_at "s28")
    exact ⟨rfl, by with_unfolding_all rfl⟩
  dsimp only
  refine PySem.wpAt_of_wpAny (wpAny_execs_nil ?_)
  dsimp only
  refine PySem.wpAt_of_wpAny (wpAny_execs_nil ?_)
  exact k _ _ _ D c4
end
end Mine
end
section
open PySem PySem.W PySem.Calls PyProof.Rows
set_option maxRecDepth 100000
set_option maxHeartbeats 4000000
set_option linter.all false
namespace Mine
theorem kd_cw (P : Params) : nsIn (frag P) 817 (Str.ofString "cw") = some (some .none) := by kernel_rfl!
theorem kd_ccw (P : Params) : nsIn (frag P) 817 (Str.ofString "ccw") = some (some .none) := by kernel_rfl!
section
variable {w : World} {Ar : Around} {E : Value → Shared → Prop} {s : Shared} {g h h' : Heap} {L : Addr} {m : Str → Option Value} {A : EA} {S S' : ES} {T : Tg → Prop}
local macro_rules | `(tactic| tm_at "k") => `(tactic| first | exact kk_825 _ | exact kk_802 _ | exact kk_853 _ | exact kk_788 _ | exact kk_816 _ | exact kk_614 _ | exact kk_809 _ | exact kk_860 _ | exact kk_867 _ | exact kk_839 _ | exact kk_846 _ | exact kk_261 _ | exact kk_268 _ | exact kk_275 _ | exact kk_282 _ | exact kk_289 _ | exact kk_296 _)
local macro_rules | `(tactic| tm_at "V") => `(tactic| first | assumption | exact C.v (by assumption) | exact C0.v (by assumption))
local macro_rules | `(tactic| tm_at "h") => `(tactic| first | assumption | with_unfolding_all assumption)
local macro_rules | `(tactic| tm_at "t") => `(tactic| first | assumption | (with_unfolding_all exact True.intro) | (with_unfolding_all exact fun q => Tg.noConfusion q))
local macro_rules | `(tactic| tm_at "u") => `(tactic| with_unfolding_all rfl)
theorem enter_embAt {R : Result → Shared → Prop} {fa : Addr} {o : Obj} {fd : FuncData} {body : List Stmt} {args : Args} {binds : List (Str × Value)} 
    (e : EmbAt prog w s.heap A S) (G : Gd w s.heap) (hroom : Ar.depth < recursionLimit)
    (ho : (frag w.params).lookup fa = some o) (hdata : o.data = .func fd) (hcd : codeIn (frag w.params) fd.code fd.qualname = true)
    (hbody : fd.body = .stmts body) (hbind : BindsTo s fd args binds)
    (hcell : (fd.scope.names.all fun x => decide (x.2 ≠ NameKind.cell)) = true) (hloc : (binds.all fun x => decide (fd.scope.names.lookup x.1 = some NameKind.local)) = true)
    (k : ∀ L h₁, L = s.heap.objs.size → topSize ≤ L → C prog w Tt (hide s.heap (Fp A S)) L h₁ (fun x => binds.reverse.lookup x) A S →
      PySem.wpAt (model prog w) (Ar.deeper (callEnv fd L fa)) (.func body (callEnv fd L fa)) (execs body (callEnv fd L fa)) (fun f s' => R (.ok (.ret (match f with | .ret v => v | _ => .none))) s')
        (fun e s' => wpAny (model prog w) (Ar.deeper (callEnv fd L fa)) (leaving (callEnv fd L fa) e) (fun _ s'' => R (.error e) s'') (fun e' s'' => R (.error e') s'') s')
        { s with heap := h₁, toks := s.toks + binds.length })
    (hco : fd.scope.isCoroutine = false := by rfl) (hgen : fd.scope.isGenerator = false := by rfl) (hk : fd.scope.kind = .function := by rfl) :
    codeAny (model prog w) Ar (.call (.ref fa) args) R s := by
  have hx : topSize < s.heap.objs.size := Nat.lt_of_le_of_lt (e.high .x trivial) (Heap.lt_size e.inst)
  refine ks_codeAny_call_defAt hroom (G.kin _ _ ho) hdata G.lim (codeRec_of G.kin hcd) hbody hbind (fun x hx => of_decide_eq_true (List.all_eq_true.mp hcell x hx)) (fun x hx => of_decide_eq_true (List.all_eq_true.mp hloc x hx)) (fun h₁ hns hk₁ => k _ h₁ rfl (Nat.le_of_lt hx) ?_) hco hgen hk
  refine ⟨hns, fun b x q => ?_, ?_, e.keeps fun t _ => hk₁ _, fun t l _ => by rw [hide_get, if_pos ⟨t, l, rfl⟩], fun t l => ?_, gd_hide G e⟩
  · rw [hide_get] at q
    split at q
    · cases q
    · exact hk₁ _ _ q
  · rw [hide_get]
    split
    · rfl
    · exact Heap.get?_none_of_le (Nat.le_refl _)
  · obtain ⟨x, hx⟩ := e.some t l
    exact Nat.ne_of_lt (Heap.lt_size hx)
theorem binds_peek {fd : FuncData} {args : Args} {binds : List (Str × Value)} (X : (frag w.params).In s.heap) (h : ∀ S : Setting, peek (frag w.params) S (bindArgs fd args) = some binds) : BindsTo s fd args binds :=
  fun M A E Q hq Γ p hΓ => wp_of_peek X hq _ (h _)
theorem binds825_cw (X : (frag w.params).In s.heap) (a b c d : Value) : BindsTo s (fdOf (o825 w.params)) ⟨[a, b, c], [(Str.ofString "cw", d)]⟩ [("self", a), ("start_node", b), ("end_node", c), ("cw", d), ("ccw", .none)] :=
  binds_peek X fun S => by kernel_rfl!
theorem binds825_ccw (X : (frag w.params).In s.heap) (a b c d : Value) : BindsTo s (fdOf (o825 w.params)) ⟨[a, b, c], [(Str.ofString "ccw", d)]⟩ [("self", a), ("start_node", b), ("end_node", c), ("cw", .none), ("ccw", d)] :=
  binds_peek X fun S => by kernel_rfl!
theorem binds825 (X : (frag w.params).In s.heap) (a b c : Value) : BindsTo s (fdOf (o825 w.params)) ⟨[a, b, c], []⟩ [("self", a), ("start_node", b), ("end_node", c), ("cw", .none), ("ccw", .none)] :=
  binds_peek X fun S => by kernel_rfl!
theorem sum825_cw {R : Result → Shared → Prop} {t1 t2 t3 : Tok} {u v x l : Int} (e : EmbAt prog w s.heap A S) (G : Gd w s.heap) (hroom : Ar.depth + 2 < recursionLimit) (hh : Ar.handled = none)
   (hu : u ∈ S.ns) (hv : v ∈ S.ns) (uv : v ∉ S.nbr u) (hv' : v ∈ S.np) (vu' : u ∉ S.pnb v) (l1 : (S.nbr u).length < 100) (l2 : (S.pnb v).length < 100)
   (hx : x ∈ S.nbr u) (hy : S.ccw u x ∈ S.nbr u) (hl : (S.nbr u).getLast? = some l)
   (k : ∀ h' tk D, Back prog w A S s.heap (A.setDat u v D) (S.insCw u v x l) h' → R (.ok (.ret .none)) { s with heap := h', toks := tk }) :
   codeAny (model prog w) Ar (.call (.ref 825) ⟨[.ref A.x, .int u t1, .int v t2], [(Str.ofString "cw", .int x t3)]⟩) R s := by
  refine enter_embAt (o := o825 w.params) (fd := fdOf (o825 w.params)) (body := fbody (clsSt 16 6)) e G (by omega) (by rfl) (by rfl) (by kernel_rfl!) (by rfl) (binds825_cw G.kin _ _ _ _) (by kernel_rfl!) (by kernel_rfl!) fun L h₁ hL hL2 c => ?_
  refine body825_cw rfl c (handled_deeper' hh) (by rw [depth_deeper]; omega) hu hv uv hv' vu' l1 l2 hx hy hl fun h' tk m' D c' => ?_
  exact k h' tk D (back_of c')
theorem sum825_ccw {R : Result → Shared → Prop} {t1 t2 t3 : Tok} {u v x l : Int} (e : EmbAt prog w s.heap A S) (G : Gd w s.heap) (hroom : Ar.depth + 2 < recursionLimit) (hh : Ar.handled = none)
   (hu : u ∈ S.ns) (hv : v ∈ S.ns) (uv : v ∉ S.nbr u) (hv' : v ∈ S.np) (vu' : u ∉ S.pnb v) (l1 : (S.nbr u).length < 100) (l2 : (S.pnb v).length < 100)
   (hx : x ∈ S.nbr u) (hy : S.cw u x ∈ S.nbr u) (hl : (S.nbr u).getLast? = some l)
   (k : ∀ h' tk D, Back prog w A S s.heap (A.setDat u v D) (S.insCcw u v x l) h' → R (.ok (.ret .none)) { s with heap := h', toks := tk }) :
   codeAny (model prog w) Ar (.call (.ref 825) ⟨[.ref A.x, .int u t1, .int v t2], [(Str.ofString "ccw", .int x t3)]⟩) R s := by
  refine enter_embAt (o := o825 w.params) (fd := fdOf (o825 w.params)) (body := fbody (clsSt 16 6)) e G (by omega) (by rfl) (by rfl) (by kernel_rfl!) (by rfl) (binds825_ccw G.kin _ _ _ _) (by kernel_rfl!) (by kernel_rfl!) fun L h₁ hL hL2 c => ?_
  refine body825_ccw rfl c (handled_deeper' hh) (by rw [depth_deeper]; omega) hu hv uv hv' vu' l1 l2 hx hy hl fun h' tk m' D c' => ?_
  exact k h' tk D (back_of c')
theorem sum825_none {R : Result → Shared → Prop} {t1 t2 t3 : Tok} {u v x l : Int} (e : EmbAt prog w s.heap A S) (G : Gd w s.heap) (hroom : Ar.depth + 2 < recursionLimit) (hh : Ar.handled = none)
   (hu : u ∈ S.ns) (hv : v ∈ S.ns) (ne : S.nbr u = []) (hv' : v ∈ S.np) (vu' : u ∉ S.pnb v) (l2 : (S.pnb v).length < 100)
   (k : ∀ h' tk D, Back prog w A S s.heap (A.setDat u v D) (S.insFirst u v) h' → R (.ok (.ret .none)) { s with heap := h', toks := tk }) :
   codeAny (model prog w) Ar (.call (.ref 825) ⟨[.ref A.x, .int u t1, .int v t2], []⟩) R s := by
  refine enter_embAt (o := o825 w.params) (fd := fdOf (o825 w.params)) (body := fbody (clsSt 16 6)) e G (by omega) (by rfl) (by rfl) (by kernel_rfl!) (by rfl) (binds825 G.kin _ _ _) (by kernel_rfl!) (by kernel_rfl!) fun L h₁ hL hL2 c => ?_
  refine body825_none rfl c (handled_deeper' hh) (by rw [depth_deeper]; omega) hu hv ne hv' vu' l2 fun h' tk m' D c' => ?_
  exact k h' tk D (back_of c')
theorem sum825_cwn {R : Result → Shared → Prop} {t1 t2 t3 : Tok} {u v x l : Int} (e : EmbAt prog w s.heap A S) (G : Gd w s.heap) (hroom : Ar.depth + 2 < recursionLimit) (hh : Ar.handled = none)
   (hu : u ∈ S.ns) (hv : v ∈ S.ns) (ne : S.nbr u = []) (hv' : v ∈ S.np) (vu' : u ∉ S.pnb v) (l2 : (S.pnb v).length < 100)
   (k : ∀ h' tk D, Back prog w A S s.heap (A.setDat u v D) (S.insFirst u v) h' → R (.ok (.ret .none)) { s with heap := h', toks := tk }) :
   codeAny (model prog w) Ar (.call (.ref 825) ⟨[.ref A.x, .int u t1, .int v t2], [(Str.ofString "cw", .none)]⟩) R s := by
  refine enter_embAt (o := o825 w.params) (fd := fdOf (o825 w.params)) (body := fbody (clsSt 16 6)) e G (by omega) (by rfl) (by rfl) (by kernel_rfl!) (by rfl) (binds825_cw G.kin _ _ _ _) (by kernel_rfl!) (by kernel_rfl!) fun L h₁ hL hL2 c => ?_
  refine body825_none rfl c (handled_deeper' hh) (by rw [depth_deeper]; omega) hu hv ne hv' vu' l2 fun h' tk m' D c' => ?_
  exact k h' tk D (back_of c')
end
end Mine
end
section
open PySem PySem.W PySem.Calls PyProof.Rows
set_option maxRecDepth 100000
set_option maxHeartbeats 4000000
namespace Mine
section
variable {w : World} {Ar : Around} {E : Value → Shared → Prop} {s : Shared} {g h h' : Heap} {L : Addr} {m : Str → Option Value} {A : EA} {S S' : ES}
local macro_rules | `(tactic| tm_at "k") => `(tactic| first | exact kk_825 _ | exact kk_802 _ | exact kk_853 _ | exact kk_788 _ | exact kk_816 _ | exact kk_614 _ | exact kk_809 _ | exact kk_860 _ | exact kk_867 _ | exact kk_839 _ | exact kk_846 _ | exact kk_261 _ | exact kk_268 _ | exact kk_275 _ | exact kk_282 _ | exact kk_289 _ | exact kk_296 _)
local macro_rules | `(tactic| tm_at "V") => `(tactic| first | assumption | exact C.v (by assumption) | exact C0.v (by assumption))
local macro_rules | `(tactic| tm_at "h") => `(tactic| first | assumption | with_unfolding_all assumption)
local macro_rules | `(tactic| tm_at "t") => `(tactic| first | assumption | (with_unfolding_all exact True.intro) | (with_unfolding_all exact fun q => Tg.noConfusion q))
local macro_rules | `(tactic| tm_at "u") => `(tactic| with_unfolding_all rfl)
local macro_rules | `(tactic| tm_at "s0") => `(tactic| (with_reducible refine wpAny_execs_cons ?_))
local macro_rules | `(tactic| tm_at "s1") => `(tactic| (with_reducible refine wpAny_execs_nil ?_))
local macro_rules | `(tactic| tm_at "s2") => `(tactic| (with_reducible refine wpAny_Assign_Name ?_ (by tm_at "u")))
local macro_rules | `(tactic| tm_at "s3") => `(tactic| (with_reducible refine wpAny_Assign_Subscript ?_ (by tm_at "u")))
local macro_rules | `(tactic| tm_at "s4") => `(tactic| (with_reducible refine del_one ?_))
local macro_rules | `(tactic| tm_at "s5") => `(tactic| (with_reducible refine delete_Subscript ?_))
local macro_rules | `(tactic| tm_at "s6") => `(tactic| (with_reducible refine wpAny_If ?_))
local macro_rules | `(tactic| tm_at "s7") => `(tactic| (with_reducible refine wpAny_isTrue_Compare1 ?_ (by tm_at "u")))
local macro_rules | `(tactic| tm_at "s9") => `(tactic| (with_reducible refine Subscript_ ?_))
local macro_rules | `(tactic| tm_at "s10") => `(tactic| (with_reducible refine Attribute_Name_ ?_ (by tm_at "u")))
local macro_rules | `(tactic| tm_at "s11") => `(tactic| (with_reducible refine wpAny_Constant_str ?_))
local macro_rules | `(tactic| tm_at "s16") => `(tactic| (with_reducible refine wpAny_Try_except ?_))
local macro_rules | `(tactic| tm_at "v0") => `(tactic| (with_unfolding_all refine ld_v (by tm_at "V") (by first | rfl | assumption) ?_))
local macro_rules | `(tactic| tm_at "v1") => `(tactic| ((with_reducible refine st_v (by assumption) ?_ (by tm_at "u") (by tm_at "u") (by tm_at "u")); intro _ _; try dsimp only))
local macro_rules | `(tactic| tm_at "v3") => `(tactic| (with_reducible refine attr_succ (by tm_at "V") ?_))
local macro_rules | `(tactic| tm_at "v4") => `(tactic| (with_reducible refine attr_pred (by tm_at "V") ?_))
local macro_rules | `(tactic| tm_at "v7") => `(tactic| (with_reducible refine ne_int ?_))
local macro_rules | `(tactic| tm_at "v33") => `(tactic| (with_reducible refine PySem.wpAny_truthy_bool ?_))
local macro_rules | `(tactic| tm_at "v40") => `(tactic| ((with_reducible refine set_cw (by assumption) (by tm_at "h") (by tm_at "h") (by tm_at "t") ?_); intro _ _; try dsimp only))
local macro_rules | `(tactic| tm_at "v41") => `(tactic| ((with_reducible refine set_ccw (by assumption) (by tm_at "h") (by tm_at "h") (by tm_at "t") ?_); intro _ _; try dsimp only))
local macro_rules | `(tactic| tm_at "v42") => `(tactic| ((with_reducible refine del_nbr (by assumption) (by tm_at "h") (by tm_at "h") (by tm_at "t") ?_); intro _ _; try dsimp only))
local macro_rules | `(tactic| tm_at "v43") => `(tactic| ((with_reducible refine del_pnb (by assumption) (by tm_at "h") (by tm_at "h") (by tm_at "t") ?_); intro _ _; try dsimp only))
local macro_rules | `(tactic| tm_at "v47") => `(tactic| (with_reducible refine sub_ds (by tm_at "V") (by tm_at "h") ?_ (by tm_at "u")))
local macro_rules | `(tactic| tm_at "v48") => `(tactic| (with_reducible refine sub_dp (by tm_at "V") (by tm_at "h") ?_ (by tm_at "u")))
local macro_rules | `(tactic| tm_at "v49") => `(tactic| (with_reducible refine sub_inn (by tm_at "V") (by tm_at "h") (by tm_at "h") ?_ (by tm_at "u")))
local macro_rules | `(tactic| tm_at "v50") => `(tactic| (with_reducible refine sub_cw (by tm_at "V") (by tm_at "h") (by tm_at "h") (fun _ => ?_) (by tm_at "u")))
local macro_rules | `(tactic| tm_at "v51") => `(tactic| (with_reducible refine sub_ccw (by tm_at "V") (by tm_at "h") (by tm_at "h") (fun _ => ?_) (by tm_at "u")))
def ES.rm4 (S : ES) (u v : Int) : ES := (((S.delNbr u v).delPnb v u).delNbr v u).delPnb u v
def ES.link (S : ES) (u x y : Int) : ES := (S.setCcw u x y).setCw u y x
def ES.rmEdge (S : ES) (u v : Int) : ES :=
  let S5 := if v != S.cw u v then (S.rm4 u v).link u (S.cw u v) (S.ccw u v) else S.rm4 u v
  if u != S.cw v u then S5.link v (S.cw v u) (S.ccw v u) else S5
theorem body853 {P : Params} {t1 t2 : Tok} {u v : Int} {Q : Flow → Shared → Prop} (c : C prog w Tt g L s.heap (m0 [("self", .ref A.x), ("u", .int u t1), ("v", .int v t2)]) A S) (hu : u ∈ S.ns) (hv : v ∈ S.ns) (uv : v ∈ S.nbr u) (vu : u ∈ S.nbr v)
   (hu' : u ∈ S.np) (hv' : v ∈ S.np) (uv' : v ∈ S.pnb u) (vu' : u ∈ S.pnb v) (n : u ≠ v)
   (r1 : v ≠ S.cw u v → S.cw u v ∈ S.nbr u ∧ S.ccw u v ∈ S.nbr u ∧ S.ccw u v ≠ v) (r2 : u ≠ S.cw v u → S.cw v u ∈ S.nbr v ∧ S.ccw v u ∈ S.nbr v ∧ S.ccw v u ≠ u)
   (k : ∀ h' tk m', C prog w Tt g L h' m' A (S.rmEdge u v) → Q .next { s with heap := h', toks := tk }) :
   wpAny (model prog w) Ar (execs (fbody (clsSt 16 10)) (callEnv (fdOf (o853 P)) L 853)) Q E s := by
  have k1 : u ∈ ((S.delNbr u v).delPnb v u).nbr v := by simpa [ES.delNbr, ES.delPnb, upd, n.symm] using vu
  have k2 : v ∈ (((S.delNbr u v).delPnb v u).delNbr v u).pnb u := by simpa [ES.delNbr, ES.delPnb, upd, n] using uv'
  have nu : (S.rm4 u v).nbr u = del (S.nbr u) v := by simp [ES.rm4, ES.delNbr, ES.delPnb, upd, n]
  have nv : (S.rm4 u v).nbr v = del (S.nbr v) u := by simp [ES.rm4, ES.delNbr, ES.delPnb, upd, n.symm]
  refine wpAny_execs_cons ?_
  (tm_at "s16"; tm_at "s0"; tm_at "s2"; tm_at "s9"; tm_at "s10"; tm_at "v0"; tm_at "v3"; tm_at "v0"; tm_at "v47"; tm_at "v1"; tm_at "s0"; tm_at "s2"; tm_at "s9"; tm_at "s10"; tm_at "v0"; tm_at "v3"; tm_at "v0"; tm_at "v47"; tm_at "v1"; tm_at "s0"; tm_at "s2"; tm_at "s9"; tm_at "s9"; tm_at "v0"; tm_at "v0"; tm_at "v49"; tm_at "s11"; tm_at "v50"; tm_at "v1"; tm_at "s0"; tm_at "s2"; tm_at "s9"; tm_at "s9"; tm_at "v0"; tm_at "v0"; tm_at "v49"; tm_at "s11"; tm_at "v51"; tm_at "v1"; tm_at "s0"; tm_at "s2"; tm_at "s9"; tm_at "s9"; tm_at "v0"; tm_at "v0"; tm_at "v49"; tm_at "s11"; tm_at "v50"; tm_at "v1"; tm_at "s0"; tm_at "s2"; tm_at "s9"; tm_at "s9"; tm_at "v0"; tm_at "v0"; tm_at "v49"; tm_at "s11"; tm_at "v51"; tm_at "v1"; tm_at "s0"; tm_at "s4"; tm_at "s5"; tm_at "v0"; tm_at "v0"; tm_at "v42"; tm_at "s0"; tm_at "s4"; tm_at "s5"; tm_at "s9"; tm_at "s10"; tm_at "v0"; tm_at "v4"; tm_at "v0"; tm_at "v48"; tm_at "v0"; tm_at "v43"; tm_at "s0"; tm_at "s4"; tm_at "s5"; tm_at "v0"; tm_at "v0"; tm_at "v42"; tm_at "s0"; tm_at "s4"; tm_at "s5"; tm_at "s9"; tm_at "s10"; tm_at "v0"; tm_at "v4"; tm_at "v0"; tm_at "v48"; tm_at "v0"; tm_at "v43"; tm_at "s0"; tm_at "s6"; tm_at "s7"; tm_at "v0"; tm_at "v0"; tm_at "v7"; tm_at "v33")
  generalize hS4 : (((S.delNbr u v).delPnb v u).delNbr v u).delPnb u v = S4 at *
  have e4 : S.rm4 u v = S4 := hS4
  have mu : u ∈ S4.ns := by rw [← hS4]; exact hu
  have mv : v ∈ S4.ns := by rw [← hS4]; exact hv
  rw [e4] at nu nv
  by_cases q1 : v = S.cw u v
  · have q1' : (v != S.cw u v) = false := by simpa using q1
    have k : ∀ h' tk m', C prog w Tt g L h' m' A (if u != S.cw v u then S4.link v (S.cw v u) (S.ccw v u) else S4) → Q .next { s with heap := h', toks := tk } := fun h' tk m' c => k h' tk m' (by unfold ES.rmEdge; rw [q1', e4]; exact c)
    rw [q1']
    simp only [Bool.false_eq_true, if_false]
    (tm_at "s1"; tm_at "s0"; tm_at "s6"; tm_at "s7"; tm_at "v0"; tm_at "v0"; tm_at "v7"; tm_at "v33")
    by_cases q2 : u = S.cw v u
    · have q2' : (u != S.cw v u) = false := by simpa using q2
      rw [q2'] at k ⊢
      simp only [Bool.false_eq_true, if_false] at k ⊢
      (tm_at "s1"; tm_at "s1"; tm_at "s1"; tm_at "s1")
      exact k _ _ _ (by assumption)
    · have q2' : (u != S.cw v u) = true := by simpa using q2
      obtain ⟨a1, a2, a3⟩ := r2 q2
      have b1 : S.cw v u ∈ S4.nbr v := by rw [nv]; exact mem_del.mpr ⟨a1, Ne.symm q2⟩
      have b2 : S.ccw v u ∈ S4.nbr v := by rw [nv]; exact mem_del.mpr ⟨a2, a3⟩
      rw [q2'] at k ⊢
      simp only [if_true] at k ⊢
      (tm_at "s0"; tm_at "s3"; tm_at "v0"; tm_at "s9"; tm_at "v0"; tm_at "v0"; tm_at "v49"; tm_at "s11"; tm_at "v41"; tm_at "s0"; tm_at "s3"; tm_at "v0"; tm_at "s9"; tm_at "v0"; tm_at "v0"; tm_at "v49"; tm_at "s11"; tm_at "v40"; tm_at "s1"; tm_at "s1"; tm_at "s1"; tm_at "s1")
      exact k _ _ _ (by assumption)
  · have q1' : (v != S.cw u v) = true := by simpa using q1
    obtain ⟨a1, a2, a3⟩ := r1 q1
    have b1 : S.cw u v ∈ S4.nbr u := by rw [nu]; exact mem_del.mpr ⟨a1, Ne.symm q1⟩
    have b2 : S.ccw u v ∈ S4.nbr u := by rw [nu]; exact mem_del.mpr ⟨a2, a3⟩
    have k : ∀ h' tk m', C prog w Tt g L h' m' A (if u != S.cw v u then (S4.link u (S.cw u v) (S.ccw u v)).link v (S.cw v u) (S.ccw v u) else S4.link u (S.cw u v) (S.ccw u v)) → Q .next { s with heap := h', toks := tk } := fun h' tk m' c => k h' tk m' (by unfold ES.rmEdge; rw [q1', e4]; exact c)
    rw [q1']
    simp only [if_true]
    (tm_at "s0"; tm_at "s3"; tm_at "v0"; tm_at "s9"; tm_at "v0"; tm_at "v0"; tm_at "v49"; tm_at "s11"; tm_at "v41"; tm_at "s0"; tm_at "s3"; tm_at "v0"; tm_at "s9"; tm_at "v0"; tm_at "v0"; tm_at "v49"; tm_at "s11"; tm_at "v40"; tm_at "s1"; tm_at "s0"; tm_at "s6"; tm_at "s7"; tm_at "v0"; tm_at "v0"; tm_at "v7"; tm_at "v33")
    by_cases q2 : u = S.cw v u
    · have q2' : (u != S.cw v u) = false := by simpa using q2
      rw [q2'] at k ⊢
      simp only [Bool.false_eq_true, if_false] at k ⊢
      (tm_at "s1"; tm_at "s1"; tm_at "s1"; tm_at "s1")
      exact k _ _ _ (by assumption)
    · have q2' : (u != S.cw v u) = true := by simpa using q2
      obtain ⟨a1, a2, a3⟩ := r2 q2
      have b1 : S.cw v u ∈ S4.nbr v := by rw [nv]; exact mem_del.mpr ⟨a1, Ne.symm q2⟩
      have b2 : S.ccw v u ∈ S4.nbr v := by rw [nv]; exact mem_del.mpr ⟨a2, a3⟩
      rw [q2'] at k ⊢
      simp only [if_true] at k ⊢
      (tm_at "s0"; tm_at "s3"; tm_at "v0"; tm_at "s9"; tm_at "v0"; tm_at "v0"; tm_at "v49"; tm_at "s11"; tm_at "v41"; tm_at "s0"; tm_at "s3"; tm_at "v0"; tm_at "s9"; tm_at "v0"; tm_at "v0"; tm_at "v49"; tm_at "s11"; tm_at "v40"; tm_at "s1"; tm_at "s1"; tm_at "s1"; tm_at "s1")
      exact k _ _ _ (by assumption)
theorem sum853 {R : Result → Shared → Prop} {t1 t2 : Tok} {u v : Int} (e : EmbAt prog w s.heap A S) (G : Gd w s.heap) (hroom : Ar.depth < recursionLimit)
   (hu : u ∈ S.ns) (hv : v ∈ S.ns) (uv : v ∈ S.nbr u) (vu : u ∈ S.nbr v)
   (hu' : u ∈ S.np) (hv' : v ∈ S.np) (uv' : v ∈ S.pnb u) (vu' : u ∈ S.pnb v) (n : u ≠ v)
   (r1 : v ≠ S.cw u v → S.cw u v ∈ S.nbr u ∧ S.ccw u v ∈ S.nbr u ∧ S.ccw u v ≠ v) (r2 : u ≠ S.cw v u → S.cw v u ∈ S.nbr v ∧ S.ccw v u ∈ S.nbr v ∧ S.ccw v u ≠ u)
   (k : ∀ h' tk, Back prog w A S s.heap A (S.rmEdge u v) h' → R (.ok (.ret .none)) { s with heap := h', toks := tk }) :
   codeAny (model prog w) Ar (.call (.ref 853) ⟨[.ref A.x, .int u t1, .int v t2], []⟩) R s := by
  refine enter_emb (o := o853 w.params) (fd := fdOf (o853 w.params)) (body := fbody (clsSt 16 10)) (binds := [("self", .ref A.x), ("u", .int u t1), ("v", .int v t2)]) e G hroom (by rfl) (by rfl) (by kernel_rfl!) (by rfl) (BindsTo.of_eq (by rfl)) (by kernel_rfl!) (by kernel_rfl!) fun L h₁ hL hL2 c => ?_
  refine body853 c hu hv uv vu hu' hv' uv' vu' n r1 r2 fun h' tk m' c' => ?_
  exact k h' tk (back_of c')
end
end Mine
end
section
open PySem PySem.W PySem.Calls PyProof.Rows
set_option maxRecDepth 100000
set_option maxHeartbeats 4000000
set_option linter.all false
namespace Mine
section
variable {w : World} {Ar : Around} {E : Value → Shared → Prop} {s : Shared} {g h h' : Heap} {L : Addr} {m : Str → Option Value} {A : EA} {S S' : ES} {T : Tg → Prop}
local macro_rules | `(tactic| tm_at "k") => `(tactic| first | exact kk_825 _ | exact kk_802 _ | exact kk_853 _ | exact kk_788 _ | exact kk_816 _ | exact kk_614 _ | exact kk_809 _ | exact kk_860 _ | exact kk_867 _ | exact kk_839 _ | exact kk_846 _ | exact kk_261 _ | exact kk_268 _ | exact kk_275 _ | exact kk_282 _ | exact kk_289 _ | exact kk_296 _)
local macro_rules | `(tactic| tm_at "V") => `(tactic| first | assumption | exact C.v (by assumption) | exact C0.v (by assumption))
local macro_rules | `(tactic| tm_at "h") => `(tactic| first | assumption | with_unfolding_all assumption)
local macro_rules | `(tactic| tm_at "t") => `(tactic| first | assumption | (with_unfolding_all exact True.intro) | (with_unfolding_all exact fun q => Tg.noConfusion q))
local macro_rules | `(tactic| tm_at "u") => `(tactic| with_unfolding_all rfl)
local macro_rules | `(tactic| tm_at "s0") => `(tactic| (with_reducible refine wpAny_execs_cons ?_))
local macro_rules | `(tactic| tm_at "s1") => `(tactic| (with_reducible refine wpAny_execs_nil ?_))
local macro_rules | `(tactic| tm_at "s2") => `(tactic| (with_reducible refine wpAny_Assign_Name ?_ (by tm_at "u")))
local macro_rules | `(tactic| tm_at "s3") => `(tactic| (with_reducible refine wpAny_Assign_Subscript ?_ (by tm_at "u")))
local macro_rules | `(tactic| tm_at "s4") => `(tactic| (with_reducible refine del_one ?_))
local macro_rules | `(tactic| tm_at "s5") => `(tactic| (with_reducible refine delete_Subscript ?_))
local macro_rules | `(tactic| tm_at "s6") => `(tactic| (with_reducible refine wpAny_If ?_))
local macro_rules | `(tactic| tm_at "s7") => `(tactic| (with_reducible refine wpAny_isTrue_Compare1 ?_ (by tm_at "u")))
local macro_rules | `(tactic| tm_at "s9") => `(tactic| (with_reducible refine Subscript_ ?_))
local macro_rules | `(tactic| tm_at "s10") => `(tactic| (with_reducible refine Attribute_Name_ ?_ (by tm_at "u")))
local macro_rules | `(tactic| tm_at "s11") => `(tactic| (with_reducible refine wpAny_Constant_str ?_))
local macro_rules | `(tactic| tm_at "s16") => `(tactic| (with_reducible refine wpAny_Try_except ?_))
local macro_rules | `(tactic| tm_at "v0") => `(tactic| (with_unfolding_all refine ld_v (by tm_at "V") (by first | rfl | assumption) ?_))
local macro_rules | `(tactic| tm_at "v1") => `(tactic| ((with_reducible refine st_v (by assumption) ?_ (by tm_at "u") (by tm_at "u") (by tm_at "u")); intro _ _; try dsimp only))
local macro_rules | `(tactic| tm_at "v3") => `(tactic| (with_reducible refine attr_succ (by tm_at "V") ?_))
local macro_rules | `(tactic| tm_at "v4") => `(tactic| (with_reducible refine attr_pred (by tm_at "V") ?_))
local macro_rules | `(tactic| tm_at "v5") => `(tactic| (with_reducible refine attr_node (by tm_at "V") ?_))
local macro_rules | `(tactic| tm_at "v7") => `(tactic| (with_reducible refine ne_int ?_))
local macro_rules | `(tactic| tm_at "v33") => `(tactic| (with_reducible refine PySem.wpAny_truthy_bool ?_))
local macro_rules | `(tactic| tm_at "v40") => `(tactic| ((with_reducible refine set_cw (by assumption) (by tm_at "h") (by tm_at "h") (by tm_at "t") ?_); intro _ _; try dsimp only))
local macro_rules | `(tactic| tm_at "v41") => `(tactic| ((with_reducible refine set_ccw (by assumption) (by tm_at "h") (by tm_at "h") (by tm_at "t") ?_); intro _ _; try dsimp only))
local macro_rules | `(tactic| tm_at "v42") => `(tactic| ((with_reducible refine del_nbr (by assumption) (by tm_at "h") (by tm_at "h") (by tm_at "t") ?_); intro _ _; try dsimp only))
local macro_rules | `(tactic| tm_at "v43") => `(tactic| ((with_reducible refine del_pnb (by assumption) (by tm_at "h") (by tm_at "h") (by tm_at "t") ?_); intro _ _; try dsimp only))
local macro_rules | `(tactic| tm_at "v44") => `(tactic| ((with_reducible refine del_dn (by assumption) (by tm_at "h") (by tm_at "t") ?_); intro _ _; try dsimp only))
local macro_rules | `(tactic| tm_at "v45") => `(tactic| ((with_reducible refine del_ds (by assumption) (by tm_at "h") (by tm_at "t") ?_); intro _ _; try dsimp only))
local macro_rules | `(tactic| tm_at "v46") => `(tactic| ((with_reducible refine del_dp (by assumption) (by tm_at "h") (by tm_at "t") ?_); intro _ _; try dsimp only))
local macro_rules | `(tactic| tm_at "v47") => `(tactic| (with_reducible refine sub_ds (by tm_at "V") (by tm_at "h") ?_ (by tm_at "u")))
local macro_rules | `(tactic| tm_at "v48") => `(tactic| (with_reducible refine sub_dp (by tm_at "V") (by tm_at "h") ?_ (by tm_at "u")))
local macro_rules | `(tactic| tm_at "v49") => `(tactic| (with_reducible refine sub_inn (by tm_at "V") (by tm_at "h") (by tm_at "h") ?_ (by tm_at "u")))
local macro_rules | `(tactic| tm_at "v50") => `(tactic| (with_reducible refine sub_cw (by tm_at "V") (by tm_at "h") (by tm_at "h") (fun _ => ?_) (by tm_at "u")))
local macro_rules | `(tactic| tm_at "v51") => `(tactic| (with_reducible refine sub_ccw (by tm_at "V") (by tm_at "h") (by tm_at "h") (fun _ => ?_) (by tm_at "u")))
def ES.rm2 (S : ES) (u n : Int) : ES := (S.delNbr u n).delPnb u n
def ES.rmTo (S : ES) (u n : Int) : ES := if n != S.cw u n then (S.rm2 u n).link u (S.cw u n) (S.ccw u n) else S.rm2 u n
def forBody : Stmt → List Stmt
  | .For _ _ b _ _ => b
  | _ => []
def tryBody : Stmt → List Stmt
  | .Try b _ _ _ _ => b
  | _ => []
theorem turn802 {P : Params} {t t2 : Tok} {u n : Int} {Q : Flow → Shared → Prop} (c : C prog w (fun t => t ≠ .pin n) g L s.heap (fun y => if y = Str.ofString "u" then some (.int u t) else m y) A S) (hself : m (Str.ofString "self") = some (.ref A.x)) (hn : m (Str.ofString "n") = some (.int n t2))
   (hu : u ∈ S.ns) (hu' : u ∈ S.np) (un : n ∈ S.nbr u) (un' : n ∈ S.pnb u) (ne : u ≠ n)
   (r1 : n ≠ S.cw u n → S.cw u n ∈ S.nbr u ∧ S.ccw u n ∈ S.nbr u ∧ S.ccw u n ≠ n)
   (k : ∀ h' tk m', C prog w (fun t => t ≠ .pin n) g L h' m' A (S.rmTo u n) → m' (Str.ofString "self") = some (.ref A.x) → m' (Str.ofString "n") = some (.int n t2) → Q .next { s with heap := h', toks := tk }) :
   wpAny (model prog w) Ar (execs (forBody (stAt (tryBody (stAt (fbody (clsSt 16 3)) 0)) 0)) (callEnv (fdOf (o802 P)) L 802)) Q E s := by
  have nu : (S.rm2 u n).nbr u = del (S.nbr u) n := by simp [ES.rm2, ES.delNbr, ES.delPnb, upd]
  have tp : Tg.pin u ≠ Tg.pin n := fun q => ne (by injection q)
  refine wpAny_execs_cons ?_
  (tm_at "s2"; tm_at "s9"; tm_at "s10"; tm_at "v0"; tm_at "v3"; tm_at "v0"; tm_at "v47"; tm_at "v1"; tm_at "s0"; tm_at "s2"; tm_at "s9"; tm_at "s9"; tm_at "v0"; tm_at "v0"; tm_at "v49"; tm_at "s11"; tm_at "v50"; tm_at "v1"; tm_at "s0"; tm_at "s2"; tm_at "s9"; tm_at "s9"; tm_at "v0"; tm_at "v0"; tm_at "v49"; tm_at "s11"; tm_at "v51"; tm_at "v1"; tm_at "s0"; tm_at "s4"; tm_at "s5"; tm_at "v0"; tm_at "v0"; tm_at "v42"; tm_at "s0"; tm_at "s4"; tm_at "s5"; tm_at "s9"; tm_at "s10"; tm_at "v0"; tm_at "v4"; tm_at "v0"; tm_at "v48"; tm_at "v0"; tm_at "v43"; tm_at "s0"; tm_at "s6"; tm_at "s7"; tm_at "v0"; tm_at "v0"; tm_at "v7"; tm_at "v33")
  generalize hS2 : (S.delNbr u n).delPnb u n = S2 at *
  have e2 : S.rm2 u n = S2 := hS2
  have mu : u ∈ S2.ns := by rw [← hS2]; exact hu
  rw [e2] at nu
  by_cases q1 : n = S.cw u n
  · have q1' : (n != S.cw u n) = false := by simpa using q1
    have k : ∀ h' tk m', C prog w (fun t => t ≠ .pin n) g L h' m' A S2 → m' (Str.ofString "self") = some (.ref A.x) → m' (Str.ofString "n") = some (.int n t2) → Q .next { s with heap := h', toks := tk } := fun h' tk m' c => k h' tk m' (by unfold ES.rmTo; rw [q1', e2]; exact c)
    rw [q1']
    simp only [Bool.false_eq_true, if_false]
    (tm_at "s1"; tm_at "s1")
    exact k _ _ _ (by assumption) (by with_unfolding_all exact hself) (by with_unfolding_all exact hn)
  · have q1' : (n != S.cw u n) = true := by simpa using q1
    obtain ⟨a1, a2, a3⟩ := r1 q1
    have b1 : S.cw u n ∈ S2.nbr u := by rw [nu]; exact mem_del.mpr ⟨a1, Ne.symm q1⟩
    have b2 : S.ccw u n ∈ S2.nbr u := by rw [nu]; exact mem_del.mpr ⟨a2, a3⟩
    have k : ∀ h' tk m', C prog w (fun t => t ≠ .pin n) g L h' m' A (S2.link u (S.cw u n) (S.ccw u n)) → m' (Str.ofString "self") = some (.ref A.x) → m' (Str.ofString "n") = some (.int n t2) → Q .next { s with heap := h', toks := tk } := fun h' tk m' c => k h' tk m' (by unfold ES.rmTo; rw [q1', e2]; exact c)
    rw [q1']
    simp only [if_true]
    (tm_at "s0"; tm_at "s3"; tm_at "v0"; tm_at "s9"; tm_at "v0"; tm_at "v0"; tm_at "v49"; tm_at "s11"; tm_at "v41"; tm_at "s0"; tm_at "s3"; tm_at "v0"; tm_at "s9"; tm_at "v0"; tm_at "v0"; tm_at "v49"; tm_at "s11"; tm_at "v40"; tm_at "s1"; tm_at "s1")
    exact k _ _ _ (by assumption) (by with_unfolding_all exact hself) (by with_unfolding_all exact hn)

theorem ES.rmTo_other (S : ES) {u n a : Int} (h : a ≠ u) : (S.rmTo u n).nbr a = S.nbr a ∧ (S.rmTo u n).pnb a = S.pnb a ∧ (S.rmTo u n).cw a = S.cw a ∧ (S.rmTo u n).ccw a = S.ccw a := by
  unfold ES.rmTo
  split <;> simp [ES.rm2, ES.link, ES.setCw, ES.setCcw, ES.delNbr, ES.delPnb, upd, h]
theorem ES.rmTo_keys (S : ES) (u n : Int) : (S.rmTo u n).nn = S.nn ∧ (S.rmTo u n).ns = S.ns ∧ (S.rmTo u n).np = S.np := by
  unfold ES.rmTo
  split <;> exact ⟨rfl, rfl, rfl⟩
def ES.rmAll (S : ES) (n : Int) (l : List Int) : ES := l.foldl (fun T u => T.rmTo u n) S
theorem ES.rmAll_keys (S : ES) (n : Int) (l : List Int) : (S.rmAll n l).nn = S.nn ∧ (S.rmAll n l).ns = S.ns ∧ (S.rmAll n l).np = S.np := by
  induction l generalizing S with
  | nil => exact ⟨rfl, rfl, rfl⟩
  | cons a r ih =>
    obtain ⟨h1, h2, h3⟩ := ih (S.rmTo a n)
    obtain ⟨g1, g2, g3⟩ := S.rmTo_keys a n
    exact ⟨h1.trans g1, h2.trans g2, h3.trans g3⟩
theorem ES.rmAll_other (S : ES) {n a : Int} {l : List Int} (h : a ∉ l) : (S.rmAll n l).nbr a = S.nbr a ∧ (S.rmAll n l).pnb a = S.pnb a ∧ (S.rmAll n l).cw a = S.cw a ∧ (S.rmAll n l).ccw a = S.ccw a := by
  induction l generalizing S with
  | nil => exact ⟨rfl, rfl, rfl, rfl⟩
  | cons b r ih =>
    obtain ⟨h1, h2, h3, h4⟩ := ih (S.rmTo b n) (fun q => h (.tail _ q))
    obtain ⟨g1, g2, g3, g4⟩ := S.rmTo_other (n := n) (u := b) (a := a) (fun q => h (q ▸ .head _))
    exact ⟨h1.trans g1, h2.trans g2, h3.trans g3, h4.trans g4⟩
theorem ES.rmAll_snoc (S : ES) (n : Int) (l : List Int) (u : Int) : S.rmAll n (l ++ [u]) = (S.rmAll n l).rmTo u n := by
  unfold ES.rmAll; rw [List.foldl_append]; rfl
theorem ES.rmTo_live (S : ES) (u n : Int) : ∀ t, (S.rmTo u n).live t → S.live t := by
  intro t l
  obtain ⟨g1, g2, g3⟩ := S.rmTo_keys u n
  cases t with
  | inn a => exact (show a ∈ S.ns from g2 ▸ (show a ∈ (S.rmTo u n).ns from l))
  | pin a => exact (show a ∈ S.np from g3 ▸ (show a ∈ (S.rmTo u n).np from l))
  | dat a b =>
    refine ⟨g2 ▸ l.1, ?_⟩
    by_cases q : a = u
    · subst q
      have := l.2
      have e : (S.rmTo a n).nbr a = del (S.nbr a) n := by
        unfold ES.rmTo
        split <;> simp [ES.rm2, ES.link, ES.setCw, ES.setCcw, ES.delNbr, ES.delPnb, upd]
      rw [e] at this
      exact (mem_del.mp this).1
    · have := l.2
      rwa [(S.rmTo_other (n := n) q).1] at this
  | _ => trivial
def ES.rmNode (S : ES) (n : Int) : ES := (((S.rmAll n (S.pnb n)).delNode n).delSucc n).delPred n
theorem not_mem_take {l : List Int} (nd : l.Nodup) {i : Nat} {u : Int} (h : l[i]? = some u) : u ∉ l.take i := by
  induction l generalizing i with
  | nil => cases h
  | cons a r ih =>
    cases i with
    | zero => intro q; cases q
    | succ i =>
      have h' : r[i]? = some u := h
      intro q
      rw [List.take_succ_cons] at q
      rcases List.mem_cons.mp q with z | z
      · rw [z] at h'
        exact (List.nodup_cons.mp nd).1 (List.mem_of_getElem? h')
      · exact ih (List.nodup_cons.mp nd).2 h' z
theorem body802 {P : Params} {t2 : Tok} {n : Int} {Q : Flow → Shared → Prop} (c : C prog w Tt g L s.heap (m0 [("self", .ref A.x), ("n", .int n t2)]) A S) (hh : Ar.handled = none) (hL : topSize ≤ L)
   (hn : n ∈ S.nn) (hs : n ∈ S.ns) (hp : n ∈ S.np) (nd : (S.pnb n).Nodup)
   (hu : ∀ u ∈ S.pnb n, u ∈ S.ns ∧ u ∈ S.np ∧ n ∈ S.nbr u ∧ n ∈ S.pnb u ∧ u ≠ n ∧ (n ≠ S.cw u n → S.cw u n ∈ S.nbr u ∧ S.ccw u n ∈ S.nbr u ∧ S.ccw u n ≠ n))
   (k : ∀ h' tk m', C prog w Tt g L h' m' A (S.rmNode n) → Q .next { s with heap := h', toks := tk }) :
   wpAny (model prog w) Ar (execs (fbody (clsSt 16 3)) (callEnv (fdOf (o802 P)) L 802)) Q E s := by
  refine wpAny_execs_cons ?_
  tm_at "s16"
  tm_at "s0"
  have nself : n ∉ S.pnb n := fun q => (hu n q).2.2.2.2.1 rfl
  refine for_pin (n := n) (m := m0 [("self", .ref A.x), ("n", .int n t2)]) (S := S) (A := A) (L := L) (g := g) (fun i => S.rmAll n ((S.pnb n).take i)) (fun _ m' => m' (Str.ofString "self") = some (.ref A.x) ∧ m' (Str.ofString "n") = some (.int n t2)) hh rfl ⟨by rfl, by rfl⟩ (fun i _ => ?_) (fun i hi => ?_) ?_
  · exact ⟨(S.rmAll_keys n _).2.2 ▸ hp, (S.rmAll_other fun q => nself (List.mem_of_mem_take q)).2.1⟩
  · show ∀ t, (S.rmAll n ((S.pnb n).take (i + 1))).live t → (S.rmAll n ((S.pnb n).take i)).live t
    rw [List.take_add_one, List.getElem?_eq_getElem hi]
    show ∀ t, (S.rmAll n ((S.pnb n).take i ++ [(S.pnb n)[i]])).live t → _
    rw [ES.rmAll_snoc]
    exact ES.rmTo_live _ _ _
  · (tm_at "s9"; tm_at "s10"; tm_at "v0"; tm_at "v4"; tm_at "v0"; tm_at "v48")
    refine ⟨rfl, hL, by assumption, fun i u hi g' m' s₂ t c' hm => ?_, fun h' tk m' c' hm => ?_⟩
    · refine st_v c' (fun h₃ c₃ => ?_)
      have hmem : u ∈ S.pnb n := List.mem_of_getElem? hi
      obtain ⟨b1, b2, b3, b4, b5, b6⟩ := hu u hmem
      have hni : u ∉ (S.pnb n).take i := not_mem_take nd hi
      obtain ⟨o1, o2, o3, o4⟩ := S.rmAll_other (n := n) hni
      obtain ⟨y1, y2, y3⟩ := S.rmAll_keys n ((S.pnb n).take i)
      refine turn802 (P := P) c₃ hm.1 hm.2 (y2 ▸ b1) (y3 ▸ b2) (o1 ▸ b3) (o2 ▸ b4) b5 (by rw [o1, o3, o4]; exact b6) fun h₄ tk₄ m₄ c₄ z1 z2 => ⟨rfl, h₄, tk₄, m₄, rfl, ?_, z1, z2⟩
      have : S.rmAll n ((S.pnb n).take (i + 1)) = (S.rmAll n ((S.pnb n).take i)).rmTo u n := by rw [List.take_add_one, hi]; exact ES.rmAll_snoc _ _ _ _
      rw [this]; exact c₄
    · have e : (S.pnb n).take (S.pnb n).length = S.pnb n := List.take_length
      rw [e] at c'
      obtain ⟨y1, y2, y3⟩ := S.rmAll_keys n (S.pnb n)
      have z1 : n ∈ (S.rmAll n (S.pnb n)).nn := y1 ▸ hn
      have z2 : n ∈ ((S.rmAll n (S.pnb n)).delNode n).ns := by show n ∈ (S.rmAll n (S.pnb n)).ns; rw [y2]; exact hs
      have z3 : n ∈ (((S.rmAll n (S.pnb n)).delNode n).delSucc n).np := by show n ∈ (S.rmAll n (S.pnb n)).np; rw [y3]; exact hp
      obtain ⟨hm1, hm2⟩ := hm
      (tm_at "s0"; tm_at "s4"; tm_at "s5"; tm_at "s10"; tm_at "v0"; tm_at "v5"; tm_at "v0"; tm_at "v44"; tm_at "s0"; tm_at "s4"; tm_at "s5"; tm_at "s10"; tm_at "v0"; tm_at "v3"; tm_at "v0"; tm_at "v45"; tm_at "s0"; tm_at "s4"; tm_at "s5"; tm_at "s10"; tm_at "v0"; tm_at "v4"; tm_at "v0"; tm_at "v46"; tm_at "s1"; tm_at "s1"; tm_at "s1")
      exact k _ _ _ (by assumption)
theorem sum802 {R : Result → Shared → Prop} {t2 : Tok} {n : Int} (e : EmbAt prog w s.heap A S) (G : Gd w s.heap) (hroom : Ar.depth < recursionLimit) (hh : Ar.handled = none)
   (hn : n ∈ S.nn) (hs : n ∈ S.ns) (hp : n ∈ S.np) (nd : (S.pnb n).Nodup)
   (hu : ∀ u ∈ S.pnb n, u ∈ S.ns ∧ u ∈ S.np ∧ n ∈ S.nbr u ∧ n ∈ S.pnb u ∧ u ≠ n ∧ (n ≠ S.cw u n → S.cw u n ∈ S.nbr u ∧ S.ccw u n ∈ S.nbr u ∧ S.ccw u n ≠ n))
   (k : ∀ h' tk, Back prog w A S s.heap A (S.rmNode n) h' → R (.ok (.ret .none)) { s with heap := h', toks := tk }) :
   codeAny (model prog w) Ar (.call (.ref 802) ⟨[.ref A.x, .int n t2], []⟩) R s := by
  refine enter_emb (o := o802 w.params) (fd := fdOf (o802 w.params)) (body := fbody (clsSt 16 3)) (binds := [("self", .ref A.x), ("n", .int n t2)]) e G hroom (by rfl) (by rfl) (by kernel_rfl!) (by rfl) (BindsTo.of_eq (by rfl)) (by kernel_rfl!) (by kernel_rfl!) fun L h₁ hL hL2 c => ?_
  refine body802 c hh hL2 hn hs hp nd hu fun h' tk m' c' => ?_
  exact k h' tk (back_of c')
end
end Mine
end
section
open PySem PySem.W PySem.Calls PyProof.Rows
set_option maxRecDepth 100000
set_option maxHeartbeats 4000000
set_option linter.all false
namespace Mine
section
variable {w : World} {Ar : Around} {E : Value → Shared → Prop} {s : Shared} {g h h' : Heap} {L : Addr} {m : Str → Option Value} {A : EA} {S S' : ES} {T : Tg → Prop}
local macro_rules | `(tactic| tm_at "k") => `(tactic| first | exact kk_825 _ | exact kk_802 _ | exact kk_853 _ | exact kk_788 _ | exact kk_816 _ | exact kk_614 _ | exact kk_809 _ | exact kk_860 _ | exact kk_867 _ | exact kk_839 _ | exact kk_846 _ | exact kk_261 _ | exact kk_268 _ | exact kk_275 _ | exact kk_282 _ | exact kk_289 _ | exact kk_296 _)
local macro_rules | `(tactic| tm_at "V") => `(tactic| first | assumption | exact C.v (by assumption) | exact C0.v (by assumption))
local macro_rules | `(tactic| tm_at "h") => `(tactic| first | assumption | with_unfolding_all assumption)
local macro_rules | `(tactic| tm_at "t") => `(tactic| first | assumption | (with_unfolding_all exact True.intro) | (with_unfolding_all exact fun q => Tg.noConfusion q))
local macro_rules | `(tactic| tm_at "u") => `(tactic| with_unfolding_all rfl)
local macro_rules | `(tactic| tm_at "s0") => `(tactic| (with_reducible refine wpAny_execs_cons ?_))
local macro_rules | `(tactic| tm_at "s1") => `(tactic| (with_reducible refine wpAny_execs_nil ?_))
local macro_rules | `(tactic| tm_at "s2") => `(tactic| (with_reducible refine wpAny_Assign_Name ?_ (by tm_at "u")))
local macro_rules | `(tactic| tm_at "s6") => `(tactic| (with_reducible refine wpAny_If ?_))
local macro_rules | `(tactic| tm_at "s7") => `(tactic| (with_reducible refine wpAny_isTrue_Compare1 ?_ (by tm_at "u")))
local macro_rules | `(tactic| tm_at "s9") => `(tactic| (with_reducible refine Subscript_ ?_))
local macro_rules | `(tactic| tm_at "s10") => `(tactic| (with_reducible refine Attribute_Name_ ?_ (by tm_at "u")))
local macro_rules | `(tactic| tm_at "s13") => `(tactic| (with_reducible refine wpAny_Constant_none ?_))
local macro_rules | `(tactic| tm_at "s14") => `(tactic| (with_reducible refine wpAny_Constant_int ?_))
local macro_rules | `(tactic| tm_at "s17") => `(tactic| (with_reducible refine wpAny_Expr_any ?_ (by tm_at "u") (by tm_at "u")))
local macro_rules | `(tactic| tm_at "s21") => `(tactic| (with_reducible refine Call_ ?_ (by tm_at "u")))
local macro_rules | `(tactic| tm_at "s22") => `(tactic| (with_reducible refine methodCall_KW ?_ (by tm_at "u")))
local macro_rules | `(tactic| tm_at "s23") => `(tactic| ((with_reducible show wpAny _ _ (callWith _ _ _ _ _) _ _ _); dsimp only; first
     | (with_reducible refine callWith_method1 ?_ (by tm_at "u") (by tm_at "u"))
     | (with_reducible refine callWith_K (V.kin (by tm_at "V")) (by tm_at "k") ?_ (by tm_at "u") (by tm_at "u"))
     | (with_reducible refine callWith_K0 (V.kin (by tm_at "V")) (by tm_at "k") ?_)
     | (with_reducible refine callWith_KW (V.kin (by tm_at "V")) (by tm_at "k") (by tm_at "u") ?_ (by tm_at "u") (by tm_at "u"))
     | (with_reducible refine PyProof.Rows.callWith_type1 ?_ (by tm_at "u") (by tm_at "u"))))
local macro_rules | `(tactic| tm_at "s24") => `(tactic| (with_reducible refine spliced_more ?_ (by tm_at "u")))
local macro_rules | `(tactic| tm_at "s25") => `(tactic| ((with_reducible refine spliced_none ?_); try dsimp only [List.cons_append, List.nil_append]))
local macro_rules | `(tactic| tm_at "s26") => `(tactic| (with_reducible refine wpAny_UnaryOp ?_))
local macro_rules | `(tactic| tm_at "s27") => `(tactic| (with_reducible refine kwAll_cons ?_))
local macro_rules | `(tactic| tm_at "s28") => `(tactic| (with_reducible refine kwAll_nil ?_))
local macro_rules | `(tactic| tm_at "s29") => `(tactic| (with_reducible refine in_and (V.kin (by tm_at "V")) ?_))
local macro_rules | `(tactic| tm_at "s32") => `(tactic| (with_reducible refine isTrue_and ?_))
local macro_rules | `(tactic| tm_at "s34") => `(tactic| (with_reducible refine isTrue_and_nil ?_))
local macro_rules | `(tactic| tm_at "s36") => `(tactic| (with_reducible refine isTrue_plain ?_ (by tm_at "u")))
local macro_rules | `(tactic| tm_at "v0") => `(tactic| (with_unfolding_all refine ld_v (by tm_at "V") (by first | rfl | assumption) ?_))
local macro_rules | `(tactic| tm_at "v1") => `(tactic| ((with_reducible refine st_v (by assumption) ?_ (by tm_at "u") (by tm_at "u") (by tm_at "u")); intro _ _; try dsimp only))
local macro_rules | `(tactic| tm_at "v3") => `(tactic| (with_reducible refine attr_succ (by tm_at "V") ?_))
local macro_rules | `(tactic| tm_at "v8") => `(tactic| (with_reducible refine PyProof.Rows.neg_int ?_))
local macro_rules | `(tactic| tm_at "v9") => `(tactic| (with_reducible refine ld_list (by tm_at "V") ?_ (by tm_at "u") (by tm_at "u") (by tm_at "u") (by tm_at "u")))
local macro_rules | `(tactic| tm_at "v10") => `(tactic| (with_reducible refine m_add_half_edge (by tm_at "V") ?_))
local macro_rules | `(tactic| tm_at "v27") => `(tactic| (with_reducible refine in_ds (by tm_at "V") ?_))
local macro_rules | `(tactic| tm_at "v33") => `(tactic| (with_reducible refine PySem.wpAny_truthy_bool ?_))
local macro_rules | `(tactic| tm_at "v38") => `(tactic| (with_reducible refine truthy_inn (by tm_at "V") (by tm_at "h") ?_))
local macro_rules | `(tactic| tm_at "v47") => `(tactic| (with_reducible refine sub_ds (by tm_at "V") (by tm_at "h") ?_ (by tm_at "u")))
theorem sum839 {R : Result → Shared → Prop} {t1 t2 t3 : Tok} {u v x l : Int} (e : EmbAt prog w s.heap A S) (G : Gd w s.heap) (hroom : Ar.depth + 3 < recursionLimit) (hh : Ar.handled = none)
   (hu : u ∈ S.ns) (hv : v ∈ S.ns) (uv : v ∉ S.nbr u) (hv' : v ∈ S.np) (vu' : u ∉ S.pnb v) (l1 : (S.nbr u).length < 100) (l2 : (S.pnb v).length < 100)
   (hx : x ∈ S.nbr u) (hy : S.ccw u x ∈ S.nbr u) (hl : (S.nbr u).getLast? = some l)
   (k : ∀ h' tk D, Back prog w A S s.heap (A.setDat u v D) (S.insCw u v x l) h' → R (.ok (.ret .none)) { s with heap := h', toks := tk }) :
   codeAny (model prog w) Ar (.call (.ref 839) ⟨[.ref A.x, .int u t1, .int v t2, .int x t3], []⟩) R s := by
  refine enter_emb (o := o839 w.params) (fd := fdOf (o839 w.params)) (body := fbody (clsSt 16 8)) (binds := [("self", .ref A.x), ("start_node", .int u t1), ("end_node", .int v t2), ("reference_neighbor", .int x t3)]) e G (by omega) (by rfl) (by rfl) (by kernel_rfl!) (by rfl) (BindsTo.of_eq (by rfl)) (by kernel_rfl!) (by kernel_rfl!) fun L h₁ hL hL2 c => ?_
  refine wpAny_execs_cons ?_
  (tm_at "s17"; tm_at "s22"; tm_at "v0"; tm_at "v10"; tm_at "s23"; tm_at "s24"; tm_at "v0"; tm_at "s24"; tm_at "v0"; tm_at "s25"; tm_at "s27"; tm_at "v0"; tm_at "s28"; tm_at "s29")
  with_unfolding_all refine callR (sum825_cw (l := l) c.em c.gd (by rw [depth_deeper]; omega) hh hu hv uv hv' vu' l1 l2 hx hy hl fun h' tk D b => ⟨_, rfl, ?_⟩)
  (tm_at "s1")
  exact k _ _ D (back_of (c.back b))
theorem sum846 {R : Result → Shared → Prop} {t1 t2 t3 : Tok} {u v x l : Int} (e : EmbAt prog w s.heap A S) (G : Gd w s.heap) (hroom : Ar.depth + 3 < recursionLimit) (hh : Ar.handled = none)
   (hu : u ∈ S.ns) (hv : v ∈ S.ns) (uv : v ∉ S.nbr u) (hv' : v ∈ S.np) (vu' : u ∉ S.pnb v) (l1 : (S.nbr u).length < 100) (l2 : (S.pnb v).length < 100)
   (hx : x ∈ S.nbr u) (hy : S.cw u x ∈ S.nbr u) (hl : (S.nbr u).getLast? = some l)
   (k : ∀ h' tk D, Back prog w A S s.heap (A.setDat u v D) (S.insCcw u v x l) h' → R (.ok (.ret .none)) { s with heap := h', toks := tk }) :
   codeAny (model prog w) Ar (.call (.ref 846) ⟨[.ref A.x, .int u t1, .int v t2, .int x t3], []⟩) R s := by
  refine enter_emb (o := o846 w.params) (fd := fdOf (o846 w.params)) (body := fbody (clsSt 16 9)) (binds := [("self", .ref A.x), ("start_node", .int u t1), ("end_node", .int v t2), ("reference_neighbor", .int x t3)]) e G (by omega) (by rfl) (by rfl) (by kernel_rfl!) (by rfl) (BindsTo.of_eq (by rfl)) (by kernel_rfl!) (by kernel_rfl!) fun L h₁ hL hL2 c => ?_
  refine wpAny_execs_cons ?_
  (tm_at "s17"; tm_at "s22"; tm_at "v0"; tm_at "v10"; tm_at "s23"; tm_at "s24"; tm_at "v0"; tm_at "s24"; tm_at "v0"; tm_at "s25"; tm_at "s27"; tm_at "v0"; tm_at "s28"; tm_at "s29")
  with_unfolding_all refine callR (sum825_ccw (l := l) c.em c.gd (by rw [depth_deeper]; omega) hh hu hv uv hv' vu' l1 l2 hx hy hl fun h' tk D b => ⟨_, rfl, ?_⟩)
  (tm_at "s1")
  exact k _ _ D (back_of (c.back b))
def HR (S : ES) (u : Int) (rv : Value) : Prop := (S.nbr u = [] ∧ rv = .none) ∨ (∃ l t, (S.nbr u).getLast? = some l ∧ rv = .int l t)
def ES.conn (S : ES) (u v : Int) : ES := match (S.nbr u).getLast? with
  | none => S.insFirst u v
  | some l => S.insCw u v l l
theorem sum825_conn {R : Result → Shared → Prop} {t1 t2 : Tok} {u v : Int} {rv : Value} (e : EmbAt prog w s.heap A S) (G : Gd w s.heap) (hroom : Ar.depth + 2 < recursionLimit) (hh : Ar.handled = none)
   (hu : u ∈ S.ns) (hv : v ∈ S.ns) (uv : v ∉ S.nbr u) (hv' : v ∈ S.np) (vu' : u ∉ S.pnb v) (l1 : (S.nbr u).length < 100) (l2 : (S.pnb v).length < 100)
   (hy : ∀ x ∈ S.nbr u, S.ccw u x ∈ S.nbr u) (hr : HR S u rv)
   (k : ∀ h' tk D, Back prog w A S s.heap (A.setDat u v D) (S.conn u v) h' → R (.ok (.ret .none)) { s with heap := h', toks := tk }) :
   codeAny (model prog w) Ar (.call (.ref 825) ⟨[.ref A.x, .int u t1, .int v t2], [(Str.ofString "cw", rv)]⟩) R s := by
  rcases hr with ⟨ne, rfl⟩ | ⟨l, t, hl, rfl⟩
  · refine sum825_cwn (t3 := 0) (x := 0) (l := 0) e G hroom hh hu hv ne hv' vu' l2 fun h' tk D b => k h' tk D ?_
    have : S.conn u v = S.insFirst u v := by unfold ES.conn; rw [ne]; rfl
    rw [this]; exact b
  · have hx := List.mem_of_getLast? hl
    refine sum825_cw (l := l) e G hroom hh hu hv uv hv' vu' l1 l2 hx (hy l hx) hl fun h' tk D b => k h' tk D ?_
    have : S.conn u v = S.insCw u v l l := by unfold ES.conn; rw [hl]
    rw [this]; exact b
theorem conn_keeps (S : ES) {u v : Int} (n : u ≠ v) : (S.conn u v).ns = S.ns ∧ (S.conn u v).np = S.np ∧ (S.conn u v).nn = S.nn ∧ (S.conn u v).nbr v = S.nbr v ∧ (S.conn u v).pnb u = S.pnb u ∧ (S.conn u v).cw v = S.cw v ∧ (S.conn u v).ccw v = S.ccw v := by
  unfold ES.conn
  split
  · simp [ES.insFirst, ES.addNbr, ES.addPnb, upd, n, n.symm]
  · unfold ES.insCw
    simp only [bne_self_eq_false, Bool.false_eq_true, if_false]
    simp [ES.setCw, ES.setCcw, ES.addNbr, ES.addPnb, upd, n, n.symm]
theorem sum867 {R : Result → Shared → Prop} {t1 t2 : Tok} {u v : Int} (e : EmbAt prog w s.heap A S) (G : Gd w s.heap) (hroom : Ar.depth + 3 < recursionLimit) (hh : Ar.handled = none)
   (hu : u ∈ S.ns) (hv : v ∈ S.ns) (n : u ≠ v) (uv : v ∉ S.nbr u) (hv' : v ∈ S.np) (vu' : u ∉ S.pnb v) (l1 : (S.nbr u).length < 100) (l2 : (S.pnb v).length < 100)
   (vu : u ∉ S.nbr v) (hu' : u ∈ S.np) (uv' : v ∉ S.pnb u) (l3 : (S.nbr v).length < 100) (l4 : (S.pnb u).length < 100)
   (hy : ∀ x ∈ S.nbr u, S.ccw u x ∈ S.nbr u) (hz : ∀ x ∈ S.nbr v, S.ccw v x ∈ S.nbr v)
   (k : ∀ h' tk A', A'.x = A.x → Back prog w A S s.heap A' ((S.conn u v).conn v u) h' → R (.ok (.ret .none)) { s with heap := h', toks := tk }) :
   codeAny (model prog w) Ar (.call (.ref 867) ⟨[.ref A.x, .int u t1, .int v t2], []⟩) R s := by
  refine enter_emb (o := o867 w.params) (fd := fdOf (o867 w.params)) (body := fbody (clsSt 16 12)) (binds := [("self", .ref A.x), ("v", .int u t1), ("w", .int v t2)]) e G (by omega) (by rfl) (by rfl) (by kernel_rfl!) (by rfl) (BindsTo.of_eq (by rfl)) (by kernel_rfl!) (by kernel_rfl!) fun L h₁ hL hL2 c => ?_
  obtain ⟨c1, c2, c3, c4, c5, c6, c7⟩ := conn_keeps S n
  refine wpAny_execs_cons (wpAny_mono (Q := fun f s' => f = .next ∧ ∃ (h' : Heap) (tk : Nat) (rv : Value), s' = { s with heap := h', toks := tk } ∧ C prog w Tt (hide s.heap (Fp A S)) L h' (fun y => if y = Str.ofString "ref" then some rv else m0 [("self", .ref A.x), ("v", .int u t1), ("w", .int v t2)] y) A S ∧ HR S u rv) ?_ (fun f s' h => ?_) fun _ _ z => z)
  · tm_at "s6"
    (tm_at "s32"; tm_at "s7"; tm_at "v0"; tm_at "s10"; tm_at "v0"; tm_at "v3"; tm_at "v27"; tm_at "v33")
    rw [decide_eq_true hu]
    simp only [if_true]
    (tm_at "s32"; tm_at "s36"; tm_at "s9"; tm_at "s10"; tm_at "v0"; tm_at "v3"; tm_at "v0"; tm_at "v47"; tm_at "v38")
    cases hl : (S.nbr u).getLast? with
    | none =>
      have ne := List.getLast?_eq_none_iff.mp hl
      rw [ne]
      simp only [List.isEmpty_nil, Bool.not_true, Bool.false_eq_true, if_false]
      (tm_at "s0"; tm_at "s2"; tm_at "s13"; tm_at "v1"; tm_at "s1")
      exact ⟨rfl, _, _, _, rfl, by assumption, .inl ⟨ne, rfl⟩⟩
    | some l =>
      have ne : (S.nbr u).isEmpty = false := by cases h : S.nbr u with
        | nil => rw [h] at hl; cases hl
        | cons => rfl
      rw [ne]
      simp only [Bool.not_false, if_true]
      (tm_at "s34")
      simp only [if_true]
      (tm_at "s0"; tm_at "s2"; tm_at "s9"; tm_at "s21"; tm_at "v9"; tm_at "s23"; tm_at "s24"; tm_at "s9"; tm_at "s10"; tm_at "v0"; tm_at "v3"; tm_at "v0"; tm_at "v47"; tm_at "s25")
      refine list_inn hh (by tm_at "V") hu fun h2 tk2 hk2 il => ?_
      have c2 := C.keeps (by assumption) hk2
      clear hk2
      (tm_at "s26"; tm_at "s14"; tm_at "v8")
      refine item_last il hl (fun t => ?_) (by tm_at "u")
      (tm_at "v1"; tm_at "s1")
      exact ⟨rfl, _, _, _, rfl, by assumption, .inr ⟨l, t, hl, rfl⟩⟩
  obtain ⟨rfl, h2, tk2, rv, rfl, c', hr⟩ := h
  clear c
  (tm_at "s0"; tm_at "s17"; tm_at "s22"; tm_at "v0"; tm_at "v10"; tm_at "s23"; tm_at "s24"; tm_at "v0"; tm_at "s24"; tm_at "v0"; tm_at "s25"; tm_at "s27"; tm_at "v0"; tm_at "s28"; tm_at "s29")
  with_unfolding_all refine callR (sum825_conn c'.em c'.gd (by rw [depth_deeper]; omega) hh hu hv uv hv' vu' l1 l2 hy hr fun h3 tk3 D b => ⟨_, rfl, ?_⟩)
  have d := c'.back b
  clear c'
  obtain ⟨S1, hS1⟩ : ∃ S1, S1 = S.conn u v := ⟨_, rfl⟩
  obtain ⟨A1, hA1⟩ : ∃ A1, A1 = A.setDat u v D := ⟨_, rfl⟩
  have i2 : A.x = A1.x := by rw [hA1]; rfl
  rw [← hA1, ← hS1] at d
  rw [← hS1] at c1 c2 c3 c4 c5 c6 c7
  rw [← hS1] at k
  simp only [i2] at d
  have w1 : v ∈ S1.ns := c1 ▸ hv
  have w2 : u ∈ S1.ns := c1 ▸ hu
  have w3 : u ∉ S1.nbr v := c4 ▸ vu
  have w4 : u ∈ S1.np := c2 ▸ hu'
  have w5 : v ∉ S1.pnb u := c5 ▸ uv'
  have w6 : (S1.nbr v).length < 100 := c4 ▸ l3
  have w7 : (S1.pnb u).length < 100 := c5 ▸ l4
  have w8 : ∀ x ∈ S1.nbr v, S1.ccw v x ∈ S1.nbr v := by rw [c4, c7]; exact hz
  dsimp only
  refine wpAny_execs_cons (wpAny_mono (Q := fun f s' => f = .next ∧ ∃ (h' : Heap) (tk : Nat) (rv : Value) (m' : Str → Option Value), s' = { s with heap := h', toks := tk } ∧ C prog w Tt (hide s.heap (Fp A S)) L h' (fun y => if y = Str.ofString "ref" then some rv else m' y) A1 S1 ∧ HR S1 v rv ∧ m' (Str.ofString "self") = some (.ref A1.x) ∧ m' (Str.ofString "v") = some (.int u t1) ∧ m' (Str.ofString "w") = some (.int v t2)) ?_ (fun f s' h => ?_) fun _ _ z => z)
  · tm_at "s6"
    (tm_at "s32"; tm_at "s7"; tm_at "v0"; tm_at "s10"; tm_at "v0"; tm_at "v3"; tm_at "v27"; tm_at "v33")
    rw [decide_eq_true w1]
    simp only [if_true]
    (tm_at "s32"; tm_at "s36"; tm_at "s9"; tm_at "s10"; tm_at "v0"; tm_at "v3"; tm_at "v0"; tm_at "v47"; tm_at "v38")
    cases hl : (S1.nbr v).getLast? with
    | none =>
      have ne := List.getLast?_eq_none_iff.mp hl
      rw [ne]
      simp only [List.isEmpty_nil, Bool.not_true, Bool.false_eq_true, if_false]
      (tm_at "s0"; tm_at "s2"; tm_at "s13"; tm_at "v1"; tm_at "s1")
      exact ⟨rfl, _, _, _, _, rfl, by assumption, .inl ⟨ne, rfl⟩, by with_unfolding_all rfl, by with_unfolding_all rfl, by with_unfolding_all rfl⟩
    | some l =>
      have ne : (S1.nbr v).isEmpty = false := by cases h : S1.nbr v with
        | nil => rw [h] at hl; cases hl
        | cons => rfl
      rw [ne]
      simp only [Bool.not_false, if_true]
      (tm_at "s34")
      simp only [if_true]
      (tm_at "s0"; tm_at "s2"; tm_at "s9"; tm_at "s21"; tm_at "v9"; tm_at "s23"; tm_at "s24"; tm_at "s9"; tm_at "s10"; tm_at "v0"; tm_at "v3"; tm_at "v0"; tm_at "v47"; tm_at "s25")
      refine list_inn hh (by tm_at "V") w1 fun h2 tk2 hk2 il => ?_
      have c2 := C.keeps (by assumption) hk2
      clear hk2
      (tm_at "s26"; tm_at "s14"; tm_at "v8")
      refine item_last il hl (fun t => ?_) (by tm_at "u")
      (tm_at "v1"; tm_at "s1")
      exact ⟨rfl, _, _, _, _, rfl, by assumption, .inr ⟨l, t, hl, rfl⟩, by with_unfolding_all rfl, by with_unfolding_all rfl, by with_unfolding_all rfl⟩
  obtain ⟨rfl, h4, tk4, rv2, m4, rfl, c', hr2, x1, x2, x3⟩ := h
  clear d
  (tm_at "s0"; tm_at "s17"; tm_at "s22"; tm_at "v0"; tm_at "v10"; tm_at "s23"; tm_at "s24"; tm_at "v0"; tm_at "s24"; tm_at "v0"; tm_at "s25"; tm_at "s27"; tm_at "v0"; tm_at "s28"; tm_at "s29")
  with_unfolding_all refine callR (sum825_conn c'.em c'.gd (by rw [depth_deeper]; omega) hh w1 w2 w3 w4 w5 w6 w7 w8 hr2 fun h3 tk3 D2 b2 => ⟨_, rfl, ?_⟩)
  (tm_at "s1")
  exact k _ _ _ (by rw [hA1]; rfl) (back_of (c'.back b2))
end
end Mine
end
section
set_option linter.all false
namespace Mine
def Nx (f g : Int → Int) (x y : Int) : Prop := f x = y ∧ g y = x
def Path (f g : Int → Int) : Int → List Int → Int → Prop
  | a, [], b => Nx f g a b
  | a, c :: r, b => Nx f g a c ∧ Path f g c r b
def Cyc (f g : Int → Int) : List Int → Prop
  | [] => True
  | a :: r => Path f g a r a
theorem Path.append {f g : Int → Int} : ∀ {r : List Int} {a c b : Int} {q : List Int}, Path f g a r c → Path f g c q b → Path f g a (r ++ c :: q) b
  | [], a, c, b, q, h1, h2 => ⟨h1, h2⟩
  | d :: r, a, c, b, q, h1, h2 => ⟨h1.1, h1.2.append h2⟩
theorem Path.split {f g : Int → Int} : ∀ {r : List Int} {a c b : Int} {q : List Int}, Path f g a (r ++ c :: q) b → Path f g a r c ∧ Path f g c q b
  | [], a, c, b, q, h => ⟨h.1, h.2⟩
  | d :: r, a, c, b, q, h => ⟨⟨h.1, h.2.split.1⟩, h.2.split.2⟩
theorem Path.congr {f g f' g' : Int → Int} : ∀ {r : List Int} {a b : Int}, Path f g a r b → (∀ x ∈ a :: r, f' x = f x) → (∀ x ∈ r ++ [b], g' x = g x) → Path f' g' a r b
  | [], a, b, h, hf, hg => ⟨(hf a (.head _)).trans h.1, (hg b (.head _)).trans h.2⟩
  | c :: r, a, b, h, hf, hg => ⟨⟨(hf a (.head _)).trans h.1.1, (hg c (.head _)).trans h.1.2⟩, h.2.congr (fun x hx => hf x (.tail _ hx)) (fun x hx => hg x (.tail _ hx))⟩
theorem Cyc.rot {f g : Int → Int} {a : Int} {r : List Int} (h : Cyc f g (a :: r)) : Cyc f g (r ++ [a]) := by
  cases r with
  | nil => exact h
  | cons b r => exact Path.append (q := []) h.2 h.1
theorem Cyc.swap {f g : Int → Int} : ∀ {l q : List Int}, Cyc f g (l ++ q) → Cyc f g (q ++ l)
  | [], q, h => by simpa using h
  | a :: l, q, h => by
    have := Cyc.rot (show Cyc f g (a :: (l ++ q)) from h)
    rw [List.append_assoc] at this
    have := Cyc.swap this
    simpa using this
theorem Path.last {f g : Int → Int} : ∀ {r : List Int} {a b : Int}, Path f g a r b → Nx f g ((a :: r).getLast (by simp)) b
  | [], a, b, h => h
  | c :: r, a, b, h => by
    have := h.2.last
    simpa using this
theorem Cyc.front {f g : Int → Int} {v x : Int} {r : List Int} (h : Cyc f g (x :: r)) (nd : (x :: r).Nodup) (hv : v ∉ x :: r) :
    Cyc (upd (upd f v x) (g x) v) (upd (upd g v (g x)) x v) (v :: x :: r) := by
  have hx : v ≠ x := fun q => hv (q ▸ .head _)
  obtain ⟨r', y, e⟩ : ∃ r' y, x :: r = r' ++ [y] := ⟨(x :: r).dropLast, (x :: r).getLast (by simp), (List.dropLast_concat_getLast _).symm⟩
  have hl := Path.last (show Path f g x r x from h)
  have hy : (x :: r).getLast (by simp) = y := by simp [e]
  rw [hy] at hl
  have gy : g x = y := hl.2
  have ym : y ∈ x :: r := by rw [e]; simp
  have vy : v ≠ y := fun q => hv (q ▸ ym)
  rw [gy]
  refine ⟨⟨?_, ?_⟩, ?_⟩
  · rw [upd_ne _ _ vy, upd_same]
  · rw [upd_same]
  · -- from x on to v
    cases r' with
    | nil =>
      obtain ⟨rfl, rfl⟩ : x = y ∧ r = [] := by simpa using e
      exact ⟨by rw [upd_same], by rw [upd_ne _ _ hx, upd_same]⟩
    | cons z r' =>
      obtain ⟨rfl, rfl⟩ : x = z ∧ r = r' ++ [y] := by simpa using e
      have sp := Path.split (r := r') (q := []) (show Path f g x (r' ++ [y]) x from h)
      have nd' : (x :: (r' ++ [y])).Nodup := nd
      have hxy : x ≠ y := fun q => (List.nodup_cons.mp nd').1 (by rw [q]; simp)
      have ynr : y ∉ r' := fun q => by
        have := (List.nodup_cons.mp nd').2
        rw [List.nodup_append] at this
        exact this.2.2 _ q _ (by simp) rfl
      refine Path.append (q := []) (c := y) ?_ ⟨by rw [upd_same], by rw [upd_ne _ _ hx, upd_same]⟩
      refine sp.1.congr (fun a ha => ?_) (fun a ha => ?_)
      · have h1 : a ≠ y := by rcases List.mem_cons.mp ha with rfl | q; exact hxy; exact fun z => ynr (z ▸ q)
        have h2 : a ≠ v := fun z => hv (by rw [← z]; rcases List.mem_cons.mp ha with rfl | q; exact .head _; exact .tail _ (List.mem_append_left _ q))
        rw [upd_ne _ _ h1, upd_ne _ _ h2]
      · have h1 : a ≠ x := by
          rintro rfl
          exact (List.nodup_cons.mp nd').1 ha
        have h2 : a ≠ v := fun z => hv (by rw [← z]; exact .tail _ ha)
        rw [upd_ne _ _ h1, upd_ne _ _ h2]
theorem Cyc.behind {f g : Int → Int} {v x : Int} {r : List Int} (h : Cyc f g (x :: r)) (nd : (x :: r).Nodup) (hv : v ∉ x :: r) :
    Cyc (upd (upd f v (f x)) x v) (upd (upd g v x) (f x) v) (x :: v :: r) := by
  have hx : v ≠ x := fun q => hv (q ▸ .head _)
  cases r with
  | nil =>
    have fx : f x = x := h.1
    rw [fx]
    exact ⟨⟨by rw [upd_same], by rw [upd_ne _ _ hx, upd_same]⟩, by rw [upd_ne _ _ hx, upd_same], by rw [upd_same]⟩
  | cons z r =>
    have fx : f x = z := h.1.1
    rw [fx]
    have vz : v ≠ z := fun q => hv (by rw [q]; simp)
    have nd1 := List.nodup_cons.mp nd
    have nd2 := List.nodup_cons.mp nd1.2
    refine ⟨⟨by rw [upd_same], by rw [upd_ne _ _ vz, upd_same]⟩, ⟨by rw [upd_ne _ _ hx, upd_same], by rw [upd_same]⟩, ?_⟩
    refine h.2.congr (fun a ha => ?_) (fun a ha => ?_)
    · have h1 : a ≠ x := fun q => nd1.1 (q ▸ ha)
      have h2 : a ≠ v := fun q => hv (q ▸ .tail _ ha)
      rw [upd_ne _ _ h1, upd_ne _ _ h2]
    · have h1 : a ≠ z := by
        rintro rfl
        rcases List.mem_append.mp ha with q | q
        · exact nd2.1 q
        · exact nd1.1 (by rw [← List.mem_singleton.mp q]; simp)
      have h2 : a ≠ v := by
        rintro rfl
        rcases List.mem_append.mp ha with q | q
        · exact hv (.tail _ (.tail _ q))
        · exact hx (List.mem_singleton.mp q)
      rw [upd_ne _ _ h1, upd_ne _ _ h2]
theorem Cyc.tail {f g : Int → Int} {v : Int} {r : List Int} (h : Cyc f g (v :: r)) (nd : (v :: r).Nodup) (hr : r ≠ []) :
    Cyc (upd f (g v) (f v)) (upd g (f v) (g v)) r := by
  have nd1 := List.nodup_cons.mp nd
  cases r with
  | nil => exact absurd rfl hr
  | cons z r =>
    have fv : f v = z := h.1.1
    have nd2 := List.nodup_cons.mp nd1.2
    obtain ⟨r', y, e⟩ : ∃ r' y, z :: r = r' ++ [y] := ⟨(z :: r).dropLast, (z :: r).getLast (by simp), (List.dropLast_concat_getLast _).symm⟩
    have hl := Path.last (show Path f g v (z :: r) v from h)
    have hy : (v :: z :: r).getLast (by simp) = y := by
      rw [List.getLast_cons (by simp)]; simp [e]
    rw [hy] at hl
    have gv : g v = y := hl.2
    rw [fv, gv]
    cases r' with
    | nil =>
      obtain ⟨rfl, rfl⟩ : z = y ∧ r = [] := by simpa using e
      exact ⟨by rw [upd_same], by rw [upd_same]⟩
    | cons z' r' =>
      obtain ⟨rfl, rfl⟩ : z = z' ∧ r = r' ++ [y] := by simpa using e
      have sp := Path.split (r := r') (q := []) h.2
      have hzy : z ≠ y := fun q => nd2.1 (by rw [q]; simp)
      have ynr : y ∉ r' := fun q => by
        have := nd2.2
        rw [List.nodup_append] at this
        exact this.2.2 _ q _ (by simp) rfl
      refine Path.append (q := []) (c := y) (sp.1.congr (fun a ha => ?_) (fun a ha => ?_)) ⟨by rw [upd_same], by rw [upd_same]⟩
      · rw [upd_ne]
        rcases List.mem_cons.mp ha with rfl | q
        · exact hzy
        · exact fun z => ynr (z ▸ q)
      · rw [upd_ne]
        rintro rfl
        exact nd2.1 ha
end Mine
end
section
set_option linter.all false
namespace Mine
structure Ok (S : ES) (ks : List Int) (R : Int → List Int) : Prop where
  nn : S.nn = ks
  ns : S.ns = ks
  np : S.np = ks
  nd : ks.Nodup
  few : ks.length ≤ 50
  perm : ∀ u ∈ ks, (R u).Perm (S.nbr u)
  cyc : ∀ u ∈ ks, Cyc (S.cw u) (S.ccw u) (R u)
  rnd : ∀ u ∈ ks, (R u).Nodup
  sub : ∀ u ∈ ks, ∀ v ∈ R u, v ∈ ks ∧ v ≠ u
  pnb : ∀ u ∈ ks, ∀ v, v ∈ S.pnb u ↔ v ∈ ks ∧ u ∈ R v
  pnd : ∀ u ∈ ks, (S.pnb u).Nodup
def Sym (ks : List Int) (R : Int → List Int) : Prop := ∀ u ∈ ks, ∀ v ∈ R u, u ∈ R v
variable {S : ES} {ks : List Int} {R : Int → List Int}
theorem Ok.mem (o : Ok S ks R) {u v : Int} (hu : u ∈ ks) : v ∈ S.nbr u ↔ v ∈ R u := (o.perm u hu).mem_iff.symm
theorem Ok.nnd (o : Ok S ks R) {u : Int} (hu : u ∈ ks) : (S.nbr u).Nodup := (o.perm u hu).nodup_iff.mp (o.rnd u hu)
theorem nodup_sub_len {l ks : List Int} (nd : l.Nodup) (h : ∀ x ∈ l, x ∈ ks) : l.length ≤ ks.length := by
  induction l generalizing ks with
  | nil => simp
  | cons a r ih =>
    have ha := h a (.head _)
    have := ih (ks := ks.erase a) (List.nodup_cons.mp nd).2 fun x hx => (List.mem_erase_of_ne fun z => (List.nodup_cons.mp nd).1 (by rw [← z]; exact hx)).mpr (h x (.tail _ hx))
    rw [List.length_erase_of_mem ha] at this
    have : 0 < ks.length := List.length_pos_of_mem ha
    simp; omega
theorem Ok.len (o : Ok S ks R) {u : Int} (hu : u ∈ ks) : (S.nbr u).length ≤ 50 := by
  rw [← (o.perm u hu).length_eq]
  exact Nat.le_trans (nodup_sub_len (o.rnd u hu) fun x hx => (o.sub u hu x hx).1) o.few
theorem Ok.plen (o : Ok S ks R) {u : Int} (hu : u ∈ ks) : (S.pnb u).length ≤ 50 :=
  Nat.le_trans (nodup_sub_len (o.pnd u hu) fun x hx => ((o.pnb u hu x).mp hx).1) o.few
theorem split_at {l : List Int} {x : Int} (h : x ∈ l) : ∃ p q, l = p ++ x :: q := List.append_of_mem h
theorem nodup_mid {p q : List Int} {x : Int} (h : (p ++ x :: q).Nodup) : (x :: (q ++ p)).Nodup := (List.perm_append_comm (l₁ := p) (l₂ := x :: q)).nodup_iff.mp h
theorem Ok.ring (o : Ok S ks R) {u x : Int} {p q : List Int} (hu : u ∈ ks) (e : R u = p ++ x :: q) : Cyc (S.cw u) (S.ccw u) (x :: (q ++ p)) := by
  have := o.cyc u hu
  rw [e] at this
  exact this.swap
theorem Cyc.in_f {f g : Int → Int} {x : Int} {r : List Int} (h : Cyc f g (x :: r)) : f x ∈ x :: r ∧ g x ∈ x :: r := by
  refine ⟨?_, ?_⟩
  · cases r with
    | nil => have := h.1; rw [this]; exact .head _
    | cons z r => have := h.1.1; rw [this]; simp
  · have hl := Path.last (show Path f g x r x from h)
    rw [hl.2]
    exact List.getLast_mem _
theorem Ok.next (o : Ok S ks R) {u x : Int} (hu : u ∈ ks) (hx : x ∈ R u) : S.cw u x ∈ R u ∧ S.ccw u x ∈ R u := by
  obtain ⟨p, q, e⟩ := split_at hx
  obtain ⟨h1, h2⟩ := (o.ring hu e).in_f
  have mm : ∀ y, y ∈ x :: (q ++ p) → y ∈ R u := fun y hy => by rw [e]; simpa [or_assoc, or_comm, or_left_comm] using hy
  exact ⟨mm _ h1, mm _ h2⟩
theorem Cyc.one {f g : Int → Int} {x : Int} {r : List Int} (h : Cyc f g (x :: r)) (nd : (x :: r).Nodup) : (x = f x ↔ r = []) ∧ (g x = x ↔ r = []) := by
  constructor
  · constructor
    · intro e
      cases r with
      | nil => rfl
      | cons z r => have := h.1.1; rw [← e] at this; exact absurd (this ▸ .head _) (List.nodup_cons.mp nd).1
    · rintro rfl
      exact h.1.symm
  · constructor
    · intro e
      have hl := Path.last (show Path f g x r x from h)
      rw [hl.2] at e
      cases r with
      | nil => rfl
      | cons z r =>
        exfalso
        have hm : (x :: z :: r).getLast (by simp) ∈ z :: r := by rw [List.getLast_cons (by simp)]; exact List.getLast_mem _
        rw [e] at hm
        exact (List.nodup_cons.mp nd).1 hm
    · rintro rfl
      exact h.2
theorem Ok.rot (o : Ok S ks R) {u : Int} {p q : List Int} (e : R u = p ++ q) : Ok S ks (upd R u (q ++ p)) := by
  have pe : (q ++ p).Perm (R u) := by rw [e]; exact List.perm_append_comm
  have mm : ∀ a v, v ∈ upd R u (q ++ p) a ↔ v ∈ R a := fun a v => by
    by_cases h : a = u
    · subst h; rw [upd_same]; exact pe.mem_iff
    · rw [upd_ne _ _ h]
  refine { o with perm := fun a ha => ?_, cyc := fun a ha => ?_, rnd := fun a ha => ?_, sub := fun a ha v hv => o.sub a ha v ((mm a v).mp hv), pnb := fun a ha v => ?_ }
  · by_cases h : a = u
    · subst h; rw [upd_same]; exact pe.trans (o.perm a ha)
    · rw [upd_ne _ _ h]; exact o.perm a ha
  · by_cases h : a = u
    · subst h; rw [upd_same]; have := o.cyc a ha; rw [e] at this; exact this.swap
    · rw [upd_ne _ _ h]; exact o.cyc a ha
  · by_cases h : a = u
    · subst h; rw [upd_same]; exact pe.nodup_iff.mpr (o.rnd a ha)
    · rw [upd_ne _ _ h]; exact o.rnd a ha
  · rw [mm]; exact o.pnb a ha v
theorem Ok.ins (o : Ok S ks R) {u v : Int} {row : List Int} {S' : ES} (hu : u ∈ ks) (hv : v ∈ ks) (ne : v ≠ u) (uv : v ∉ R u) (hr : row.Perm (v :: R u))
    (h1 : S'.nn = S.nn) (h2 : S'.ns = S.ns) (h3 : S'.np = S.np) (h4 : (S'.nbr u).Perm (v :: S.nbr u)) (h5 : ∀ a, a ≠ u → S'.nbr a = S.nbr a) (h6 : S'.pnb v = S.pnb v ++ [u]) (h7 : ∀ a, a ≠ v → S'.pnb a = S.pnb a)
    (h8 : ∀ a, a ≠ u → S'.cw a = S.cw a ∧ S'.ccw a = S.ccw a) (h9 : Cyc (S'.cw u) (S'.ccw u) row) : Ok S' ks (upd R u row) := by
  have nd : (v :: R u).Nodup := List.nodup_cons.mpr ⟨uv, o.rnd u hu⟩
  refine ⟨h1.trans o.nn, h2.trans o.ns, h3.trans o.np, o.nd, o.few, fun a ha => ?_, fun a ha => ?_, fun a ha => ?_, fun a ha b hb => ?_, fun a ha b => ?_, fun a ha => ?_⟩
  · by_cases h : a = u
    · subst h; rw [upd_same]; exact hr.trans (((o.perm a ha).cons v).trans h4.symm)
    · rw [upd_ne _ _ h, h5 a h]; exact o.perm a ha
  · by_cases h : a = u
    · subst h; rw [upd_same]; exact h9
    · rw [upd_ne _ _ h, (h8 a h).1, (h8 a h).2]; exact o.cyc a ha
  · by_cases h : a = u
    · subst h; rw [upd_same]; exact hr.nodup_iff.mpr nd
    · rw [upd_ne _ _ h]; exact o.rnd a ha
  · by_cases h : a = u
    · subst h
      rw [upd_same] at hb
      rcases List.mem_cons.mp (hr.mem_iff.mp hb) with rfl | q
      · exact ⟨hv, ne⟩
      · exact o.sub a ha b q
    · rw [upd_ne _ _ h] at hb; exact o.sub a ha b hb
  · have mm : ∀ b c, c ∈ upd R u row b ↔ (c ∈ R b ∨ (b = u ∧ c = v)) := fun b c => by
      by_cases h : b = u
      · subst h; rw [upd_same, hr.mem_iff, List.mem_cons]; constructor
        · rintro (q | q); exact .inr ⟨rfl, q⟩; exact .inl q
        · rintro (q | ⟨_, q⟩); exact .inr q; exact .inl q
      · rw [upd_ne _ _ h]; simp [h]
    rw [mm]
    by_cases h : a = v
    · subst h
      rw [h6, List.mem_append, List.mem_singleton, o.pnb a ha b]
      constructor
      · rintro (⟨q1, q2⟩ | rfl)
        · exact ⟨q1, .inl q2⟩
        · exact ⟨hu, .inr ⟨rfl, rfl⟩⟩
      · rintro ⟨q1, q2 | ⟨rfl, _⟩⟩
        · exact .inl ⟨q1, q2⟩
        · exact .inr rfl
    · rw [h7 a h, o.pnb a ha b]
      simp [h]
  · by_cases h : a = v
    · subst h
      rw [h6]
      refine List.nodup_append.mpr ⟨o.pnd a ha, by simp, fun x hx y hy => ?_⟩
      rw [List.mem_singleton.mp hy]
      rintro rfl
      exact uv ((o.pnb a ha x).mp hx).2
    · rw [h7 a h]; exact o.pnd a ha
theorem perm_del {l : List Int} {x : Int} (nd : l.Nodup) (h : x ∈ l) : (del l x ++ [x]).Perm l := by
  have e : del l x = l.erase x := by unfold del; rw [List.Nodup.erase_eq_filter nd]; congr 1; funext a; by_cases h : a = x <;> simp [h]
  rw [e]
  exact (List.perm_append_comm.trans (List.perm_cons_erase h).symm)
theorem Ok.insCw (o : Ok S ks R) {u v x l : Int} {p q : List Int} (hu : u ∈ ks) (hv : v ∈ ks) (ne : v ≠ u) (uv : v ∉ R u) (e : R u = p ++ x :: q) (hl : l ∈ R u) : Ok (S.insCw u v x l) ks (upd R u (p ++ v :: x :: q)) := by
  have nd := nodup_mid (e ▸ o.rnd u hu)
  have hv' : v ∉ x :: (q ++ p) := fun h => uv (by rw [e]; simpa [or_assoc, or_comm, or_left_comm] using h)
  have ring := (o.ring hu e).front nd hv'
  have n1 : (S.nbr u ++ [v]).Nodup := List.nodup_append.mpr ⟨o.nnd hu, by simp, fun a ha b hb => by rw [List.mem_singleton.mp hb]; rintro rfl; exact uv ((o.mem hu).mp ha)⟩
  refine o.ins hu hv ne uv (by rw [e]; exact List.perm_middle) ?_ ?_ ?_ ?_ ?_ ?_ ?_ ?_ ?_
  · unfold ES.insCw; split <;> rfl
  · unfold ES.insCw; split <;> rfl
  · unfold ES.insCw; split <;> rfl
  · unfold ES.insCw
    split
    · have : ((((S.addNbr u v x (S.ccw u x)).addPnb v u).setCw u (S.ccw u x) v).setCcw u x v).nbr u = S.nbr u ++ [v] := by simp [ES.addNbr, ES.addPnb, ES.setCw, ES.setCcw]
      simp only [ES.moveEnd, upd_same, this]
      exact (perm_del n1 (List.mem_append_left _ ((o.mem hu).mpr hl))).trans (List.perm_append_comm (l₁ := S.nbr u) (l₂ := [v]))
    · simp only [ES.addNbr, ES.addPnb, ES.setCw, ES.setCcw, upd_same]
      exact List.perm_append_comm (l₁ := S.nbr u) (l₂ := [v])
  · intro a h; unfold ES.insCw; split <;> simp [ES.addNbr, ES.addPnb, ES.setCw, ES.setCcw, ES.moveEnd, upd_ne _ _ h]
  · unfold ES.insCw; split <;> simp [ES.addNbr, ES.addPnb, ES.setCw, ES.setCcw, ES.moveEnd]
  · intro a h; unfold ES.insCw; split <;> simp [ES.addNbr, ES.addPnb, ES.setCw, ES.setCcw, ES.moveEnd, upd_ne _ _ h]
  · intro a h; unfold ES.insCw; split <;> simp [ES.addNbr, ES.addPnb, ES.setCw, ES.setCcw, ES.moveEnd, upd_ne _ _ h]
  · have e1 : (S.insCw u v x l).cw u = upd (upd (S.cw u) v x) (S.ccw u x) v := by unfold ES.insCw; split <;> simp [ES.addNbr, ES.addPnb, ES.setCw, ES.setCcw, ES.moveEnd]
    have e2 : (S.insCw u v x l).ccw u = upd (upd (S.ccw u) v (S.ccw u x)) x v := by unfold ES.insCw; split <;> simp [ES.addNbr, ES.addPnb, ES.setCw, ES.setCcw, ES.moveEnd]
    rw [e1, e2]
    exact Cyc.swap (l := v :: x :: q) (q := p) ring
theorem Ok.insCcw (o : Ok S ks R) {u v x l : Int} {p q : List Int} (hu : u ∈ ks) (hv : v ∈ ks) (ne : v ≠ u) (uv : v ∉ R u) (e : R u = p ++ x :: q) (hl : l ∈ R u) : Ok (S.insCcw u v x l) ks (upd R u (p ++ x :: v :: q)) := by
  have nd := nodup_mid (e ▸ o.rnd u hu)
  have hv' : v ∉ x :: (q ++ p) := fun h => uv (by rw [e]; simpa [or_assoc, or_comm, or_left_comm] using h)
  have ring := (o.ring hu e).behind nd hv'
  have n1 : (S.nbr u ++ [v]).Nodup := List.nodup_append.mpr ⟨o.nnd hu, by simp, fun a ha b hb => by rw [List.mem_singleton.mp hb]; rintro rfl; exact uv ((o.mem hu).mp ha)⟩
  have pr : (p ++ x :: v :: q).Perm (v :: R u) := by
    rw [e]
    have : (p ++ x :: v :: q) = (p ++ [x]) ++ v :: q := by simp
    rw [this]
    have e2 : v :: (p ++ x :: q) = v :: ((p ++ [x]) ++ q) := by simp
    rw [e2]
    exact List.perm_middle
  refine o.ins hu hv ne uv pr rfl rfl rfl ?_ ?_ ?_ ?_ ?_ ?_
  · unfold ES.insCcw
    have : ((((S.addNbr u v (S.cw u x) x).addPnb v u).setCcw u (S.cw u x) v).setCw u x v).nbr u = S.nbr u ++ [v] := by simp [ES.addNbr, ES.addPnb, ES.setCw, ES.setCcw]
    simp only [ES.moveEnd, upd_same, this]
    exact (perm_del n1 (List.mem_append_left _ ((o.mem hu).mpr hl))).trans (List.perm_append_comm (l₁ := S.nbr u) (l₂ := [v]))
  · intro a h; simp [ES.insCcw, ES.addNbr, ES.addPnb, ES.setCw, ES.setCcw, ES.moveEnd, upd_ne _ _ h]
  · simp [ES.insCcw, ES.addNbr, ES.addPnb, ES.setCw, ES.setCcw, ES.moveEnd]
  · intro a h; simp [ES.insCcw, ES.addNbr, ES.addPnb, ES.setCw, ES.setCcw, ES.moveEnd, upd_ne _ _ h]
  · intro a h; simp [ES.insCcw, ES.addNbr, ES.addPnb, ES.setCw, ES.setCcw, ES.moveEnd, upd_ne _ _ h]
  · have e1 : (S.insCcw u v x l).cw u = upd (upd (S.cw u) v (S.cw u x)) x v := by simp [ES.insCcw, ES.addNbr, ES.addPnb, ES.setCw, ES.setCcw, ES.moveEnd]
    have e2 : (S.insCcw u v x l).ccw u = upd (upd (S.ccw u) v x) (S.cw u x) v := by simp [ES.insCcw, ES.addNbr, ES.addPnb, ES.setCw, ES.setCcw, ES.moveEnd]
    rw [e1, e2]
    exact Cyc.swap (l := x :: v :: q) (q := p) ring
theorem Ok.insFirst (o : Ok S ks R) {u v : Int} (hu : u ∈ ks) (hv : v ∈ ks) (ne : v ≠ u) (e : R u = []) : Ok (S.insFirst u v) ks (upd R u [v]) := by
  refine o.ins hu hv ne (by rw [e]; simp) (by rw [e]) rfl rfl rfl ?_ ?_ ?_ ?_ ?_ ?_
  · simp only [ES.insFirst, ES.addNbr, ES.addPnb, upd_same]; exact List.perm_append_comm (l₁ := S.nbr u) (l₂ := [v])
  · intro a h; simp [ES.insFirst, ES.addNbr, ES.addPnb, upd_ne _ _ h]
  · simp [ES.insFirst, ES.addNbr, ES.addPnb]
  · intro a h; simp [ES.insFirst, ES.addNbr, ES.addPnb, upd_ne _ _ h]
  · intro a h; simp [ES.insFirst, ES.addNbr, ES.addPnb, upd_ne _ _ h]
  · exact ⟨by simp [ES.insFirst, ES.addNbr, ES.addPnb], by simp [ES.insFirst, ES.addNbr, ES.addPnb]⟩
end Mine
end
section
set_option linter.all false
set_option maxHeartbeats 4000000
namespace Mine
variable {S : ES} {ks : List Int} {R : Int → List Int}
theorem del_mid {p q : List Int} {x : Int} (nd : (p ++ x :: q).Nodup) : del (p ++ x :: q) x = p ++ q := by
  have h := List.nodup_append.mp nd
  have h2 := List.nodup_cons.mp h.2.1
  have e1 : del p x = p := by unfold del; refine List.filter_eq_self.mpr fun a ha => ?_; simpa using h.2.2 a ha x (.head _)
  have e2 : del q x = q := by
    unfold del
    refine List.filter_eq_self.mpr fun a ha => ?_
    have : a ≠ x := by rintro rfl; exact h2.1 ha
    simpa using this
  have : del (p ++ x :: q) x = del p x ++ del q x := by unfold del; rw [List.filter_append, List.filter_cons]; simp
  rw [this, e1, e2]
theorem del_none {l : List Int} {x : Int} (h : x ∉ l) : del l x = l := by
  unfold del; refine List.filter_eq_self.mpr fun a ha => ?_
  have : a ≠ x := by rintro rfl; exact h ha
  simpa using this
theorem del_nodup {l : List Int} {x : Int} (h : l.Nodup) : (del l x).Nodup := h.filter _
theorem del_perm {l l' : List Int} {x : Int} (h : l.Perm l') : (del l x).Perm (del l' x) := h.filter _
theorem Ok.ringDel (o : Ok S ks R) {u v : Int} (hu : u ∈ ks) (hv : v ∈ R u) :
    (v = S.cw u v → del (R u) v = []) ∧ (v ≠ S.cw u v → Cyc (upd (S.cw u) (S.ccw u v) (S.cw u v)) (upd (S.ccw u) (S.cw u v) (S.ccw u v)) (del (R u) v) ∧ S.ccw u v ≠ v) := by
  obtain ⟨p, q, e⟩ := split_at hv
  have nd := nodup_mid (e ▸ o.rnd u hu)
  have ring := o.ring hu e
  have d : del (R u) v = p ++ q := by rw [e]; exact del_mid (e ▸ o.rnd u hu)
  obtain ⟨o1, o2⟩ := ring.one nd
  rw [d]
  refine ⟨fun h => ?_, fun h => ?_⟩
  · have := o1.mp h
    have := List.append_eq_nil_iff.mp this
    rw [this.1, this.2]; rfl
  · have hr : q ++ p ≠ [] := fun z => h (o1.mpr z)
    exact ⟨(ring.tail nd hr).swap, fun z => hr (o2.mp z)⟩
theorem Ok.rmEdge (o : Ok S ks R) {u v : Int} (hu : u ∈ ks) (hv : v ∈ ks) (ne : u ≠ v) (uv : v ∈ R u) (vu : u ∈ R v) : Ok (S.rmEdge u v) ks (upd (upd R u (del (R u) v)) v (del (R v) u)) := by
  have nn : (S.rmEdge u v).nn = S.nn ∧ (S.rmEdge u v).ns = S.ns ∧ (S.rmEdge u v).np = S.np := by unfold ES.rmEdge; split <;> split <;> exact ⟨rfl, rfl, rfl⟩
  have nu : (S.rmEdge u v).nbr u = del (S.nbr u) v ∧ (S.rmEdge u v).pnb u = del (S.pnb u) v := by
    unfold ES.rmEdge; split <;> split <;> simp [ES.rm4, ES.link, ES.setCw, ES.setCcw, ES.delNbr, ES.delPnb, upd, ne, ne.symm]
  have nv : (S.rmEdge u v).nbr v = del (S.nbr v) u ∧ (S.rmEdge u v).pnb v = del (S.pnb v) u := by
    unfold ES.rmEdge; split <;> split <;> simp [ES.rm4, ES.link, ES.setCw, ES.setCcw, ES.delNbr, ES.delPnb, upd, ne, ne.symm]
  have oth : ∀ a, a ≠ u → a ≠ v → (S.rmEdge u v).nbr a = S.nbr a ∧ (S.rmEdge u v).pnb a = S.pnb a ∧ (S.rmEdge u v).cw a = S.cw a ∧ (S.rmEdge u v).ccw a = S.ccw a := fun a h1 h2 => by
    unfold ES.rmEdge; split <;> split <;> simp [ES.rm4, ES.link, ES.setCw, ES.setCcw, ES.delNbr, ES.delPnb, upd, h1, h2]
  have cu : v ≠ S.cw u v → (S.rmEdge u v).cw u = upd (S.cw u) (S.ccw u v) (S.cw u v) ∧ (S.rmEdge u v).ccw u = upd (S.ccw u) (S.cw u v) (S.ccw u v) := fun h => by
    have h' : (v != S.cw u v) = true := by simpa using h
    unfold ES.rmEdge
    rw [h']
    simp only [if_true]
    split <;> simp [ES.rm4, ES.link, ES.setCw, ES.setCcw, ES.delNbr, ES.delPnb, upd_same, upd_ne _ _ ne]
  have cv : u ≠ S.cw v u → (S.rmEdge u v).cw v = upd (S.cw v) (S.ccw v u) (S.cw v u) ∧ (S.rmEdge u v).ccw v = upd (S.ccw v) (S.cw v u) (S.ccw v u) := fun h => by
    have h' : (u != S.cw v u) = true := by simpa using h
    unfold ES.rmEdge
    rw [h']
    simp only [if_true]
    split <;> simp [ES.rm4, ES.link, ES.setCw, ES.setCcw, ES.delNbr, ES.delPnb, upd_same, upd_ne _ _ ne.symm]
  have ru : upd (upd R u (del (R u) v)) v (del (R v) u) u = del (R u) v := by rw [upd_ne _ _ ne, upd_same]
  have rv : upd (upd R u (del (R u) v)) v (del (R v) u) v = del (R v) u := by rw [upd_same]
  have ra : ∀ a, a ≠ u → a ≠ v → upd (upd R u (del (R u) v)) v (del (R v) u) a = R a := fun a h1 h2 => by rw [upd_ne _ _ h2, upd_ne _ _ h1]
  obtain ⟨d1, d2⟩ := o.ringDel hu uv
  obtain ⟨d3, d4⟩ := o.ringDel hv vu
  have three : ∀ a, a = u ∨ a = v ∨ (a ≠ u ∧ a ≠ v) := fun a => by
    by_cases h1 : a = u
    · exact .inl h1
    · by_cases h2 : a = v
      · exact .inr (.inl h2)
      · exact .inr (.inr ⟨h1, h2⟩)
  refine ⟨nn.1.trans o.nn, nn.2.1.trans o.ns, nn.2.2.trans o.np, o.nd, o.few, fun a ha => ?_, fun a ha => ?_, fun a ha => ?_, fun a ha b hb => ?_, fun a ha b => ?_, fun a ha => ?_⟩
  · rcases three a with rfl | rfl | ⟨h1, h2⟩
    · rw [ru, nu.1]; exact del_perm (o.perm a ha)
    · rw [rv, nv.1]; exact del_perm (o.perm a ha)
    · rw [ra a h1 h2, (oth a h1 h2).1]; exact o.perm a ha
  · rcases three a with rfl | rfl | ⟨h1, h2⟩
    · rw [ru]
      by_cases q : v = S.cw a v
      · rw [d1 q]; trivial
      · rw [(cu q).1, (cu q).2]; exact (d2 q).1
    · rw [rv]
      by_cases q : u = S.cw a u
      · rw [d3 q]; trivial
      · rw [(cv q).1, (cv q).2]; exact (d4 q).1
    · rw [ra a h1 h2, (oth a h1 h2).2.2.1, (oth a h1 h2).2.2.2]; exact o.cyc a ha
  · rcases three a with rfl | rfl | ⟨h1, h2⟩
    · rw [ru]; exact del_nodup (o.rnd a ha)
    · rw [rv]; exact del_nodup (o.rnd a ha)
    · rw [ra a h1 h2]; exact o.rnd a ha
  · rcases three a with rfl | rfl | ⟨h1, h2⟩
    · rw [ru] at hb; exact o.sub a ha b (mem_del.mp hb).1
    · rw [rv] at hb; exact o.sub a ha b (mem_del.mp hb).1
    · rw [ra a h1 h2] at hb; exact o.sub a ha b hb
  · rcases three a with rfl | rfl | ⟨h1, h2⟩
    · rw [nu.2, mem_del, o.pnb a ha b]
      rcases three b with rfl | rfl | ⟨g1, g2⟩
      · rw [ru, mem_del]; constructor
        · rintro ⟨⟨q1, q2⟩, q3⟩; exact ⟨q1, q2, ne⟩
        · rintro ⟨q1, q2, _⟩; exact ⟨⟨q1, q2⟩, ne⟩
      · rw [rv, mem_del]; constructor
        · rintro ⟨_, q3⟩; exact absurd rfl q3
        · rintro ⟨_, _, q3⟩; exact absurd rfl q3
      · rw [ra b g1 g2]; constructor
        · rintro ⟨q, _⟩; exact q
        · intro q; exact ⟨q, g2⟩
    · rw [nv.2, mem_del, o.pnb a ha b]
      rcases three b with rfl | rfl | ⟨g1, g2⟩
      · rw [ru, mem_del]; constructor
        · rintro ⟨_, q3⟩; exact absurd rfl q3
        · rintro ⟨_, _, q3⟩; exact absurd rfl q3
      · rw [rv, mem_del]; constructor
        · rintro ⟨⟨q1, q2⟩, q3⟩; exact ⟨q1, q2, ne.symm⟩
        · rintro ⟨q1, q2, _⟩; exact ⟨⟨q1, q2⟩, ne.symm⟩
      · rw [ra b g1 g2]; constructor
        · rintro ⟨q, _⟩; exact q
        · intro q; exact ⟨q, g1⟩
    · rw [(oth a h1 h2).2.1, o.pnb a ha b]
      rcases three b with rfl | rfl | ⟨g1, g2⟩
      · rw [ru, mem_del]; simp [h2]
      · rw [rv, mem_del]; simp [h1]
      · rw [ra b g1 g2]
  · rcases three a with rfl | rfl | ⟨h1, h2⟩
    · rw [nu.2]; exact del_nodup (o.pnd a ha)
    · rw [nv.2]; exact del_nodup (o.pnd a ha)
    · rw [(oth a h1 h2).2.1]; exact o.pnd a ha
theorem Sym.rmEdge {u v : Int} (y : Sym ks R) (ne : u ≠ v) : Sym ks (upd (upd R u (del (R u) v)) v (del (R v) u)) := by
  intro a ha b hb
  by_cases h1 : a = v
  · subst h1
    rw [upd_same] at hb
    obtain ⟨q1, q2⟩ := mem_del.mp hb
    have := y a ha b q1
    by_cases g1 : b = a
    · subst g1; rw [upd_same]; exact mem_del.mpr ⟨this, q2⟩
    · rw [upd_ne _ _ g1]
      rw [upd_ne _ _ q2]; exact this
  · rw [upd_ne _ _ h1] at hb
    by_cases h2 : a = u
    · subst h2
      rw [upd_same] at hb
      obtain ⟨q1, q2⟩ := mem_del.mp hb
      have := y a ha b q1
      rw [upd_ne _ _ q2]
      by_cases g1 : b = a
      · subst g1; rw [upd_same]; exact mem_del.mpr ⟨this, ne⟩
      · rw [upd_ne _ _ g1]; exact this
    · rw [upd_ne _ _ h2] at hb
      have := y a ha b hb
      by_cases g1 : b = v
      · subst g1; rw [upd_same]; exact mem_del.mpr ⟨this, h2⟩
      · rw [upd_ne _ _ g1]
        by_cases g2 : b = u
        · subst g2; rw [upd_same]; exact mem_del.mpr ⟨this, h1⟩
        · rw [upd_ne _ _ g2]; exact this
theorem rmTo_at (S T : ES) {a n : Int} (h1 : T.nbr a = S.nbr a) (h2 : T.pnb a = S.pnb a) (h3 : T.cw a = S.cw a) (h4 : T.ccw a = S.ccw a) :
    (T.rmTo a n).nbr a = (S.rmTo a n).nbr a ∧ (T.rmTo a n).pnb a = (S.rmTo a n).pnb a ∧ (T.rmTo a n).cw a = (S.rmTo a n).cw a ∧ (T.rmTo a n).ccw a = (S.rmTo a n).ccw a := by
  unfold ES.rmTo
  rw [h3, h4]
  split <;> simp [ES.rm2, ES.link, ES.setCw, ES.setCcw, ES.delNbr, ES.delPnb, h1, h2, h3, h4]
theorem rmAll_at {n a : Int} : ∀ {l : List Int} (S : ES), l.Nodup → a ∈ l → (S.rmAll n l).nbr a = (S.rmTo a n).nbr a ∧ (S.rmAll n l).pnb a = (S.rmTo a n).pnb a ∧ (S.rmAll n l).cw a = (S.rmTo a n).cw a ∧ (S.rmAll n l).ccw a = (S.rmTo a n).ccw a
  | [], S, _, h => by cases h
  | b :: r, S, nd, h => by
    have nd' := List.nodup_cons.mp nd
    show ((S.rmTo b n).rmAll n r).nbr a = _ ∧ ((S.rmTo b n).rmAll n r).pnb a = _ ∧ ((S.rmTo b n).rmAll n r).cw a = _ ∧ ((S.rmTo b n).rmAll n r).ccw a = _
    by_cases q : a = b
    · subst q
      exact (S.rmTo a n).rmAll_other nd'.1
    · have hm := (List.mem_cons.mp h).resolve_left q
      obtain ⟨e1, e2, e3, e4⟩ := rmAll_at (n := n) (S.rmTo b n) nd'.2 hm
      obtain ⟨o1, o2, o3, o4⟩ := S.rmTo_other (u := b) (n := n) q
      obtain ⟨f1, f2, f3, f4⟩ := rmTo_at S (S.rmTo b n) (n := n) o1 o2 o3 o4
      exact ⟨e1.trans f1, e2.trans f2, e3.trans f3, e4.trans f4⟩
theorem Ok.rmNode (o : Ok S ks R) (y : Sym ks R) {n : Int} (hn : n ∈ ks) : Ok (S.rmNode n) (del ks n) (fun a => del (R a) n) := by
  obtain ⟨k1, k2, k3⟩ := S.rmAll_keys n (S.pnb n)
  have e1 : ∀ a, (S.rmNode n).nbr a = (S.rmAll n (S.pnb n)).nbr a ∧ (S.rmNode n).pnb a = (S.rmAll n (S.pnb n)).pnb a ∧ (S.rmNode n).cw a = (S.rmAll n (S.pnb n)).cw a ∧ (S.rmNode n).ccw a = (S.rmAll n (S.pnb n)).ccw a := fun a => ⟨rfl, rfl, rfl, rfl⟩
  have there : ∀ a, n ∈ R a → a ∈ ks → a ∈ S.pnb n := fun a h ha => (o.pnb n hn a).mpr ⟨ha, h⟩
  have at1 : ∀ a ∈ ks, a ≠ n → n ∈ R a → (S.rmNode n).nbr a = del (S.nbr a) n ∧ (S.rmNode n).pnb a = del (S.pnb a) n ∧
      (n ≠ S.cw a n → (S.rmNode n).cw a = upd (S.cw a) (S.ccw a n) (S.cw a n) ∧ (S.rmNode n).ccw a = upd (S.ccw a) (S.cw a n) (S.ccw a n)) := fun a ha hne h => by
    obtain ⟨f1, f2, f3, f4⟩ := rmAll_at (n := n) S (o.pnd n hn) (there a h ha)
    obtain ⟨g1, g2, g3, g4⟩ := e1 a
    rw [g1, g2, g3, g4, f1, f2, f3, f4]
    refine ⟨?_, ?_, fun q => ?_⟩
    · unfold ES.rmTo; split <;> simp [ES.rm2, ES.link, ES.setCw, ES.setCcw, ES.delNbr, ES.delPnb]
    · unfold ES.rmTo; split <;> simp [ES.rm2, ES.link, ES.setCw, ES.setCcw, ES.delNbr, ES.delPnb]
    · have q' : (n != S.cw a n) = true := by simpa using q
      unfold ES.rmTo
      rw [q']
      simp [ES.rm2, ES.link, ES.setCw, ES.setCcw, ES.delNbr, ES.delPnb]
  have at2 : ∀ a ∈ ks, n ∉ R a → (S.rmNode n).nbr a = S.nbr a ∧ (S.rmNode n).pnb a = S.pnb a ∧ (S.rmNode n).cw a = S.cw a ∧ (S.rmNode n).ccw a = S.ccw a := fun a ha h => by
    have : a ∉ S.pnb n := fun q => h ((o.pnb n hn a).mp q).2
    obtain ⟨f1, f2, f3, f4⟩ := S.rmAll_other (n := n) this
    obtain ⟨g1, g2, g3, g4⟩ := e1 a
    exact ⟨g1.trans f1, g2.trans f2, g3.trans f3, g4.trans f4⟩
  refine ⟨?_, ?_, ?_, del_nodup o.nd, Nat.le_trans (del_length_le _ _) o.few, fun a ha => ?_, fun a ha => ?_, fun a ha => del_nodup (o.rnd a (mem_del.mp ha).1), fun a ha b hb => ?_, fun a ha b => ?_, fun a ha => ?_⟩
  · show del (S.rmAll n (S.pnb n)).nn n = _; rw [k1, o.nn]
  · show del (S.rmAll n (S.pnb n)).ns n = _; rw [k2, o.ns]
  · show del (S.rmAll n (S.pnb n)).np n = _; rw [k3, o.np]
  · obtain ⟨ha, hne⟩ := mem_del.mp ha
    by_cases q : n ∈ R a
    · rw [(at1 a ha hne q).1]; exact del_perm (o.perm a ha)
    · show (del (R a) n).Perm _; rw [(at2 a ha q).1, del_none q]; exact o.perm a ha
  · obtain ⟨ha, hne⟩ := mem_del.mp ha
    show Cyc _ _ (del (R a) n)
    by_cases q : n ∈ R a
    · obtain ⟨d1, d2⟩ := o.ringDel ha q
      by_cases z : n = S.cw a n
      · rw [d1 z]; trivial
      · rw [((at1 a ha hne q).2.2 z).1, ((at1 a ha hne q).2.2 z).2]; exact (d2 z).1
    · rw [(at2 a ha q).2.2.1, (at2 a ha q).2.2.2, del_none q]; exact o.cyc a ha
  · obtain ⟨ha, hne⟩ := mem_del.mp ha
    obtain ⟨hb, hbn⟩ := mem_del.mp hb
    exact ⟨mem_del.mpr ⟨(o.sub a ha b hb).1, hbn⟩, (o.sub a ha b hb).2⟩
  · obtain ⟨ha, hne⟩ := mem_del.mp ha
    show _ ↔ b ∈ del ks n ∧ a ∈ del (R b) n
    have m : b ∈ (S.rmNode n).pnb a ↔ b ∈ S.pnb a ∧ b ≠ n := by
      by_cases q : n ∈ R a
      · rw [(at1 a ha hne q).2.1, mem_del]
      · rw [(at2 a ha q).2.1]
        refine ⟨fun h => ⟨h, ?_⟩, fun h => h.1⟩
        intro z
        rw [z] at h
        exact q (y n hn a ((o.pnb a ha n).mp h).2)
    rw [m, o.pnb a ha b, mem_del, mem_del]
    constructor
    · rintro ⟨⟨q1, q2⟩, q3⟩; exact ⟨⟨q1, q3⟩, q2, hne⟩
    · rintro ⟨⟨q1, q3⟩, q2, _⟩; exact ⟨⟨q1, q2⟩, q3⟩
  · obtain ⟨ha, hne⟩ := mem_del.mp ha
    by_cases q : n ∈ R a
    · rw [(at1 a ha hne q).2.1]; exact del_nodup (o.pnd a ha)
    · rw [(at2 a ha q).2.1]; exact o.pnd a ha
theorem Sym.rmNode {n : Int} (y : Sym ks R) : Sym (del ks n) (fun a => del (R a) n) := fun a ha b hb => by
  obtain ⟨h1, h2⟩ := mem_del.mp ha
  obtain ⟨h3, h4⟩ := mem_del.mp hb
  exact mem_del.mpr ⟨y a h1 b h3, h2⟩
end Mine
end
section
open PySem PySem.W PySem.Calls PyProof.Rows
set_option maxRecDepth 100000
set_option maxHeartbeats 4000000
set_option linter.all false
namespace Mine
def nProto (C : Addr) (fp : List Addr) (row : List Int) : Protocol := fun m s₀ v s kap =>
  (∃ x t, row[row.length - 1 - m]? = some x ∧ v = .int x t) ∧ GenSince C [] s₀ s ∧ ∀ s'' : Shared, (∀ b ∈ C :: fp, ∀ o, s.heap.get? b = some o → s''.heap.get? b = some o) → kap (.send .none) s''
def nEnd (C : Addr) : GenEnd := fun n s₀ r s₁ => r = .ok (.ret .none) ∧ (n = 0 ∧ GenSince C [] s₀ s₁)
def Run (f : Int → Int) (x0 : Int) : Int → List Int → Prop
  | cur, [] => cur = x0
  | cur, y :: q => cur = y ∧ y ≠ x0 ∧ Run f x0 (f y) q
def whTest : Stmt → Expr
  | .While t _ _ _ => t
  | _ => .Constant .none 0 default
def whBody : Stmt → List Stmt
  | .While _ b _ _ => b
  | _ => []
section
variable {w : World} {Ar : Around} {E : Value → Shared → Prop} {s : Shared} {g h h' : Heap} {L : Addr} {m : Str → Option Value} {A : EA} {S S' : ES} {T : Tg → Prop}
local macro_rules | `(tactic| tm_at "k") => `(tactic| first | exact kk_825 _ | exact kk_802 _ | exact kk_853 _ | exact kk_788 _ | exact kk_816 _ | exact kk_614 _ | exact kk_809 _ | exact kk_860 _ | exact kk_867 _ | exact kk_839 _ | exact kk_846 _ | exact kk_261 _ | exact kk_268 _ | exact kk_275 _ | exact kk_282 _ | exact kk_289 _ | exact kk_296 _)
local macro_rules | `(tactic| tm_at "V") => `(tactic| first | assumption | exact C.v (by assumption) | exact C0.v (by assumption))
local macro_rules | `(tactic| tm_at "h") => `(tactic| first | assumption | with_unfolding_all assumption)
local macro_rules | `(tactic| tm_at "t") => `(tactic| first | assumption | (with_unfolding_all exact True.intro) | (with_unfolding_all exact fun q => Tg.noConfusion q))
local macro_rules | `(tactic| tm_at "u") => `(tactic| with_unfolding_all rfl)
local macro_rules | `(tactic| tm_at "s0") => `(tactic| (with_reducible refine wpAny_execs_cons ?_))
local macro_rules | `(tactic| tm_at "s1") => `(tactic| (with_reducible refine wpAny_execs_nil ?_))
local macro_rules | `(tactic| tm_at "s9") => `(tactic| (with_reducible refine Subscript_ ?_))
local macro_rules | `(tactic| tm_at "s10") => `(tactic| (with_reducible refine Attribute_Name_ ?_ (by tm_at "u")))
local macro_rules | `(tactic| tm_at "s11") => `(tactic| (with_reducible refine wpAny_Constant_str ?_))
local macro_rules | `(tactic| tm_at "s14") => `(tactic| (with_reducible refine wpAny_Constant_int ?_))
local macro_rules | `(tactic| tm_at "s19") => `(tactic| (with_reducible refine wpAny_Return_none ?_))
local macro_rules | `(tactic| tm_at "s21") => `(tactic| (with_reducible refine Call_ ?_ (by tm_at "u")))
local macro_rules | `(tactic| tm_at "s23") => `(tactic| ((with_reducible show wpAny _ _ (callWith _ _ _ _ _) _ _ _); dsimp only; first
     | (with_reducible refine callWith_method1 ?_ (by tm_at "u") (by tm_at "u"))
     | (with_reducible refine callWith_K (V.kin (by tm_at "V")) (by tm_at "k") ?_ (by tm_at "u") (by tm_at "u"))
     | (with_reducible refine callWith_K0 (V.kin (by tm_at "V")) (by tm_at "k") ?_)
     | (with_reducible refine callWith_KW (V.kin (by tm_at "V")) (by tm_at "k") (by tm_at "u") ?_ (by tm_at "u") (by tm_at "u"))
     | (with_reducible refine PyProof.Rows.callWith_type1 ?_ (by tm_at "u") (by tm_at "u"))))
local macro_rules | `(tactic| tm_at "s24") => `(tactic| (with_reducible refine spliced_more ?_ (by tm_at "u")))
local macro_rules | `(tactic| tm_at "s25") => `(tactic| ((with_reducible refine spliced_none ?_); try dsimp only [List.cons_append, List.nil_append]))
local macro_rules | `(tactic| tm_at "s26") => `(tactic| (with_reducible refine wpAny_UnaryOp ?_))
local macro_rules | `(tactic| tm_at "s31") => `(tactic| (with_reducible refine isTrue_not ?_))
local macro_rules | `(tactic| tm_at "s36") => `(tactic| (with_reducible refine isTrue_plain ?_ (by tm_at "u")))
local macro_rules | `(tactic| tm_at "v0") => `(tactic| (with_unfolding_all refine ld_v (by tm_at "V") (by first | rfl | assumption) ?_))
local macro_rules | `(tactic| tm_at "v2") => `(tactic| ((with_reducible refine st_v0 (by assumption) ?_ (by tm_at "u") (by tm_at "u") (by tm_at "u")); intro _ _ _; try dsimp only))
local macro_rules | `(tactic| tm_at "v3") => `(tactic| (with_reducible refine attr_succ (by tm_at "V") ?_))
local macro_rules | `(tactic| tm_at "v7") => `(tactic| (with_reducible refine ne_int ?_))
local macro_rules | `(tactic| tm_at "v8") => `(tactic| (with_reducible refine PyProof.Rows.neg_int ?_))
local macro_rules | `(tactic| tm_at "v9") => `(tactic| (with_reducible refine ld_list (by tm_at "V") ?_ (by tm_at "u") (by tm_at "u") (by tm_at "u") (by tm_at "u")))
local macro_rules | `(tactic| tm_at "v33") => `(tactic| (with_reducible refine PySem.wpAny_truthy_bool ?_))
local macro_rules | `(tactic| tm_at "v38") => `(tactic| (with_reducible refine truthy_inn (by tm_at "V") (by tm_at "h") ?_))
local macro_rules | `(tactic| tm_at "v47") => `(tactic| (with_reducible refine sub_ds (by tm_at "V") (by tm_at "h") ?_ (by tm_at "u")))
local macro_rules | `(tactic| tm_at "v49") => `(tactic| (with_reducible refine sub_inn (by tm_at "V") (by tm_at "h") (by tm_at "h") ?_ (by tm_at "u")))
local macro_rules | `(tactic| tm_at "v50") => `(tactic| (with_reducible refine sub_cw (by tm_at "V") (by tm_at "h") (by tm_at "h") (fun _ => ?_) (by tm_at "u")))
theorem C0.carry {fp : List Addr} {s' : Shared} (c : C0 prog w g L s.heap m A S) (hfp : ∀ b o, g.get? b = some o → b ∈ fp) (hal : ∀ b ∈ L :: fp, ∀ o, s.heap.get? b = some o → s'.heap.get? b = some o) : C0 prog w g L s'.heap m A S :=
  ⟨c.ns.at' fun o e => hal L (.head _) o e, fun b o q => hal b (.tail _ (hfp b o q)) o (c.keep b o q), c.gL, c.em, c.gnd⟩
theorem C0.since {s₀ s' : Shared} (c : GenSince L [] s₀ s) (hk : ∃ h' tk, s' = { s with heap := h', toks := tk } ∧ ∀ b o, b ≠ L → s.heap.get? b = some o → h'.get? b = some o) : GenSince L [] s₀ s' := by
  obtain ⟨h', tk, rfl, k⟩ := hk
  exact c.step fun b o hb _ e => k b o hb e
theorem seg_loop {P : Params} {fp : List Addr} {row : List Int} {u x0 : Int} {t0 : Tok} {K1 : Result → Sem Fin} {p1 : Pos} {cc : Code} (hh : Ar.handled = none) (hu : u ∈ S.ns) (hfp : ∀ b o, g.get? b = some o → b ∈ fp)
    (hfin : ∀ s₀ s, GenSince L [] s₀ s → Seg (model prog w) Ar (nEnd L) (nProto L fp row) 0 s₀ cc (K1 (.ok .next)) [] s) :
    ∀ (q pre : List Int) (cur : Int) (s₀ s : Shared) (m : Str → Option Value) (t1 : Tok), row = pre ++ q → (∀ x ∈ q, x ∈ S.nbr u) → Run (S.cw u) x0 cur q → C0 prog w g L s.heap m A S →
      m (Str.ofString "succs") = some (.ref (A.inn u)) → m (Str.ofString "start_node") = some (.int x0 t0) → m (Str.ofString "current_node") = some (.int cur t1) → GenSince L [] s₀ s →
      Seg (model prog w) Ar (nEnd L) (nProto L fp row) q.length s₀
        (.whileLoop (whTest (stAt (fbody (clsSt 16 5)) 5)) (whBody (stAt (fbody (clsSt 16 5)) 5)) [] (callEnv (fdOf (o816 P)) L 816))
        ((model prog w).den (.whileLoop (whTest (stAt (fbody (clsSt 16 5)) 5)) (whBody (stAt (fbody (clsSt 16 5)) 5)) [] (callEnv (fdOf (o816 P)) L 816))) [.ret K1 none false [] cc p1 []] s := by
  intro q
  induction q with
  | nil =>
    intro pre cur s₀ s m t1 hrow hq hrun c ms m0 mc hs
    obtain rfl : cur = x0 := hrun
    refine seg_whileLoop (wpAny_isTrue_Compare1 ?_ (by tm_at "u"))
    have c' := c.v
    refine ld_v c' m0 ?_ (by tm_at "u") (by tm_at "u") (by tm_at "u")
    refine ld_v c' mc ?_ (by tm_at "u") (by tm_at "u") (by tm_at "u")
    (tm_at "v7"; tm_at "v33")
    rw [if_neg (by simp)]
    exact seg_leaf (.ok .next) (hfin _ _ hs)
  | cons y q ih =>
    intro pre cur s₀ s m t1 hrow hq hrun c ms m0 mc hs
    obtain ⟨rfl, hne, hrun⟩ := hrun
    have hm : cur ∈ S.nbr u := hq cur (.head _)
    refine seg_whileLoop (wpAny_isTrue_Compare1 ?_ (by tm_at "u"))
    have c' := c.v
    refine ld_v c' m0 ?_ (by tm_at "u") (by tm_at "u") (by tm_at "u")
    refine ld_v c' mc ?_ (by tm_at "u") (by tm_at "u") (by tm_at "u")
    (tm_at "v7"; tm_at "v33")
    rw [if_pos (by simpa using hne.symm)]
    refine seg_execs_cons (seg_Expr_Yield (by rfl) (by rfl) (by rfl) ?_ (by tm_at "u") (by tm_at "u"))
    refine ld_v c' mc ?_ (by tm_at "u") (by tm_at "u") (by tm_at "u")
    intro kap hkap
    refine ⟨⟨cur, t1, ?_, rfl⟩, hs, fun s'' hal => hkap .none s'' ?_⟩
    · have : row.length - 1 - (q.length + 1 - 1) = pre.length := by rw [hrow]; simp
      show row[row.length - 1 - q.length]? = some cur
      have e : row.length - 1 - q.length = pre.length := by rw [hrow]; simp
      rw [e, hrow]; simp
    · have c2 : C0 prog w g L s''.heap m A S := c.carry hfp hal
      have c2v := c2.v
      show Seg _ _ _ _ _ _ _ ((execs _ _).wrap _ _ _ _) _ _
      refine seg_execs_cons (seg_wrap ?_)
      refine wpAny_Assign_Name ?_ (by tm_at "u")
      (tm_at "s9"; tm_at "s9"; tm_at "v0"; tm_at "v0"; tm_at "v49"; tm_at "s11"; tm_at "v50"; tm_at "v2")
      rename_i tn h3 c3 hs3
      refine seg_execs_nil ?_
      refine seg_again (by rfl) ?_
      refine ih (pre ++ [cur]) (S.cw u cur) s'' _ _ tn (by rw [hrow]; simp) (fun x hx => hq x (.tail _ hx)) hrun c3 (by with_unfolding_all exact ms) (by with_unfolding_all exact m0) (by with_unfolding_all rfl) ?_
      exact C0.since (s := s'') (GenSince.refl _ _ _) ⟨_, _, rfl, fun b o hb e => (hs3.2 b hb).trans e⟩
def Told (S : ES) (u : Int) (row : List Int) : Prop :=
  (S.nbr u = [] ∧ row = []) ∨ (∃ x0 q, row = x0 :: q ∧ (S.nbr u).getLast? = some x0 ∧ (∀ x ∈ row, x ∈ S.nbr u) ∧ Run (S.cw u) x0 (S.cw u x0) q)
theorem seg_816 {P : Params} {fp : List Addr} {row : List Int} {u : Int} {t : Tok} {s₀ : Shared} (hh : Ar.handled = none) (hu : u ∈ S.ns) (hfp : ∀ b o, g.get? b = some o → b ∈ fp) (htold : Told S u row)
    (c : C0 prog w g L s.heap (m0 [("self", .ref A.x), ("v", .int u t)]) A S) (hs : GenSince L [] s₀ s) :
    Seg (model prog w) Ar (nEnd L) (nProto L fp row) row.length s₀ (.func (fbody (clsSt 16 5)) (callEnv (fdOf (o816 P)) L 816)) ((model prog w).den (.func (fbody (clsSt 16 5)) (callEnv (fdOf (o816 P)) L 816))) [] s := by
  refine seg_func ?_
  refine seg_execs_cons (seg_wrap ?_)
  refine wpAny_Assign_Name ?_ (by tm_at "u")
  (tm_at "s9"; tm_at "s10"; tm_at "v0"; tm_at "v3"; tm_at "v0"; tm_at "v47"; tm_at "v2")
  rename_i h1 c1 hs1
  have s1 : GenSince L [] s₀ { s with heap := h1, toks := s.toks + 1 + 1 + 1 } := C0.since hs ⟨_, _, rfl, fun b o hb e => (hs1.2 b hb).trans e⟩
  refine seg_execs_cons (seg_wrap ?_)
  refine wpAny_If ?_
  (tm_at "s31"; tm_at "s36"; tm_at "v0"; tm_at "v38")
  rcases htold with ⟨ne, rfl⟩ | ⟨x0, q, rfl, hl, hmem, hrun⟩
  · rw [ne]
    simp only [List.isEmpty_nil, Bool.not_true, Bool.not_false, if_true]
    (tm_at "s0"; tm_at "s19")
    exact seg_end (.ok (.ret .none)) ⟨rfl, rfl, C0.since hs ⟨_, _, rfl, fun b o hb e => (hs1.2 b hb).trans e⟩⟩
  · have ne : (S.nbr u).isEmpty = false := by cases h : S.nbr u with
      | nil => rw [h] at hl; cases hl
      | cons => rfl
    rw [ne]
    simp only [Bool.not_false, Bool.not_true, Bool.false_eq_true, if_false]
    (tm_at "s1")
    refine seg_execs_cons (seg_wrap ?_)
    refine wpAny_Assign_Name ?_ (by tm_at "u")
    (tm_at "s9"; tm_at "s21"; tm_at "v9"; tm_at "s23"; tm_at "s24"; tm_at "v0"; tm_at "s25")
    refine list_inn hh (by tm_at "V") hu fun h2 tk2 hk2 il => ?_
    have c2 := C0.keeps c1 hk2
    (tm_at "s26"; tm_at "s14"; tm_at "v8")
    refine item_last il hl (fun t => ?_) (by tm_at "u")
    (tm_at "v2")
    rename_i h3 c3 hs3
    have up3 : ∀ b o, b ≠ L → s.heap.get? b = some o → h3.get? b = some o := fun b o hb e => (hs3.2 b hb).trans (hk2 b o ((hs1.2 b hb).trans e))
    refine seg_execs_cons (seg_Expr_Yield (by rfl) (by rfl) (by rfl) ?_ (by tm_at "u") (by tm_at "u"))
    tm_at "v0"
    intro kap hkap
    refine ⟨⟨x0, _, ?_, rfl⟩, C0.since hs ⟨_, _, rfl, up3⟩, fun s'' hal => hkap .none s'' ?_⟩
    · show (x0 :: q)[(x0 :: q).length - 1 - (q.length + 1 - 1)]? = some x0
      simp
    · have c4 : C0 prog w g L s''.heap _ A S := c3.carry hfp hal
      have x0m := hmem x0 (.head _)
      show Seg _ _ _ _ _ _ _ ((execs _ _).wrap _ _ _ _) _ _
      refine seg_execs_cons (seg_wrap ?_)
      refine wpAny_Assign_Name ?_ (by tm_at "u")
      (tm_at "s9"; tm_at "s9"; tm_at "v0"; tm_at "v0"; tm_at "v49"; tm_at "s11"; tm_at "v50"; tm_at "v2")
      rename_i tn h5 c5 hs5
      refine seg_execs_cons (seg_While ?_)
      intro p
      refine seg_loop hh hu hfp ?_ q [x0] (S.cw u x0) s'' _ _ tn rfl (fun x hx => hmem x (.tail _ hx)) hrun c5 (by with_unfolding_all rfl) (by with_unfolding_all rfl) (by with_unfolding_all rfl) (C0.since (s := s'') (GenSince.refl _ _ _) ⟨_, _, rfl, fun b o hb e => (hs5.2 b hb).trans e⟩)
      intro s₀' s' hss
      exact seg_end (.ok (.ret .none)) ⟨rfl, rfl, hss⟩
end
end Mine
end
section
set_option linter.all false
namespace Mine
variable {S : ES} {ks : List Int} {R : Int → List Int}
theorem Ok.last_mem (o : Ok S ks R) {u l : Int} (hu : u ∈ ks) (hl : (S.nbr u).getLast? = some l) : l ∈ R u := (o.mem hu).mp (List.mem_of_getLast? hl)
theorem Ok.empty (o : Ok S ks R) {u : Int} (hu : u ∈ ks) (hl : (S.nbr u).getLast? = none) : R u = [] := by
  have := List.getLast?_eq_none_iff.mp hl
  have p := o.perm u hu
  rw [this] at p
  exact p.eq_nil
theorem Ok.conn (o : Ok S ks R) {u v : Int} (hu : u ∈ ks) (hv : v ∈ ks) (ne : v ≠ u) (uv : v ∉ R u) :
    (R u = [] ∧ Ok (S.conn u v) ks (upd R u [v])) ∨ ∃ l p q, (S.nbr u).getLast? = some l ∧ R u = p ++ l :: q ∧ Ok (S.conn u v) ks (upd R u (p ++ v :: l :: q)) := by
  cases h : (S.nbr u).getLast? with
  | none => 
    have e := o.empty hu h
    exact .inl ⟨e, by unfold ES.conn; rw [h]; exact o.insFirst hu hv ne e⟩
  | some l =>
    have hl := o.last_mem hu h
    obtain ⟨p, q, e⟩ := split_at hl
    exact .inr ⟨l, p, q, rfl, e, by unfold ES.conn; rw [h]; exact o.insCw hu hv ne uv e hl⟩
theorem Path.run {f g : Int → Int} : ∀ {r : List Int} {a b : Int}, Path f g a r b → b ∉ r → Run f b (f a) r
  | [], a, b, h, hb => h.1
  | c :: r, a, b, h, hb => ⟨h.1.1, fun z => hb (z ▸ .head _), Path.run h.2 fun z => hb (.tail _ z)⟩
theorem Ok.told (o : Ok S ks R) {u l : Int} {p q : List Int} (hu : u ∈ ks) (hl : (S.nbr u).getLast? = some l) (e : R u = p ++ l :: q) : Told S u (l :: (q ++ p)) := by
  have nd := nodup_mid (e ▸ o.rnd u hu)
  refine .inr ⟨l, q ++ p, rfl, hl, fun x hx => (o.mem hu).mpr ?_, Path.run (o.ring hu e) (List.nodup_cons.mp nd).1⟩
  rw [e]
  simpa [or_assoc, or_comm, or_left_comm] using hx
theorem Ok.told_nil (o : Ok S ks R) {u : Int} (hu : u ∈ ks) (e : R u = []) : Told S u [] := by
  have p := o.perm u hu
  rw [e] at p
  exact .inl ⟨p.symm.eq_nil, rfl⟩
theorem Ok.tells (o : Ok S ks R) {u : Int} (hu : u ∈ ks) : ∃ p q, R u = p ++ q ∧ Told S u (q ++ p) := by
  cases h : (S.nbr u).getLast? with
  | none => exact ⟨[], [], o.empty hu h, o.told_nil hu (o.empty hu h)⟩
  | some l =>
    obtain ⟨p, q, e⟩ := split_at (o.last_mem hu h)
    exact ⟨p, l :: q, e, o.told hu h e⟩
end Mine
end
section
open PySem PySem.W PySem.Calls PyProof.Rows
set_option maxRecDepth 100000
set_option maxHeartbeats 4000000
set_option linter.all false
namespace Mine
def low (h : Heap) : Heap := ⟨h.objs.extract 0 topSize, h.life⟩
theorem low_at (h : Heap) (a : Addr) : (h.objs.extract 0 topSize)[a]? = if a < min topSize h.objs.size then h.objs[a]? else none := by
  rw [Array.getElem?_extract, Nat.sub_zero, Nat.zero_add]
theorem low_get {h : Heap} {a : Addr} {o : Obj} (e : (low h).get? a = some o) : h.get? a = some o := by
  unfold Heap.get? low at *
  dsimp only at *
  rw [low_at] at e
  by_cases q : a < min topSize h.objs.size
  · rw [if_pos q] at e; exact e
  · rw [if_neg q] at e; cases e
theorem low_of {h : Heap} {a : Addr} {o : Obj} (l : a < topSize) (e : h.get? a = some o) : (low h).get? a = some o := by
  have hs : a < h.objs.size := Heap.lt_size e
  unfold Heap.get? low at *
  dsimp only at *
  rw [low_at, if_pos (Nat.lt_min.mpr ⟨l, hs⟩)]
  exact e
theorem low_size (h : Heap) : (low h).objs.size ≤ topSize := by
  unfold low
  simp
  exact Nat.min_le_left _ _
theorem fr_low {h : Heap} {L : Addr} {m : Str → Option Value} (n : h.Ns L m) (hL : topSize ≤ L) : Fr (low h) L h m := ⟨n, fun _ _ e => low_get e, Nat.le_trans (low_size h) hL⟩
theorem kin_low {w : World} {h : Heap} (X : (frag w.params).In h) : (frag w.params).In (low h) := fun a o e => low_of (frag_low _ a o e) (X a o e)
theorem kf_iter (P : Params) : findIn (frag P) (.ref 906) (Str.ofString "__iter__") = some (some (.ref 328)) := by kernel_rfl!
theorem kt_328 (P : Params) : typeIn (frag P) (.ref 328) = some (.type "function") := by kernel_rfl!
theorem ki_328 (P : Params) : isFn (frag P) (.ref 328) = true := by kernel_rfl!
end Mine
end
section
open PySem PySem.W PySem.Calls PyProof.Rows
set_option maxRecDepth 100000
set_option maxHeartbeats 4000000
set_option linter.all false
namespace Mine
section
variable {prog : Program} {w : World} {Ar : Around} {E : Value → Shared → Prop} {s : Shared}
theorem applied_upto {sl : Addr} {n : Nat} {u : Tok} {Q : Int × Int × Nat → Shared → Prop} (hs : s.heap.IsSliceOf sl .none (.int 2 u) .none) (ha : 2 ≤ n) (h : Q (0, 1, 2) s) :
    wpAny (model prog w) Ar (Builtin.Slice.sliceApplied (.ref sl) (pure (n : Int))) Q E s := by
  obtain ⟨os, hos, hcs, hds⟩ := id hs
  unfold Builtin.Slice.sliceApplied Builtin.Slice.sliceFields
  refine wpAny_bind (wpAny_bind (wpAny_field hos hds (x := .none) rfl (wpAny_bind (wpAny_field hos hds (x := .int 2 u) rfl (wpAny_bind (wpAny_field hos hds (x := .none) rfl (wpAny_pure ?_)))))))
  refine wpAny_bind (slicePart_none ?_)
  show wpAny _ _ (if ((1 : Int) == 0) = true then _ else _) _ _ s
  rw [if_neg (by decide)]
  refine wpAny_bind (slicePart_none (wpAny_bind (slicePart_int (wpAny_bind (wpAny_pure ?_)))))
  have e1 : Builtin.Slice.sliceAdjust none (some 2) 1 (n : Int) = (0, 2) := by
    unfold Builtin.Slice.sliceAdjust
    have h1 : ¬ ((1 : Int) < 0) := by omega
    have h2 : ¬ ((2 : Int) < 0) := by omega
    simp only [h1, h2, if_false]
    congr 1
    omega
  show wpAny _ _ (match Builtin.Slice.sliceAdjust none (some 2) 1 (n : Int) with | (lo, hi) => pure (lo, (1 : Int), Builtin.Slice.slicePlaces lo hi 1)) _ _ s
  rw [e1]
  exact wpAny_pure h
theorem first2 {t sl : Addr} {a b : Value} {rest : List Value} {u : Tok} {Q : Value → Shared → Prop} (ht : IsTup s.heap t (a :: b :: rest).toArray) (hs : s.heap.IsSliceOf sl .none (.int 2 u) .none)
    (k : ∀ h' p, (∀ b o, s.heap.get? b = some o → h'.get? b = some o) → h'.IsTuple p #[a, b] → Q (.ref p) { s with heap := h' }) : wpAny (model prog w) Ar (getItem (.ref t) (.ref sl)) Q E s := by
  obtain ⟨os, hos, hcs, hds⟩ := id hs
  have hTs : s.TypeIs (.ref sl) "slice" := ⟨os, hos, hcs⟩
  unfold getItem
  try with_reducible refine wpAny_holding ?_
  first | refine wpAny_bind (wpAny_pure ?_) | skip
  refine wpAny_bind (wpAny_sequenceKey ht.typeIs (by decide) ?_)
  refine wpAny_bind (wpAny_callSpecial?_slot (name := Str.ofString "__getitem__") ht.typeIs slot_tuple_getitem
    (wpAny_call_entry slot_tuple_getitem ht.typeIs entry_tuple_getitem ?_ (args_tuple_getitem _ _)))
  show wpAny _ _ (Builtin.Tuple.tupleItemsOf (.ref t) >>= _) _ _ s
  refine wpAny_bind (tupleItemsOf_ ht ?_)
  refine wpAny_bind (wpAny_typeOf hTs ?_)
  rw [if_pos (by decide)]
  refine wpAny_bind (applied_upto hs (by simp) ?_)
  show wpAny _ _ (if ((0 : Int) == 0 && (1 : Int) == 1 && (2 : Nat) == (a :: b :: rest).toArray.size) = true then _ else _) _ _ s
  cases rest with
  | nil =>
    rw [if_pos (by simp)]
    refine wpAny_bind ?_
    unfold Builtin.Tuple.tupleIsExact
    refine wpAny_bind (wpAny_typeOf ht.typeIs (wpAny_pure ?_))
    rw [if_pos (by decide)]
    exact wpAny_bind (wpAny_rule (wpAny_pure ⟨_, rfl, wpAny_pure (k s.heap t (fun _ _ e => e) ht)⟩))
  | cons c rest =>
    rw [if_neg (by simp)]
    have e1 : ((List.range 2).filterMap fun (k : Nat) => (a :: b :: c :: rest).toArray[((0 : Int) + (k : Int) * 1).toNat]?).toArray = #[a, b] := by
      have : List.range 2 = [0, 1] := by decide
      rw [this]
      simp
    rw [e1]
    have fin : Q (.ref s.heap.objs.size) { s with heap := s.heap.push { cls := .type "tuple", data := .seq #[a, b] } } := k _ _ (fun b o e => Heap.get?_push_of_some _ e) ⟨_, Heap.get?_push_size _ rfl, rfl, _, rfl⟩
    have sz : sizeOk (.seq #[a, b]) := by show 2 ≤ sizeLine; rw [sizeLine_eq]; decide
    first
      | exact wpAny_bind (m := Builtin.Tuple.tupleExact _) (wpAny_newObj_type (wpAny_pure ⟨_, rfl, wpAny_pure fin⟩) sz)
      | exact wpAny_bind (m := Builtin.Tuple.tupleExact _) (wpAny_newObj_type (wpAny_bind (wpAny_pure (wpAny_pure ⟨_, rfl, wpAny_pure fin⟩))) sz)
      | exact wpAny_bind (wpAny_bind (m := Builtin.Tuple.tupleExact _) (wpAny_newObj_type (wpAny_pure (wpAny_pure ⟨_, rfl, wpAny_pure fin⟩)) sz))
end
end Mine
end
section
open PySem PySem.W PySem.Calls PyProof.Rows
set_option maxRecDepth 100000
set_option maxHeartbeats 4000000
set_option linter.all false
namespace Mine
def Bare (S : ES) (ks : List Int) : Prop := S.nn = ks ∧ S.ns = ks ∧ S.np = ks ∧ ∀ u ∈ ks, S.nbr u = [] ∧ S.pnb u = []
theorem Bare.ok {S : ES} {ks : List Int} (h : Bare S ks) (nd : ks.Nodup) (few : ks.length ≤ 50) : Ok S ks fun _ => [] :=
  ⟨h.1, h.2.1, h.2.2.1, nd, few, fun u hu => by rw [(h.2.2.2 u hu).1], fun u hu => trivial, fun u hu => List.nodup_nil, fun u hu v hv => (by cases hv), fun u hu v => by rw [(h.2.2.2 u hu).2]; simp, fun u hu => by rw [(h.2.2.2 u hu).2]; exact List.nodup_nil⟩
section
variable {w : World} {Ar : Around} {E : Value → Shared → Prop} {s : Shared} {g h h' : Heap} {L : Addr} {m : Str → Option Value} {A : EA} {S S' : ES} {T : Tg → Prop}
local macro_rules | `(tactic| tm_at "k") => `(tactic| first | exact kk_825 _ | exact kk_802 _ | exact kk_853 _ | exact kk_788 _ | exact kk_816 _ | exact kk_614 _ | exact kk_809 _ | exact kk_860 _ | exact kk_867 _ | exact kk_839 _ | exact kk_846 _ | exact kk_261 _ | exact kk_268 _ | exact kk_275 _ | exact kk_282 _ | exact kk_289 _ | exact kk_296 _)
local macro_rules | `(tactic| tm_at "V") => `(tactic| first | assumption | exact C.v (by assumption) | exact C0.v (by assumption))
local macro_rules | `(tactic| tm_at "h") => `(tactic| first | assumption | with_unfolding_all assumption)
local macro_rules | `(tactic| tm_at "t") => `(tactic| first | assumption | (with_unfolding_all exact True.intro) | (with_unfolding_all exact fun q => Tg.noConfusion q))
local macro_rules | `(tactic| tm_at "u") => `(tactic| with_unfolding_all rfl)
local macro_rules | `(tactic| tm_at "s0") => `(tactic| (with_reducible refine wpAny_execs_cons ?_))
local macro_rules | `(tactic| tm_at "s1") => `(tactic| (with_reducible refine wpAny_execs_nil ?_))
local macro_rules | `(tactic| tm_at "s2") => `(tactic| (with_reducible refine wpAny_Assign_Name ?_ (by tm_at "u")))
local macro_rules | `(tactic| tm_at "s3") => `(tactic| (with_reducible refine wpAny_Assign_Subscript ?_ (by tm_at "u")))
local macro_rules | `(tactic| tm_at "s6") => `(tactic| (with_reducible refine wpAny_If ?_))
local macro_rules | `(tactic| tm_at "s7") => `(tactic| (with_reducible refine wpAny_isTrue_Compare1 ?_ (by tm_at "u")))
local macro_rules | `(tactic| tm_at "s8") => `(tactic| (with_reducible refine wpAny_Compare1 ?_ (by tm_at "u")))
local macro_rules | `(tactic| tm_at "s9") => `(tactic| (with_reducible refine Subscript_ ?_))
local macro_rules | `(tactic| tm_at "s10") => `(tactic| (with_reducible refine Attribute_Name_ ?_ (by tm_at "u")))
local macro_rules | `(tactic| tm_at "s13") => `(tactic| (with_reducible refine wpAny_Constant_none ?_))
local macro_rules | `(tactic| tm_at "s16") => `(tactic| (with_reducible refine wpAny_Try_except ?_))
local macro_rules | `(tactic| tm_at "s17") => `(tactic| (with_reducible refine wpAny_Expr_any ?_ (by tm_at "u") (by tm_at "u")))
local macro_rules | `(tactic| tm_at "s20") => `(tactic| (with_reducible refine MethodCall_ ?_ (by tm_at "u")))
local macro_rules | `(tactic| tm_at "s23") => `(tactic| ((with_reducible show wpAny _ _ (callWith _ _ _ _ _) _ _ _); dsimp only; first
     | (with_reducible refine callWith_method1 ?_ (by tm_at "u") (by tm_at "u"))
     | (with_reducible refine callWith_K (V.kin (by tm_at "V")) (by tm_at "k") ?_ (by tm_at "u") (by tm_at "u"))
     | (with_reducible refine callWith_K0 (V.kin (by tm_at "V")) (by tm_at "k") ?_)
     | (with_reducible refine callWith_KW (V.kin (by tm_at "V")) (by tm_at "k") (by tm_at "u") ?_ (by tm_at "u") (by tm_at "u"))
     | (with_reducible refine PyProof.Rows.callWith_type1 ?_ (by tm_at "u") (by tm_at "u"))))
local macro_rules | `(tactic| tm_at "s24") => `(tactic| (with_reducible refine spliced_more ?_ (by tm_at "u")))
local macro_rules | `(tactic| tm_at "s25") => `(tactic| ((with_reducible refine spliced_none ?_); try dsimp only [List.cons_append, List.nil_append]))
local macro_rules | `(tactic| tm_at "s36") => `(tactic| (with_reducible refine isTrue_plain ?_ (by tm_at "u")))
local macro_rules | `(tactic| tm_at "v0") => `(tactic| (with_unfolding_all refine ld_v (by tm_at "V") (by first | rfl | assumption) ?_))
local macro_rules | `(tactic| tm_at "v1") => `(tactic| ((with_reducible refine st_v (by assumption) ?_ (by tm_at "u") (by tm_at "u") (by tm_at "u")); intro _ _; try dsimp only))
local macro_rules | `(tactic| tm_at "v3") => `(tactic| (with_reducible refine attr_succ (by tm_at "V") ?_))
local macro_rules | `(tactic| tm_at "v5") => `(tactic| (with_reducible refine attr_node (by tm_at "V") ?_))
local macro_rules | `(tactic| tm_at "v24") => `(tactic| (with_reducible refine m_adjlist_inner_dict_factory (by tm_at "V") ?_))
local macro_rules | `(tactic| tm_at "v31") => `(tactic| (with_reducible refine nin_dn (by tm_at "V") ?_))
local macro_rules | `(tactic| tm_at "v33") => `(tactic| (with_reducible refine PySem.wpAny_truthy_bool ?_))
theorem sub_dn {value slice : Expr} {u : Int} {t : Tok} {Q : Value → Shared → Prop} (c : V prog w s.heap L m A S) (hu : u ∈ S.nn) (k : Q (.ref (A.att u)) { s with toks := s.toks + 1 })
    (hs : subscripted slice false (.ref A.dn) (.int u t) = operate [.ref A.dn, .int u t] (getItem (.ref A.dn) (.int u t))) :
    wpAny (model prog w) Ar (subscriptTail value slice (.ref A.dn) (.int u t)) Q E s := tail_dict c.em.node (wpAny_getItem_of (is_int _ _) c.em.node.mapOf (valueAt_refs hu) k) hs
theorem body614 {P : Params} {l Da : Addr} {ks : List Int} {vs : List Value} {Q : Flow → Shared → Prop} (c : C prog w Tt g L s.heap (m0 [("self", .ref A.x), ("nodes_for_adding", .ref l), ("attr", .ref Da)]) A S)
   (hh : Ar.handled = none) (hroom : Ar.depth + 1 < recursionLimit) (hL : topSize ≤ L)
   (ha : g.DictOf (PySem.strKind prog w) Da []) (hDa : topSize ≤ Da) (hl : g.IsList l vs.toArray) (hi : IntsAre vs ks) (hb : Bare S []) (nd : ks.Nodup) (few : ks.length ≤ 50)
   (k : ∀ h' tk m' A' S', A'.x = A.x → Bare S' ks → C prog w Tt g L h' m' A' S' → Q .next { s with heap := h', toks := tk }) :
   wpAny (model prog w) Ar (execs (fbody (clsSt 14 6)) (callEnv (fdOf (o614 P)) L 614)) Q E s := by
  have hlen := hi.length
  refine wpAny_execs_cons ?_
  refine for_list (m := m0 [("self", .ref A.x), ("nodes_for_adding", .ref l), ("attr", .ref Da)]) (S := S) (A := A) (L := L) (g := g) (fun i A' S' => A'.x = A.x ∧ Bare S' (ks.take i))
    (fun _ m' => m' (Str.ofString "self") = some (.ref A.x) ∧ m' (Str.ofString "attr") = some (.ref Da)) hh ⟨rfl, by simpa using hb⟩ ⟨by rfl, by rfl⟩ hl ?_
  (tm_at "v0")
  refine ⟨rfl, hL, c, fun i v hv g' m' A' S' s₂ c' hg' ⟨ax, bi⟩ ⟨hm, hm2⟩ => ?_, fun h' tk m' A' S' c' ⟨ax, bi⟩ hm => ?_⟩
  · have hi' : i < ks.length := by
      have := (List.getElem?_eq_some_iff.mp (by simpa using hv : vs[i]? = some v)).1
      omega
    have hx : ks[i]? = some ks[i] := List.getElem?_eq_getElem hi'
    obtain ⟨t, ht⟩ := ints_at hi hx
    obtain rfl : v = .int ks[i] t := by
      have : vs[i]? = some v := by simpa using hv
      rw [ht] at this; exact (Option.some.inj this).symm
    have hfresh : ks[i] ∉ ks.take i := fun z => by
      obtain ⟨j, hj, e⟩ := List.mem_take_iff_getElem.mp z
      have : j = i := (List.getElem_inj nd).mp e
      omega
    generalize hn : ks[i] = n at hx hfresh
    have tk1 : ks.take (i + 1) = ks.take i ++ [n] := by rw [List.take_add_one, hx]; rfl
    rw [← ax] at hm
    refine st_v c' (fun h₃ c₃ => ?_) (by tm_at "u") (by tm_at "u") (by tm_at "u")
    refine wpAny_execs_cons ?_
    (tm_at "s16"; tm_at "s0"; tm_at "s2"; tm_at "s8"; tm_at "v0"; tm_at "s10"; tm_at "v0"; tm_at "v5"; tm_at "v31"; tm_at "v1"; tm_at "s0"; tm_at "s2"; tm_at "v0"; tm_at "v1"; tm_at "s1"; tm_at "s1"; tm_at "s0"; tm_at "s6"; tm_at "s36"; tm_at "v0"; tm_at "v33")
    obtain ⟨b1, b2, b3, b4⟩ := bi
    have n1 : n ∉ S'.nn := b1 ▸ hfresh
    have n2 : n ∉ S'.ns := b2 ▸ hfresh
    have n3 : n ∉ S'.np := b3 ▸ hfresh
    have ll : (ks.take i).length < 100 := by rw [List.length_take]; omega
    rw [decide_eq_false n1]
    simp only [Bool.not_false, if_true]
    (tm_at "s0"; tm_at "s6"; tm_at "s7"; tm_at "v0"; tm_at "s13")
    refine wpAny_is_other rfl (by intro q; cases q) ?_
    (tm_at "v33")
    simp only [Bool.false_eq_true, if_false]
    (tm_at "s1"; tm_at "s0"; tm_at "s3"; tm_at "s20"; tm_at "v0"; tm_at "v24"; tm_at "s23")
    rename_i hA cA hB cB
    refine callR (sum282 (C.gd (by assumption)) (by omega) fun h4 D tk hD hd hk4 => ⟨_, rfl, ?_⟩)
    have c4 := C.keeps cB hk4
    dsimp only at hD c4
    obtain ⟨gD, DL, Dt, Dhi⟩ := cB.fresh hD
    (tm_at "s10"; tm_at "v0"; tm_at "v3"; tm_at "v0")
    refine add_succ c4 n2 (by rw [b2]; exact ll) trivial (empty_at hd) gD DL Dt Dhi fun h5 hs5 c5 => ?_
    dsimp only
    (tm_at "s0"; tm_at "s3"; tm_at "s20"; tm_at "v0")
    refine m_adjlist_inner_dict_factory (A := A'.setInn n D) c5.v ?_
    (tm_at "s23")
    refine callR (sum282 (C.gd (by assumption)) (by omega) fun h6 D2 tk2 hD2 hd2 hk6 => ⟨_, rfl, ?_⟩)
    have c6 := C.keeps c5 hk6
    dsimp only at hD2 c6
    obtain ⟨gD2, DL2, Dt2, Dhi2⟩ := c5.fresh hD2
    (tm_at "s10"; tm_at "v0")
    refine attr_pred (A := A'.setInn n D) c6.v ?_
    (tm_at "v0")
    refine add_pred (A := A'.setInn n D) c6 n3 (by show S'.np.length < 100; rw [b3]; exact ll) trivial (empty_at hd2) gD2 DL2 Dt2 Dhi2 fun h7 hs7 c7 => ?_
    dsimp only
    (tm_at "s0"; tm_at "s3"; tm_at "s20"; tm_at "v0")
    refine m_node_attr_dict_factory (A := (A'.setInn n D).setPin n D2) c7.v ?_
    (tm_at "s23")
    refine callR (sum268 (C.gd (by assumption)) (by omega) fun h8 D3 tk3 hD3 hd3 hk8 => ⟨_, rfl, ?_⟩)
    have c8 := C.keeps c7 hk8
    dsimp only at hD3 c8
    obtain ⟨gD3, DL3, Dt3, Dhi3⟩ := c7.fresh hD3
    (tm_at "s10"; tm_at "v0")
    refine attr_node (A := (A'.setInn n D).setPin n D2) c8.v ?_
    (tm_at "v0")
    refine add_node (a := D3) (A := (A'.setInn n D).setPin n D2) c8 n1 (by show S'.nn.length < 100; rw [b1]; exact ll) trivial fun h9 hs9 c9 => ?_
    have hd9 : h9.get? D3 = some (dictOf [] 0) := (hs9 D3 fun z => Dt3 .dn trivial z.symm).trans hd3
    dsimp only
    (tm_at "s1"; tm_at "s0"; tm_at "s17"; tm_at "s20"; tm_at "s9"; tm_at "s10"; tm_at "v0")
    refine attr_node (A := ((A'.setInn n D).setPin n D2).setAtt n D3) c9.v ?_
    (tm_at "v0")
    refine sub_dn (A := ((A'.setInn n D).setPin n D2).setAtt n D3) c9.v (show n ∈ S'.nn ++ [n] by simp) ?_ (by tm_at "u")
    rw [show (((A'.setInn n D).setPin n D2).setAtt n D3).att n = D3 by simp [EA.setAtt]]
    refine dict_u (knd := PySem.strKind prog w) (empty_at hd9) ?_
    (tm_at "s23"; tm_at "s24"; tm_at "v0"; tm_at "s25")
    have ne3 : D3 ≠ Da := fun z => by
      obtain ⟨o, _, _, ho, _⟩ := ha
      rw [← z] at ho
      have := hg' _ _ ho
      rw [gD3] at this; cases this
    refine upd_dict (ex := []) (empty_at hd9) (ha.at fun o e => c9.keep _ o (hg' _ _ e)) ne3 (not_sys hDa) List.nodup_nil (line_of (by decide)) fun h10 hd10 hs10 => ?_
    have c10 := c9.other hs10 gD3 DL3 fun t l => by
      have := Dt3 t l
      exact this
    (tm_at "s1")
    refine ⟨.inl rfl, _, _, _, ((A'.setInn n D).setPin n D2).setAtt n D3, ((S'.addSucc n).addPred n).addNode n, rfl, c10, ⟨ax, ?_, ?_, ?_, fun u hu => ?_⟩, by with_unfolding_all exact ax ▸ hm, by with_unfolding_all exact hm2⟩
    · rw [tk1, ← b1]; rfl
    · rw [tk1, ← b2]; rfl
    · rw [tk1, ← b3]; rfl
    · rw [tk1] at hu
      by_cases q : u = n
      · subst q; exact ⟨upd_same _ _ _, upd_same _ _ _⟩
      · have hu' : u ∈ ks.take i := by
          rcases List.mem_append.mp hu with z | z
          · exact z
          · exact absurd (List.mem_singleton.mp z) q
        exact ⟨(upd_ne _ _ q).trans (b4 u hu').1, (upd_ne _ _ q).trans (b4 u hu').2⟩
  · dsimp only
    refine wpAny_execs_nil ?_
    have e1 : ks.take vs.toArray.size = ks := by rw [List.size_toArray, hlen]; exact List.take_length
    rw [e1] at bi
    exact k _ _ _ _ _ ax bi c'
end
end Mine
end
section
open PySem PySem.W PySem.Calls PyProof.Rows
set_option maxRecDepth 100000
set_option maxHeartbeats 4000000
set_option linter.all false
namespace Mine
section
variable {w : World} {Ar : Around} {E : Value → Shared → Prop} {s : Shared} {g h h' : Heap} {L : Addr} {m : Str → Option Value} {A : EA} {S S' : ES} {T : Tg → Prop}
local macro_rules | `(tactic| tm_at "k") => `(tactic| first | exact kk_825 _ | exact kk_802 _ | exact kk_853 _ | exact kk_788 _ | exact kk_816 _ | exact kk_614 _ | exact kk_809 _ | exact kk_860 _ | exact kk_867 _ | exact kk_839 _ | exact kk_846 _ | exact kk_261 _ | exact kk_268 _ | exact kk_275 _ | exact kk_282 _ | exact kk_289 _ | exact kk_296 _)
local macro_rules | `(tactic| tm_at "V") => `(tactic| first | assumption | exact C.v (by assumption) | exact C0.v (by assumption))
local macro_rules | `(tactic| tm_at "h") => `(tactic| first | assumption | with_unfolding_all assumption)
local macro_rules | `(tactic| tm_at "t") => `(tactic| first | assumption | (with_unfolding_all exact True.intro) | (with_unfolding_all exact fun q => Tg.noConfusion q))
local macro_rules | `(tactic| tm_at "u") => `(tactic| with_unfolding_all rfl)
theorem sum614 {R : Result → Shared → Prop} {l : Addr} {ks : List Int} {vs : List Value} (e : EmbAt prog w s.heap A S) (G : Gd w s.heap) (hroom : Ar.depth + 2 < recursionLimit) (hh : Ar.handled = none)
   (hb' : bindArgs (fdOf (o614 w.params)) ⟨[.ref A.x, .ref l], []⟩ = (alloc { cls := .type "dict", data := .dict #[] } >>= fun d => (forIn ([] : List (Str × Value)) PUnit.unit (fun x _ => nsSet d x.1 x.2 >>= fun _ => pure (ForInStep.yield PUnit.unit))) >>= fun _ => pure ([(Str.ofString "self", Value.ref A.x), (Str.ofString "nodes_for_adding", Value.ref l)] ++ [(Str.ofString "attr", Value.ref d)])))
   (hl : s.heap.IsList l vs.toArray) (hlf : ¬ Fp A S l) (hi : IntsAre vs ks) (hb : Bare S []) (nd : ks.Nodup) (few : ks.length ≤ 50)
   (k : ∀ h' tk A' S', A'.x = A.x → Bare S' ks → Back prog w A S s.heap A' S' h' → R (.ok (.ret .none)) { s with heap := h', toks := tk }) :
   codeAny (model prog w) Ar (.call (.ref 614) ⟨[.ref A.x, .ref l], []⟩) R s := by
  refine call_kw (o := o614 w.params) (fd := fdOf (o614 w.params)) (body := fbody (clsSt 14 6)) (ex := []) (front := [("self", Value.ref A.x), ("nodes_for_adding", .ref l)]) (nm := "attr") G (by omega) (by rfl) (by rfl) (by kernel_rfl!) (by rfl) hb' List.nodup_nil (by kernel_rfl!) (by kernel_rfl!) fun h₁ Da tk hDa hns hk ha => ?_
  have low : topSize ≤ Da := by rw [hDa]; exact Nat.le_trans (e.high .x trivial) (Nat.le_of_lt (Heap.lt_size e.inst))
  have old : ∀ b o, s.heap.get? b = some o → b ≠ Da + 1 ∧ b ≠ Da := fun b o q => by
    have := Heap.lt_size q
    rw [← hDa] at this
    exact ⟨Nat.ne_of_lt (Nat.lt_succ_of_lt this), Nat.ne_of_lt this⟩
  have c0 : C prog w Tt (hide s.heap (Fp A S)) (Da + 1) h₁ (m0 [("self", Value.ref A.x), ("nodes_for_adding", .ref l), ("attr", .ref Da)]) A S := by
    refine ⟨hns, fun b x q => ?_, ?_, e.keeps fun t _ => hk _, fun t l _ => by rw [hide_get, if_pos ⟨t, l, rfl⟩], fun t l => ?_, gd_hide G e⟩
    · rw [hide_get] at q
      split at q
      · cases q
      · exact hk _ _ q
    · rw [hide_get]
      split
      · rfl
      · exact Heap.get?_none_of_le (by rw [hDa]; exact Nat.le_succ _)
    · obtain ⟨x, hx⟩ := e.some t l
      exact (old _ _ hx).1
  have c1 := c0.rebase Tt (Nat.le_succ_of_le low)
  have nq : ¬ Fq Tt (Da + 1) A S Da := fun z => by
    rcases z with z | ⟨t, l, _, z⟩
    · exact absurd z (Nat.ne_of_lt (Nat.lt_succ_self _))
    · obtain ⟨x, hx⟩ := e.some t l
      exact (old _ _ hx).2 z
  have ha' : (hide h₁ (Fq Tt (Da + 1) A S)).DictOf (PySem.strKind prog w) Da [] := by
    obtain ⟨o, es, ep, ho, r⟩ := ha
    exact ⟨o, es, ep, by rw [hide_get, if_neg nq]; exact ho, r⟩
  have nql : ¬ Fq Tt (Da + 1) A S l := fun z => by
    obtain ⟨o, ho, _⟩ := hl
    rcases z with z | ⟨t, lt, _, z⟩
    · exact (old _ _ ho).1 z
    · exact hlf ⟨t, lt, z⟩
  have hl' : (hide h₁ (Fq Tt (Da + 1) A S)).IsList l vs.toArray := hl.at fun o q => by rw [hide_get, if_neg nql]; exact hk _ _ q
  refine body614 (P := w.params) c1 (handled_deeper' hh) (by rw [depth_deeper]; omega) (Nat.le_succ_of_le low) ha' low hl' hi hb nd few fun h' tk m' A' S' ax bb c' => ?_
  exact k h' tk A' S' ax bb (back_of (c0.rejoinT c'))
end
end Mine
end
section
open PySem PySem.W PySem.Calls PyProof.Rows
set_option maxRecDepth 100000
set_option maxHeartbeats 4000000
set_option linter.all false
namespace Mine
section
local macro_rules | `(tactic| tm_at "k") => `(tactic| first | exact kk_825 _ | exact kk_802 _ | exact kk_853 _ | exact kk_788 _ | exact kk_816 _ | exact kk_614 _ | exact kk_809 _ | exact kk_860 _ | exact kk_867 _ | exact kk_839 _ | exact kk_846 _ | exact kk_261 _ | exact kk_268 _ | exact kk_275 _ | exact kk_282 _ | exact kk_289 _ | exact kk_296 _)
local macro_rules | `(tactic| tm_at "V") => `(tactic| first | assumption | exact C.v (by assumption) | exact C0.v (by assumption))
local macro_rules | `(tactic| tm_at "h") => `(tactic| first | assumption | with_unfolding_all assumption)
local macro_rules | `(tactic| tm_at "t") => `(tactic| first | assumption | (with_unfolding_all exact True.intro) | (with_unfolding_all exact fun q => Tg.noConfusion q))
local macro_rules | `(tactic| tm_at "u") => `(tactic| with_unfolding_all rfl)
variable {w : World} {Ar : Around} {E : Value → Shared → Prop} {s : Shared} {g h h' : Heap} {L : Addr} {m : Str → Option Value} {A : EA} {S S' : ES} {T : Tg → Prop}
theorem next_gen {a : Addr} {gi n : Nat} {gs : GenState} {C : Addr} {fp : List Addr} {row : List Int} {Q : Option Value → Shared → Prop} (hh : Ar.handled = none) (hl : s.heap.NoLimit) (hroom : Ar.depth < recursionLimit)
    (hg : s.heap.IsGen a gi) (hgs : s.gens[gi]? = some gs)
    (hgo : gs.Goes (model prog w) Ar.in1 (nEnd C) (nProto C fp row) n (.send .none) (s.setGen gi .running))
    (hY : ∀ v s₁ gs', gs'.bare = true → nProto C fp row (n - 1) (s.setGen gi .running) v s₁ (fun r' s'' => match n with
        | 0 => False
        | k + 1 => gs'.Goes (model prog w) Ar.in1 (nEnd C) (nProto C fp row) k r' s'') → Q (some v) (s₁.setGen gi gs'))
    (hP : ∀ s₁, (n = 0 ∧ GenSince C [] (s.setGen gi .running) s₁) → ∀ h', (∀ b o, s₁.heap.get? b = some o → h'.get? b = some o) → Q none { s₁.setGen gi .finished with heap := h' }) :
    wpAny (model prog w) Ar (pyNext (.ref a)) Q E s := by
  have wake : wpAny (model prog w) Ar.in1 (Builtin.Generator.genWake (.ref a) (.send .none)) (fun fin s' => match fin with | .done (.ret v) => Q (some v) s' | _ => False) (fun e s' => ∃ x, e = .ref x ∧ s'.TypeIs (.ref x) "StopIteration" ∧ Q none s') s := by
    unfold Builtin.Generator.genWake
    refine wpAny_bind (wpAny_holding (wpAny_genNumber hg (wpAny_bind (wpAny_genState hgs ?_))))
    have go : ∀ k : GenResult → Sem Fin, (∀ v s₁ gs', gs'.bare = true → nProto C fp row (n - 1) (s.setGen gi .running) v s₁ (fun r' s'' => match n with
        | 0 => False
        | k + 1 => gs'.Goes (model prog w) Ar.in1 (nEnd C) (nProto C fp row) k r' s'') → wpAny (model prog w) Ar.in1 (k (.yielded v)) (fun fin s' => match fin with | .done (.ret v) => Q (some v) s' | _ => False) (fun e s' => ∃ x, e = .ref x ∧ s'.TypeIs (.ref x) "StopIteration" ∧ Q none s') (s₁.setGen gi gs')) →
        (∀ s₁, (n = 0 ∧ GenSince C [] (s.setGen gi .running) s₁) → wpAny (model prog w) Ar.in1 (k (End.ret (.ok (.ret .none))).result) (fun fin s' => match fin with | .done (.ret v) => Q (some v) s' | _ => False) (fun e s' => ∃ x, e = .ref x ∧ s'.TypeIs (.ref x) "StopIteration" ∧ Q none s') (s₁.setGen gi .finished)) →
        wpAny (model prog w) Ar.in1 (.resume gi (.send .none) [] k) (fun fin s' => match fin with | .done (.ret v) => Q (some v) s' | _ => False) (fun e s' => ∃ x, e = .ref x ∧ s'.TypeIs (.ref x) "StopIteration" ∧ Q none s') s := fun k h1 h2 =>
      wpAny_resumeQ hgs hgo (fun x s₁ hx => by obtain ⟨rfl, hp⟩ := hx; exact h2 s₁ hp) h1
    have fin : ∀ s₁, (n = 0 ∧ GenSince C [] (s.setGen gi .running) s₁) → ∀ h', (∀ b o, s₁.heap.get? b = some o → h'.get? b = some o) → Q none { s₁.setGen gi .finished with heap := h' } := hP
    cases gs with
    | running => exact hgo.elim
    | finished => exact hgo.elim
    | _ =>
      refine wpAny_bind (wpAny_roomToWake hl hroom ?_)
      refine go _ (fun v s₁ gs' hb hv => wpAny_pure (hY v s₁ gs' hb hv)) (fun s₁ hp => ?_)
      show wpAny _ _ (newExc (.type "StopIteration") [] >>= _) _ _ _
      refine wpAny_bind ?_
      simp only [newExc, newTuple]
      refine wpAny_bind (wpAny_newObj_type ?_ (by size_fits))
      refine wpAny_bind (m := firstArgMember _ _) (wpAny_of_eq (a := Value.none) (by first | rfl | (simp only [firstArgMember]; rfl)) ?_)
      refine wpAny_newObj_type ?_ (by size_fits)
      simp only [raiseNew]
      refine wpAny_bind (wpAny_bind (wpAny_handled ?_))
      first | rw [show Ar.in1.handled = none from hh] | rw [hh]
      refine wpAny_throw ⟨_, rfl, ⟨_, Heap.get?_push_size _ rfl, rfl⟩, ?_⟩
      exact fin s₁ hp _ fun b o hb => Heap.get?_push_of_some _ (Heap.get?_push_of_some _ hb)
  unfold pyNext
  refine wpAny_bind (wpAny_attempt (wpAny_callSpecial?_slot (name := Str.ofString "__next__") hg.typeIs slot_gen_next
    (wpAny_call_entry slot_gen_next hg.typeIs entry_gen_next (wpAny_mono wake (fun fin s' h => ?_) fun e s' h => ?_) (args_gen_next _))))
  · cases fin with
    | done f =>
      cases f with
      | ret v => exact ⟨v, rfl, wpAny_pure h⟩
      | _ => exact h.elim
    | again c => exact h.elim
  · obtain ⟨x, rfl, hT, hq⟩ := h
    refine wpAny_bind (wpAny_isInstance (T := "StopIteration") (b := true) hT isSubtype_stop ?_)
    exact wpAny_pure hq
def NAt (w : World) (Ar : Around) (a : Addr) (gi : Nat) (C : Addr) (fp : List Addr) (row : List Int) (j : Nat) (s : Shared) : Prop :=
  s.heap.IsGen a gi ∧ s.heap.NoLimit ∧ ∃ gs, s.gens[gi]? = some gs ∧ ∀ s'' : Shared, (∀ b ∈ C :: fp, ∀ o, s.heap.get? b = some o → s''.heap.get? b = some o) →
    gs.Goes (model prog w) Ar.in1 (nEnd C) (nProto C fp row) (row.length - j) (.send .none) s''
theorem walks_n (hh : Ar.handled = none) (a : Addr) (gi : Nat) (C : Addr) (fp : List Addr) (row : List Int) (haC : a ≠ C) (hroom : Ar.depth < recursionLimit) (hcs : cStatics ∈ fp) (hcC : cStatics ≠ C) :
    WalksS prog w Ar a (a :: C :: fp) [C] (GenOnlyQ gi) row.length (fun j y => ∃ x t, row[j]? = some x ∧ y = .int x t) (NAt w Ar a gi C fp row) where
  sub := fun b hb => by rw [List.mem_singleton.mp hb]; simp
  grefl := fun _ => .inl rfl
  gtrans := fun _ _ _ x y => x.trans y
  frame := fun j s h' tk st _ hk => by
    obtain ⟨⟨o, nm, qn, ho, r⟩, ⟨mc, hns, hnn⟩, gs, hgs, hgo⟩ := st
    refine ⟨⟨o, nm, qn, hk a (.head _) o ho, r⟩, ⟨mc, hns.at' fun o e => hk cStatics (.tail _ (.tail _ hcs)) o e, hnn⟩, gs, hgs, fun s'' hal => ?_⟩
    exact hgo s'' fun b hb o e => hal b hb o (hk b (.tail _ hb) o e)
  item := fun j s Q E hj st hQ => by
    obtain ⟨hg, hl, gs, hgs, hgo⟩ := st
    obtain ⟨k, hk⟩ : ∃ k, row.length - j = k + 1 := ⟨row.length - j - 1, by omega⟩
    rw [hk] at hgo
    refine wpAny_with_toks (Nat.le_refl s.toks) ?_
    refine next_gen hh hl hroom hg hgs (hgo _ fun _ _ _ e => e) (fun v s₁ gs' hb hv => ?_) (fun s₁ hp h' hk' => absurd hp.1 (Nat.succ_ne_zero k))
    obtain ⟨⟨x, t, hi, hx⟩, ⟨h₁, tk₁, rfl, hk₁⟩, hkap⟩ := hv
    have e1 : row.length - 1 - (k + 1 - 1) = j := by omega
    rw [e1] at hi
    intro htk
    have fin := setGen_self (gs := .running) (x := gs') (setGen_self (x := .running) hgs)
    have kept : ∀ b o, b ≠ C → s.heap.get? b = some o → h₁.get? b = some o := fun b o hb e => hk₁ b o hb (by simp) e
    refine hQ v _ ⟨x, t, hi, hx⟩ ⟨?_, ?_, gs', fin, fun s'' hal => ?_⟩ ⟨fun b o hb e => kept b o (fun z => hb (by rw [z]; simp)) e, GenOnlyQ.of ((GenOnly.setGen s gi .running).trans (GenOnly.setGen _ gi gs')) fin hb, rfl, rfl, htk⟩
    · obtain ⟨o, nm, qn, ho, r⟩ := hg
      exact ⟨o, nm, qn, kept a o haC ho, r⟩
    · obtain ⟨mc, hns, hnn⟩ := hl
      exact ⟨mc, hns.at' fun o e => kept cStatics o hcC e, hnn⟩
    · have e2 : row.length - (j + 1) = k := by omega
      rw [e2]
      exact hkap s'' hal
  done := fun s Q E st hQ => by
    obtain ⟨hg, hl, gs, hgs, hgo⟩ := st
    rw [Nat.sub_self] at hgo
    refine wpAny_with_toks (Nat.le_refl s.toks) ?_
    refine next_gen hh hl hroom hg hgs (hgo _ fun _ _ _ e => e) (fun v s₁ gs' hb hv => ?_) (fun s₁ hp h' hk => ?_)
    · obtain ⟨_, _, hkap⟩ := hv
      exact False.elim (hkap s₁ fun _ _ _ e => e)
    · obtain ⟨_, h₁, tk₁, rfl, hk₁⟩ := hp
      intro htk
      have fin := setGen_self (gs := .running) (x := .finished) (setGen_self (x := .running) hgs)
      exact hQ _ ⟨fun b o hb e => hk b o (hk₁ b o (fun z => hb (by rw [z]; simp)) (by simp) e), GenOnlyQ.of ((GenOnly.setGen s gi .running).trans (GenOnly.setGen _ gi .finished)) fin rfl, rfl, rfl, htk⟩
  self := fun _ _ _ _ st hQ => wpAny_pyIter_gen st.1 hQ
theorem list_816 {R : Result → Shared → Prop} {u : Int} {t : Tok} {row : List Int} (e : EmbAt prog w s.heap A S) (G : Gd w s.heap) (hh : Ar.handled = none) (hroom : Ar.depth + 2 < recursionLimit) (hu : u ∈ S.ns) (htold : Told S u row) (hz : row.length ≤ 100) (hB : AllBare s.gens)
    (k : ∀ s' a, (∀ b o, s.heap.get? b = some o → s'.heap.get? b = some o) → AllBare s'.gens → s'.os = s.os → s'.drawn = s.drawn → s'.heap.objs.size > a →
      (∀ (Q : Value → Shared → Prop) (E : Value → Shared → Prop), (∀ s'' d, (∀ b o, s.heap.get? b = some o → s''.heap.get? b = some o) → AllBare s''.gens → s''.os = s.os → s''.drawn = s.drawn → s.heap.objs.size ≤ d → IL s''.heap d row → Q (.ref d) s'') → wpAny (model prog w) Ar (call (.type "list") [.ref a]) Q E s') →
      R (.ok (.ret (.ref a))) s') :
    codeAny (model prog w) Ar (.call (.ref 816) ⟨[.ref A.x, .int u t], []⟩) R s := by
  have hx : topSize < s.heap.objs.size := Nat.lt_of_le_of_lt (e.high .x trivial) (Heap.lt_size e.inst)
  refine codeAny_call_generator (o := o816 w.params) (fd := fdOf (o816 w.params)) (body := fbody (clsSt 16 5)) (by omega) (G.kin _ _ (by rfl)) (by rfl) (by tm_at "u") (by tm_at "u") (by rfl) (codeRec_of G.kin (by kernel_rfl!)) ?_
  refine BindsTo.of_eq (s := s) (binds := [("self", .ref A.x), ("v", .int u t)]) (by rfl) _ _ _ _ ?_
  refine wpAny_newFunctionEnv (fun x hx => of_decide_eq_true (List.all_eq_true.mp (show ((fdOf (o816 w.params)).scope.names.all fun x => decide (x.2 ≠ NameKind.cell)) = true by kernel_rfl!) x hx)) (fun x hx => of_decide_eq_true (List.all_eq_true.mp (show ([(Str.ofString "self", Value.ref A.x), (Str.ofString "v", Value.int u t)].all fun x => decide ((fdOf (o816 w.params)).scope.names.lookup x.1 = some NameKind.local)) = true by kernel_rfl!) x hx)) (fun h₀ hns₀ hsb₀ => ?_) (by tm_at "u")
  have keep₀ : ∀ b o, s.heap.get? b = some o → h₀.get? b = some o := fun b o q => hsb₀.extBut b o (Nat.ne_of_lt (Heap.lt_size q)) (Heap.get?_push_of_some _ q)
  refine ⟨G.lim.keeps keep₀, ?_⟩
  have sz : h₀.objs.size = s.heap.objs.size + 1 := by rw [hsb₀.1, Heap.size_push]
  refine k _ _ (fun b o q => Heap.get?_push_of_some _ (keep₀ b o q)) (hB.push rfl) rfl rfl (by show h₀.objs.size < (h₀.push _).objs.size; rw [Heap.size_push]; exact Nat.lt_succ_self _) fun Q E hQ => ?_
  have hcs : cStatics < s.heap.objs.size := Nat.lt_of_le_of_lt (by decide : cStatics ≤ topSize) hx
  have W := walks_n (w := w) (Ar := Ar.in1.in1) hh h₀.objs.size s.gens.size s.heap.objs.size (List.range s.heap.objs.size) row (by rw [sz]; exact Nat.succ_ne_self _) (Nat.lt_of_le_of_lt (Nat.le_add_right _ 2) hroom) (List.mem_range.mpr hcs) (Nat.ne_of_lt hcs)
  refine call_list_gen W (fun i s st => st.1.typeIs) ⟨⟨_, _, _, Heap.get?_push_size _ rfl, rfl, rfl, rfl⟩, (G.lim.keeps keep₀).keeps (fun b o q => Heap.get?_push_of_some _ q), _, Array.getElem?_push_size .., fun s'' hal => ⟨rfl, ?_⟩⟩ (fun b hb => ?_) (.head _) (fun s' acc' c' hm hS' hacc => ?_) (line_of hz)
  · refine seg_816 (A := A) (P := w.params) (g := s.heap) (u := u) (t := t) hh hu (fun b o q => List.mem_range.mpr (Heap.lt_size q)) htold ?_ (GenSince.refl _ _ _)
    refine ⟨?_, fun b o q => hal b (.tail _ (List.mem_range.mpr (Heap.lt_size q))) o (Heap.get?_push_of_some _ (keep₀ b o q)), Heap.get?_none_of_le (Nat.le_refl _), e, G⟩
    exact (hns₀.push _).at' fun o q => hal _ (.head _) o q
  · show b < (h₀.push _).objs.size
    rw [Heap.size_push, sz]
    rcases List.mem_cons.mp hb with rfl | hb
    · rw [sz]; exact Nat.lt_succ_self _
    · rcases List.mem_cons.mp hb with rfl | hb
      · exact Nat.lt_succ_of_lt (Nat.lt_succ_self _)
      · exact Nat.lt_succ_of_lt (Nat.lt_succ_of_lt (List.mem_range.mp hb))
  · refine hQ s' _ (fun b o q => hm.heap b o ?_ (Heap.get?_push_of_some _ (Heap.get?_push_of_some _ (keep₀ b o q)))) ?_ hm.os hm.drawn ?_ ⟨acc'.toList, ⟨c', by rw [Array.toArray_toList]; exact hS'⟩, ints_of_get (by rw [Array.length_toList]; exact hacc.1) fun j v q => ?_⟩
    · intro hmem
      have := Heap.lt_size q
      rcases List.mem_cons.mp hmem with z | z
      · have h2 : b = h₀.objs.size + 1 := z.trans (Heap.size_push _ _)
        rw [h2, sz] at this
        exact absurd this (Nat.not_lt.mpr (Nat.le_succ_of_le (Nat.le_succ _)))
      · rw [List.mem_singleton.mp z] at this
        exact Nat.lt_irrefl _ this
    · exact GenOnlyQ.bare hm.gens (hB.push rfl)
    · show s.heap.objs.size ≤ (h₀.push _).objs.size
      rw [Heap.size_push, sz]
      exact Nat.le_succ_of_le (Nat.le_succ _)
    · obtain ⟨x, t, hx, hv⟩ := hacc.2 j v (by rw [← Array.getElem?_toList]; exact q)
      exact ⟨x, t, hx, hv⟩
end
end Mine
end
section
open PySem PySem.W PySem.Calls PyProof.Rows
set_option maxRecDepth 100000
set_option maxHeartbeats 4000000
set_option linter.all false
namespace Mine
section
local macro_rules | `(tactic| tm_at "k") => `(tactic| first | exact kk_825 _ | exact kk_802 _ | exact kk_853 _ | exact kk_788 _ | exact kk_816 _ | exact kk_614 _ | exact kk_809 _ | exact kk_860 _ | exact kk_867 _ | exact kk_839 _ | exact kk_846 _ | exact kk_261 _ | exact kk_268 _ | exact kk_275 _ | exact kk_282 _ | exact kk_289 _ | exact kk_296 _)
local macro_rules | `(tactic| tm_at "V") => `(tactic| first | assumption | exact C.v (by assumption) | exact C0.v (by assumption))
local macro_rules | `(tactic| tm_at "h") => `(tactic| first | assumption | with_unfolding_all assumption)
local macro_rules | `(tactic| tm_at "t") => `(tactic| first | assumption | (with_unfolding_all exact True.intro) | (with_unfolding_all exact fun q => Tg.noConfusion q))
local macro_rules | `(tactic| tm_at "u") => `(tactic| with_unfolding_all rfl)
local macro_rules | `(tactic| tm_at "s1") => `(tactic| (with_reducible refine wpAny_execs_nil ?_))
local macro_rules | `(tactic| tm_at "s2") => `(tactic| (with_reducible refine wpAny_Assign_Name ?_ (by tm_at "u")))
local macro_rules | `(tactic| tm_at "s3") => `(tactic| (with_reducible refine wpAny_Assign_Subscript ?_ (by tm_at "u")))
local macro_rules | `(tactic| tm_at "s10") => `(tactic| (with_reducible refine Attribute_Name_ ?_ (by tm_at "u")))
local macro_rules | `(tactic| tm_at "s12") => `(tactic| (with_reducible refine PySem.wpAny_Dict_empty ?_))
local macro_rules | `(tactic| tm_at "s18") => `(tactic| (with_reducible refine wpAny_Return_some ?_))
local macro_rules | `(tactic| tm_at "s20") => `(tactic| (with_reducible refine MethodCall_ ?_ (by tm_at "u")))
local macro_rules | `(tactic| tm_at "s21") => `(tactic| (with_reducible refine Call_ ?_ (by tm_at "u")))
local macro_rules | `(tactic| tm_at "s23") => `(tactic| ((with_reducible show wpAny _ _ (callWith _ _ _ _ _) _ _ _); dsimp only; first
     | (with_reducible refine callWith_method1 ?_ (by tm_at "u") (by tm_at "u"))
     | (with_reducible refine callWith_K (V.kin (by tm_at "V")) (by tm_at "k") ?_ (by tm_at "u") (by tm_at "u"))
     | (with_reducible refine callWith_K0 (V.kin (by tm_at "V")) (by tm_at "k") ?_)
     | (with_reducible refine callWith_KW (V.kin (by tm_at "V")) (by tm_at "k") (by tm_at "u") ?_ (by tm_at "u") (by tm_at "u"))
     | (with_reducible refine PyProof.Rows.callWith_type1 ?_ (by tm_at "u") (by tm_at "u"))))
local macro_rules | `(tactic| tm_at "s24") => `(tactic| (with_reducible refine spliced_more ?_ (by tm_at "u")))
local macro_rules | `(tactic| tm_at "s25") => `(tactic| ((with_reducible refine spliced_none ?_); try dsimp only [List.cons_append, List.nil_append]))
local macro_rules | `(tactic| tm_at "s29") => `(tactic| (with_reducible refine in_and (V.kin (by tm_at "V")) ?_))
local macro_rules | `(tactic| tm_at "v0") => `(tactic| (with_unfolding_all refine ld_v (by tm_at "V") (by first | rfl | assumption) ?_))
local macro_rules | `(tactic| tm_at "v5") => `(tactic| (with_reducible refine attr_node (by tm_at "V") ?_))
local macro_rules | `(tactic| tm_at "v9") => `(tactic| (with_reducible refine ld_list (by tm_at "V") ?_ (by tm_at "u") (by tm_at "u") (by tm_at "u") (by tm_at "u")))
local macro_rules | `(tactic| tm_at "v14") => `(tactic| (with_reducible refine m_neighbors_cw_order (by tm_at "V") ?_))
variable {w : World} {Ar : Around} {E : Value → Shared → Prop} {s : Shared} {g h h' : Heap} {L : Addr} {m : Str → Option Value} {A : EA} {S S' : ES} {T : Tg → Prop} {env : Env} {pos : Pos}
theorem ld_iter {Q : Value → Shared → Prop} (c : V prog w s.heap L m A S) (h : Q (.builtin "iter") s) (hk : env.scope.kind = .function) (hx : env.kindOf "iter" = some .globalImplicit) (hg : env.globals = mainGlobals) (hb : env.builtins = builtinsNs) :
    wpAny (model prog w) Ar (eval (.Name "iter" pos) env) Q E s := bi_v c (kn_iter _) boot_iter (by decide +kernel) h hk hx hg hb
theorem iter_dict {K : Type} [DecidableEq K] {knd : PySem.KeyKind prog w K} {d : Addr} {kvs : List (K × Value)} {ep : Nat} {Q : Value → Shared → Prop} (lo : (d == sysModules) = false) (hd : s.heap.DictAt knd d kvs ep)
    (k : ∀ h', (∀ b o, s.heap.get? b = some o → h'.get? b = some o) → h'.IsKeyIter s.heap.objs.size d 0 kvs.length ep → Q (.ref s.heap.objs.size) { s with heap := h' }) : wpAny (model prog w) Ar (call (.builtin "iter") [.ref d]) Q E s := by
  refine call_function_entry (by decide +kernel) (by decide +kernel) kdk_entry_iter (kdk_args_iter _) ?_
  unfold Builtin.«iter»
  refine wpAny_bind (m := someArgs "iter" 1 2 _) (wpAny_of_eq (a := [Value.ref d]) (by first | rfl | kernel_rfl!) ?_)
  show wpAny _ _ (pyIter (.ref d) >>= _) _ _ _
  refine wpAny_bind (wpAny_pyIter_dict lo hd ?_)
  exact wpAny_pure ⟨_, rfl, k _ (fun b o e => Heap.get?_push_of_some _ e) ⟨_, Heap.get?_push_size _ rfl, rfl, rfl⟩⟩
theorem sum328 {R : Result → Shared → Prop} (e : EmbAt prog w s.heap A S) (G : Gd w s.heap) (hroom : Ar.depth < recursionLimit)
    (k : ∀ h' tk I ep, (∀ b o, s.heap.get? b = some o → h'.get? b = some o) → s.heap.objs.size ≤ I → h'.IsKeyIter I A.dn 0 S.nn.length ep → h'.DictAt (PySem.intKind prog w) A.dn (refs S.nn A.att) ep → R (.ok (.ret (.ref I))) { s with heap := h', toks := tk }) :
    codeAny (model prog w) Ar (.call (.ref 328) ⟨[.ref A.x], []⟩) R s := by
  refine enter_emb0 (o := o328 w.params) (fd := fdOf (o328 w.params)) (body := fbody (clsSt 12 9)) (binds := [("self", .ref A.x)]) e G hroom (by rfl) (by rfl) (by kernel_rfl!) (by rfl) (BindsTo.of_eq (by rfl)) (by kernel_rfl!) (by kernel_rfl!) fun L h₁ hL hL2 c => ?_
  refine wpAny_execs_cons ?_
  (tm_at "s18"; tm_at "s21")
  refine ld_iter c.v ?_ (by tm_at "u") (by tm_at "u") (by tm_at "u") (by tm_at "u")
  (tm_at "s23"; tm_at "s24"; tm_at "s10"; tm_at "v0"; tm_at "v5"; tm_at "s25")
  obtain ⟨ep, hd⟩ := e.node.dictAt
  refine iter_dict (not_sys (e.high .dn trivial)) (hd.keep fun b o q => c.keep b o q) fun h' hk hit => ?_
  refine k _ _ _ ep (fun b o q => hk b o (c.keep b o q)) ?_ (by rw [refs_length] at hit; exact hit) (hd.keep fun b o q => hk b o (c.keep b o q))
  obtain ⟨oL, _, _, ho, _⟩ := c.ns
  exact Nat.le_trans (Nat.le_of_eq hL.symm) (Nat.le_of_lt (Heap.lt_size ho))
theorem iter_x {Q : Value → Shared → Prop} (c : C0 prog w g L s.heap m A S) (hL : topSize ≤ L) (hroom : Ar.depth < recursionLimit)
    (k : ∀ h' tk I ep, (∀ b o, s.heap.get? b = some o → h'.get? b = some o) → s.heap.objs.size ≤ I → h'.IsKeyIter I A.dn 0 S.nn.length ep → h'.DictAt (PySem.intKind prog w) A.dn (refs S.nn A.att) ep → Q (.ref I) { s with heap := h', toks := tk }) :
    wpAny (model prog w) Ar (pyIter (.ref A.x)) Q E s := by
  obtain ⟨t, I⟩ := c.v.em.instAt
  refine owit_iter (fr_low c.ns hL) (kin_low c.gd.kin) I (kf_iter _) (ki_328 _) ?_
  refine callR (sum328 c.v.em c.gd hroom fun h' tk I ep hk hI hit hd => ⟨_, rfl, ?_⟩)
  refine wpAny_specialOf hit.typeIs PySem.F.slot_dict_keyiterator_next.lookup ?_
  exact k h' tk I ep hk hI hit hd
theorem sum788 {R : Result → Shared → Prop} {row : Int → List Int} (e : EmbAt prog w s.heap A S) (G : Gd w s.heap) (hh : Ar.handled = none) (hroom : Ar.depth + 4 < recursionLimit) (hB : AllBare s.gens) (nd : S.nn.Nodup)
    (hr : ∀ u ∈ S.nn, u ∈ S.ns ∧ Told S u (row u) ∧ (row u).length ≤ 100)
    (k : ∀ s' D la, (∀ b o, s.heap.get? b = some o → s'.heap.get? b = some o) → AllBare s'.gens → s'.os = s.os → s'.drawn = s.drawn → s.heap.objs.size ≤ D → s'.heap.DictOf (PySem.intKind prog w) D (refs S.nn la) → (∀ u ∈ S.nn, IL s'.heap (la u) (row u) ∧ s.heap.objs.size ≤ la u ∧ la u ≠ D) → R (.ok (.ret (.ref D))) s') :
    codeAny (model prog w) Ar (.call (.ref 788) ⟨[.ref A.x], []⟩) R s := by
  refine enter_emb0 (o := o788 w.params) (fd := fdOf (o788 w.params)) (body := fbody (clsSt 16 1)) (binds := [("self", .ref A.x)]) e G (by omega) (by rfl) (by rfl) (by kernel_rfl!) (by rfl) (BindsTo.of_eq (by rfl)) (by kernel_rfl!) (by kernel_rfl!) fun L h₁ hL hL2 c => ?_
  refine wpAny_execs_cons ?_
  (tm_at "s2"; tm_at "s12")
  generalize hD : h₁.objs.size = D
  have c1 := c.push { cls := .type "dict", data := .dict #[] }
  have D0 : (h₁.push { cls := .type "dict", data := .dict #[] }).get? D = some (dictOf [] 0) := by rw [← hD]; exact Heap.get?_push_size _ rfl
  have lt : ∀ b o, h₁.get? b = some o → b ≠ D := fun b o q z => by have := Heap.lt_size q; rw [z, hD] at this; exact Nat.lt_irrefl _ this
  have LD : L ≠ D := by obtain ⟨o, _, _, ho, _⟩ := c.ns; exact lt _ _ ho
  have gD : s.heap.get? D = none := by
    cases q : s.heap.get? D with
    | none => rfl
    | some o => exact absurd rfl (lt _ _ (c.keep _ _ q))
  refine st_v0 c1 (fun h2 c2 hs2 => ?_) (by tm_at "u") (by tm_at "u") (by tm_at "u")
  have D2 : h2.get? D = some (dictOf [] 0) := (hs2.2 D LD.symm).trans D0
  dsimp only
  refine wpAny_execs_cons (wpAny_For ?_ (by intro _; rfl))
  (tm_at "v0")
  refine iter_x c2 hL2 (by rw [depth_deeper]; omega) fun h3 tk3 I ep hk3 hI hit hda => ?_
  have c3 := c2.keeps hk3
  have D3 := hk3 _ _ D2
  have lt2 : ∀ b o, h2.get? b = some o → b ≠ I := fun b o q z => by have := Heap.lt_size q; rw [z] at this; exact absurd this (Nat.not_lt.mpr hI)
  have DI : D ≠ I := lt2 _ _ D2
  have LI : L ≠ I := by obtain ⟨o, _, _, ho, _⟩ := c2.ns; exact lt2 _ _ ho
  have gI : s.heap.get? I = none := by
    cases q : s.heap.get? I with
    | none => rfl
    | some o => exact absurd rfl (lt2 _ _ (c2.keep _ _ q))
  have hda0 : s.heap.DictAt (PySem.intKind prog w) A.dn (refs S.nn A.att) ep := by
    obtain ⟨ep', x⟩ := e.node.dictAt
    have y := x.keep fun b o q => c3.keep b o q
    obtain ⟨o, es, ho, r⟩ := x
    obtain ⟨o1, es1, ho1, _, hd1, _⟩ := y
    obtain ⟨o2, es2, ho2, _, hd2, _⟩ := hda
    have : o1 = o2 := Option.some.inj (ho1.symm.trans ho2)
    subst this
    rw [hd1] at hd2
    injection hd2 with _ q
    subst q
    exact ⟨o, es, ho, r⟩
  have nI : ∀ b, s.heap.get? b ≠ none → b ≠ I := fun b q z => q (z ▸ gI)
  refine for_upto S.nn.length (fun i s' => ∃ m' la, C0 prog w s.heap L s'.heap m' A S ∧ m' (Str.ofString "self") = some (.ref A.x) ∧ m' (Str.ofString "embedding") = some (.ref D) ∧ s'.heap.IsKeyIter I A.dn i S.nn.length ep ∧
      s'.heap.DictOf (PySem.intKind prog w) D (refs (S.nn.take i) la) ∧ (∀ u ∈ S.nn.take i, IL s'.heap (la u) (row u) ∧ s.heap.objs.size ≤ la u ∧ la u ≠ D ∧ la u ≠ L ∧ la u ≠ I) ∧ AllBare s'.gens ∧ s'.os = s.os ∧ s'.drawn = s.drawn) ?_ ?_ ?_ (fun _ => by rfl)
  · rintro i s' hlt ⟨m', la, c', p1, p2, it, dd, rows, hB', ho', hd'⟩
    have hu : S.nn[i]? = some S.nn[i] := List.getElem?_eq_getElem hlt
    generalize hv : S.nn[i] = u at hu
    have hx : (refs S.nn A.att)[i]? = some (u, .ref (A.att u)) := by unfold refs; rw [List.getElem?_map, hu]; rfl
    rw [← refs_length S.nn A.att] at it
    refine wpAny_pyNext_dict_item it (hda0.keep fun b o q => c'.keep b o q) hx fun key h4 hk it4 hs4 => ⟨key, rfl, ?_⟩
    rw [refs_length] at it4
    obtain ⟨t, rfl⟩ : ∃ t, key = .int u t := by
      cases key <;> simp [PySem.intKind, Value.isInt] at hk
      exact ⟨_, by rw [hk]⟩
    have c4 := c'.other hs4 gI LI.symm
    refine wpAny_assign_Name (st_v0 c4 (fun h5 c5 hs5 => ?_) (by tm_at "u") (by tm_at "u") (by tm_at "u"))
    refine wpAny_execs_cons ?_
    (tm_at "s3"; tm_at "s21"; tm_at "v9"; tm_at "s23"; tm_at "s24"; tm_at "s20"; tm_at "v0"; tm_at "v14"; tm_at "s23"; tm_at "s24"; tm_at "v0"; tm_at "s25"; tm_at "s29")
    obtain ⟨r1, r2, r3⟩ := hr u (List.mem_of_getElem? hu)
    have c5v := c5.v
    refine callR (list_816 (row := row u) c5v.em c5.gd hh (by rw [depth_deeper]; omega) r1 r2 r3 hB' fun s6 a hk6 hB6 ho6 hd6 hsz6 hlist => ⟨_, rfl, ?_⟩)
    (tm_at "s25")
    refine hlist _ _ fun s7 d hk7 hB7 ho7 hd7 hsz7 il7 => ?_
    have c7 : C0 prog w s.heap L s7.heap _ A S := c5.keeps hk7
    have c7v := c7.v
    refine ld_v c7v (by first | rfl | assumption) ?_ (by tm_at "u") (by tm_at "u") (by tm_at "u")
    refine ld_v c7v (by with_unfolding_all rfl) ?_ (by tm_at "u") (by tm_at "u") (by tm_at "u")
    have dd7 : s7.heap.DictOf (PySem.intKind prog w) D (refs (S.nn.take i) la) := ((dd.sameBut hs4 DI).sameBut hs5 LD.symm).at fun o q => hk7 _ o q
    have uni : u ∉ S.nn.take i := not_mem_take nd hu
    have tk1 : S.nn.take (i + 1) = S.nn.take i ++ [u] := by rw [List.take_add_one, hu]; rfl
    have oldd : ∀ b o, h5.get? b = some o → b ≠ d := fun b o q z => by have := Heap.lt_size q; rw [z] at this; exact absurd this (Nat.not_lt.mpr hsz7)
    have gd : s.heap.get? d = none := by
      cases q : s.heap.get? d with
      | none => rfl
      | some o => exact absurd rfl (oldd _ _ (c5.keep _ _ q))
    have Dd : D ≠ d := by obtain ⟨o, _, _, ho, _⟩ := (dd.sameBut hs4 DI).sameBut hs5 LD.symm; exact oldd _ _ ho
    have Ld : L ≠ d := by obtain ⟨o, _, _, ho, _⟩ := c5.ns; exact oldd _ _ ho
    have Id : I ≠ d := by obtain ⟨o, ho, _⟩ := it4; exact oldd _ _ ((hs5.2 I LI.symm).trans ho)
    refine wpAny_setItem_pairs (is_int _ _) dd7 (fun h8 hm8 hs8 => ?_) (by rw [refs_length, List.length_take]; exact line_of (Nat.le_trans (Nat.min_le_right _ _) e.small.1))
    rw [stored_new (valueAt_refs_none uni), refs_snoc uni, ← tk1] at hm8
    have c8 : C0 prog w s.heap L h8 _ A S := c7.other hs8 gD LD.symm
    (tm_at "s1")
    refine ⟨_, upd la u d, c8, by with_unfolding_all exact p1, by with_unfolding_all exact p2, ?_, hm8, fun x hx => ?_, hB7, ho7.trans ho', hd7.trans hd'⟩
    · obtain ⟨o, ho, r⟩ := it4
      exact ⟨o, (hs8.2 I DI.symm).trans (hk7 _ _ ((hs5.2 I LI.symm).trans ho)), r⟩
    · rw [tk1] at hx
      rcases List.mem_append.mp hx with q | q
      · have nxu : x ≠ u := fun z => uni (z ▸ q)
        obtain ⟨y1, y2, y3, y4, y5⟩ := rows x q
        rw [upd_ne _ _ nxu]
        refine ⟨y1.at fun o ho => (hs8.2 _ y3).trans (hk7 _ _ ((hs5.2 _ y4).trans ((hs4.2 _ y5).trans ho))), y2, y3, y4, y5⟩
      · rw [List.mem_singleton.mp q, upd_same]
        have szd : s.heap.objs.size ≤ d := Nat.le_trans (Nat.le_of_lt (hL ▸ c5.ns.lt)) hsz7
        exact ⟨il7.at fun o ho => (hs8.2 _ Dd.symm).trans ho, szd, Dd.symm, Ld.symm, Id.symm⟩
  · rintro s' ⟨m', la, c', p1, p2, it, dd, rows, hB', ho', hd'⟩
    rw [← refs_length S.nn A.att] at it
    refine wpAny_pyNext_dict_end hh it (hda0.keep fun b o q => c'.keep b o q) (List.getElem?_eq_none (Nat.le_refl _)) fun h4 hk4 => ⟨rfl, wpAny_execs_nil ?_⟩
    have c4 := c'.otherE hk4 gI LI.symm
    have c4v := c4.v
    dsimp only
    refine wpAny_execs_cons (wpAny_Return_some (ld_v c4v p2 ?_ (by tm_at "u") (by tm_at "u") (by tm_at "u")))
    have e1 : S.nn.take S.nn.length = S.nn := List.take_length
    rw [e1] at dd rows
    refine k _ D la (fun b o q => c4.keep b o q) hB' ho' hd' (by rw [← hD]; exact Nat.le_of_lt (hL ▸ c.ns.lt)) (dd.at fun o ho => hk4 _ o DI ho) fun u hu => ?_
    obtain ⟨y1, y2, y3, y4, y5⟩ := rows u hu
    exact ⟨y1.at fun o ho => hk4 _ o y5 ho, y2, y3⟩
  · exact ⟨_, fun _ => 0, c3, by with_unfolding_all rfl, by with_unfolding_all rfl, hit, empty_at D3, fun u hu => by simp at hu, hB, rfl, rfl⟩
end
end Mine
end
section
open PySem PySem.W PySem.Calls PyProof.Rows
set_option maxRecDepth 100000
set_option maxHeartbeats 4000000
set_option linter.all false
namespace Mine
section
variable {S : ES} {ks : List Int} {R R' : Int → List Int}
theorem Ok.congr (o : Ok S ks R) (h : ∀ u ∈ ks, R' u = R u) : Ok S ks R' :=
  { o with perm := fun u hu => h u hu ▸ o.perm u hu, cyc := fun u hu => h u hu ▸ o.cyc u hu, rnd := fun u hu => h u hu ▸ o.rnd u hu, sub := fun u hu v hv => o.sub u hu v (h u hu ▸ hv),
           pnb := fun u hu v => (o.pnb u hu v).trans ⟨fun ⟨a, b⟩ => ⟨a, (h v a).symm ▸ b⟩, fun ⟨a, b⟩ => ⟨a, h v a ▸ b⟩⟩ }
theorem Sym.congr (o : Ok S ks R) (y : Sym ks R) (h : ∀ u ∈ ks, R' u = R u) : Sym ks R' := fun u hu v hv => by
  have hv' : v ∈ R u := h u hu ▸ hv
  rw [h v (o.sub u hu v hv').1]
  exact y u hu v hv'
theorem Ok.for802 (o : Ok S ks R) {n : Int} (hn : n ∈ ks) :
    ∀ u ∈ S.pnb n, u ∈ S.ns ∧ u ∈ S.np ∧ n ∈ S.nbr u ∧ (Sym ks R → n ∈ S.pnb u) ∧ u ≠ n ∧ (n ≠ S.cw u n → S.cw u n ∈ S.nbr u ∧ S.ccw u n ∈ S.nbr u ∧ S.ccw u n ≠ n) := fun u hu => by
  obtain ⟨h1, h2⟩ := (o.pnb n hn u).mp hu
  have h3 := o.sub u h1 n h2
  refine ⟨o.ns ▸ h1, o.np ▸ h1, (o.mem h1).mpr h2, fun y => (o.pnb u h1 n).mpr ⟨hn, y u h1 n h2⟩, fun z => h3.2 z.symm, fun q => ?_⟩
  obtain ⟨x1, x2⟩ := o.next h1 h2
  exact ⟨(o.mem h1).mpr x1, (o.mem h1).mpr x2, ((o.ringDel h1 h2).2 q).2⟩
theorem Ok.for853 (o : Ok S ks R) {u v : Int} (hu : u ∈ ks) (h : v ∈ R u) : v ≠ S.cw u v → S.cw u v ∈ S.nbr u ∧ S.ccw u v ∈ S.nbr u ∧ S.ccw u v ≠ v := fun q => by
  obtain ⟨x1, x2⟩ := o.next hu h
  exact ⟨(o.mem hu).mpr x1, (o.mem hu).mpr x2, ((o.ringDel hu h).2 q).2⟩
theorem filter_snoc {l ns : List Int} {n : Int} : l.filter (fun a => decide (a ∉ ns ++ [n])) = del (l.filter fun a => decide (a ∉ ns)) n := by
  unfold del
  rw [List.filter_filter]
  congr 1
  funext a
  by_cases h1 : a ∈ ns <;> by_cases h2 : a = n <;> simp [h1, h2]
end
section
variable {w : World} {Ar : Around} {E : Value → Shared → Prop} {s : Shared} {g h h' : Heap} {L : Addr} {m : Str → Option Value} {A : EA} {S S' : ES} {T : Tg → Prop}
local macro_rules | `(tactic| tm_at "k") => `(tactic| first | exact kk_825 _ | exact kk_802 _ | exact kk_853 _ | exact kk_788 _ | exact kk_816 _ | exact kk_614 _ | exact kk_809 _ | exact kk_860 _ | exact kk_867 _ | exact kk_839 _ | exact kk_846 _ | exact kk_261 _ | exact kk_268 _ | exact kk_275 _ | exact kk_282 _ | exact kk_289 _ | exact kk_296 _)
local macro_rules | `(tactic| tm_at "V") => `(tactic| first | assumption | exact C.v (by assumption) | exact C0.v (by assumption))
local macro_rules | `(tactic| tm_at "h") => `(tactic| first | assumption | with_unfolding_all assumption)
local macro_rules | `(tactic| tm_at "t") => `(tactic| first | assumption | (with_unfolding_all exact True.intro) | (with_unfolding_all exact fun q => Tg.noConfusion q))
local macro_rules | `(tactic| tm_at "u") => `(tactic| with_unfolding_all rfl)
local macro_rules | `(tactic| tm_at "s0") => `(tactic| (with_reducible refine wpAny_execs_cons ?_))
local macro_rules | `(tactic| tm_at "s1") => `(tactic| (with_reducible refine wpAny_execs_nil ?_))
local macro_rules | `(tactic| tm_at "s6") => `(tactic| (with_reducible refine wpAny_If ?_))
local macro_rules | `(tactic| tm_at "s7") => `(tactic| (with_reducible refine wpAny_isTrue_Compare1 ?_ (by tm_at "u")))
local macro_rules | `(tactic| tm_at "s10") => `(tactic| (with_reducible refine Attribute_Name_ ?_ (by tm_at "u")))
local macro_rules | `(tactic| tm_at "s17") => `(tactic| (with_reducible refine wpAny_Expr_any ?_ (by tm_at "u") (by tm_at "u")))
local macro_rules | `(tactic| tm_at "s20") => `(tactic| (with_reducible refine MethodCall_ ?_ (by tm_at "u")))
local macro_rules | `(tactic| tm_at "s23") => `(tactic| ((with_reducible show wpAny _ _ (callWith _ _ _ _ _) _ _ _); dsimp only; first
     | (with_reducible refine callWith_method1 ?_ (by tm_at "u") (by tm_at "u"))
     | (with_reducible refine callWith_K (V.kin (by tm_at "V")) (by tm_at "k") ?_ (by tm_at "u") (by tm_at "u"))
     | (with_reducible refine callWith_K0 (V.kin (by tm_at "V")) (by tm_at "k") ?_)
     | (with_reducible refine callWith_KW (V.kin (by tm_at "V")) (by tm_at "k") (by tm_at "u") ?_ (by tm_at "u") (by tm_at "u"))
     | (with_reducible refine PyProof.Rows.callWith_type1 ?_ (by tm_at "u") (by tm_at "u"))))
local macro_rules | `(tactic| tm_at "s24") => `(tactic| (with_reducible refine spliced_more ?_ (by tm_at "u")))
local macro_rules | `(tactic| tm_at "s25") => `(tactic| ((with_reducible refine spliced_none ?_); try dsimp only [List.cons_append, List.nil_append]))
local macro_rules | `(tactic| tm_at "s29") => `(tactic| (with_reducible refine in_and (V.kin (by tm_at "V")) ?_))
local macro_rules | `(tactic| tm_at "v0") => `(tactic| (with_unfolding_all refine ld_v (by tm_at "V") (by first | rfl | assumption) ?_))
local macro_rules | `(tactic| tm_at "v5") => `(tactic| (with_reducible refine attr_node (by tm_at "V") ?_))
local macro_rules | `(tactic| tm_at "v11") => `(tactic| (with_reducible refine m_remove_node (by tm_at "V") ?_))
local macro_rules | `(tactic| tm_at "v28") => `(tactic| (with_reducible refine in_dn (by tm_at "V") ?_))
local macro_rules | `(tactic| tm_at "v33") => `(tactic| (with_reducible refine PySem.wpAny_truthy_bool ?_))
theorem sum809 {R : Result → Shared → Prop} {l : Addr} {ns ks : List Int} {Rw : Int → List Int} (e : EmbAt prog w s.heap A S) (G : Gd w s.heap) (hroom : Ar.depth + 3 < recursionLimit) (hh : Ar.handled = none)
   (o : Ok S ks Rw) (y : Sym ks Rw) (hl : IL s.heap l ns) (hf : ∀ t, S.live t → A.at t ≠ l)
   (k : ∀ h' tk S', Ok S' (ks.filter fun a => decide (a ∉ ns)) (fun a => (Rw a).filter fun b => decide (b ∉ ns)) → Sym (ks.filter fun a => decide (a ∉ ns)) (fun a => (Rw a).filter fun b => decide (b ∉ ns)) → Back prog w A S s.heap A S' h' → R (.ok (.ret .none)) { s with heap := h', toks := tk }) :
   codeAny (model prog w) Ar (.call (.ref 809) ⟨[.ref A.x, .ref l], []⟩) R s := by
  refine enter_emb (o := o809 w.params) (fd := fdOf (o809 w.params)) (body := fbody (clsSt 16 4)) (binds := [("self", .ref A.x), ("nodes", .ref l)]) e G (by omega) (by rfl) (by rfl) (by kernel_rfl!) (by rfl) (BindsTo.of_eq (by rfl)) (by kernel_rfl!) (by kernel_rfl!) fun L h₁ hL hL2 c => ?_
  obtain ⟨vs, hlp, hi⟩ := hl
  have hl := hlp.isList
  have hl' : (hide s.heap (Fp A S)).IsList l vs.toArray := hl.at fun o q => by
    rw [hide_get, if_neg]
    · exact q
    · rintro ⟨t, lt, z⟩; exact hf t lt z
  have hlen := hi.length
  have f0 : ∀ l : List Int, l.filter (fun a => decide (a ∉ ns.take 0)) = l := fun l => List.filter_eq_self.mpr (by simp)
  refine wpAny_execs_cons ?_
  refine for_list (m := m0 [("self", .ref A.x), ("nodes", .ref l)]) (S := S) (A := A) (L := L) (g := hide s.heap (Fp A S)) (fun i A' S' => A' = A ∧ Ok S' (ks.filter fun a => decide (a ∉ ns.take i)) (fun a => (Rw a).filter fun b => decide (b ∉ ns.take i)) ∧ Sym (ks.filter fun a => decide (a ∉ ns.take i)) (fun a => (Rw a).filter fun b => decide (b ∉ ns.take i)))
    (fun _ m' => m' (Str.ofString "self") = some (.ref A.x)) hh ⟨rfl, by rw [f0, show (fun a => (Rw a).filter fun b => decide (b ∉ ns.take 0)) = Rw from funext fun a => f0 _]; exact o, by rw [f0, show (fun a => (Rw a).filter fun b => decide (b ∉ ns.take 0)) = Rw from funext fun a => f0 _]; exact y⟩ (by rfl) hl' ?_
  (tm_at "v0")
  refine ⟨rfl, hL2, c, fun i v hv g' m' A' S' s₂ c' hg' ⟨rfl, oi, yi⟩ hm => ?_, fun h' tk m' A' S' c' ⟨rfl, oi, yi⟩ hm => ?_⟩
  · have hi' : i < ns.length := by
      have := (List.getElem?_eq_some_iff.mp (by simpa using hv : vs[i]? = some v)).1
      omega
    have hx : ns[i]? = some ns[i] := List.getElem?_eq_getElem hi'
    obtain ⟨t, ht⟩ := ints_at hi hx
    obtain rfl : v = .int ns[i] t := by
      have : vs[i]? = some v := by simpa using hv
      rw [ht] at this; exact (Option.some.inj this).symm
    generalize hn : ns[i] = n at hx
    refine st_v c' (fun h₃ c₃ => ?_) (by tm_at "u") (by tm_at "u") (by tm_at "u")
    refine wpAny_execs_cons ?_
    (tm_at "s6"; tm_at "s7"; tm_at "v0"; tm_at "s10"; tm_at "v0"; tm_at "v5"; tm_at "v28"; tm_at "v33")
    have tk1 : ns.take (i + 1) = ns.take i ++ [n] := by rw [List.take_add_one, hx]; rfl
    have f1 : ∀ l : List Int, l.filter (fun a => decide (a ∉ ns.take (i + 1))) = del (l.filter fun a => decide (a ∉ ns.take i)) n := fun l => by rw [tk1]; exact filter_snoc
    by_cases q : n ∈ S'.nn
    · rw [decide_eq_true q]
      simp only [if_true]
      (tm_at "s0"; tm_at "s17"; tm_at "s20"; tm_at "v0"; tm_at "v11"; tm_at "s23"; tm_at "s24"; tm_at "v0"; tm_at "s25"; tm_at "s29")
      have hk : n ∈ ks.filter fun a => decide (a ∉ ns.take i) := oi.nn ▸ q
      refine callR (sum802 c₃.em c₃.gd (by rw [depth_deeper]; omega) hh q (oi.ns ▸ hk) (oi.np ▸ hk) (oi.pnd n hk) (fun u hu => ?_) fun h' tk b => ⟨_, rfl, ?_⟩)
      · obtain ⟨b1, b2, b3, b4, b5⟩ := oi.for802 hk u hu
        exact ⟨b1, b2, b3, b4 yi, b5⟩
      · (tm_at "s1"; tm_at "s1")
        refine ⟨.inl rfl, _, _, _, A', S'.rmNode n, rfl, c₃.back b, ⟨rfl, ?_, ?_⟩, by with_unfolding_all exact hm⟩
        · rw [f1, show (fun a => (Rw a).filter fun b => decide (b ∉ ns.take (i + 1))) = fun a => del ((Rw a).filter fun b => decide (b ∉ ns.take i)) n from funext fun a => f1 _]
          exact oi.rmNode yi hk
        · rw [f1, show (fun a => (Rw a).filter fun b => decide (b ∉ ns.take (i + 1))) = fun a => del ((Rw a).filter fun b => decide (b ∉ ns.take i)) n from funext fun a => f1 _]
          exact yi.rmNode
    · rw [decide_eq_false q]
      simp only [Bool.false_eq_true, if_false]
      (tm_at "s1"; tm_at "s1")
      have hk : n ∉ ks.filter fun a => decide (a ∉ ns.take i) := oi.nn ▸ q
      have e1 : ∀ u ∈ ks.filter (fun a => decide (a ∉ ns.take i)), del ((Rw u).filter fun b => decide (b ∉ ns.take i)) n = (Rw u).filter fun b => decide (b ∉ ns.take i) := fun u hu => del_none fun z => hk (oi.sub u hu n z).1
      refine ⟨.inl rfl, _, _, _, A', S', rfl, c₃, ⟨rfl, ?_, ?_⟩, by with_unfolding_all exact hm⟩
      · rw [f1, show (fun a => (Rw a).filter fun b => decide (b ∉ ns.take (i + 1))) = fun a => del ((Rw a).filter fun b => decide (b ∉ ns.take i)) n from funext fun a => f1 _, del_none hk]
        exact oi.congr e1
      · rw [f1, show (fun a => (Rw a).filter fun b => decide (b ∉ ns.take (i + 1))) = fun a => del ((Rw a).filter fun b => decide (b ∉ ns.take i)) n from funext fun a => f1 _, del_none hk]
        exact Sym.congr oi yi e1
  · dsimp only
    refine wpAny_execs_nil ?_
    have e1 : ns.take vs.toArray.size = ns := by rw [List.size_toArray, hlen]; exact List.take_length
    rw [e1] at oi yi
    exact k _ _ _ oi yi (back_of c')
end
end Mine
end
section
open PySem PySem.W PySem.Calls PyProof.Rows
set_option maxRecDepth 100000
set_option maxHeartbeats 4000000
set_option linter.all false
namespace Mine
def rmRow (ks : List Int) (R : Int → List Int) (e : Int × Int) : Int → List Int := if e.1 ∈ ks ∧ e.2 ∈ R e.1 then upd (upd R e.1 (del (R e.1) e.2)) e.2 (del (R e.2) e.1) else R
def rmRows (ks : List Int) (R : Int → List Int) (es : List (Int × Int)) : Int → List Int := es.foldl (rmRow ks) R
def EL (h : Heap) (l : Addr) (no : Addr → Prop) (es : List (Int × Int)) : Prop :=
  ∃ vs : List Value, h.IsList l vs.toArray ∧ vs.length = es.length ∧ ¬ no l ∧ ∀ (i : Nat) (u v : Int), es[i]? = some (u, v) → ∃ (p : Addr) (t1 t2 : Tok) (rest : List Value), vs[i]? = some (.ref p) ∧ ¬ no p ∧ IsTup h p (Value.int u t1 :: Value.int v t2 :: rest).toArray
section
variable {w : World} {Ar : Around} {E : Value → Shared → Prop} {s : Shared} {g h h' : Heap} {L : Addr} {m : Str → Option Value} {A : EA} {S S' : ES} {T : Tg → Prop}
local macro_rules | `(tactic| tm_at "k") => `(tactic| first | exact kk_825 _ | exact kk_802 _ | exact kk_853 _ | exact kk_788 _ | exact kk_816 _ | exact kk_614 _ | exact kk_809 _ | exact kk_860 _ | exact kk_867 _ | exact kk_839 _ | exact kk_846 _ | exact kk_261 _ | exact kk_268 _ | exact kk_275 _ | exact kk_282 _ | exact kk_289 _ | exact kk_296 _)
local macro_rules | `(tactic| tm_at "V") => `(tactic| first | assumption | exact C.v (by assumption) | exact C0.v (by assumption))
local macro_rules | `(tactic| tm_at "h") => `(tactic| first | assumption | with_unfolding_all assumption)
local macro_rules | `(tactic| tm_at "t") => `(tactic| first | assumption | (with_unfolding_all exact True.intro) | (with_unfolding_all exact fun q => Tg.noConfusion q))
local macro_rules | `(tactic| tm_at "u") => `(tactic| with_unfolding_all rfl)
local macro_rules | `(tactic| tm_at "s0") => `(tactic| (with_reducible refine wpAny_execs_cons ?_))
local macro_rules | `(tactic| tm_at "s1") => `(tactic| (with_reducible refine wpAny_execs_nil ?_))
local macro_rules | `(tactic| tm_at "s6") => `(tactic| (with_reducible refine wpAny_If ?_))
local macro_rules | `(tactic| tm_at "s7") => `(tactic| (with_reducible refine wpAny_isTrue_Compare1 ?_ (by tm_at "u")))
local macro_rules | `(tactic| tm_at "s9") => `(tactic| (with_reducible refine Subscript_ ?_))
local macro_rules | `(tactic| tm_at "s10") => `(tactic| (with_reducible refine Attribute_Name_ ?_ (by tm_at "u")))
local macro_rules | `(tactic| tm_at "s17") => `(tactic| (with_reducible refine wpAny_Expr_any ?_ (by tm_at "u") (by tm_at "u")))
local macro_rules | `(tactic| tm_at "s20") => `(tactic| (with_reducible refine MethodCall_ ?_ (by tm_at "u")))
local macro_rules | `(tactic| tm_at "s23") => `(tactic| ((with_reducible show wpAny _ _ (callWith _ _ _ _ _) _ _ _); dsimp only; first
     | (with_reducible refine callWith_method1 ?_ (by tm_at "u") (by tm_at "u"))
     | (with_reducible refine callWith_K (V.kin (by tm_at "V")) (by tm_at "k") ?_ (by tm_at "u") (by tm_at "u"))
     | (with_reducible refine callWith_K0 (V.kin (by tm_at "V")) (by tm_at "k") ?_)
     | (with_reducible refine callWith_KW (V.kin (by tm_at "V")) (by tm_at "k") (by tm_at "u") ?_ (by tm_at "u") (by tm_at "u"))
     | (with_reducible refine PyProof.Rows.callWith_type1 ?_ (by tm_at "u") (by tm_at "u"))))
local macro_rules | `(tactic| tm_at "s24") => `(tactic| (with_reducible refine spliced_more ?_ (by tm_at "u")))
local macro_rules | `(tactic| tm_at "s25") => `(tactic| ((with_reducible refine spliced_none ?_); try dsimp only [List.cons_append, List.nil_append]))
local macro_rules | `(tactic| tm_at "s29") => `(tactic| (with_reducible refine in_and (V.kin (by tm_at "V")) ?_))
local macro_rules | `(tactic| tm_at "s32") => `(tactic| (with_reducible refine isTrue_and ?_))
local macro_rules | `(tactic| tm_at "s34") => `(tactic| (with_reducible refine isTrue_and_nil ?_))
local macro_rules | `(tactic| tm_at "v0") => `(tactic| (with_unfolding_all refine ld_v (by tm_at "V") (by first | rfl | assumption) ?_))
local macro_rules | `(tactic| tm_at "v3") => `(tactic| (with_reducible refine attr_succ (by tm_at "V") ?_))
local macro_rules | `(tactic| tm_at "v12") => `(tactic| (with_reducible refine m_remove_edge (by tm_at "V") ?_))
local macro_rules | `(tactic| tm_at "v27") => `(tactic| (with_reducible refine in_ds (by tm_at "V") ?_))
local macro_rules | `(tactic| tm_at "v29") => `(tactic| (with_reducible refine in_inn (by tm_at "V") (by tm_at "h") ?_))
local macro_rules | `(tactic| tm_at "v33") => `(tactic| (with_reducible refine PySem.wpAny_truthy_bool ?_))
local macro_rules | `(tactic| tm_at "v47") => `(tactic| (with_reducible refine sub_ds (by tm_at "V") (by tm_at "h") ?_ (by tm_at "u")))
theorem sum860 {R : Result → Shared → Prop} {l : Addr} {es : List (Int × Int)} {ks : List Int} {Rw : Int → List Int} (e : EmbAt prog w s.heap A S) (G : Gd w s.heap) (hroom : Ar.depth + 3 < recursionLimit) (hh : Ar.handled = none)
   (o : Ok S ks Rw) (y : Sym ks Rw) (hl : EL s.heap l (Fp A S) es)
   (k : ∀ h' tk S', Ok S' ks (rmRows ks Rw es) → Sym ks (rmRows ks Rw es) → Back prog w A S s.heap A S' h' → R (.ok (.ret .none)) { s with heap := h', toks := tk }) :
   codeAny (model prog w) Ar (.call (.ref 860) ⟨[.ref A.x, .ref l], []⟩) R s := by
  refine enter_emb (o := o860 w.params) (fd := fdOf (o860 w.params)) (body := fbody (clsSt 16 11)) (binds := [("self", .ref A.x), ("ebunch", .ref l)]) e G (by omega) (by rfl) (by rfl) (by kernel_rfl!) (by rfl) (BindsTo.of_eq (by rfl)) (by kernel_rfl!) (by kernel_rfl!) fun L h₁ hL hL2 c => ?_
  obtain ⟨vs, hl, hlen, hno, hes⟩ := hl
  have up : ∀ b o, ¬ Fp A S b → s.heap.get? b = some o → (hide s.heap (Fp A S)).get? b = some o := fun b o n q => by rw [hide_get, if_neg n]; exact q
  have hl' : (hide s.heap (Fp A S)).IsList l vs.toArray := hl.at fun o q => up l o hno q
  refine wpAny_execs_cons ?_
  refine for_list (m := m0 [("self", .ref A.x), ("ebunch", .ref l)]) (S := S) (A := A) (L := L) (g := hide s.heap (Fp A S)) (fun i A' S' => A' = A ∧ Ok S' ks (rmRows ks Rw (es.take i)) ∧ Sym ks (rmRows ks Rw (es.take i)))
    (fun _ m' => m' (Str.ofString "self") = some (.ref A.x)) hh ⟨rfl, o, y⟩ (by rfl) hl' ?_
  (tm_at "v0")
  refine ⟨rfl, hL2, c, fun i v hv g' m' A' S' s₂ c' hg' ⟨rfl, oi, yi⟩ hm => ?_, fun h' tk m' A' S' c' ⟨rfl, oi, yi⟩ hm => ?_⟩
  · have hv' : vs[i]? = some v := by simpa using hv
    have hi' : i < es.length := by
      have := (List.getElem?_eq_some_iff.mp hv').1
      omega
    have hx : es[i]? = some es[i] := List.getElem?_eq_getElem hi'
    generalize hn : es[i] = ed at hx
    obtain ⟨a, b⟩ := ed
    obtain ⟨p, t1, t2, rest, hp, np, tup⟩ := hes i a b hx
    obtain rfl : v = .ref p := by rw [hp] at hv'; exact (Option.some.inj hv').symm
    have tk1 : rmRows ks Rw (es.take (i + 1)) = rmRow ks (rmRows ks Rw (es.take i)) (a, b) := by rw [List.take_add_one, hx]; unfold rmRows; simp [List.foldl_append]
    have tup' : IsTup s₂.heap p (Value.int a t1 :: Value.int b t2 :: rest).toArray := by
      obtain ⟨ot, ho, r⟩ := tup
      exact ⟨ot, c'.keep _ _ (hg' _ _ (up p ot np ho)), r⟩
    refine st_w c' (fun h₃ c₃ hs₃ => ?_) (by tm_at "u") (by tm_at "u") (by tm_at "u")
    have tup3 : IsTup h₃ p (Value.int a t1 :: Value.int b t2 :: rest).toArray := by
      obtain ⟨ot, ho, r⟩ := tup
      exact ⟨ot, c₃.keep _ _ (hg' _ _ (up p ot np ho)), r⟩
    refine wpAny_execs_cons (Assign_Tuple ?_ (by tm_at "u") (by tm_at "u"))
    refine wpAny_Subscript_Slice slot_tuple_getitem.lookup ?_ (by intro _ _; rfl)
    (tm_at "v0")
    refine wpAny_Slice (wpAny_pure ?_)
    rw [evalPart_some]
    refine wpAny_Constant_int ?_
    refine wpAny_pure ?_
    dsimp only
    have push3 : ∀ b o, h₃.get? b = some o → (h₃.push { cls := .type "slice", data := .fields #[.none, .int 2 (s₂.toks + 1), .none] }).get? b = some o := fun b o q => Heap.get?_push_of_some _ q
    refine ⟨(tup3.keeps push3).typeIs, ?_⟩
    refine first2 (u := s₂.toks + 1) (tup3.keeps push3) (Heap.IsSliceOf.new _ _ _ _) fun h₄ p' hk₄ tup4 => ?_
    have c₄ := c₃.keeps fun b o q => hk₄ b o (push3 b o q)
    dsimp only
    refine wpAny_assign_Tuple hh tup4 (by rfl) (by rfl) fun h₅ he₅ => ?_
    have c₅ := c₄.keeps fun b o q => he₅ b o (Nat.ne_of_lt (Heap.lt_size q)) q
    clear c₄
    show wpAny _ _ (assignInOrder [assign (.Name _ _) _, assign (.Name _ _) _] [_, _]) _ _ _
    refine wpAny_assignInOrder_more (wpAny_assign_Name ?_)
    refine st_v c₅ (fun h₆ c₆ => ?_) (by tm_at "u") (by tm_at "u") (by tm_at "u")
    refine wpAny_assignInOrder_more (wpAny_assign_Name ?_)
    refine st_v c₆ (fun h₇ c₇ => ?_) (by tm_at "u") (by tm_at "u") (by tm_at "u")
    refine wpAny_assignInOrder_none ?_
    dsimp only
    refine wpAny_execs_cons ?_
    (tm_at "s6"; tm_at "s32"; tm_at "s7"; tm_at "v0"; tm_at "s10"; tm_at "v0"; tm_at "v3"; tm_at "v27"; tm_at "v33")
    have nomem : ¬ (a ∈ ks ∧ b ∈ rmRows ks Rw (es.take i) a) → rmRow ks (rmRows ks Rw (es.take i)) (a, b) = rmRows ks Rw (es.take i) := fun q => by unfold rmRow; rw [if_neg q]
    by_cases q : a ∈ S'.ns
    · rw [decide_eq_true q]
      simp only [if_true]
      (tm_at "s32"; tm_at "s7"; tm_at "v0"; tm_at "s9"; tm_at "s10"; tm_at "v0"; tm_at "v3"; tm_at "v0"; tm_at "v47"; tm_at "v29"; tm_at "v33")
      have ha : a ∈ ks := oi.ns ▸ q
      by_cases q2 : b ∈ S'.nbr a
      · rw [decide_eq_true q2]
        skip
        simp only [if_true]
        (tm_at "s34")
        simp only [if_true]
        (tm_at "s0"; tm_at "s17"; tm_at "s20"; tm_at "v0"; tm_at "v12"; tm_at "s23"; tm_at "s24"; tm_at "v0"; tm_at "s24"; tm_at "v0"; tm_at "s25"; tm_at "s29")
        have hb : b ∈ rmRows ks Rw (es.take i) a := (oi.mem ha).mp q2
        obtain ⟨hbk, hne⟩ := oi.sub a ha b hb
        have hab := yi a ha b hb
        refine callR (sum853 c₇.em c₇.gd (by rw [depth_deeper]; omega) q (oi.ns ▸ hbk) q2 ((oi.mem hbk).mpr hab) (oi.np ▸ ha) (oi.np ▸ hbk) ((oi.pnb a ha b).mpr ⟨hbk, hab⟩) ((oi.pnb b hbk a).mpr ⟨ha, hb⟩) hne.symm (oi.for853 ha hb) (oi.for853 hbk hab) fun h' tk bb => ⟨_, rfl, ?_⟩)
        (tm_at "s1"; tm_at "s1")
        refine ⟨.inl rfl, _, _, _, A', S'.rmEdge a b, rfl, c₇.back bb, ⟨rfl, ?_, ?_⟩, by with_unfolding_all exact hm⟩
        · rw [tk1]; unfold rmRow; rw [if_pos ⟨ha, hb⟩]
          exact oi.rmEdge ha hbk hne.symm hb hab
        · rw [tk1]; unfold rmRow; rw [if_pos ⟨ha, hb⟩]
          exact yi.rmEdge hne.symm
      · rw [decide_eq_false q2]
        skip
        simp only [Bool.false_eq_true, if_false]
        (tm_at "s1"; tm_at "s1")
        refine ⟨.inl rfl, _, _, _, A', S', rfl, c₇, ⟨rfl, ?_, ?_⟩, by with_unfolding_all exact hm⟩
        · rw [tk1, nomem fun z => q2 ((oi.mem z.1).mpr z.2)]; exact oi
        · rw [tk1, nomem fun z => q2 ((oi.mem z.1).mpr z.2)]; exact yi
    · rw [decide_eq_false q]
      simp only [Bool.false_eq_true, if_false]
      (tm_at "s1"; tm_at "s1")
      refine ⟨.inl rfl, _, _, _, A', S', rfl, c₇, ⟨rfl, ?_, ?_⟩, by with_unfolding_all exact hm⟩
      · rw [tk1, nomem fun z => q (oi.ns ▸ z.1)]; exact oi
      · rw [tk1, nomem fun z => q (oi.ns ▸ z.1)]; exact yi
  · dsimp only
    refine wpAny_execs_nil ?_
    have e1 : es.take vs.toArray.size = es := by rw [List.size_toArray, hlen]; exact List.take_length
    rw [e1] at oi yi
    exact k _ _ _ oi yi (back_of c')
end
end Mine
end
section
open PySem PySem.W PySem.Calls PyProof.Rows
set_option maxRecDepth 100000
set_option linter.all false
namespace Mine
structure Ast where
  fp : Addr → Prop
  ok : Heap → Prop
  loc : ∀ {h h' : Heap}, ok h → (∀ b o, fp b → h.get? b = some o → h'.get? b = some o) → ok h'
  live : ∀ {h : Heap}, ok h → ∀ b, fp b → ∃ o, h.get? b = some o
  high : ∀ {h : Heap}, ok h → ∀ b, fp b → topSize ≤ b
def Dis (P Q : Ast) : Prop := ∀ b, P.fp b → ¬ Q.fp b
theorem Dis.symm {P Q : Ast} (x : Dis P Q) : Dis Q P := fun b q p => x b p q
def Fps (Ps : List Ast) (b : Addr) : Prop := ∃ P ∈ Ps, P.fp b
structure Sep (Ps : List Ast) (h : Heap) : Prop where
  ok : ∀ P ∈ Ps, P.ok h
  dis : Ps.Pairwise Dis
structure Step (Ps Ps' : List Ast) (h h' : Heap) : Prop where
  sep : Sep Ps' h'
  keep : ∀ b o, ¬ Fps Ps b → h.get? b = some o → h'.get? b = some o
  new : ∀ b, Fps Ps' b → Fps Ps b ∨ h.get? b = none
theorem Fps_nil (b : Addr) : ¬ Fps [] b := fun ⟨_, h, _⟩ => (nomatch h)
theorem Fps_cons {P : Ast} {Ps : List Ast} {b : Addr} : Fps (P :: Ps) b ↔ P.fp b ∨ Fps Ps b := by
  constructor
  · rintro ⟨Q, hQ, hb⟩
    rcases List.mem_cons.mp hQ with rfl | h
    · exact .inl hb
    · exact .inr ⟨Q, h, hb⟩
  · rintro (h | ⟨Q, hQ, hb⟩)
    · exact ⟨P, .head _, h⟩
    · exact ⟨Q, .tail _ hQ, hb⟩
theorem Fps_append {Ps Qs : List Ast} {b : Addr} : Fps (Ps ++ Qs) b ↔ Fps Ps b ∨ Fps Qs b := by
  induction Ps with
  | nil => exact ⟨fun h => .inr h, fun h => h.elim (fun z => (Fps_nil _ z).elim) id⟩
  | cons P Ps ih => rw [List.cons_append, Fps_cons, Fps_cons, ih, or_assoc]
theorem Fps_perm {Ps Qs : List Ast} (p : Ps.Perm Qs) {b : Addr} : Fps Ps b ↔ Fps Qs b :=
  ⟨fun ⟨Q, hQ, hb⟩ => ⟨Q, p.mem_iff.mp hQ, hb⟩, fun ⟨Q, hQ, hb⟩ => ⟨Q, p.mem_iff.mpr hQ, hb⟩⟩
theorem Sep.perm {Ps Qs : List Ast} {h : Heap} (x : Sep Ps h) (p : Ps.Perm Qs) : Sep Qs h :=
  ⟨fun Q hQ => x.ok Q (p.mem_iff.mpr hQ), (p.pairwise_iff fun h => Dis.symm h).mp x.dis⟩
theorem Sep.keeps {Ps : List Ast} {h h' : Heap} (x : Sep Ps h) (k : ∀ b o, h.get? b = some o → h'.get? b = some o) : Sep Ps h' :=
  ⟨fun P hP => P.loc (x.ok P hP) fun b o _ => k b o, x.dis⟩
theorem Sep.nil (h : Heap) : Sep [] h := ⟨fun _ h => (nomatch h), List.Pairwise.nil⟩
theorem Sep.left {Ps Qs : List Ast} {h : Heap} (x : Sep (Ps ++ Qs) h) : Sep Ps h := ⟨fun P hP => x.ok P (List.mem_append_left _ hP), (List.pairwise_append.mp x.dis).1⟩
theorem Sep.right {Ps Qs : List Ast} {h : Heap} (x : Sep (Ps ++ Qs) h) : Sep Qs h := ⟨fun P hP => x.ok P (List.mem_append_right _ hP), (List.pairwise_append.mp x.dis).2.1⟩
theorem Sep.tail {P : Ast} {Qs : List Ast} {h : Heap} (x : Sep (P :: Qs) h) : Sep Qs h := Sep.right (Ps := [P]) x
theorem Sep.head {P : Ast} {Qs : List Ast} {h : Heap} (x : Sep (P :: Qs) h) : P.ok h := x.ok P (.head _)
theorem Sep.off {Ps Qs : List Ast} {h : Heap} (x : Sep (Ps ++ Qs) h) {b : Addr} (p : Fps Ps b) : ¬ Fps Qs b := fun ⟨Q, hQ, hb⟩ => by
  obtain ⟨P, hP, hb'⟩ := p
  exact (List.pairwise_append.mp x.dis).2.2 P hP Q hQ b hb' hb
theorem Sep.some {Ps : List Ast} {h : Heap} (x : Sep Ps h) {b : Addr} (p : Fps Ps b) : ∃ o, h.get? b = some o := let ⟨P, hP, hb⟩ := p; P.live (x.ok P hP) b hb
theorem Sep.high {Ps : List Ast} {h : Heap} (x : Sep Ps h) {b : Addr} (p : Fps Ps b) : topSize ≤ b := let ⟨P, hP, hb⟩ := p; P.high (x.ok P hP) b hb
theorem Sep.join {Ps Qs : List Ast} {h : Heap} (x : Sep Ps h) (y : Sep Qs h) (d : ∀ b, Fps Ps b → ¬ Fps Qs b) : Sep (Ps ++ Qs) h :=
  ⟨fun P hP => (List.mem_append.mp hP).elim (x.ok P) (y.ok P), List.pairwise_append.mpr ⟨x.dis, y.dis, fun P hP Q hQ b hb hb' => d b ⟨P, hP, hb⟩ ⟨Q, hQ, hb'⟩⟩⟩
theorem Step.frame {Ps Ps' Qs : List Ast} {h h' : Heap} (x : Step Ps Ps' h h') (y : Sep (Ps ++ Qs) h) : Step (Ps ++ Qs) (Ps' ++ Qs) h h' := by
  refine ⟨x.sep.join ⟨fun Q hQ => Q.loc (y.ok Q (List.mem_append_right _ hQ)) fun b o hb e => x.keep b o (fun z => y.off z ⟨Q, hQ, hb⟩) e, y.right.dis⟩ fun b hb hb' => ?_, fun b o n e => x.keep b o (fun z => n (Fps_append.mpr (.inl z))) e, fun b hb => ?_⟩
  · rcases x.new b hb with z | z
    · exact y.off z hb'
    · obtain ⟨o, ho⟩ := y.right.some hb'
      rw [z] at ho; cases ho
  · rcases Fps_append.mp hb with z | z
    · exact (x.new b z).imp (fun z => Fps_append.mpr (.inl z)) id
    · exact .inl (Fps_append.mpr (.inr z))
theorem Step.refl {Ps : List Ast} {h : Heap} (x : Sep Ps h) : Step Ps Ps h h := ⟨x, fun _ _ _ e => e, fun _ e => .inl e⟩
theorem Step.trans {Ps Ps' Ps'' : List Ast} {h h' h'' : Heap} (x : Step Ps Ps' h h') (y : Step Ps' Ps'' h' h'') : Step Ps Ps'' h h'' := by
  refine ⟨y.sep, fun b o n e => y.keep b o (fun z => ?_) (x.keep b o n e), fun b hb => ?_⟩
  · rcases x.new b z with q | q
    · exact n q
    · rw [q] at e; cases e
  · rcases y.new b hb with q | q
    · exact x.new b q
    · by_cases z : Fps Ps b
      · exact .inl z
      · right
        cases e : h.get? b with
        | none => rfl
        | some o => have := x.keep b o z e; rw [q] at this; cases this
theorem Step.perm {Ps Ps' Qs Qs' : List Ast} {h h' : Heap} (x : Step Ps Ps' h h') (p : Ps.Perm Qs) (p' : Ps'.Perm Qs') : Step Qs Qs' h h' :=
  ⟨x.sep.perm p', fun b o n e => x.keep b o (fun z => n ((Fps_perm p).mp z)) e, fun b hb => (x.new b ((Fps_perm p').mpr hb)).imp (Fps_perm p).mp id⟩
theorem Step.drop {Ps : List Ast} {P : Ast} {Ps' : List Ast} {h h' : Heap} (x : Step Ps (P :: Ps') h h') : Step Ps Ps' h h' :=
  ⟨x.sep.tail, x.keep, fun b hb => x.new b (Fps_cons.mpr (.inr hb))⟩
theorem Step.keeps {Ps Ps' : List Ast} {h h' h'' : Heap} (x : Step Ps Ps' h h') (k : ∀ b o, h'.get? b = some o → h''.get? b = some o) : Step Ps Ps' h h'' :=
  ⟨x.sep.keeps k, fun b o n e => k b o (x.keep b o n e), x.new⟩
theorem Step.keptAll {h h' : Heap} (x : Step [] [] h h') : ∀ b o, h.get? b = some o → h'.get? b = some o := fun b o => x.keep b o (Fps_nil b)
def FrA (L : Addr) (cs : List (Str × Addr)) (m cm : Str → Option Value) : Ast where
  fp b := b = L ∨ ∃ p ∈ cs, p.2 = b
  ok h := h.Ns L m ∧ (∀ p ∈ cs, h.IsCell p.2 (cm p.1)) ∧ (cs.Pairwise fun x y => x.2 ≠ y.2) ∧ (cs.Pairwise fun x y => x.1 ≠ y.1) ∧ (∀ p ∈ cs, p.2 ≠ L) ∧ topSize ≤ L ∧ ∀ p ∈ cs, topSize ≤ p.2
  loc := by
    rintro h h' ⟨a, b, c⟩ k
    exact ⟨a.at' fun o e => k _ o (.inl rfl) e, fun p hp => let ⟨o, ho, r⟩ := b p hp; ⟨o, k _ o (.inr ⟨p, hp, rfl⟩) ho, r⟩, c⟩
  live := by
    rintro h ⟨a, b, c⟩ x (rfl | ⟨p, hp, rfl⟩)
    · exact let ⟨o, _, _, ho, _⟩ := a; ⟨o, ho⟩
    · exact let ⟨o, ho, _⟩ := b p hp; ⟨o, ho⟩
  high := by
    rintro h ⟨a, b, c, d, e, f, g⟩ x (rfl | ⟨p, hp, rfl⟩)
    · exact f
    · exact g p hp
def ILA (l : Addr) (ns : List Int) : Ast where
  fp b := b = l
  ok h := IL h l ns ∧ topSize ≤ l
  loc := fun ⟨x, y⟩ k => ⟨x.at fun o e => k _ o rfl e, y⟩
  live := fun ⟨⟨vs, ⟨n, ho⟩, _⟩, _⟩ b hb => ⟨_, hb ▸ ho⟩
  high := fun ⟨_, y⟩ b hb => hb ▸ y
def EmbA (w : World) (A : EA) (S : ES) : Ast where
  fp := Fp A S
  ok h := EmbAt prog w h A S
  loc := fun x k => x.keeps fun t l o e => k _ o ⟨t, l, rfl⟩ e
  live := fun x b ⟨t, l, e⟩ => e ▸ x.some t l
  high := fun x b ⟨t, l, e⟩ => e ▸ x.high t l
def DiA (w : World) (d : Addr) (kvs : List (Int × Value)) : Ast where
  fp b := b = d
  ok h := h.DictOf (PySem.intKind prog w) d kvs ∧ topSize ≤ d
  loc := fun ⟨x, y⟩ k => ⟨x.at fun o e => k _ o rfl e, y⟩
  live := fun ⟨⟨o, _, _, ho, _⟩, _⟩ b hb => ⟨o, hb ▸ ho⟩
  high := fun ⟨_, y⟩ b hb => hb ▸ y
def ObA (a : Addr) (o : Obj) : Ast where
  fp b := b = a
  ok h := h.get? a = some o ∧ topSize ≤ a
  loc := fun ⟨x, y⟩ k => ⟨k _ _ rfl x, y⟩
  live := fun ⟨x, _⟩ b hb => ⟨o, hb ▸ x⟩
  high := fun ⟨_, y⟩ b hb => hb ▸ y
def LiA (l : Addr) (vs : List Value) : Ast where
  fp b := b = l
  ok h := h.IsList l vs.toArray ∧ topSize ≤ l
  loc := fun ⟨x, y⟩ k => ⟨x.at fun o e => k _ o rfl e, y⟩
  live := fun ⟨⟨o, ho, _⟩, _⟩ b hb => ⟨o, hb ▸ ho⟩
  high := fun ⟨_, y⟩ b hb => hb ▸ y
def RowsA (ks : List Int) (la : Int → Addr) (R : Int → List Int) : Ast where
  fp b := ∃ u ∈ ks, la u = b
  ok h := ∀ u ∈ ks, IL h (la u) (R u) ∧ topSize ≤ la u
  loc := fun x k u hu => ⟨(x u hu).1.at fun o e => k _ o ⟨u, hu, rfl⟩ e, (x u hu).2⟩
  live := fun x b ⟨u, hu, e⟩ => let ⟨⟨vs, ⟨n, ho⟩, _⟩, _⟩ := x u hu; ⟨_, e ▸ ho⟩
  high := fun x b ⟨u, hu, e⟩ => e ▸ (x u hu).2
theorem Gd.size {w : World} {h : Heap} (G : Gd w h) : topSize ≤ h.objs.size := by
  have h946 : h.get? 946 = some (o946 w.params) := G.kin 946 (o946 w.params) (by kernel_rfl!)
  exact Heap.lt_size h946
structure B (w : World) (g : Heap) (L : Addr) (cs : List (Str × Addr)) (m cm : Str → Option Value) (Ps : List Ast) (h : Heap) : Prop where
  sep : Sep (FrA L cs m cm :: Ps) h
  keep : ∀ b o, g.get? b = some o → h.get? b = some o
  out : ∀ b, Fps (FrA L cs m cm :: Ps) b → g.get? b = none
  gnd : Gd w g
section
variable {w : World} {Ar : Around} {E : Value → Shared → Prop} {s s₀ : Shared} {g h h' : Heap} {L : Addr} {cs : List (Str × Addr)} {m cm : Str → Option Value} {env : Env} {Ps Qs Qs' Rs : List Ast}
theorem B.gd (c : B w g L cs m cm Ps h) : Gd w h := c.gnd.keeps c.keep
theorem B.kin (c : B w g L cs m cm Ps h) : (frag w.params).In h := c.gd.kin
theorem B.fr (c : B w g L cs m cm Ps h) : (FrA L cs m cm).ok h := c.sep.head
theorem B.ns (c : B w g L cs m cm Ps h) : h.Ns L m := c.fr.1
theorem B.perm (c : B w g L cs m cm Ps h) (p : Ps.Perm Qs) : B w g L cs m cm Qs h :=
  ⟨c.sep.perm (p.cons _), c.keep, fun b hb => c.out b ((Fps_perm (p.cons _)).mpr hb), c.gnd⟩
theorem B.stepAll {m' cm' : Str → Option Value} {Ps' : List Ast} (c : B w g L cs m cm Ps h) (x : Step (FrA L cs m cm :: Ps) (FrA L cs m' cm' :: Ps') h h') :
    B w g L cs m' cm' Ps' h' := by
  refine ⟨x.sep, fun b o e => x.keep b o (fun z => by rw [c.out b z] at e; cases e) (c.keep b o e), fun b hb => ?_, c.gnd⟩
  rcases x.new b hb with z | z
  · exact c.out b z
  · cases e : g.get? b with
    | none => rfl
    | some o => have := c.keep b o e; rw [z] at this; cases this
theorem B.step (c : B w g L cs m cm (Qs ++ Rs) h) (x : Step Qs Qs' h h') : B w g L cs m cm (Qs' ++ Rs) h' := by
  have p : (FrA L cs m cm :: (Qs ++ Rs)).Perm (Qs ++ FrA L cs m cm :: Rs) := List.perm_middle.symm
  have p' : (Qs' ++ FrA L cs m cm :: Rs).Perm (FrA L cs m cm :: (Qs' ++ Rs)) := List.perm_middle
  exact c.stepAll ((x.frame (c.sep.perm p)).perm p.symm p')
theorem B.step1 {P P' : Ast} (i : Nat) (c : B w g L cs m cm Ps h) (hi : Ps[i]? = some P) (x : Step [P] [P'] h h') : B w g L cs m cm (Ps.set i P') h' := by
  have hl : i < Ps.length := (List.getElem?_eq_some_iff.mp hi).1
  have e1 : Ps = Ps.take i ++ P :: Ps.drop (i + 1) := by
    have h2 : Ps[i] = P := (List.getElem?_eq_some_iff.mp hi).2
    conv => lhs; rw [← List.take_append_drop i Ps, List.drop_eq_getElem_cons hl, h2]
  have e2 : Ps.set i P' = Ps.take i ++ P' :: Ps.drop (i + 1) := List.set_eq_take_append_cons_drop.trans (if_pos hl)
  rw [e1] at c
  rw [e2]
  have c2 : B w g L cs m cm ([P'] ++ (Ps.take i ++ Ps.drop (i + 1))) h' := B.step (Qs := [P]) (Qs' := [P']) (c.perm List.perm_middle) x
  have p2 : (P' :: (Ps.take i ++ Ps.drop (i + 1))).Perm (Ps.take i ++ P' :: Ps.drop (i + 1)) := List.perm_middle.symm
  exact c2.perm p2
theorem B.more {P : Ast} (c : B w g L cs m cm Ps h) (x : Step [] [P] h h') : B w g L cs m cm (P :: Ps) h' := B.step (Qs := []) (Qs' := [P]) c x
theorem B.keeps (c : B w g L cs m cm Ps h) (k : ∀ b o, h.get? b = some o → h'.get? b = some o) : B w g L cs m cm Ps h' :=
  c.stepAll ⟨c.sep.keeps k, fun b o _ e => k b o e, fun _ e => .inl e⟩
theorem B.drop {P : Ast} (c : B w g L cs m cm (P :: Ps) h) : B w g L cs m cm Ps h :=
  ⟨⟨fun Q hQ => c.sep.ok Q (by rcases List.mem_cons.mp hQ with rfl | z; exact .head _; exact .tail _ (.tail _ z)), List.pairwise_cons.mpr ⟨fun Q hQ => (List.pairwise_cons.mp c.sep.dis).1 Q (.tail _ hQ), (List.pairwise_cons.mp (List.pairwise_cons.mp c.sep.dis).2).2⟩⟩, c.keep,
    fun b hb => c.out b (by rcases Fps_cons.mp hb with z | z; exact Fps_cons.mpr (.inl z); exact Fps_cons.mpr (.inr (Fps_cons.mpr (.inr z)))), c.gnd⟩
theorem B.at {P : Ast} (i : Nat) (c : B w g L cs m cm Ps h) (hi : Ps[i]? = some P) : P.ok h := c.sep.ok P (.tail _ (List.mem_of_getElem? hi))
theorem B.psep (c : B w g L cs m cm Ps h) : Sep Ps h := c.sep.tail
theorem B.done {h₀ : Heap} {Ps' : List Ast} (c : B w (hide h₀ (Fps Ps)) L cs m cm Ps' h) : Step Ps Ps' h₀ h := by
  refine ⟨c.psep, fun b o n e => c.keep b o (by rw [hide_get, if_neg n]; exact e), fun b hb => ?_⟩
  have := c.out b (Fps_cons.mpr (.inr hb))
  rw [hide_get] at this
  by_cases q : Fps Ps b
  · exact .inl q
  · rw [if_neg q] at this; exact .inr this
theorem new_step (G : Gd w h) (o : Obj) (hf : o.isFreed = false) : Step [] [ObA h.objs.size o] h (h.push o) :=
  ⟨⟨fun P hP => by rw [List.mem_singleton.mp hP]; exact ⟨Heap.get?_push_size _ hf, G.size⟩, List.pairwise_singleton ..⟩, fun b o _ e => Heap.get?_push_of_some _ e, fun b ⟨P, hP, hb⟩ => by
    rw [List.mem_singleton.mp hP] at hb
    obtain rfl : b = h.objs.size := hb
    exact .inr (Heap.get?_none_of_le (Nat.le_refl _))⟩
theorem one_step {P P' : Ast} {a : Addr} (hs : Heap.SameBut a h h') (hP : P.fp a) (hP' : P'.ok h') (hsub : ∀ b, P'.fp b → P.fp b) : Step [P] [P'] h h' :=
  ⟨⟨fun Q hQ => by rw [List.mem_singleton.mp hQ]; exact hP', List.pairwise_singleton ..⟩, fun b o n e => (hs.2 b fun z => n ⟨P, .head _, z ▸ hP⟩).trans e, fun b ⟨Q, hQ, hb⟩ => .inl ⟨P, .head _, hsub b (by rw [List.mem_singleton.mp hQ] at hb; exact hb)⟩⟩
theorem Back.step {A A' : EA} {S S' : ES} (b : Back prog w A S h A' S' h') : Step [EmbA w A S] [EmbA w A' S'] h h' := by
  have f1 : ∀ x, Fps [EmbA w A S] x ↔ Fp A S x := fun x => by rw [Fps_cons]; exact ⟨fun z => z.elim id fun z => (Fps_nil _ z).elim, .inl⟩
  refine ⟨⟨fun Q hQ => by rw [List.mem_singleton.mp hQ]; exact b.em, List.pairwise_singleton ..⟩, fun x o n e => b.keep x o (fun z => n ((f1 x).mpr z)) e, fun x ⟨Q, hQ, hx⟩ => ?_⟩
  rw [List.mem_singleton.mp hQ] at hx
  obtain ⟨t, l, rfl⟩ := hx
  exact (b.new t l).imp (f1 _).mpr id
theorem B.store (c : B w g L cs m cm Ps h) {m' : Str → Option Value} (hn : h'.Ns L m') (hs : Heap.SameBut L h h') : B w g L cs m' cm Ps h' := by
  obtain ⟨f1, f2, f3, f4, f5, f6, f7⟩ := c.fr
  have x : Step [FrA L cs m cm] [FrA L cs m' cm] h h' := one_step hs (.inl rfl) ⟨hn, fun p hp => (f2 p hp).sameBut hs (f5 p hp), f3, f4, f5, f6, f7⟩ fun _ z => z
  exact c.stepAll (x.frame (Qs := Ps) c.sep)
theorem B.cell (c : B w g L cs m cm Ps h) {x : Str} {a : Addr} {v : Value} (hx : (x, a) ∈ cs) (hn : h'.IsCell a (some v)) (hs : Heap.SameBut a h h') : B w g L cs m (fun y => if y = x then some v else cm y) Ps h' := by
  obtain ⟨f1, f2, f3, f4, f5, f6, f7⟩ := c.fr
  have x : Step [FrA L cs m cm] [FrA L cs m (fun y => if y = x then some v else cm y)] h h' := by
    refine one_step hs (.inr ⟨_, hx, rfl⟩) ⟨f1.sameBut hs (f5 _ hx).symm, fun p hp => ?_, f3, f4, f5, f6, f7⟩ fun _ z => z
    by_cases q : p.2 = a
    · have : p.1 = x := name_of_addr f3 (n := p.1) (n' := x) (c := a) (by rw [← q]; exact hp) hx
      simp only [this, if_true]
      rw [q]; exact hn
    · have n1 : p.1 ≠ x := fun z => q (by
        have key : ∀ {l : List (Str × Addr)}, (l.Pairwise fun x y => x.1 ≠ y.1) → ∀ {n : Str} {c c' : Addr}, (n, c) ∈ l → (n, c') ∈ l → c = c' := by
          intro l hl
          induction l with
          | nil => intro n c c' h; cases h
          | cons y r ih =>
            intro n c c' h h'
            obtain ⟨h1, h2⟩ := List.pairwise_cons.mp hl
            rcases List.mem_cons.mp h with e | h <;> rcases List.mem_cons.mp h' with e' | h'
            · rw [← e'] at e; exact (Prod.mk.inj e).2
            · exact absurd (by rw [← e]) (h1 _ h')
            · exact absurd (by rw [← e']) (h1 _ h)
            · exact ih h2 h h'
        exact key f4 (n := x) (by rw [← z]; exact hp) hx)
      simp only [n1, if_false]
      exact (f2 p hp).sameBut hs q
  exact c.stepAll (x.frame (Qs := Ps) c.sep)
theorem ld_b {x : Str} {pos : Pos} {v : Value} {Q : Value → Shared → Prop} (c : B w g L cs m cm Ps s.heap) (hv : m x = some v) (k : Q v s)
    (hl : env.kindOf x = some .local := by rfl) (he : env.locals = L := by rfl) (hk : env.scope.kind = .function := by rfl)
    (hd : (x == ("__debug__" : Str)) = false := by decide) :
    wpAny (model prog w) Ar (eval (.Name x pos) env) Q E s := by
  subst he
  exact wpAny_Name (wpAny_loadName_local hk hl c.ns hv k) hd
theorem lc_b {x : Str} {pos : Pos} {v : Value} {a : Addr} {Q : Value → Shared → Prop} (c : B w g L cs m cm Ps s.heap) (hv : cm x = some v) (hc : cs.lookup x = some a) (k : Q v s)
    (hl : env.kindOf x = some .cell := by rfl) (he : env.cells = cs := by rfl) (hk : env.scope.kind = .function := by rfl)
    (hd : (x == ("__debug__" : Str)) = false := by decide) :
    wpAny (model prog w) Ar (eval (.Name x pos) env) Q E s := by
  subst he
  have := c.fr.2.1 _ (mem_of_lookup hc)
  rw [hv] at this
  exact wpAny_Name (wpAny_loadName_cell hk hl hc this k) hd
theorem st_b {x : Str} {v : Value} {Q : Unit → Shared → Prop} (c : B w g L cs m cm Ps s.heap)
    (k : ∀ h', B w g L cs (fun y => if y = x then some v else m y) cm Ps h' → Q () { s with heap := h', toks := s.toks + 1 })
    (hl : env.kindOf x = some .local := by rfl) (he : env.locals = L := by rfl) 
    (hp : (env.scope.kind == .class || (env.scope.kind == .module && env.locals != env.globals)) = false := by rfl) :
    wpAny (model prog w) Ar (storeName env x v) Q E s := by
  subst he
  exact wpAny_storeName_local hl c.ns (fun h' hn hs => k h' (c.store hn hs)) hp
theorem sc_b {x : Str} {v : Value} {a : Addr} {Q : Unit → Shared → Prop} (c : B w g L cs m cm Ps s.heap) (hc : cs.lookup x = some a)
    (k : ∀ h', B w g L cs m (fun y => if y = x then some v else cm y) Ps h' → Q () { s with heap := h' })
    (hl : env.kindOf x = some .cell := by rfl) (he : env.cells = cs := by rfl) (hk : env.scope.kind = .function := by rfl) :
    wpAny (model prog w) Ar (storeName env x v) Q E s := by
  subst he
  exact wpAny_storeName_cell hk hl hc (c.fr.2.1 _ (mem_of_lookup hc)) fun h' hn hs => k h' (c.cell (mem_of_lookup hc) hn hs)
theorem gl_b {x : Str} {pos : Pos} {v : Value} {Q : Value → Shared → Prop} (c : B w g L cs m cm Ps s.heap) (e : nsIn (frag w.params) mainGlobals x = some (some v)) (h : Q v s)
    (hk : env.scope.kind = .function := by rfl) (hx : env.kindOf x = some .globalImplicit := by rfl) (hg : env.globals = mainGlobals := by rfl) (hd : (x == ("__debug__" : Str)) = false := by decide) :
    wpAny (model prog w) Ar (eval (.Name x pos) env) Q E s := by
  obtain ⟨mg, _, hm, _⟩ := c.gd.bt
  exact Name_function_global hk hx (loadGlobal_global (hg ▸ hm) (mg_of c.kin hm e) h) hd
theorem bi_b {x : Str} {pos : Pos} {v : Value} {Q : Value → Shared → Prop} (c : B w g L cs m cm Ps s.heap) (e : nsIn (frag w.params) mainGlobals x = some none) (hv : bootBuiltins x = some v) (hn : x ≠ "__name__") (h : Q v s)
    (hk : env.scope.kind = .function := by rfl) (hx : env.kindOf x = some .globalImplicit := by rfl) (hg : env.globals = mainGlobals := by rfl) (hb : env.builtins = builtinsNs := by rfl) (hd : (x == ("__debug__" : Str)) = false := by decide) :
    wpAny (model prog w) Ar (eval (.Name x pos) env) Q E s := by
  obtain ⟨mg, mb, hm, hmb, hall⟩ := c.gd.bt
  exact Name_function_global hk hx (loadGlobal_builtin (hg ▸ hm) (mg_none_of c.kin hm e) (hb ▸ hmb) ((hall x hn).trans hv) h) hd
theorem gd_fps (G : Gd w h) (x : Sep Ps h) : Gd w (hide h (Fps Ps)) := gd_hideP G fun a ha => x.high ha
theorem enterB {R : Result → Shared → Prop} {fa : Addr} {o : Obj} {fd : FuncData} {body : List Stmt} {args : Args} {binds : List (Str × Value)} 
    (G : Gd w s.heap) (x : Sep Ps s.heap) (hroom : Ar.depth < recursionLimit)
    (ho : (frag w.params).lookup fa = some o) (hdata : o.data = .func fd) (hcd : codeIn (frag w.params) fd.code fd.qualname = true)
    (hbody : fd.body = .stmts body) (hbind : BindsTo s fd args binds)
    (hcell : (fd.scope.names.all fun x => decide (x.2 ≠ NameKind.cell)) = true) (hloc : (binds.all fun x => decide (fd.scope.names.lookup x.1 = some NameKind.local)) = true)
    (k : ∀ L h₁, L = s.heap.objs.size → B w (hide s.heap (Fps Ps)) L [] (m0 binds) (fun _ => none) Ps h₁ → Bk Ar fd L fa body w R { s with heap := h₁, toks := s.toks + binds.length })
    (hco : fd.scope.isCoroutine = false := by rfl) (hgen : fd.scope.isGenerator = false := by rfl) (hk : fd.scope.kind = .function := by rfl) :
    codeAny (model prog w) Ar (.call (.ref fa) args) R s := by
  refine callDef G hroom ho hdata hcd hbody hbind hcell hloc (fun L h₁ hL hn hk₁ => k L h₁ hL ?_) hco hgen hk
  have fresh : s.heap.get? L = none := Heap.get?_none_of_le (by rw [hL]; exact Nat.le_refl _)
  refine ⟨⟨fun P hP => ?_, List.pairwise_cons.mpr ⟨fun P hP b hb hb' => ?_, x.dis⟩⟩, fun b o e => ?_, fun b hb => ?_, gd_fps G x⟩
  · rcases List.mem_cons.mp hP with rfl | hP
    · exact ⟨hn, fun p hp => (nomatch hp), .nil, .nil, fun p hp => (nomatch hp), by rw [hL]; exact G.size, fun p hp => (nomatch hp)⟩
    · exact P.loc (x.ok P hP) fun b o _ => hk₁ b o
  · rcases hb with rfl | ⟨p, hp, _⟩
    · obtain ⟨o, ho⟩ := x.some ⟨P, hP, hb'⟩
      rw [fresh] at ho; cases ho
    · cases hp
  · rw [hide_get] at e
    split at e
    · cases e
    · exact hk₁ b o e
  · rw [hide_get]
    rcases Fps_cons.mp hb with (rfl | ⟨p, hp, _⟩) | z
    · split
      · rfl
      · exact fresh
    · cases hp
    · rw [if_pos z]
theorem item_b {value slice : Expr} {a : Addr} {vs : List Value} {k : Int} {t : Tok} {x : Value} {Q : Value → Shared → Prop} (i : Nat) (c : B w g L cs m cm Ps s.heap) (hi : Ps[i]? = some (LiA a vs)) (h0 : 0 ≤ k) (hf : k < 2 ^ 63) (hx : vs[k.toNat]? = some x)
    (q : Q x s) (hs : subscripted slice false (.ref a) (.int k t) = operate [.ref a, .int k t] (getItem (.ref a) (.int k t))) : wpAny (model prog w) Ar (subscriptTail value slice (.ref a) (.int k t)) Q E s :=
  item_v (c.at i hi).1 h0 hf (by simpa using hx) q hs
theorem items_b {value slice : Expr} {a : Addr} {ns : List Int} {k : Int} {t : Tok} {x : Int} {Q : Value → Shared → Prop} (i : Nat) (c : B w g L cs m cm Ps s.heap) (hi : Ps[i]? = some (ILA a ns)) (h0 : 0 ≤ k) (hf : k < 2 ^ 63) (hx : ns[k.toNat]? = some x)
    (q : ∀ t, Q (.int x t) s) (hs : subscripted slice false (.ref a) (.int k t) = operate [.ref a, .int k t] (getItem (.ref a) (.int k t))) : wpAny (model prog w) Ar (subscriptTail value slice (.ref a) (.int k t)) Q E s := by
  obtain ⟨⟨vs, hv, iv⟩, _⟩ := c.at i hi
  obtain ⟨t', e⟩ := ints_at iv hx
  exact item_v hv.isList h0 hf (x := .int x t') (by simpa using e) (q t') hs
theorem len_b {a : Addr} {ns : List Int} {Q : Value → Shared → Prop} (i : Nat) (c : B w g L cs m cm Ps s.heap) (hi : Ps[i]? = some (ILA a ns)) (few : ns.length ≤ 1000) (q : Q (.int ns.length (s.toks + 1)) { s with toks := s.toks + 1 + 1 }) :
    wpAny (model prog w) Ar (call (.builtin "len") [.ref a]) Q E s := by
  obtain ⟨⟨vs, hv, iv⟩, _⟩ := c.at i hi
  have sz : (vs.toArray.size : Int) = ns.length := by rw [List.size_toArray, iv.length]
  exact call_len_list hv.isList (by rw [sz]; omega) (by rw [sz]; exact q)
theorem set_b {a : Addr} {vs : List Value} {k : Int} {t : Tok} {v : Value} {Q : Unit → Shared → Prop} (i : Nat) (c : B w g L cs m cm Ps s.heap) (hi : Ps[i]? = some (LiA a vs)) (h0 : 0 ≤ k) (hf : k < 2 ^ 63) (hn : k.toNat < vs.length)
    (q : ∀ h', B w g L cs m cm (Ps.set i (LiA a (vs.set k.toNat v))) h' → Q () { s with heap := h' }) : wpAny (model prog w) Ar (setItem (.ref a) (.int k t) v) Q E s := by
  obtain ⟨hv, hh⟩ := c.at i hi
  refine wpAny_setItem_list hv h0 hf (by simp; omega) fun h' hl hs => q h' ?_
  refine c.step1 i hi (one_step hs rfl ⟨?_, hh⟩ fun _ z => z)
  rwa [List.setIfInBounds_toArray] at hl
end
end Mine
end
section
open PySem PySem.W PySem.Calls PyProof.Rows
set_option maxRecDepth 100000
set_option maxHeartbeats 1000000
set_option linter.all false
namespace Mine
structure Rm (Ar : Around) (k : Nat) : Prop where
  depth : Ar.depth + k < recursionLimit
  units : Ar.units + 3 * k + 64 < cLine
  hd : Ar.handled = none
theorem Rm.deeper {Ar : Around} {env : Env} {k : Nat} (x : Rm Ar (k + 1)) : Rm (Ar.deeper env) k :=
  ⟨room_deeper x.depth, by have := x.units; rw [units_deeper]; omega, handled_deeper' x.hd⟩
theorem Rm.room {Ar : Around} {k : Nat} (x : Rm Ar k) : Ar.depth < recursionLimit := by have := x.depth; omega
theorem Rm.less {Ar : Around} {k j : Nat} (x : Rm Ar k) (h : j ≤ k) : Rm Ar j := ⟨by have := x.depth; omega, by have := x.units; omega, x.hd⟩
theorem Rm.eq {Ar : Around} {k : Nat} (x : Rm Ar k) : Ar.units + 64 < cLine := by have := x.units; omega
section
variable {w : World} {Ar : Around} {E : Value → Shared → Prop} {s s₀ : Shared} {g h h' : Heap} {L : Addr} {cs : List (Str × Addr)} {m cm : Str → Option Value} {env : Env} {Ps Qs Qs' Rs : List Ast}
theorem fresh_step {P : Ast} (G : Gd w h) (k : ∀ b o, h.get? b = some o → h'.get? b = some o) (ok : P.ok h') (hf : ∀ b, P.fp b → h.objs.size ≤ b) : Step [] [P] h h' :=
  ⟨⟨fun Q hQ => by rw [List.mem_singleton.mp hQ]; exact ok, List.pairwise_singleton ..⟩, fun b o _ e => k b o e, fun b ⟨Q, hQ, hb⟩ => by
    rw [List.mem_singleton.mp hQ] at hb
    exact .inr (Heap.get?_none_of_le (hf b hb))⟩
theorem B.newList (c : B w g L cs m cm Ps h) {d : Addr} {vs : List Value} (k : ∀ b o, h.get? b = some o → h'.get? b = some o) (hl : h'.IsList d vs.toArray) (hd : h.objs.size ≤ d) : B w g L cs m cm (LiA d vs :: Ps) h' :=
  c.more (fresh_step c.gd k ⟨hl, Nat.le_trans c.gd.size hd⟩ fun b hb => hb ▸ hd)
theorem B.newInts (c : B w g L cs m cm Ps h) {d : Addr} {ns : List Int} (k : ∀ b o, h.get? b = some o → h'.get? b = some o) (hl : IL h' d ns) (hd : h.objs.size ≤ d) : B w g L cs m cm (ILA d ns :: Ps) h' :=
  c.more (fresh_step c.gd k ⟨hl, Nat.le_trans c.gd.size hd⟩ fun b hb => hb ▸ hd)
theorem push_keeps (h : Heap) (o : Obj) : ∀ b x, h.get? b = some x → (h.push o).get? b = some x := fun _ _ e => Heap.get?_push_of_some _ e
theorem part_none {env : Env} {Q : Value → Shared → Prop} (h : Q .none s) : wpAny (model prog w) Ar (evalPart none env) Q E s := wpAny_pure h
theorem part_some {e : Expr} {env : Env} {Q : Value → Shared → Prop} (h : wpAny (model prog w) Ar (eval e env) Q E s) : wpAny (model prog w) Ar (evalPart (some e) env) Q E s := h
theorem il_small {n : Nat} (h : n ≤ 1000) : n ≤ sizeLine := by rw [sizeLine_eq]; omega
def SlicePost (Q : Value → Shared → Prop) (o vl vu : Value) (s₃ : Shared) : Prop :=
  ∃ l items lo hi, o = .ref l ∧ s₃.heap.IsList l items ∧ items.size ≤ sizeLine ∧ IsPart vl lo ∧ IsPart vu hi ∧
        Q (.ref (s₃.heap.objs.size + 1)) { s₃ with heap := (s₃.heap.push { cls := .type "slice", data := .fields #[vl, vu, .none] }).push { cls := .type "list", data := .seq (slicePick items lo hi none) } }
theorem Slice_b {value : Expr} {lower upper : Option Expr} {p pos : Pos} {Q : Value → Shared → Prop}
    (h : wpAny (model prog w) Ar (eval value env) (fun o s₁ => wpAny (model prog w) Ar (evalPart lower env) (fun vl s₂ => wpAny (model prog w) Ar (evalPart upper env) (fun vu s₃ => SlicePost Q o vl vu s₃) E s₂) E s₁) E s)
    (ht : ∀ o r, letTemporaryGo value o r = pure () := by intro _ _; rfl) :
    wpAny (model prog w) Ar (eval (.Subscript value (.Slice lower upper none p) pos) env) Q E s := wpAny_Subscript_list_slice h ht
theorem slice_fin' {l : Addr} {ns ns' : List Int} {vl vu : Value} {lo hi : Option Int} {Q : Value → Shared → Prop} (c : B w g L cs m cm Ps s.heap) (hl : IL s.heap l ns) (pl : IsPart vl lo) (pu : IsPart vu hi)
    (few : ns.length ≤ 1000) (hp : ∀ {vs : List Value}, IntsAre vs ns → IntsAre (slicePick vs.toArray lo hi none).toList ns')
    (k : ∀ h' d, B w g L cs m cm (ILA d ns' :: Ps) h' → Q (.ref d) { s with heap := h' }) : SlicePost Q (.ref l) vl vu s := by
  obtain ⟨vs, hv, iv⟩ := hl
  refine ⟨l, vs.toArray, lo, hi, rfl, hv.isList, by rw [List.size_toArray, iv.length]; exact il_small few, pl, pu, k _ _ ?_⟩
  refine c.newInts (fun b o e => push_keeps _ _ b o (push_keeps _ _ b o e)) ⟨(slicePick vs.toArray lo hi none).toList, ?_, hp iv⟩ (Nat.le_succ _)
  have := Heap.get?_push_size (s.heap.push { cls := .type "slice", data := .fields #[vl, vu, .none] }) (o := { cls := .type "list", data := .seq (slicePick vs.toArray lo hi none) }) rfl
  rw [Heap.size_push] at this
  exact ⟨_, by rw [Array.toArray_toList]; exact this⟩
theorem add_b' {l d : Addr} {ns ms : List Int} {Q : Value → Shared → Prop} (c : B w g L cs m cm Ps s.heap) (hl : IL s.heap l ns) (hd : IL s.heap d ms) (few : ns.length + ms.length ≤ 1000)
    (k : ∀ h' r, B w g L cs m cm (ILA r (ns ++ ms) :: Ps) h' → Q (.ref r) { s with heap := h' }) : wpAny (model prog w) Ar (binaryOp .Add (.ref l) (.ref d)) Q E s := by
  obtain ⟨vs, hv, iv⟩ := hl
  obtain ⟨us, hu, iu⟩ := hd
  obtain ⟨n, ho⟩ := id hv
  obtain ⟨n2, ho2⟩ := id hu
  refine concat_meets ⟨_, ho, rfl⟩ ⟨_, ho2, rfl⟩ noFill_list_add seq_list_add PySem.F.slot_list_add PySem.F.entry_list_add (PySem.F.args_list_add_2 _ _) (list_addW l d vs.toArray us.toArray n n2 none none #[] #[] (by simp only [List.size_toArray, iv.length, iu.length]; exact il_small few)) ⟨ho, ho2, k _ _ ?_⟩
  refine c.newInts (push_keeps _ _) ⟨vs ++ us, ⟨_, by rw [← List.append_toArray]; exact Heap.get?_push_size _ rfl⟩, iv.append iu⟩ (Nat.le_refl _)
theorem eq_b' {l d : Addr} {ns ms : List Int} {Q : Value → Shared → Prop} (hl : IL s.heap l ns) (hd : IL s.heap d ms) (hu : Ar.units + 64 < cLine) (k : Q (.bool (decide (ns = ms))) s) :
    wpAny (model prog w) Ar (compareOp .Eq (.ref l) (.ref d)) Q E s := by
  obtain ⟨vs, hv, iv⟩ := hl
  obtain ⟨us, hu', iu⟩ := hd
  exact eq_intsK hv.isList iv hu'.isList iu hu k
theorem ne_b' {l d : Addr} {ns ms : List Int} {Q : Value → Shared → Prop} (hl : IL s.heap l ns) (hd : IL s.heap d ms) (hu : Ar.units + 64 < cLine) (k : Q (.bool (!decide (ns = ms))) s) :
    wpAny (model prog w) Ar (compareOp .NotEq (.ref l) (.ref d)) Q E s := by
  obtain ⟨vs, hv, iv⟩ := hl
  obtain ⟨us, hu', iu⟩ := hd
  exact ne_intsK hv.isList iv hu'.isList iu hu k
theorem min_b' {l : Addr} {ns : List Int} {Q : Value → Shared → Prop} (c : B w g L cs m cm Ps s.heap) (hl : IL s.heap l ns) (hh : Ar.handled = none) (ne : ns ≠ [])
    (k : ∀ h' tk x t, B w g L cs m cm Ps h' → x ∈ ns → (∀ y ∈ ns, x ≤ y) → Q (.int x t) { s with heap := h', toks := tk }) : wpAny (model prog w) Ar (call (.builtin "min") [.ref l]) Q E s := by
  obtain ⟨vs, hv, iv⟩ := hl
  have nm := iv.numsOf
  obtain ⟨xs, hxs⟩ := iv.allInts.items
  have hvs : vs = (intItems xs).toList := by rw [← hxs]
  rw [hxs] at hv
  have hns : ns = xs.toList.map (·.1) := by rw [← nm, hvs, nums_intItems]
  have hsz : 0 < xs.size := by
    have : ns.length = xs.size := by rw [hns]; simp
    have : 0 < ns.length := List.length_pos_iff.mpr ne
    omega
  refine min_intList hh hv.isList hsz fun v h' tk hv hk => ?_
  obtain ⟨t, rfl⟩ := intItems_at hv
  obtain ⟨h1, h2⟩ := argBest_lt (numAt xs) (xs.size - 1)
  refine k _ _ _ t (c.keeps hk) ?_ fun a ha => ?_
  · rw [hns, numAt_eq]; exact getD_mem (by rw [List.length_map, Array.length_toList]; omega)
  · rw [hns] at ha
    obtain ⟨j, hj, rfl⟩ := mem_getD ha
    rw [List.length_map, Array.length_toList] at hj
    rw [← numAt_eq]; exact h2 j (by omega)
theorem index_b' {l : Addr} {ns : List Int} {x : Int} {t : Tok} {Q : Value → Shared → Prop} (hl : IL s.heap l ns) (few : ns.length ≤ 1000) (hx : x ∈ ns)
    (k : Q (.int (ns.idxOf x : Nat) s.toks) { s with toks := s.toks + 1 }) : wpAny (model prog w) Ar (call (.builtin "list.index") [.ref l, .int x t]) Q E s := by
  obtain ⟨vs, hv, iv⟩ := hl
  obtain ⟨n, ho⟩ := id hv
  have hlen := iv.length
  have hj : ns.idxOf x < ns.length := List.idxOf_lt_length_iff.mpr hx
  refine call_meets PySem.F.slot_list_index ⟨_, ho, rfl⟩ PySem.F.entry_list_index (PySem.F.args_list_index_2 _ _)
    (SeqAt.list_indexAt l vs.toArray n none #[] (.int x t) (isInt x) (ns.idxOf x) (by simpa [hlen] using hj) (by omega) ?_ ?_) ⟨ho, fun y hy => (eq_isInt x t iv y (by simpa using hy)).at _ _, k⟩
  · show isInt x vs[ns.idxOf x] = true
    rw [isInt_at x iv _ (by omega) hj]
    simp
  · intro j hjs hlt
    show isInt x vs[j] = false
    rw [isInt_at x iv j (by simpa using hjs) (by omega)]
    exact ne_of_lt_idxOf hlt _
theorem meth_b' {l : Addr} {ns : List Int} {Q : Value × List Value → Shared → Prop} {name : Str} {id : String} {pl : Sem Bool} (hl : IL s.heap l ns) (slot : Slot "list" name id)
    (hty : typeOf (.builtin id) = pure (.type "method_descriptor")) (h : Q (.builtin id, [.ref l]) s) : wpAny (model prog w) Ar (getMethod (.ref l) name pl) Q E s := by
  obtain ⟨vs, hv, iv⟩ := hl
  obtain ⟨n, ho⟩ := (fun x => x) hv
  exact getMethod_list_of slot hty hv.isList ⟨_, ho, rfl⟩ h
def ListPost (Q : Value → Shared → Prop) (vs : List Value) (s : Shared) : Prop := vs.length ≤ sizeLine ∧ Q (.ref s.heap.objs.size) { s with heap := s.heap.push { cls := .type "list", data := .seq vs.toArray } }
theorem List_b {elts : List Expr} {pos : Pos} {Q : Value → Shared → Prop} (h : wpAny (model prog w) Ar (spliced (backTo pos (starEach elts env))) (ListPost Q) E s) : wpAny (model prog w) Ar (eval (.List elts pos) env) Q E s := wpAny_List h
theorem list_fin {vs : List Value} {ns : List Int} {Q : Value → Shared → Prop} (c : B w g L cs m cm Ps s.heap) (iv : IntsAre vs ns) (few : ns.length ≤ 1000) (k : ∀ h' d, B w g L cs m cm (ILA d ns :: Ps) h' → Q (.ref d) { s with heap := h' }) :
    ListPost Q vs s :=
  ⟨by rw [iv.length]; exact il_small few, k _ _ (c.newInts (push_keeps _ _) ⟨vs, ⟨_, Heap.get?_push_size _ rfl⟩, iv⟩ (Nat.le_refl _))⟩
theorem list_finV {vs : List Value} {Q : Value → Shared → Prop} (c : B w g L cs m cm Ps s.heap) (few : vs.length ≤ 1000) (k : ∀ h' d, B w g L cs m cm (LiA d vs :: Ps) h' → Q (.ref d) { s with heap := h' }) :
    ListPost Q vs s :=
  ⟨il_small few, k _ _ (c.newList (push_keeps _ _) ⟨_, Heap.get?_push_size _ rfl, rfl, _, rfl⟩ (Nat.le_refl _))⟩
theorem B.sub (c : B w g L cs m cm Ps h) (x : Qs.Sublist Ps) : B w g L cs m cm Qs h :=
  have y : (FrA L cs m cm :: Qs).Sublist (FrA L cs m cm :: Ps) := x.cons₂ _
  ⟨⟨fun P hP => c.sep.ok P (y.subset hP), c.sep.dis.sublist y⟩, c.keep, fun b ⟨P, hP, hb⟩ => c.out b ⟨P, y.subset hP, hb⟩, c.gnd⟩
def TupPost (Q : Value → Shared → Prop) (vs : List Value) (s : Shared) : Prop := vs.length ≤ sizeLine ∧ Q (.ref s.heap.objs.size) { s with heap := s.heap.push { cls := .type "tuple", data := .seq vs.toArray } }
theorem Tuple_b {elts : List Expr} {kk : Nat} {pos : Pos} {Q : Value → Shared → Prop} (h : wpAny (model prog w) Ar (spliced (backTo pos (starEach elts env))) (TupPost Q) E s) : wpAny (model prog w) Ar (eval (.Tuple elts kk pos) env) Q E s := wpAny_Tuple h
theorem tup_fin {vs : List Value} {Q : Value → Shared → Prop} (c : B w g L cs m cm Ps s.heap) (few : vs.length ≤ 1000) (k : ∀ h' d, B w g L cs m cm Ps h' → h'.IsTuple d vs.toArray → (∀ b o, s.heap.get? b = some o → h'.get? b = some o) → s.heap.objs.size ≤ d → d < h'.objs.size → Q (.ref d) { s with heap := h' }) :
    TupPost Q vs s :=
  ⟨il_small few, k _ _ (c.keeps (push_keeps _ _)) ⟨_, Heap.get?_push_size _ rfl, rfl, _, rfl⟩ (push_keeps _ _) (Nat.le_refl _) (by rw [Heap.size_push]; exact Nat.lt_succ_self _)⟩
theorem set_self {α : Type} : ∀ {l : List α} {i : Nat} {x : α}, l[i]? = some x → l.set i x = l
  | [], i, x, h => rfl
  | a :: l, 0, x, h => by obtain rfl : a = x := by simpa using h
                          rfl
  | a :: l, i + 1, x, h => by rw [List.set_cons_succ, set_self (by simpa using h)]
theorem B.stepS {P : Ast} (i : Nat) (c : B w g L cs m cm Ps h) (hi : Ps[i]? = some P) (x : Step [P] [P] h h') : B w g L cs m cm Ps h' := by
  have := c.step1 i hi x
  rwa [set_self hi] at this
theorem B.V {A : EA} {S : ES} (i : Nat) (c : B w g L cs m cm Ps h) (hi : Ps[i]? = some (EmbA w A S)) : V prog w h L m A S := ⟨c.ns, c.at i hi, c.kin, c.gd.bt⟩
theorem slice_fin {l : Addr} {ns ns' : List Int} {vl vu : Value} {lo hi : Option Int} {Q : Value → Shared → Prop} (i : Nat) (c : B w g L cs m cm Ps s.heap) (hi' : Ps[i]? = some (ILA l ns)) (pl : IsPart vl lo) (pu : IsPart vu hi)
    (few : ns.length ≤ 1000) (hp : ∀ {vs : List Value}, IntsAre vs ns → IntsAre (slicePick vs.toArray lo hi none).toList ns')
    (k : ∀ h' d, B w g L cs m cm (ILA d ns' :: Ps) h' → Q (.ref d) { s with heap := h' }) : SlicePost Q (.ref l) vl vu s := slice_fin' c (c.at i hi').1 pl pu few hp k
theorem add_b {l d : Addr} {ns ms : List Int} {Q : Value → Shared → Prop} (i j : Nat) (c : B w g L cs m cm Ps s.heap) (hi : Ps[i]? = some (ILA l ns)) (hj : Ps[j]? = some (ILA d ms)) (few : ns.length + ms.length ≤ 1000)
    (k : ∀ h' r, B w g L cs m cm (ILA r (ns ++ ms) :: Ps) h' → Q (.ref r) { s with heap := h' }) : wpAny (model prog w) Ar (binaryOp .Add (.ref l) (.ref d)) Q E s := add_b' c (c.at i hi).1 (c.at j hj).1 few k
theorem eq_b {l d : Addr} {ns ms : List Int} {Q : Value → Shared → Prop} (i : Nat) (c : B w g L cs m cm Ps s.heap) (hi : Ps[i]? = some (ILA l ns)) (hd : IL s.heap d ms) (hu : Ar.units + 64 < cLine) (k : Q (.bool (decide (ns = ms))) s) :
    wpAny (model prog w) Ar (compareOp .Eq (.ref l) (.ref d)) Q E s := eq_b' (c.at i hi).1 hd hu k
theorem meth_b {l : Addr} {ns : List Int} {Q : Value × List Value → Shared → Prop} {name : Str} {id : String} {pl : Sem Bool} (i : Nat) (c : B w g L cs m cm Ps s.heap) (hi : Ps[i]? = some (ILA l ns)) (slot : Slot "list" name id)
    (hty : typeOf (.builtin id) = pure (.type "method_descriptor")) (h : Q (.builtin id, [.ref l]) s) : wpAny (model prog w) Ar (getMethod (.ref l) name pl) Q E s := meth_b' (c.at i hi).1 slot hty h
theorem list_finS {vs : List Value} {ns : List Int} {Q : Value → Shared → Prop} (c : B w g L cs m cm Ps s.heap) (iv : IntsAre vs ns) (few : ns.length ≤ 1000) (k : ∀ h' d, s.heap.objs.size ≤ d → B w g L cs m cm (ILA d ns :: Ps) h' → Q (.ref d) { s with heap := h' }) :
    ListPost Q vs s :=
  ⟨by rw [iv.length]; exact il_small few, k _ _ (Nat.le_refl _) (c.newInts (push_keeps _ _) ⟨vs, ⟨_, Heap.get?_push_size _ rfl⟩, iv⟩ (Nat.le_refl _))⟩
theorem add_bS {l d : Addr} {ns ms : List Int} {Q : Value → Shared → Prop} (c : B w g L cs m cm Ps s.heap) (hl : IL s.heap l ns) (hd : IL s.heap d ms) (few : ns.length + ms.length ≤ 1000)
    (k : ∀ h' r, s.heap.objs.size ≤ r → B w g L cs m cm (ILA r (ns ++ ms) :: Ps) h' → Q (.ref r) { s with heap := h' }) : wpAny (model prog w) Ar (binaryOp .Add (.ref l) (.ref d)) Q E s := by
  obtain ⟨vs, hv, iv⟩ := hl
  obtain ⟨us, hu, iu⟩ := hd
  obtain ⟨n, ho⟩ := id hv
  obtain ⟨n2, ho2⟩ := id hu
  refine concat_meets ⟨_, ho, rfl⟩ ⟨_, ho2, rfl⟩ noFill_list_add seq_list_add PySem.F.slot_list_add PySem.F.entry_list_add (PySem.F.args_list_add_2 _ _) (list_addW l d vs.toArray us.toArray n n2 none none #[] #[] (by simp only [List.size_toArray, iv.length, iu.length]; exact il_small few)) ⟨ho, ho2, k _ _ (Nat.le_refl _) ?_⟩
  refine c.newInts (push_keeps _ _) ⟨vs ++ us, ⟨_, by rw [← List.append_toArray]; exact Heap.get?_push_size _ rfl⟩, iv.append iu⟩ (Nat.le_refl _)
end
end Mine
end
section
open PySem PySem.W PySem.Calls PyProof.Rows
set_option maxRecDepth 100000
set_option maxHeartbeats 4000000
set_option linter.all false
namespace Mine
def StA (a sa : Addr) (xs : List Int) : Ast where
  fp b := b = a ∨ b = sa
  ok h := (∃ (i x : Int) (t1 t2 : Tok), h.IsList a #[.ref sa, .int i t1, .int x t2] ∧ 0 ≤ i ∧ 0 ≤ x ∧ x < 2147483647) ∧ IL h sa xs ∧ xs.length ≤ 50 ∧ a ≠ sa ∧ topSize ≤ a ∧ topSize ≤ sa
  loc := fun ⟨⟨i, x, t1, t2, l, r⟩, q, r'⟩ k => ⟨⟨i, x, t1, t2, l.at fun o e => k _ o (.inl rfl) e, r⟩, q.at fun o e => k _ o (.inr rfl) e, r'⟩
  live := fun ⟨⟨i, x, t1, t2, l, r⟩, q, r'⟩ b hb => by
    obtain ⟨vs, ⟨n', ho'⟩, _⟩ := q
    obtain ⟨o, ho, _⟩ := l
    rcases hb with rfl | rfl
    · exact ⟨o, ho⟩
    · exact ⟨_, ho'⟩
  high := fun ⟨_, _, _, _, h1, h2⟩ b hb => hb.elim (fun z => z ▸ h1) fun z => z ▸ h2
theorem StA.split {a sa : Addr} {xs : List Int} {h : Heap} (x : (StA a sa xs).ok h) : ∃ (i y : Int) (t1 t2 : Tok), Sep [LiA a [.ref sa, .int i t1, .int y t2], ILA sa xs] h ∧ 0 ≤ i ∧ 0 ≤ y ∧ y < 2147483647 ∧ xs.length ≤ 50 := by
  obtain ⟨⟨i, x, t1, t2, l, h1, h2, h3⟩, q, few, ne, ha, hsa⟩ := x
  refine ⟨i, x, t1, t2, ⟨fun P hP => ?_, ?_⟩, h1, h2, h3, few⟩
  · rcases List.mem_cons.mp hP with rfl | hP
    · exact ⟨l, ha⟩
    · rw [List.mem_singleton.mp hP]; exact ⟨q, hsa⟩
  · refine List.pairwise_cons.mpr ⟨fun Q hQ b hb hb' => ?_, List.pairwise_singleton ..⟩
    rw [List.mem_singleton.mp hQ] at hb'
    exact ne (hb.symm.trans hb')
theorem StA.join {a sa : Addr} {xs : List Int} {h h' : Heap} {i y : Int} {t1 t2 : Tok} {v1 v2 : Value} (x : Step [LiA a [.ref sa, v1, v2], ILA sa xs] [LiA a [.ref sa, .int i t1, .int y t2], ILA sa xs] h h') (few : xs.length ≤ 50) (h1 : 0 ≤ i) (h2 : 0 ≤ y) (h3 : y < 2147483647) : Step [StA a sa xs] [StA a sa xs] h h' := by
  obtain ⟨l, ha⟩ := x.sep.head
  obtain ⟨q, hsa⟩ := x.sep.tail.head
  have ne : a ≠ sa := fun z => (List.pairwise_cons.mp x.sep.dis).1 _ (.head _) a rfl z
  have key : ∀ b v1 v2, Fps [LiA a [.ref sa, v1, v2], ILA sa xs] b ↔ Fps [StA a sa xs] b := fun b v1 v2 => by
    rw [Fps_cons, Fps_cons, Fps_cons]
    constructor
    · rintro (z | z | z)
      · exact .inl (.inl z)
      · exact .inl (.inr z)
      · exact (Fps_nil _ z).elim
    · rintro ((z | z) | z)
      · exact .inl z
      · exact .inr (.inl z)
      · exact (Fps_nil _ z).elim
  exact ⟨⟨fun P hP => by rw [List.mem_singleton.mp hP]; exact ⟨⟨i, y, t1, t2, l, h1, h2, h3⟩, q, few, ne, ha, hsa⟩, List.pairwise_singleton ..⟩, fun b o n e => x.keep b o (fun z => n ((key b _ _).mp z)) e, fun b hb => (x.new b ((key b _ _).mpr hb)).imp (key b _ _).mp id⟩
section
variable {w : World} {Ar : Around} {E : Value → Shared → Prop} {s s₀ : Shared} {g h h' : Heap} {L : Addr} {m : Str → Option Value}
local macro_rules | `(tactic| tm_at "k") => `(tactic| first | exact kk_915 _ | exact kk_922 _ | exact kk_929 _ | exact kk_936 _ | exact kk_941 _ | exact kk_825 _ | exact kk_802 _ | exact kk_853 _ | exact kk_788 _ | exact kk_816 _ | exact kk_614 _ | exact kk_809 _ | exact kk_860 _ | exact kk_867 _ | exact kk_839 _ | exact kk_846 _ | exact kk_261 _ | exact kk_268 _ | exact kk_275 _ | exact kk_282 _ | exact kk_289 _ | exact kk_296 _)
local macro_rules | `(tactic| tm_at "V") => `(tactic| first | assumption | exact C.v (by assumption) | exact C0.v (by assumption))
local macro_rules | `(tactic| tm_at "h") => `(tactic| first | assumption | with_unfolding_all assumption)
local macro_rules | `(tactic| tm_at "t") => `(tactic| first | assumption | (with_unfolding_all exact True.intro) | (with_unfolding_all exact fun q => Tg.noConfusion q))
local macro_rules | `(tactic| tm_at "M") => `(tactic| with_unfolding_all first | exact .head _ | exact .tail _ (.head _) | exact .tail _ (.tail _ (.head _)))
local macro_rules | `(tactic| tm_at "u") => `(tactic| with_unfolding_all rfl)
local macro_rules | `(tactic| tm_at "s1") => `(tactic| (with_reducible refine wpAny_execs_cons ?_))
local macro_rules | `(tactic| tm_at "s2") => `(tactic| (with_reducible refine wpAny_execs_nil ?_))
local macro_rules | `(tactic| tm_at "s3") => `(tactic| (with_reducible refine wpAny_Assign_Name ?_ (by tm_at "u")))
local macro_rules | `(tactic| tm_at "s4") => `(tactic| (with_reducible refine wpAny_Assign_Subscript ?_ (by tm_at "u")))
local macro_rules | `(tactic| tm_at "s7") => `(tactic| (with_reducible refine wpAny_If ?_))
local macro_rules | `(tactic| tm_at "s8") => `(tactic| (with_reducible refine wpAny_isTrue_Compare1 ?_ (by tm_at "u")))
local macro_rules | `(tactic| tm_at "s10") => `(tactic| (with_reducible refine Subscript_ ?_))
local macro_rules | `(tactic| tm_at "s15") => `(tactic| (with_reducible refine wpAny_Constant_int ?_))
local macro_rules | `(tactic| tm_at "s19") => `(tactic| (with_reducible refine wpAny_Return_some ?_))
local macro_rules | `(tactic| tm_at "s22") => `(tactic| (with_reducible refine Call_ ?_ (by tm_at "u")))
local macro_rules | `(tactic| tm_at "s24") => `(tactic| ((with_reducible show wpAny _ _ (callWith _ _ _ _ _) _ _ _); (try dsimp only); first
     | (with_reducible refine callWith_method1 ?_ (by tm_at "u") (by tm_at "u"))
     | (with_reducible refine callWith_method0 ?_)
     | (with_reducible refine callWith_K (B.kin (by assumption)) (by tm_at "k") ?_ (by tm_at "u") (by tm_at "u"))
     | (with_reducible refine callWith_K0 (B.kin (by assumption)) (by tm_at "k") ?_)
     | (with_reducible refine callWith_KW (B.kin (by assumption)) (by tm_at "k") (by tm_at "u") ?_ (by tm_at "u") (by tm_at "u"))
     | (with_reducible refine PyProof.Rows.callWith_type1 ?_ (by tm_at "u") (by tm_at "u"))))
local macro_rules | `(tactic| tm_at "s25") => `(tactic| (with_reducible refine spliced_more ?_ (by tm_at "u")))
local macro_rules | `(tactic| tm_at "s26") => `(tactic| ((with_reducible refine spliced_none ?_); try dsimp only [List.cons_append, List.nil_append]))
local macro_rules | `(tactic| tm_at "v0") => `(tactic| (with_reducible refine wpAny_BinOp ?_))
local macro_rules | `(tactic| tm_at "v1") => `(tactic| (with_unfolding_all refine ld_b (by assumption) (by first | rfl | assumption) ?_))
local macro_rules | `(tactic| tm_at "v3") => `(tactic| ((with_reducible refine st_b (by assumption) ?_ (by tm_at "u") (by tm_at "u") (by tm_at "u")); intro _ _; try dsimp only))
local macro_rules | `(tactic| tm_at "v6") => `(tactic| (with_reducible refine P.add_int ?_))
local macro_rules | `(tactic| tm_at "v8") => `(tactic| (with_reducible refine wpAny_lt_int ?_))
local macro_rules | `(tactic| tm_at "v9") => `(tactic| (with_reducible refine PySem.wpAny_truthy_bool ?_))
theorem fmod_in {a n : Int} (hn : 0 < n) : 0 ≤ a.fmod n ∧ a.fmod n < n := by
  rw [Int.fmod_eq_emod_of_nonneg _ (by omega)]; exact ⟨Int.emod_nonneg _ (by omega), Int.emod_lt_of_pos _ hn⟩
theorem sum915 {R : Result → Shared → Prop} {a sa : Addr} {xs : List Int} {n : Int} {t : Tok} (G : Gd w s.heap) (hroom : Ar.depth < recursionLimit) (hs : (StA a sa xs).ok s.heap) (hn : 0 < n)
   (k : ∀ h' tk y t', 0 ≤ y → y < n → Step [StA a sa xs] [StA a sa xs] s.heap h' → R (.ok (.ret (.int y t'))) { s with heap := h', toks := tk }) :
   codeAny (model prog w) Ar (.call (.ref 915) ⟨[.ref a, .int n t], []⟩) R s := by
  obtain ⟨i, x, t1, t2, sp, hi0, hx0, hx1, few⟩ := StA.split hs
  refine enterB (Ps := [LiA a [.ref sa, .int i t1, .int x t2], ILA sa xs]) (o := o915 w.params) (fd := fdOf (o915 w.params)) (body := fbody (topSt 18)) (binds := [("state", .ref a), ("many", .int n t)]) G sp hroom (by rfl) (by rfl) (by kernel_rfl!) (by rfl) (BindsTo.of_eq (by rfl)) (by kernel_rfl!) (by kernel_rfl!) fun L h₁ hL c => ?_
  have nz : n ≠ 0 := by omega
  refine wpAny_execs_cons ?_
  (tm_at "s7"; tm_at "s8"; tm_at "s10"; tm_at "v1"; tm_at "s15")
  refine item_b 0 c rfl (by decide) (by decide) rfl ?_ (by tm_at "u")
  (tm_at "s22")
  refine bi_b c (kn_len _) boot_len (by decide +kernel) ?_ (by tm_at "u") (by tm_at "u") (by tm_at "u") (by tm_at "u")
  (tm_at "s24"; tm_at "s25"; tm_at "s10"; tm_at "v1"; tm_at "s15")
  refine item_b 0 c rfl (by decide) (by decide) rfl ?_ (by tm_at "u")
  (tm_at "s26")
  refine len_b 1 c rfl (by omega) ?_
  (tm_at "v8"; tm_at "v9")
  by_cases q : i < xs.length
  · rw [decide_eq_true q]
    simp only [if_true]
    (tm_at "s1"; tm_at "s3"; tm_at "s22")
    refine bi_b c (kn_abs _) boot_abs (by decide +kernel) ?_ (by tm_at "u") (by tm_at "u") (by tm_at "u") (by tm_at "u")
    (tm_at "s24"; tm_at "s25"; tm_at "s10"; tm_at "s10"; tm_at "v1"; tm_at "s15")
    refine item_b 0 c rfl (by decide) (by decide) rfl ?_ (by tm_at "u")
    (tm_at "s10"; tm_at "v1"; tm_at "s15")
    refine item_b 0 c rfl (by decide) (by decide) rfl ?_ (by tm_at "u")
    skip
    have ix : i.toNat < xs.length := by omega
    refine items_b 1 c rfl hi0 (by omega) (List.getElem?_eq_getElem ix) (fun t' => ?_) (by tm_at "u")
    (tm_at "s26")
    refine call_abs_int fun u tk => ?_
    obtain ⟨f, hf, hf0⟩ : ∃ f : Int, (if xs[i.toNat] < 0 then -xs[i.toNat] else xs[i.toNat]) = f ∧ 0 ≤ f := ⟨_, rfl, by split <;> omega⟩
    rw [hf]
    (tm_at "v3"; tm_at "s1"; tm_at "s4"; tm_at "v0"; tm_at "s10"; tm_at "v1"; tm_at "s15")
    refine item_b 0 (by assumption) rfl (by decide) (by decide) rfl ?_ (by tm_at "u")
    (tm_at "s15"; tm_at "v6"; tm_at "v1"; tm_at "s15")
    refine set_b 0 (by assumption) rfl (by decide) (by decide) (by show 1 < 3; decide) fun h3 c3 => ?_
    (tm_at "s1"; tm_at "s4"; tm_at "v0"; tm_at "v0"; tm_at "v0"; tm_at "s10"; tm_at "v1"; tm_at "s15")
    refine item_b 0 (by assumption) rfl (by decide) (by decide) rfl ?_ (by tm_at "u")
    (tm_at "s15")
    refine P.mul_int ?_ (IntMulOk.of_right (by decide))
    (tm_at "v1"; tm_at "v6"; tm_at "s15")
    refine mod_int (by decide) ?_
    (tm_at "v1"; tm_at "s15")
    have hm0 := (fmod_in (a := x * 31 + f) (n := 2147483647) (by omega)).1
    have hm1 := (fmod_in (a := x * 31 + f) (n := 2147483647) (by omega)).2
    refine set_b 0 (by assumption) rfl (by decide) (by decide) (by show 2 < 3; decide) fun h4 c4 => ?_
    (tm_at "s1"; tm_at "s19"; tm_at "v0"; tm_at "v1"; tm_at "v1")
    refine mod_int nz ?_
    have st := B.done c4
    exact k _ _ _ _ (fmod_in hn).1 (fmod_in hn).2 (StA.join st few (by omega) hm0 hm1)
  · rw [decide_eq_false q]
    simp only [Bool.false_eq_true, if_false]
    (tm_at "s2"; tm_at "s1"; tm_at "s4"; tm_at "v0"; tm_at "v0"; tm_at "v0"; tm_at "s10"; tm_at "v1"; tm_at "s15")
    refine item_b 0 (by assumption) rfl (by decide) (by decide) rfl ?_ (by tm_at "u")
    (tm_at "s15")
    refine P.mul_int ?_ (IntMulOk.of_right (by decide))
    (tm_at "s15"; tm_at "v6"; tm_at "s15")
    refine mod_int (by decide) ?_
    (tm_at "v1"; tm_at "s15")
    have hm0 := (fmod_in (a := x * 48271 + 11) (n := 2147483647) (by omega)).1
    have hm1 := (fmod_in (a := x * 48271 + 11) (n := 2147483647) (by omega)).2
    refine set_b 0 (by assumption) rfl (by decide) (by decide) (by show 2 < 3; decide) fun h4 c4 => ?_
    (tm_at "s1"; tm_at "s19"; tm_at "v0"; tm_at "v0"; tm_at "s10"; tm_at "v1"; tm_at "s15")
    refine item_b 0 (by assumption) rfl (by decide) (by decide) rfl ?_ (by tm_at "u")
    (tm_at "s15")
    refine floordiv_int (by decide) ?_ (Or.inl (PyProof.noPylong_small (by omega)))
    (tm_at "v1")
    refine mod_int nz ?_
    have st := B.done c4
    exact k _ _ _ _ (fmod_in hn).1 (fmod_in hn).2 (StA.join st few hi0 hm0 hm1)
end
end Mine
end
section
open PySem PySem.W PySem.Calls PyProof.Rows
set_option maxRecDepth 100000
set_option maxHeartbeats 1000000
set_option linter.all false
namespace Mine
def Begun (ns r : List Int) : Prop := (ns = [] ∧ r = []) ∨ ∃ x ∈ ns, (∀ y ∈ ns, x ≤ y) ∧ r = ns.drop (ns.idxOf x) ++ ns.take (ns.idxOf x)
section
variable {w : World} {Ar : Around} {E : Value → Shared → Prop} {s s₀ : Shared} {g h h' : Heap} {L : Addr} {m : Str → Option Value}
local macro_rules | `(tactic| tm_at "k") => `(tactic| first | exact kk_915 _ | exact kk_922 _ | exact kk_929 _ | exact kk_936 _ | exact kk_941 _ | exact kk_825 _ | exact kk_802 _ | exact kk_853 _ | exact kk_788 _ | exact kk_816 _ | exact kk_614 _ | exact kk_809 _ | exact kk_860 _ | exact kk_867 _ | exact kk_839 _ | exact kk_846 _ | exact kk_261 _ | exact kk_268 _ | exact kk_275 _ | exact kk_282 _ | exact kk_289 _ | exact kk_296 _)
local macro_rules | `(tactic| tm_at "V") => `(tactic| first | assumption | exact C.v (by assumption) | exact C0.v (by assumption))
local macro_rules | `(tactic| tm_at "h") => `(tactic| first | assumption | with_unfolding_all assumption)
local macro_rules | `(tactic| tm_at "t") => `(tactic| first | assumption | (with_unfolding_all exact True.intro) | (with_unfolding_all exact fun q => Tg.noConfusion q))
local macro_rules | `(tactic| tm_at "M") => `(tactic| with_unfolding_all first | exact .head _ | exact .tail _ (.head _) | exact .tail _ (.tail _ (.head _)))
local macro_rules | `(tactic| tm_at "u") => `(tactic| with_unfolding_all rfl)
local macro_rules | `(tactic| tm_at "s0") => `(tactic| (with_reducible refine Slice_b ?_ (by intro _ _; with_unfolding_all rfl)))
local macro_rules | `(tactic| tm_at "s1") => `(tactic| (with_reducible refine wpAny_execs_cons ?_))
local macro_rules | `(tactic| tm_at "s2") => `(tactic| (with_reducible refine wpAny_execs_nil ?_))
local macro_rules | `(tactic| tm_at "s3") => `(tactic| (with_reducible refine wpAny_Assign_Name ?_ (by tm_at "u")))
local macro_rules | `(tactic| tm_at "s7") => `(tactic| (with_reducible refine wpAny_If ?_))
local macro_rules | `(tactic| tm_at "s8") => `(tactic| (with_reducible refine wpAny_isTrue_Compare1 ?_ (by tm_at "u")))
local macro_rules | `(tactic| tm_at "s19") => `(tactic| (with_reducible refine wpAny_Return_some ?_))
local macro_rules | `(tactic| tm_at "s21") => `(tactic| (with_reducible refine MethodCall_ ?_ (by tm_at "u")))
local macro_rules | `(tactic| tm_at "s22") => `(tactic| (with_reducible refine Call_ ?_ (by tm_at "u")))
local macro_rules | `(tactic| tm_at "s24") => `(tactic| ((with_reducible show wpAny _ _ (callWith _ _ _ _ _) _ _ _); (try dsimp only); first
     | (with_reducible refine callWith_method1 ?_ (by tm_at "u") (by tm_at "u"))
     | (with_reducible refine callWith_method0 ?_)
     | (with_reducible refine callWith_K (B.kin (by assumption)) (by tm_at "k") ?_ (by tm_at "u") (by tm_at "u"))
     | (with_reducible refine callWith_K0 (B.kin (by assumption)) (by tm_at "k") ?_)
     | (with_reducible refine callWith_KW (B.kin (by assumption)) (by tm_at "k") (by tm_at "u") ?_ (by tm_at "u") (by tm_at "u"))
     | (with_reducible refine PyProof.Rows.callWith_type1 ?_ (by tm_at "u") (by tm_at "u"))))
local macro_rules | `(tactic| tm_at "s25") => `(tactic| (with_reducible refine spliced_more ?_ (by tm_at "u")))
local macro_rules | `(tactic| tm_at "s26") => `(tactic| ((with_reducible refine spliced_none ?_); try dsimp only [List.cons_append, List.nil_append]))
local macro_rules | `(tactic| tm_at "v0") => `(tactic| (with_reducible refine wpAny_BinOp ?_))
local macro_rules | `(tactic| tm_at "v1") => `(tactic| (with_unfolding_all refine ld_b (by assumption) (by first | rfl | assumption) ?_))
local macro_rules | `(tactic| tm_at "v3") => `(tactic| ((with_reducible refine st_b (by assumption) ?_ (by tm_at "u") (by tm_at "u") (by tm_at "u")); intro _ _; try dsimp only))
local macro_rules | `(tactic| tm_at "v9") => `(tactic| (with_reducible refine PySem.wpAny_truthy_bool ?_))
local macro_rules | `(tactic| tm_at "v10") => `(tactic| (with_reducible refine part_none ?_))
local macro_rules | `(tactic| tm_at "v12") => `(tactic| (with_reducible refine List_b ?_))
theorem sum922 {R : Result → Shared → Prop} {l : Addr} {ns : List Int} (G : Gd w s.heap) (rm : Rm Ar 1) (hs : IL s.heap l ns) (few : ns.length ≤ 200)
   (k : ∀ h' tk d r, Begun ns r → (∀ b o, s.heap.get? b = some o → h'.get? b = some o) → IL h' d r → s.heap.objs.size ≤ d → R (.ok (.ret (.ref d))) { s with heap := h', toks := tk }) :
   codeAny (model prog w) Ar (.call (.ref 922) ⟨[.ref l], []⟩) R s := by
  refine enterB (Ps := []) (o := o922 w.params) (fd := fdOf (o922 w.params)) (body := fbody (topSt 19)) (binds := [("row", .ref l)]) G (Sep.nil _) rm.room (by rfl) (by rfl) (by kernel_rfl!) (by rfl) (BindsTo.of_eq (by rfl)) (by kernel_rfl!) (by kernel_rfl!) fun L h₁ hL c => ?_
  have rd : Rm (Ar.deeper (callEnv (fdOf (o922 w.params)) L 922)) 0 := rm.deeper
  have up : ∀ {m cm : Str → Option Value} {cs : List (Str × Addr)} {L : Addr} {Ps : List Ast} {h : Heap}, B w (hide s.heap (Fps [])) L cs m cm Ps h → ∀ b o, s.heap.get? b = some o → h.get? b = some o := fun c b o e => c.keep b o (by rw [hide_get, if_neg (Fps_nil b)]; exact e)
  refine wpAny_execs_cons ?_
  (tm_at "s7"; tm_at "s8"; tm_at "v1"; tm_at "v12"; tm_at "s26")
  refine list_fin c .nil (by decide) fun h1 d1 c1 => ?_
  refine eq_b' (hs.keeps (up c1)) (c1.at 0 rfl).1 rd.eq ?_
  (tm_at "v9")
  by_cases q : ns = []
  · rw [decide_eq_true q]
    simp only [if_true]
    (tm_at "s1"; tm_at "s19"; tm_at "v12"; tm_at "s26")
    refine list_finS c1 .nil (by decide) fun h2 d2 hd2 c2 => ?_
    exact k _ _ _ _ (.inl ⟨q, rfl⟩) (up c2) (c2.at 0 rfl).1 (Nat.le_trans (Nat.le_of_lt (hL ▸ c1.ns.lt)) hd2)
  · rw [decide_eq_false q]
    simp only [Bool.false_eq_true, if_false]
    (tm_at "s2"; tm_at "s1"; tm_at "s3"; tm_at "s21"; tm_at "v1")
    refine meth_b' (hs.keeps (up c1)) PySem.F.slot_list_index PySem.F.type_list_index ?_
    (tm_at "s24"; tm_at "s25"; tm_at "s22")
    refine bi_b c1 (kn_min _) boot_min (by decide +kernel) ?_ (by tm_at "u") (by tm_at "u") (by tm_at "u") (by tm_at "u")
    (tm_at "s24"; tm_at "s25"; tm_at "v1"; tm_at "s26")
    refine min_b' c1 (hs.keeps (up c1)) rd.hd q fun h2 tk2 x t2 c2 hx hx' => ?_
    (tm_at "s26")
    refine index_b' (hs.keeps (up c2)) (by omega) hx ?_
    (tm_at "v3"; tm_at "s1"; tm_at "s19"; tm_at "v0"; tm_at "s0"; tm_at "v1"; tm_at "v1"; tm_at "v10")
    have hlt : ns.idxOf x < ns.length := List.idxOf_lt_length_iff.mpr hx
    rename_i h2' c2'
    refine slice_fin' c2' (hs.keeps (up c2')) (.int _ _) .none (by omega) (fun iv => slice_ints_from iv (Int.natCast_nonneg _) (Int.ofNat_le.mpr (Nat.le_of_lt hlt))) fun h3 d3 c3 => ?_
    (tm_at "s0"; tm_at "v1"; tm_at "v10"; tm_at "v1")
    refine slice_fin' c3 (hs.keeps (up c3)) .none (.int _ _) (by omega) (fun iv => slice_ints_upto iv (Int.natCast_nonneg _) (Int.ofNat_le.mpr (Nat.le_of_lt hlt))) fun h4 d4 c4 => ?_
    skip
    refine add_bS c4 (c4.at 1 rfl).1 (c4.at 0 rfl).1 (by simp only [List.length_drop, List.length_take, Int.toNat_natCast]; omega) fun h5 d5 hd5 c5 => ?_
    exact k _ _ _ _ (.inr ⟨x, hx, hx', by simp only [Int.toNat_natCast]⟩) (up c5) (c5.at 0 rfl).1 (Nat.le_trans (Nat.le_of_lt (hL ▸ c4.ns.lt)) hd5)
theorem next_b {cs : List (Str × Addr)} {cm : Str → Option Value} {Ps : List Ast} {a sa : Addr} {xs : List Int} {n : Int} {t : Tok} {Q : Value → Shared → Prop} (i : Nat) (c : B w g L cs m cm Ps s.heap) (hi : Ps[i]? = some (StA a sa xs)) (rm : Rm Ar 0) (hn : 0 < n)
   (k : ∀ h' tk y t', 0 ≤ y → y < n → B w g L cs m cm Ps h' → Q (.int y t') { s with heap := h', toks := tk }) : wpAny (model prog w) Ar (call (.ref 915) [.ref a, .int n t]) Q E s :=
  callR (sum915 c.gd rm.room (c.at i hi) hn fun h' tk y t' h0 h1 st => ⟨_, rfl, k _ _ _ _ h0 h1 (c.stepS i hi st)⟩)
theorem kk_915 (P : Params) : keepIn (frag P) (.ref 915) = true := by kernel_rfl!
theorem kk_922 (P : Params) : keepIn (frag P) (.ref 922) = true := by kernel_rfl!
theorem kk_929 (P : Params) : keepIn (frag P) (.ref 929) = true := by kernel_rfl!
theorem kk_936 (P : Params) : keepIn (frag P) (.ref 936) = true := by kernel_rfl!
theorem kk_941 (P : Params) : keepIn (frag P) (.ref 941) = true := by kernel_rfl!
end
theorem idxOf_mid {p q : List Int} {x : Int} (h : x ∉ p) : (p ++ x :: q).idxOf x = p.length := by
  rw [List.idxOf_append, if_neg h, List.idxOf_cons_self]; omega
theorem Begun.same {p q r r' : List Int} (nd : (p ++ q).Nodup) (h : Begun (p ++ q) r) (h' : Begun (q ++ p) r') : r = r' := by
  have pm : ∀ y, y ∈ p ++ q ↔ y ∈ q ++ p := fun y => by simp [or_comm]
  rcases h with ⟨e, rfl⟩ | ⟨x, hx, mx, rfl⟩
  · rcases h' with ⟨_, rfl⟩ | ⟨x', hx', _, _⟩
    · rfl
    · have := (pm x').mpr hx'
      rw [e] at this; cases this
  · rcases h' with ⟨e, rfl⟩ | ⟨x', hx', mx', rfl⟩
    · have := (pm x).mp hx
      rw [e] at this; cases this
    · have : x = x' := Int.le_antisymm (mx x' ((pm x').mpr hx')) (mx' x ((pm x).mp hx))
      subst this
      have nd' := List.nodup_append.mp nd
      rcases List.mem_append.mp hx with z | z
      · obtain ⟨a, b, rfl⟩ := split_at z
        have na : x ∉ a := fun u => (List.nodup_append.mp nd'.1).2.2 x u x (.head _) rfl
        have nq : x ∉ q := fun u => nd'.2.2 x z x u rfl
        have e1 : (a ++ x :: b) ++ q = a ++ x :: (b ++ q) := by simp
        have e2 : q ++ (a ++ x :: b) = (q ++ a) ++ x :: b := by simp
        have nqa : x ∉ q ++ a := fun u => (List.mem_append.mp u).elim nq na
        rw [e1, e2, idxOf_mid na, idxOf_mid nqa, List.drop_left, List.take_left, List.drop_left, List.take_left]
        simp
      · obtain ⟨a, b, rfl⟩ := split_at z
        have na : x ∉ a := fun u => (List.nodup_append.mp nd'.2.1).2.2 x u x (.head _) rfl
        have np : x ∉ p := fun u => nd'.2.2 x u x z rfl
        have e1 : p ++ (a ++ x :: b) = (p ++ a) ++ x :: b := by simp
        have e2 : (a ++ x :: b) ++ p = a ++ x :: (b ++ p) := by simp
        have npa : x ∉ p ++ a := fun u => (List.mem_append.mp u).elim np na
        rw [e1, e2, idxOf_mid na, idxOf_mid npa, List.drop_left, List.take_left, List.drop_left, List.take_left]
        simp
end Mine
end
section
open PySem PySem.W PySem.Calls PyProof.Rows
set_option maxRecDepth 100000
set_option maxHeartbeats 1000000
set_option linter.all false
namespace Mine
def KItA (I d : Addr) (n ep i : Nat) : Ast where
  fp b := b = I
  ok h := h.IsKeyIter I d i n ep ∧ topSize ≤ I
  loc := fun ⟨⟨o, ho, r⟩, y⟩ k => ⟨⟨o, k _ o rfl ho, r⟩, y⟩
  live := fun ⟨⟨o, ho, _⟩, _⟩ b hb => ⟨o, hb ▸ ho⟩
  high := fun ⟨_, y⟩ b hb => hb ▸ y
def DtA (w : World) (d : Addr) (kvs : List (Int × Value)) (ep : Nat) : Ast where
  fp b := b = d
  ok h := h.DictAt (PySem.intKind prog w) d kvs ep ∧ topSize ≤ d
  loc := fun ⟨⟨o, es, ho, r⟩, y⟩ k => ⟨⟨o, es, k _ o rfl ho, r⟩, y⟩
  live := fun ⟨⟨o, es, ho, _⟩, _⟩ b hb => ⟨o, hb ▸ ho⟩
  high := fun ⟨_, y⟩ b hb => hb ▸ y
def RItA (I : Addr) (x left : Int) : Ast where
  fp b := b = I
  ok h := IsRangeIter h I x left 1 ∧ topSize ≤ I
  loc := fun ⟨x, y⟩ k => ⟨k _ _ rfl x, y⟩
  live := fun ⟨x, _⟩ b hb => ⟨_, hb ▸ x⟩
  high := fun ⟨_, y⟩ b hb => hb ▸ y
def LItA (I l : Addr) (i : Nat) : Ast where
  fp b := b = I
  ok h := h.IsListIter I l i ∧ topSize ≤ I
  loc := fun ⟨⟨o, ho, r⟩, y⟩ k => ⟨⟨o, k _ o rfl ho, r⟩, y⟩
  live := fun ⟨⟨o, ho, _⟩, _⟩ b hb => ⟨o, hb ▸ ho⟩
  high := fun ⟨_, y⟩ b hb => hb ▸ y
section
variable {w : World} {Ar : Around} {E : Value → Shared → Prop} {s s₀ : Shared} {g h h' : Heap} {L C D I : Addr} {cs : List (Str × Addr)} {m cm m' : Str → Option Value} {env : Env} {Ps Qs Qs' Rs : List Ast}
theorem B.weak {P P' : Ast} (i : Nat) (c : B w g L cs m cm Ps h) (hi : Ps[i]? = some P) (ok : P'.ok h) (sub : ∀ b, P'.fp b → P.fp b) : B w g L cs m cm (Ps.set i P') h :=
  c.step1 i hi ⟨⟨fun Q hQ => by rw [List.mem_singleton.mp hQ]; exact ok, List.pairwise_singleton ..⟩, fun _ _ _ e => e, fun b ⟨Q, hQ, hb⟩ => .inl ⟨P, .head _, sub b (by rw [List.mem_singleton.mp hQ] at hb; exact hb)⟩⟩
theorem B.lose {P : Ast} {a : Addr} (i : Nat) (c : B w g L cs m cm Ps h) (hi : Ps[i]? = some P) (ha : P.fp a) (k : ∀ b o, b ≠ a → h.get? b = some o → h'.get? b = some o) : B w g L cs m cm (Ps.eraseIdx i) h' := by
  have hl : i < Ps.length := (List.getElem?_eq_some_iff.mp hi).1
  have e1 : Ps = Ps.take i ++ P :: Ps.drop (i + 1) := by
    have h2 : Ps[i] = P := (List.getElem?_eq_some_iff.mp hi).2
    conv => lhs; rw [← List.take_append_drop i Ps, List.drop_eq_getElem_cons hl, h2]
  have e2 : Ps.eraseIdx i = Ps.take i ++ Ps.drop (i + 1) := List.eraseIdx_eq_take_drop_succ ..
  rw [e1] at c
  rw [e2]
  have st : Step [P] [] h h' := ⟨Sep.nil _, fun b o n e => k b o (fun z => n ⟨P, .head _, z ▸ ha⟩) e, fun b hb => (Fps_nil _ hb).elim⟩
  exact B.step (Qs := [P]) (Qs' := []) (c.perm List.perm_middle) st
theorem B.enterFrame (c : B w g L cs m cm Ps h) {m' : Str → Option Value} (hn : h'.Ns C m') (hC : h.objs.size ≤ C) (k : ∀ b o, h.get? b = some o → h'.get? b = some o) : B w g C [] m' (fun _ => none) (FrA L cs m cm :: Ps) h' := by
  have hhi := Nat.le_trans c.gd.size hC
  have st : Step [] [FrA C [] m' (fun _ => none)] h h' := fresh_step c.gd k ⟨hn, fun p hp => (nomatch hp), .nil, .nil, fun p hp => (nomatch hp), hhi, fun p hp => (nomatch hp)⟩ fun b hb => by
    rcases hb with rfl | ⟨p, hp, _⟩
    · exact hC
    · cases hp
  have x := st.frame (Qs := FrA L cs m cm :: Ps) c.sep
  refine ⟨x.sep, fun b o e => x.keep b o (fun z => by rw [c.out b z] at e; cases e) (c.keep b o e), fun b hb => ?_, c.gnd⟩
  rcases x.new b hb with z | z
  · exact c.out b z
  · cases e : g.get? b with
    | none => rfl
    | some o => have := c.keep b o e; rw [z] at this; cases this
theorem B.leaveFrame {cs' : List (Str × Addr)} {m' cm' : Str → Option Value} (c : B w g C cs' m' cm' (FrA L cs m cm :: Ps) h) (k : ∀ b o, b ≠ C → h.get? b = some o → h'.get? b = some o) : B w g L cs m cm Ps h' := by
  have n : ∀ b, Fps (FrA L cs m cm :: Ps) b → b ≠ C := fun b ⟨P, hP, hb⟩ z => (List.pairwise_cons.mp c.sep.dis).1 P hP b (.inl z) hb
  refine ⟨⟨fun P hP => P.loc (c.sep.tail.ok P hP) fun b o hb e => k b o (n b ⟨P, hP, hb⟩) e, c.sep.tail.dis⟩, fun b o e => k b o (fun z => ?_) (c.keep b o e), fun b hb => c.out b (Fps_cons.mpr (.inr hb)), c.gnd⟩
  rw [c.out b (Fps_cons.mpr (.inl (.inl z)))] at e; cases e
theorem lk_b {x : Str} {pos : Pos} {v : Value} {a : Addr} {Q : Value → Shared → Prop} (i : Nat) (c : B w g C [] m' (fun _ => none) Ps s.heap) (hi : Ps[i]? = some (FrA L cs m cm)) (hc : env.cells.lookup x = some a) (hm : (x, a) ∈ cs) (hv : cm x = some v) (k : Q v s)
    (hl : env.kindOf x = some .cell := by rfl) (hk : env.scope.kind = .function := by rfl) (hd : (x == ("__debug__" : Str)) = false := by decide) :
    wpAny (model prog w) Ar (eval (.Name x pos) env) Q E s := by
  have := (c.at i hi).2.1 _ hm
  rw [hv] at this
  exact wpAny_Name (wpAny_loadName_cell hk hl hc this k) hd
theorem enterBC {R : Result → Shared → Prop} {fa : Addr} {o : Obj} {fd : FuncData} {body : List Stmt} {vals : List Value} {binds : List (Str × Value)} 
    (G : Gd w s.heap) (x : Sep Ps s.heap) (hroom : Ar.depth < recursionLimit)
    (ho : (frag w.params).lookup fa = some o) (hdata : o.data = .func fd) (hcd : codeIn (frag w.params) fd.code fd.qualname = true)
    (hbody : fd.body = .stmts body) (hbind : bindArgs fd ⟨vals, []⟩ = pure binds) (hclo : fd.closure = [])
    (hkind : ∀ n : Nat, ∀ x ∈ binds, fd.scope.names.lookup x.1 = some .local ∨ (fd.scope.names.lookup x.1 = some .cell ∧ ((cellsFrom n fd.scope.names []).lookup x.1).isSome = true))
    (hnames : ∀ n : Nat, (cellsFrom n fd.scope.names []).Pairwise fun x y => x.1 ≠ y.1)
    (k : ∀ L h₁ tk, L = s.heap.objs.size → B w (hide s.heap (Fps Ps)) L (cellsFrom (L + 1) fd.scope.names []) (bindL (callEnvC fd L fa).kindOf binds fun _ => none) (bindC (callEnvC fd L fa).kindOf binds fun _ => none) Ps h₁ →
      wpAny (model prog w) (Ar.deeper (callEnvC fd L fa)) (execs body (callEnvC fd L fa)) (fun f s' => R (.ok (.ret (match f with | .ret v => v | _ => .none))) s')
        (fun e s' => wpAny (model prog w) (Ar.deeper (callEnvC fd L fa)) (leaving (callEnvC fd L fa) e) (fun _ s'' => R (.error e) s'') (fun e' s'' => R (.error e') s'') s') { s with heap := h₁, toks := tk })
    (hco : fd.scope.isCoroutine = false := by rfl) (hgen : fd.scope.isGenerator = false := by rfl) (hk : fd.scope.kind = .function := by rfl) :
    codeAny (model prog w) Ar (.call (.ref fa) ⟨vals, []⟩) R s := by
  refine codeAny_call_cells hroom (G.kin _ _ ho) hdata G.lim (codeRec_of G.kin hcd) hbody hbind hclo (hkind _) (fun s₁ y => ?_) hco hgen hk
  obtain ⟨⟨⟨h₁, tk, rfl⟩, ns, keep, fresh⟩, cell, apart, above⟩ := y
  refine k _ h₁ tk rfl ?_
  have hC : ∀ p ∈ cellsFrom (s.heap.objs.size + 1) fd.scope.names [], s.heap.objs.size < p.2 := fun p hp => above p.1 p.2 hp
  have lk : ∀ {l : List (Str × Addr)}, (l.Pairwise fun x y => x.1 ≠ y.1) → ∀ p ∈ l, l.lookup p.1 = some p.2 := by
    intro l hl
    induction l with
    | nil => intro p hp; cases hp
    | cons q r ih =>
      intro p hp
      obtain ⟨q1, q2⟩ := q
      obtain ⟨h1, h2⟩ := List.pairwise_cons.mp hl
      rcases List.mem_cons.mp hp with rfl | hp
      · simp
      · have : (p.1 == q1) = false := by simpa using (h1 p hp).symm
        rw [List.lookup_cons, this]
        exact ih h2 p hp
  have st : Step [] [FrA s.heap.objs.size (cellsFrom (s.heap.objs.size + 1) fd.scope.names []) (bindL (callEnvC fd s.heap.objs.size fa).kindOf binds fun _ => none) (bindC (callEnvC fd s.heap.objs.size fa).kindOf binds fun _ => none)] s.heap h₁ := by
    refine fresh_step G keep ⟨ns, fun p hp => cell p.1 p.2 (lk (hnames _) p hp), apart, hnames _, fun p hp => Nat.ne_of_gt (hC p hp), G.size, fun p hp => Nat.le_trans G.size (Nat.le_of_lt (hC p hp))⟩ fun b hb => ?_
    rcases hb with rfl | ⟨p, hp, rfl⟩
    · exact Nat.le_refl _
    · exact Nat.le_of_lt (hC p hp)
  have y := st.frame (Qs := Ps) x
  refine ⟨y.sep, fun b o e => ?_, fun b hb => ?_, gd_fps G x⟩
  · rw [hide_get] at e
    split at e
    · cases e
    · exact keep b o e
  · rw [hide_get]
    rcases y.new b hb with z | z
    · rw [if_pos (show Fps Ps b from z)]
    · split
      · rfl
      · exact z
theorem comp_upto {R : Result → Shared → Prop} {elt iter target : Expr} {ifs : List Expr} {scope : Scope} {pos : Pos} {it acc : Value} (n : Nat) (J : Nat → Shared → Prop)
    (turn : ∀ i s, i < n → J i s → wpAny (model prog w) Ar (pyNext it) (fun r s₁ => ∃ v, r = some v ∧ wpAny (model prog w) Ar (assign target env v) (fun _ s₂ =>
      wpAny (model prog w) Ar (forIn ifs true fun c r => if r = true then do let ok ← isTrue c env (eval c env); pure (ForInStep.yield ok) else pure (ForInStep.yield r)) (fun ok s₃ =>
        if ok = true then wpAny (model prog w) Ar (eval elt env) (fun x s₄ => wpAny (model prog w) Ar (call (.builtin "list.append") [acc, x]) (fun _ s₅ => J (i + 1) s₅) (notedBy (model prog w) Ar env fun e s' => R (.error e) s') s₄) (notedBy (model prog w) Ar env fun e s' => R (.error e) s') s₃
        else J (i + 1) s₃) (notedBy (model prog w) Ar env fun e s' => R (.error e) s') s₂) (notedBy (model prog w) Ar env fun e s' => R (.error e) s') s₁) (notedBy (model prog w) Ar env fun e s' => R (.error e) s') s)
    (done : ∀ s, J n s → wpAny (model prog w) Ar (pyNext it) (fun r s₁ => r = none ∧ R (.ok .next) s₁) (notedBy (model prog w) Ar env fun e s' => R (.error e) s') s)
    (h0 : J 0 s) (ht : ∀ v, letOwnedTupleGo target it v = pure () := by intro _; rfl) :
    codeAny (model prog w) Ar (.compLoop (.ListComp elt [⟨target, iter, ifs, 0⟩] scope pos) 0 it acc env) R s := by
  refine codeAny_compLoop_tests (fun k s' => ∃ i, i ≤ n ∧ k = n - i ∧ J i s') (fun k s' ⟨i, hi, hk, hj⟩ => ?_) n ⟨0, Nat.zero_le _, rfl, h0⟩ ht
  by_cases q : i < n
  · refine wpAny_mono (turn i s' q hj) (fun r s₁ h₁ => ?_) fun _ _ z => z
    obtain ⟨v, rfl, h₁⟩ := h₁
    refine wpAny_mono h₁ (fun _ s₂ h₂ => wpAny_mono h₂ (fun ok s₃ h₃ => ?_) fun _ _ z => z) fun _ _ z => z
    cases ok with
    | true => exact wpAny_mono h₃ (fun x s₄ h₄ => wpAny_mono h₄ (fun _ s₅ h₅ => ⟨n - (i + 1), by omega, i + 1, q, rfl, h₅⟩) fun _ _ z => z) fun _ _ z => z
    | false => exact ⟨n - (i + 1), by omega, i + 1, q, rfl, h₃⟩
  · obtain rfl : i = n := by omega
    refine wpAny_mono (done s' hj) (fun r s₁ h₁ => ?_) fun _ _ z => z
    obtain ⟨rfl, h₁⟩ := h₁
    exact h₁
theorem compD_upto {R : Result → Shared → Prop} {kx vx iter target : Expr} {ifs : List Expr} {scope : Scope} {pos : Pos} {it : Value} (n : Nat) (J : Nat → Shared → Prop)
    (turn : ∀ i s, i < n → J i s → wpAny (model prog w) Ar (pyNext it) (fun r s₁ => ∃ v, r = some v ∧ wpAny (model prog w) Ar (assign target env v) (fun _ s₂ =>
      wpAny (model prog w) Ar (forIn ifs true fun c r => if r = true then do let ok ← isTrue c env (eval c env); pure (ForInStep.yield ok) else pure (ForInStep.yield r)) (fun ok s₃ =>
        if ok = true then wpAny (model prog w) Ar (eval kx env) (fun kv s₄ => wpAny (model prog w) Ar (eval vx env) (fun vv s₅ => wpAny (model prog w) Ar (dictSet D kv vv) (fun _ s₆ => J (i + 1) s₆) (notedBy (model prog w) Ar env fun e s' => R (.error e) s') s₅) (notedBy (model prog w) Ar env fun e s' => R (.error e) s') s₄) (notedBy (model prog w) Ar env fun e s' => R (.error e) s') s₃
        else J (i + 1) s₃) (notedBy (model prog w) Ar env fun e s' => R (.error e) s') s₂) (notedBy (model prog w) Ar env fun e s' => R (.error e) s') s₁) (notedBy (model prog w) Ar env fun e s' => R (.error e) s') s)
    (done : ∀ s, J n s → wpAny (model prog w) Ar (pyNext it) (fun r s₁ => r = none ∧ R (.ok .next) s₁) (notedBy (model prog w) Ar env fun e s' => R (.error e) s') s)
    (h0 : J 0 s) (ht : ∀ v, letOwnedTupleGo target it v = pure () := by intro _; rfl) :
    codeAny (model prog w) Ar (.compLoop (.DictComp kx vx [⟨target, iter, ifs, 0⟩] scope pos) 0 it (.ref D) env) R s := by
  refine codeAny_compLoop_testsD (fun k s' => ∃ i, i ≤ n ∧ k = n - i ∧ J i s') (fun k s' ⟨i, hi, hk, hj⟩ => ?_) n ⟨0, Nat.zero_le _, rfl, h0⟩ ht
  by_cases q : i < n
  · refine wpAny_mono (turn i s' q hj) (fun r s₁ h₁ => ?_) fun _ _ z => z
    obtain ⟨v, rfl, h₁⟩ := h₁
    refine wpAny_mono h₁ (fun _ s₂ h₂ => wpAny_mono h₂ (fun ok s₃ h₃ => ?_) fun _ _ z => z) fun _ _ z => z
    cases ok with
    | true => exact wpAny_mono h₃ (fun x s₄ h₄ => wpAny_mono h₄ (fun _ s₅ h₅ => wpAny_mono h₅ (fun _ s₆ h₆ => ⟨n - (i + 1), by omega, i + 1, q, rfl, h₆⟩) fun _ _ z => z) fun _ _ z => z) fun _ _ z => z
    | false => exact ⟨n - (i + 1), by omega, i + 1, q, rfl, h₃⟩
  · obtain rfl : i = n := by omega
    refine wpAny_mono (done s' hj) (fun r s₁ h₁ => ?_) fun _ _ z => z
    obtain ⟨rfl, h₁⟩ := h₁
    exact h₁
def CompOut (w : World) (g : Heap) (L : Addr) (cs : List (Str × Addr)) (m cm : Str → Option Value) (C D : Addr) (Q : Value → Shared → Prop) (r : Result) (s' : Shared) : Prop :=
  r = .ok .next ∧ ∃ m' Ps', B w g C [] m' (fun _ => none) (FrA L cs m cm :: Ps') s'.heap ∧ ∀ h', B w g L cs m cm Ps' h' → Q (.ref D) { s' with heap := h' }
theorem comp_b {e : Expr} {gc : Comprehension} {gs : List Comprehension} {newAcc first : Sem Value} {scope : Scope} {cl : List (Str × Addr)} {pos : Pos} {Q : Value → Shared → Prop} {P0 : Addr → Ast}
    (hcl : clausesOf e = gc :: gs) (hs : ∀ x, foldedSetIterable gc.iter env x = pure x) (hclos : closureFor scope env = pure cl) (hkind : scope.kind = .function) (hnames : ∀ x ∈ scope.names, x.2 = .local → scope.names.lookup x.1 = some .local) (hcell : ∀ y ∈ scope.names, y.2 ≠ .cell)
    (hnew : ∀ (s : Shared) (Ps : List Ast) (Q' : Value → Shared → Prop), B w g L cs m cm Ps s.heap → (∀ h' D, B w g L cs m cm (P0 D :: Ps) h' → Q' (.ref D) { s with heap := h' }) → wpAny (model prog w) Ar newAcc Q' E s)
    (h : wpAny (model prog w) Ar first (fun x s₁ => wpAny (model prog w) Ar (pyIter x) (fun it s₂ => ∃ Ps₂, B w g L cs m cm Ps₂ s₂.heap ∧ 
      ∀ C D h₁ tk, B w g C [] (fun _ => none) (fun _ => none) (FrA L cs m cm :: P0 D :: Ps₂) h₁ → codeAny (model prog w) Ar (.compStart e 0 it (.ref D) (compEnvC scope cl C env)) (CompOut w g L cs m cm C D Q) { s₂ with heap := h₁, toks := tk }) E s₁) E s) :
    wpAny (model prog w) Ar (comprehension e scope env pos newAcc false first) Q E s := by
  refine wpAny_comprehension_free (use := none) hcl hs hclos hkind hnames (wpAny_mono h (fun x s₁ h₁ => wpAny_mono h₁ (fun it s₂ h₂ => ?_) fun _ _ z => z) fun _ _ z => z)
  obtain ⟨Ps₂, c₂, h₂⟩ := h₂
  refine hnew s₂ Ps₂ _ c₂ fun h₃ D c₃ => ?_
  refine wpAny_newFunctionEnv hcell (by intro y hy; simp at hy) (fun h₁ hns₁ hsb₁ => ?_) hkind
  have k1 : ∀ b o, h₃.get? b = some o → h₁.get? b = some o := fun b o q => hsb₁.extBut b o (Nat.ne_of_lt (Heap.lt_size q)) (Heap.get?_push_of_some _ q)
  have c₄ := c₃.enterFrame (C := h₃.objs.size) hns₁ (Nat.le_refl _) k1
  refine codeAny_mono (h₂ _ D h₁ _ c₄) fun r s' hr => ?_
  obtain ⟨rfl, m', Ps', c', q⟩ := hr
  exact ⟨m', c'.ns, fun h' hs' => q h' (c'.leaveFrame fun b o n e => (hs'.2 b n).trans e)⟩
theorem newList_b (c : B w g L cs m cm Ps s.heap) {Q' : Value → Shared → Prop} (k : ∀ h' D, B w g L cs m cm (LiA D [] :: Ps) h' → Q' (.ref D) { s with heap := h' }) : wpAny (model prog w) Ar (newList []) Q' E s :=
  wpAny_newObj_type (k _ _ (c.newList (push_keeps _ _) ⟨_, Heap.get?_push_size _ rfl, rfl, _, rfl⟩ (Nat.le_refl _)))
theorem newDict_b (c : B w g L cs m cm Ps s.heap) {Q' : Value → Shared → Prop} (k : ∀ h' D, B w g L cs m cm (DiA w D [] :: Ps) h' → Q' (.ref D) { s with heap := h' }) : wpAny (model prog w) Ar newDict Q' E s :=
  wpAny_newObj_type (k _ _ (c.more (fresh_step c.gd (push_keeps _ _) ⟨Heap.DictOf.new s.heap, c.gd.size⟩ fun b hb => by rw [show b = s.heap.objs.size from hb]; exact Nat.le_refl _)))
theorem ListComp_b {elt iter : Expr} {target : Expr} {ifs : List Expr} {rest : List Comprehension} {scope : Scope} {cl : List (Str × Addr)} {pos : Pos} {Q : Value → Shared → Prop}
    (hclos : closureFor scope env = pure cl) (hkind : scope.kind = .function) (hnames : ∀ x ∈ scope.names, x.2 = .local → scope.names.lookup x.1 = some .local) (hcell : ∀ y ∈ scope.names, y.2 ≠ .cell)
    (h : wpAny (model prog w) Ar (eval iter env) (fun x s₁ => wpAny (model prog w) Ar (pyIter x) (fun it s₂ => ∃ Ps₂, B w g L cs m cm Ps₂ s₂.heap ∧ 
      ∀ C D h₁ tk, B w g C [] (fun _ => none) (fun _ => none) (FrA L cs m cm :: LiA D [] :: Ps₂) h₁ → 
        (∀ (Q' : Value → Shared → Prop) (E' : Value → Shared → Prop), Q' it { s₂ with heap := h₁, toks := tk } → wpAny (model prog w) Ar (pyIter it) Q' E' { s₂ with heap := h₁, toks := tk }) ∧
        codeAny (model prog w) Ar (.compLoop (.ListComp elt (⟨target, iter, ifs, 0⟩ :: rest) scope pos) 0 it (.ref D) (compEnvC scope cl C env)) (CompOut w g L cs m cm C D Q) { s₂ with heap := h₁, toks := tk }) E s₁) E s)
    (hs : ∀ x, foldedSetIterable iter env x = pure x := by intro _; rfl) :
    wpAny (model prog w) Ar (eval (.ListComp elt (⟨target, iter, ifs, 0⟩ :: rest) scope pos) env) Q E s := by
  rw [eval_ListComp]
  refine comp_b (w := w) (g := g) (L := L) (cs := cs) (m := m) (cm := cm) (P0 := fun D => LiA D []) rfl hs hclos hkind hnames hcell (fun s Ps Q' c k => newList_b c k) (wpAny_mono h (fun x s₁ h₁ => wpAny_mono h₁ (fun it s₂ h₂ => ?_) fun _ _ z => z) fun _ _ z => z)
  obtain ⟨Ps₂, c₂, h₂⟩ := h₂
  refine ⟨Ps₂, c₂, fun C D h₁ tk c₁ => ?_⟩
  obtain ⟨hself, hl⟩ := h₂ C D h₁ tk c₁
  exact codeAny_compStart_list hl (hself _ _ hl)
theorem DictComp_b {kx vx iter : Expr} {target : Expr} {ifs : List Expr} {rest : List Comprehension} {scope : Scope} {cl : List (Str × Addr)} {pos : Pos} {Q : Value → Shared → Prop}
    (hclos : closureFor scope env = pure cl) (hkind : scope.kind = .function) (hnames : ∀ x ∈ scope.names, x.2 = .local → scope.names.lookup x.1 = some .local) (hcell : ∀ y ∈ scope.names, y.2 ≠ .cell)
    (h : wpAny (model prog w) Ar (eval iter env) (fun x s₁ => wpAny (model prog w) Ar (pyIter x) (fun it s₂ => ∃ Ps₂, B w g L cs m cm Ps₂ s₂.heap ∧ 
      ∀ C D h₁ tk, B w g C [] (fun _ => none) (fun _ => none) (FrA L cs m cm :: DiA w D [] :: Ps₂) h₁ → 
        (∀ (Q' : Value → Shared → Prop) (E' : Value → Shared → Prop), Q' it { s₂ with heap := h₁, toks := tk } → wpAny (model prog w) Ar (pyIter it) Q' E' { s₂ with heap := h₁, toks := tk }) ∧
        codeAny (model prog w) Ar (.compLoop (.DictComp kx vx (⟨target, iter, ifs, 0⟩ :: rest) scope pos) 0 it (.ref D) (compEnvC scope cl C env)) (CompOut w g L cs m cm C D Q) { s₂ with heap := h₁, toks := tk }) E s₁) E s)
    (hs : ∀ x, foldedSetIterable iter env x = pure x := by intro _; rfl) :
    wpAny (model prog w) Ar (eval (.DictComp kx vx (⟨target, iter, ifs, 0⟩ :: rest) scope pos) env) Q E s := by
  rw [arm_eval_DictComp]
  refine comp_b (w := w) (g := g) (L := L) (cs := cs) (m := m) (cm := cm) (P0 := fun D => DiA w D []) rfl hs hclos hkind hnames hcell (fun s Ps Q' c k => newDict_b c k) (wpAny_mono h (fun x s₁ h₁ => wpAny_mono h₁ (fun it s₂ h₂ => ?_) fun _ _ z => z) fun _ _ z => z)
  obtain ⟨Ps₂, c₂, h₂⟩ := h₂
  refine ⟨Ps₂, c₂, fun C D h₁ tk c₁ => ?_⟩
  obtain ⟨hself, hl⟩ := h₂ C D h₁ tk c₁
  exact codeAny_compStart_dict hl (hself _ _ hl)
theorem iterD_b {d : Addr} {kvs : List (Int × Value)} {Q : Value → Shared → Prop} (i : Nat) (c : B w g L cs m cm Ps s.heap) (hi : Ps[i]? = some (DiA w d kvs))
    (k : ∀ h' I ep, B w g L cs m cm (KItA I d kvs.length ep 0 :: Ps.set i (DtA w d kvs ep)) h' → Q (.ref I) { s with heap := h' }) : wpAny (model prog w) Ar (pyIter (.ref d)) Q E s := by
  obtain ⟨hd, hh⟩ := c.at i hi
  obtain ⟨ep, hat⟩ := hd.dictAt
  refine wpAny_pyIter_dict (not_sys hh) hat (k _ _ ep ?_)
  have c1 : B w g L cs m cm (Ps.set i (DtA w d kvs ep)) s.heap := c.weak i hi ⟨hat, hh⟩ fun b z => z
  exact c1.more (fresh_step c1.gd (push_keeps _ _) ⟨⟨_, Heap.get?_push_size _ rfl, rfl, rfl⟩, c1.gd.size⟩ fun b hb => by rw [show b = s.heap.objs.size from hb]; exact Nat.le_refl _)
theorem selfK_b {d : Addr} {n ep j : Nat} {Q : Value → Shared → Prop} (i : Nat) (c : B w g L cs m cm Ps s.heap) (hi : Ps[i]? = some (KItA I d n ep j)) (k : Q (.ref I) s) : wpAny (model prog w) Ar (pyIter (.ref I)) Q E s := by
  obtain ⟨hit, _⟩ := c.at i hi
  refine wpAny_pyIter_slot hit.typeIs PySem.F.slot_dict_keyiterator_iter (wpAny_call_entry PySem.F.slot_dict_keyiterator_iter hit.typeIs PySem.F.entry_dict_keyiterator_iter ?_ (PySem.F.args_dict_keyiterator_iter_1 _))
  exact wpAny_pure ⟨_, rfl, "dict_keyiterator", _, hit.typeIs, PySem.F.slot_dict_keyiterator_next.lookup, k⟩
theorem nextK_b {d : Addr} {ks : List Int} {la : Int → Addr} {ep j : Nat} {u : Int} {Q : Option Value → Shared → Prop} (i i' : Nat) (c : B w g L cs m cm Ps s.heap) (hi : Ps[i]? = some (KItA I d (refs ks la).length ep j)) (hi' : Ps[i']? = some (DtA w d (refs ks la) ep)) (hu : ks[j]? = some u)
    (k : ∀ h' t, B w g L cs m cm (Ps.set i (KItA I d (refs ks la).length ep (j + 1))) h' → Q (some (.int u t)) { s with heap := h' }) : wpAny (model prog w) Ar (pyNext (.ref I)) Q E s := by
  obtain ⟨hit, hh⟩ := c.at i hi
  obtain ⟨hat, _⟩ := c.at i' hi'
  have hx : (refs ks la)[j]? = some (u, .ref (la u)) := by unfold refs; rw [List.getElem?_map, hu]; rfl
  refine wpAny_pyNext_dict_item hit hat hx fun key h' hk it' hs => ?_
  obtain ⟨t, rfl⟩ : ∃ t, key = .int u t := by
    cases key <;> simp [PySem.intKind, Value.isInt] at hk
    exact ⟨_, by rw [hk]⟩
  exact k h' t (c.step1 i hi (one_step hs rfl ⟨it', hh⟩ fun _ z => z))
theorem endK_b {d : Addr} {kvs : List (Int × Value)} {ep j : Nat} {Q : Option Value → Shared → Prop} (i i' : Nat) (c : B w g L cs m cm Ps s.heap) (hh : Ar.handled = none) (hi : Ps[i]? = some (KItA I d kvs.length ep j)) (hi' : Ps[i']? = some (DtA w d kvs ep)) (hj : kvs.length ≤ j)
    (k : ∀ h', B w g L cs m cm (Ps.eraseIdx i) h' → Q none { s with heap := h' }) : wpAny (model prog w) Ar (pyNext (.ref I)) Q E s := by
  obtain ⟨hit, _⟩ := c.at i hi
  obtain ⟨hat, _⟩ := c.at i' hi'
  exact wpAny_pyNext_dict_end hh hit hat (List.getElem?_eq_none hj) fun h' hk => k h' (c.lose i hi rfl fun b o n e => hk b o n e)
theorem B.undt {d : Addr} {kvs : List (Int × Value)} {ep : Nat} (i : Nat) (c : B w g L cs m cm Ps h) (hi : Ps[i]? = some (DtA w d kvs ep)) : B w g L cs m cm (Ps.set i (DiA w d kvs)) h :=
  c.weak i hi ⟨(c.at i hi).1.dictOf, (c.at i hi).2⟩ fun b z => z
theorem app_b {vs : List Value} {v : Value} {Q : Value → Shared → Prop} (i : Nat) (c : B w g L cs m cm Ps s.heap) (hi : Ps[i]? = some (LiA D vs)) (few : vs.length ≤ 1000)
    (k : ∀ h', B w g L cs m cm (Ps.set i (LiA D (vs ++ [v]))) h' → Q .none { s with heap := h' }) : wpAny (model prog w) Ar (call (.builtin "list.append") [.ref D, v]) Q E s := by
  obtain ⟨hl, hh⟩ := c.at i hi
  refine wpAny_list_append hl (fun h' hl' hs => k h' (c.step1 i hi (one_step hs rfl ⟨?_, hh⟩ fun _ z => z))) (by rw [List.size_toArray]; exact il_small few)
  rwa [List.push_toArray] at hl'
theorem getD_b {ks : List Int} {la : Int → Addr} {d : Addr} {u : Int} {t : Tok} {Q : Value → Shared → Prop} {value slice : Expr} (i : Nat) (c : B w g L cs m cm Ps s.heap) (hi : Ps[i]? = some (DiA w d (refs ks la))) (hu : u ∈ ks) (k : Q (.ref (la u)) { s with toks := s.toks + 1 })
    (hs : subscripted slice false (.ref d) (.int u t) = operate [.ref d, .int u t] (getItem (.ref d) (.int u t))) : wpAny (model prog w) Ar (subscriptTail value slice (.ref d) (.int u t)) Q E s :=
  tail_dict (c.at i hi).1 (wpAny_getItem_of (is_int _ _) (c.at i hi).1.mapOf (valueAt_refs hu) k) hs
theorem getDt_b {ks : List Int} {la : Int → Addr} {d : Addr} {u : Int} {t : Tok} {ep : Nat} {Q : Value → Shared → Prop} {value slice : Expr} (i : Nat) (c : B w g L cs m cm Ps s.heap) (hi : Ps[i]? = some (DtA w d (refs ks la) ep)) (hu : u ∈ ks) (k : Q (.ref (la u)) { s with toks := s.toks + 1 })
    (hs : subscripted slice false (.ref d) (.int u t) = operate [.ref d, .int u t] (getItem (.ref d) (.int u t))) : wpAny (model prog w) Ar (subscriptTail value slice (.ref d) (.int u t)) Q E s :=
  tail_dict (c.at i hi).1.dictOf (wpAny_getItem_of (is_int _ _) (c.at i hi).1.dictOf.mapOf (valueAt_refs hu) k) hs
theorem listD_b {ks : List Int} {la : Int → Addr} {d : Addr} {Q : Value → Shared → Prop} (i : Nat) (c : B w g L cs m cm Ps s.heap) (hi : Ps[i]? = some (DiA w d (refs ks la))) (hh : Ar.handled = none) (few : ks.length ≤ 100)
    (k : ∀ h' tk l, B w g L cs m cm (ILA l ks :: Ps) h' → Q (.ref l) { s with heap := h', toks := tk }) : wpAny (model prog w) Ar (call (.type "list") [.ref d]) Q E s :=
  list_dict hh (not_sys (c.at i hi).2) (c.at i hi).1 few fun h' tk hk il => k _ _ _ (c.newInts hk il (Nat.le_refl _))
end
end Mine
end
section
open PySem PySem.W PySem.Calls PyProof.Rows
set_option maxRecDepth 100000
set_option maxHeartbeats 1000000
set_option linter.all false
namespace Mine
section
variable {w : World} {Ar : Around} {E : Value → Shared → Prop} {s : Shared} {g h h' : Heap} {L : Addr} {m : Str → Option Value} {A : EA} {S S' : ES} {T : Tg → Prop} {env : Env}
local macro_rules | `(tactic| tm_at "k") => `(tactic| first | exact kk_915 _ | exact kk_922 _ | exact kk_929 _ | exact kk_936 _ | exact kk_941 _ | exact kk_825 _ | exact kk_802 _ | exact kk_853 _ | exact kk_788 _ | exact kk_816 _ | exact kk_614 _ | exact kk_809 _ | exact kk_860 _ | exact kk_867 _ | exact kk_839 _ | exact kk_846 _ | exact kk_261 _ | exact kk_268 _ | exact kk_275 _ | exact kk_282 _ | exact kk_289 _ | exact kk_296 _)
local macro_rules | `(tactic| tm_at "V") => `(tactic| first | assumption | exact C.v (by assumption) | exact C0.v (by assumption))
local macro_rules | `(tactic| tm_at "h") => `(tactic| first | assumption | with_unfolding_all assumption)
local macro_rules | `(tactic| tm_at "t") => `(tactic| first | assumption | (with_unfolding_all exact True.intro) | (with_unfolding_all exact fun q => Tg.noConfusion q))
local macro_rules | `(tactic| tm_at "M") => `(tactic| with_unfolding_all first | exact .head _ | exact .tail _ (.head _) | exact .tail _ (.tail _ (.head _)))
local macro_rules | `(tactic| tm_at "u") => `(tactic| with_unfolding_all rfl)
theorem wp_eq {α : Type} {M : Model} {t t' : Sem α} {Q : α → Shared → Prop} (e : t = t') (h : wpAny M Ar t' Q E s) : wpAny M Ar t Q E s := e ▸ h
theorem bind781 {x : Value} {Q : List (Str × Value) → Shared → Prop} (X : (frag w.params).In s.heap) (k : Q [(Str.ofString "self", x), (Str.ofString "incoming_graph_data", .none), (Str.ofString "attr", .ref s.heap.objs.size)] { s with heap := s.heap.push { cls := .type "dict", data := .dict #[] } }) :
   wpAny (model prog w) Ar (bindArgs (fdOf (o781 w.params)) ⟨[x], []⟩) Q E s := by
  have h773 := X 773 (o773 w.params) (by kernel_rfl!)
  unfold bindArgs
  refine wpAny_bind (wpAny_pure ?_)
  refine wpAny_bind (wpAny_seqItems (a := 773) h773 rfl ?_)
  refine wp_eq (t' := alloc { cls := .type "dict", data := .dict #[] } >>= fun d => pure [(Str.ofString "self", x), (Str.ofString "incoming_graph_data", Value.none), (Str.ofString "attr", Value.ref d)]) (by kernel_rfl!) ?_
  exact wpAny_bind (wpAny_alloc (wpAny_pure k))
theorem bind570 {x y : Value} {Q : List (Str × Value) → Shared → Prop} (X : (frag w.params).In s.heap) (k : Q [(Str.ofString "self", x), (Str.ofString "incoming_graph_data", y), (Str.ofString "attr", .ref s.heap.objs.size)] { s with heap := s.heap.push { cls := .type "dict", data := .dict #[] } }) :
   wpAny (model prog w) Ar (bindArgs (fdOf (o570 w.params)) ⟨[x], [(Str.ofString "incoming_graph_data", y)]⟩) Q E s := by
  have h563 := X 563 (o563 w.params) (by kernel_rfl!)
  unfold bindArgs
  refine wpAny_bind (wpAny_pure ?_)
  refine wpAny_bind (wpAny_seqItems (a := 563) h563 rfl ?_)
  refine wp_eq (t' := alloc { cls := .type "dict", data := .dict #[] } >>= fun d => pure [(Str.ofString "self", x), (Str.ofString "incoming_graph_data", y), (Str.ofString "attr", Value.ref d)]) (by kernel_rfl!) ?_
  exact wpAny_bind (wpAny_alloc (wpAny_pure k))
end
end Mine
end
section
open PySem PySem.W PySem.Calls PyProof.Rows
set_option maxRecDepth 100000
set_option maxHeartbeats 1000000
set_option linter.all false
namespace Mine
section
variable {w : World} {Ar : Around} {E : Value → Shared → Prop} {s : Shared} {g h h' : Heap} {L : Addr} {m : Str → Option Value} {A : EA} {S S' : ES} {T : Tg → Prop} {env : Env}
theorem callWith_any {M : Model} {pos : Pos} {f : Value} {first : List Value} {Q : Value → Shared → Prop} {P : Heap → Prop} {args : List (Bool × Sem Value)} {keywords : List (Option Str × Sem Value)}
    (hk : ∀ h, P h → ∃ k, (k = Keeper.frame ∨ k = Keeper.machine ∨ k = Keeper.boundFrame) ∧ Looks M h (keeperOf f) k)
    (h : wpAny M Ar (evalArgs f true args keywords) (fun a s₁ => P s₁.heap ∧ wpAny M Ar (call f (first ++ a.pos) a.kw) Q E s₁) E s) : wpAny M Ar (callWith pos f first args keywords) Q E s := by
  unfold callWith
  refine wpAny_bind (wpAny_holding (wpAny_mono h (fun a s₁ h₁ => wpAny_bind (wpAny_standAt ?_)) fun _ _ x => x))
  obtain ⟨k, hk', L⟩ := hk _ h₁.1
  try dsimp only
  refine wpAny_bind (L.here ?_)
  have tail : ∀ {t : Sem Value}, wpAny M Ar t Q E s₁ → wpAny M Ar (t >>= fun r => holding [r] point >>= fun _ => pure r) Q E s₁ :=
    fun ht => wpAny_bind (wpAny_mono ht (fun r s₂ hr => wpAny_bind (wpAny_holding (wpAny_point (wpAny_pure hr)))) fun _ _ x => x)
  have marked (mk : Value) : wpAny M Ar (callMarked mk f (first ++ a.pos) a.kw) Q E s₁ := by unfold callMarked; exact Calls.wpAny_keep h₁.2
  have oper (vs : List Value) : wpAny M Ar (operate vs (call f (first ++ a.pos) a.kw)) Q E s₁ := wpAny_operate' h₁.2
  generalize (args.any (·.1) || keywords.any (·.1.isNone)) = b
  rcases hk' with rfl | rfl | rfl <;> cases b <;> dsimp only <;> first | exact tail h₁.2 | exact tail (marked _) | exact tail (oper _) | (split <;> first | exact tail h₁.2 | exact tail (marked _))
theorem pour_none {d a : Addr} {es : List DictEntry} {n : Nat} {Q : Unit → Shared → Prop} (hd : s.heap.get? d = some (dictOf es n)) (ha : s.heap.get? a = some emptyDict) (ne : (a == sysModules) = false) (q : Q () s) :
    wpAny (model prog w) Ar (mergeMapping d (.ref a) true) Q E s := by
  have ty : s.TypeIs (.ref a) "dict" := ⟨_, ha, rfl⟩
  have e0 : (some (Value.builtin "dict.__iter__") == some (Value.builtin "dict.__iter__")) = true := by decide
  unfold mergeMapping
  refine wpAny_bind (wpAny_isInstance ty PySem.isSubtype_dict_dict ?_)
  dsimp only
  rw [if_pos rfl]
  refine wpAny_bind (wpAny_specialOf ty PySem.F.slot_dict_iter.lookup ?_)
  refine wpAny_bind (wpAny_pure ?_)
  rw [e0]
  dsimp only
  rw [ne, if_neg Bool.false_ne_true]
  refine wpAny_bind (wpAny_dictEntries hd rfl ?_)
  split
  · refine wpAny_bind (wpAny_dictEntries ha rfl (wpAny_bind (wpAny_pure ?_)))
    exact wpAny_bind (wpAny_dictEntries ha rfl (wpAny_bind (wpAny_dictEpoch ha rfl (wpAny_bind (wpAny_pure (wpAny_pure q))))))
  · exact wpAny_bind (wpAny_dictEntries ha rfl (wpAny_bind (wpAny_dictEpoch ha rfl (wpAny_bind (wpAny_pure (wpAny_pure q))))))
theorem pour_one {d a : Addr} {nm : Str} {t : Tok} {v : Value} {Q : Unit → Shared → Prop} (hd : s.heap.get? d = some emptyDict) (ha : s.heap.get? a = some (dictOf [⟨PyData.keyHash w.params nm, .str nm t, v⟩] 1)) (ne : (a == sysModules) = false) (da : a ≠ d)
    (q : ∀ h', h'.get? d = some (dictOf [⟨PyData.keyHash w.params nm, .str nm t, v⟩] 1) → Heap.SameBut d s.heap h' → Q () { s with heap := h' }) :
    wpAny (model prog w) Ar (mergeMapping d (.ref a) true) Q E s := by
  have ty : s.TypeIs (.ref a) "dict" := ⟨_, ha, rfl⟩
  have e0 : (some (Value.builtin "dict.__iter__") == some (Value.builtin "dict.__iter__")) = true := by decide
  unfold mergeMapping
  refine wpAny_bind (wpAny_isInstance ty PySem.isSubtype_dict_dict ?_)
  dsimp only
  rw [if_pos rfl]
  refine wpAny_bind (wpAny_specialOf ty PySem.F.slot_dict_iter.lookup ?_)
  refine wpAny_bind (wpAny_pure ?_)
  rw [e0]
  dsimp only
  rw [ne, if_neg Bool.false_ne_true]
  refine wpAny_bind (wpAny_dictEntries hd rfl ?_)
  rw [if_pos (by rfl)]
  refine wpAny_bind (wpAny_dictEntries ha rfl (wpAny_bind (wpAny_pure ?_)))
  refine wpAny_bind (wpAny_dictEntries ha rfl (wpAny_bind (wpAny_dictEpoch ha rfl (wpAny_bind ?_))))
  show wpAny _ _ (forIn [0] _ _) _ _ _
  rw [List.forIn_cons]
  refine wpAny_bind (wpAny_bind (wpAny_dictEntries ha rfl ?_))
  have find : ∀ {Q : Option Nat → Shared → Prop}, Q none s → wpAny (model prog w) Ar (dictFind d (.str nm t) (PyData.keyHash w.params nm)) Q E s := fun z =>
    wpAny_dictFind_of (knd := PySem.strKind prog w) (is_str nm t) hd rfl (fun _ he => by simp at he) (by simpa using z)
  refine wpAny_bind (wpAny_holding ?_)
  try dsimp only
  rw [if_pos rfl]
  refine wpAny_bind (find ?_)
  rw [if_neg (by decide)]
  refine wpAny_bind (find ?_)
  refine wpAny_updateDictKeys hd rfl ?_
  have g' := Heap.get?_update_self (Obj.mapDictKeys fun x => x.push (⟨PyData.keyHash w.params nm, Value.str nm t, v⟩ : DictEntry)) hd (by rfl)
  have sb : Heap.SameBut d s.heap (s.heap.update d (Obj.mapDictKeys fun x => x.push (⟨PyData.keyHash w.params nm, Value.str nm t, v⟩ : DictEntry))) := Heap.SameBut.update ..
  refine wpAny_bind (wpAny_dictEpoch ((sb.2 a da).trans ha) rfl ?_)
  rw [if_neg (by decide)]
  exact wpAny_pure (wpAny_pure (wpAny_pure (q _ g' sb)))
theorem merged_two {f : Value} {nm : Str} {x1 x2 : Sem Value} {v : Value} {a : Addr} {Q : Addr → Shared → Prop} (G : Gd w s.heap) (ha : s.heap.get? a = some emptyDict) (ne : topSize ≤ a)
    (h1 : ∀ s' : Shared, (∀ b o, s.heap.get? b = some o → s'.heap.get? b = some o) → ∀ Q' : Value → Shared → Prop, Q' v s' → wpAny (model prog w) Ar x1 Q' E s')
    (h2 : ∀ s' : Shared, (∀ b o, s.heap.get? b = some o → s'.heap.get? b = some o) → ∀ Q' : Value → Shared → Prop, Q' (.ref a) s' → wpAny (model prog w) Ar x2 Q' E s')
    (k : ∀ h' tk t d, (∀ b o, s.heap.get? b = some o → h'.get? b = some o) → h'.get? d = some (dictOf [⟨PyData.keyHash w.params nm, .str nm t, v⟩] 1) → Q d { s with heap := h', toks := tk }) :
    wpAny (model prog w) Ar (mergedKeywords f [(some nm, x1), (none, x2)]) Q E s := by
  have hs : ∀ b, topSize ≤ b → (b == sysModules) = false := fun b hb => beq_eq_false_iff_ne.mpr fun z => absurd hb (by rw [z]; decide)
  obtain ⟨hh, gg, dd, tk, os⟩ := s
  unfold mergedKeywords
  refine wpAny_bind (wpAny_alloc ?_)
  generalize hd : hh.objs.size = d
  have hsz : topSize ≤ d := hd ▸ G.size
  have D0 : (hh.push { cls := .type "dict", data := .dict #[] }).get? d = some emptyDict := by rw [← hd]; exact Heap.get?_push_size _ rfl
  have k0 : ∀ b o, hh.get? b = some o → (hh.push { cls := .type "dict", data := .dict #[] }).get? b = some o := fun b o e => Heap.get?_push_of_some _ e
  refine wpAny_bind (wpAny_holding ?_)
  dsimp only
  rw [List.forIn_cons]
  try dsimp only
  refine wpAny_bind (wpAny_bind (wpAny_pure ?_))
  try dsimp only
  rw [List.forIn_cons]
  refine wpAny_bind (wpAny_bind ?_)
  rw [if_neg (by simp)]
  refine wpAny_bind (wpAny_evalAll_cons (h1 _ k0 _ (wpAny_evalAll_nil ?_)))
  refine wpAny_bind (wpAny_alloc ?_)
  dsimp only
  generalize hr : (hh.push { cls := .type "dict", data := .dict #[] }).objs.size = r
  have hrd : r = d + 1 := by rw [← hr, ← hd, Heap.size_push]
  have dr : d ≠ r := Nat.ne_of_lt (hrd ▸ Nat.lt_succ_self d)
  have hr' : topSize ≤ r := Nat.le_trans hsz (hrd ▸ Nat.le_succ d)
  generalize h2e : (hh.push { cls := .type "dict", data := .dict #[] }).push { cls := .type "dict", data := .dict #[] } = hb
  have R0 : hb.get? r = some emptyDict := by rw [← h2e, ← hr]; exact Heap.get?_push_size _ rfl
  have k1 : ∀ b o, (hh.push { cls := .type "dict", data := .dict #[] }).get? b = some o → hb.get? b = some o := fun b o e => h2e ▸ Heap.get?_push_of_some _ e
  refine wpAny_bind ?_
  show wpAny _ _ (forIn [((nm, x1), v)] _ _) _ _ _
  rw [List.forIn_cons]
  refine wpAny_bind (wpAny_bind (kw_set (es := []) (n := 0) R0 (fun _ h => nomatch h) (fun _ h => nomatch h) fun hc R1 sc => wpAny_pure ?_))
  try dsimp only
  rw [List.forIn_nil]
  refine wpAny_pure (wpAny_onRaise (wpAny_holding (wpAny_tryCatch (wpAny_onRaise ?_))))
  have old : ∀ b o, hh.get? b = some o → b < d := fun b o e => hd ▸ Heap.lt_size e
  have D1 : hc.get? d = some emptyDict := (sc.2 d dr).trans (k1 _ _ D0)
  refine pour_one D1 R1 (hs r hr') dr.symm fun he D2 se => ?_
  have k2 : ∀ b o, hh.get? b = some o → he.get? b = some o := fun b o e => by
    have := old b o e
    exact (se.2 b (Nat.ne_of_lt this)).trans ((sc.2 b (Nat.ne_of_lt (Nat.lt_of_lt_of_le this (hrd ▸ Nat.le_succ d)))).trans (k1 _ _ (k0 _ _ e)))
  refine wpAny_bind (h2 _ k2 _ ?_)
  refine wpAny_bind (wpAny_onRaise (wpAny_holding (wpAny_tryCatch (wpAny_onRaise ?_))))
  refine pour_none D2 (k2 _ _ ha) (hs a ne) ?_
  try dsimp only
  refine wpAny_pure ?_
  try dsimp only
  rw [List.forIn_nil]
  refine wpAny_pure ?_
  try dsimp only
  rw [if_pos (by simp)]
  exact wpAny_pure (wpAny_pure (k he (tk + 1) _ _ k2 D2))
theorem args_two {f : Value} {nm : Str} {x1 x2 : Sem Value} {v : Value} {a : Addr} {Q : Args → Shared → Prop} (G : Gd w s.heap) (ha : s.heap.get? a = some emptyDict) (ne : topSize ≤ a)
    (h1 : ∀ s' : Shared, (∀ b o, s.heap.get? b = some o → s'.heap.get? b = some o) → ∀ Q' : Value → Shared → Prop, Q' v s' → wpAny (model prog w) Ar x1 Q' E s')
    (h2 : ∀ s' : Shared, (∀ b o, s.heap.get? b = some o → s'.heap.get? b = some o) → ∀ Q' : Value → Shared → Prop, Q' (.ref a) s' → wpAny (model prog w) Ar x2 Q' E s')
    (k : ∀ h' tk, (∀ b o, s.heap.get? b = some o → h'.get? b = some o) → Q ⟨[], [(nm, v)]⟩ { s with heap := h', toks := tk }) :
    wpAny (model prog w) Ar (evalArgs f true [] [(some nm, x1), (none, x2)]) Q E s := by
  unfold evalArgs
  refine wpAny_bind (wpAny_pure (wpAny_bind (wpAny_pure ?_)))
  try dsimp only
  refine wpAny_holding ?_
  rw [if_neg (by simp)]
  refine wpAny_bind (merged_two G ha ne h1 h2 fun h' tk t d kk D => ?_)
  refine wpAny_bind (wpAny_pure (wpAny_bind (wpAny_holding ?_)))
  unfold keywordsIn
  refine wpAny_bind (wpAny_dictEntries D rfl ?_)
  refine wpAny_bind ?_
  show wpAny _ _ (forIn #[(⟨PyData.keyHash w.params nm, .str nm t, v⟩ : DictEntry)] _ _) _ _ _
  rw [← Array.forIn_toList]
  show wpAny _ _ (forIn [(⟨PyData.keyHash w.params nm, .str nm t, v⟩ : DictEntry)] _ _) _ _ _
  rw [List.forIn_cons]
  refine wpAny_bind ?_
  refine wpAny_pure ?_
  try dsimp only
  rw [List.forIn_nil]
  exact wpAny_pure (wpAny_pure (wpAny_pure (k _ _ kk)))
end
end Mine
end
section
open PySem PySem.W PySem.Calls PyProof.Rows
set_option maxRecDepth 100000
set_option maxHeartbeats 1000000
set_option linter.all false
namespace Mine
section
variable {w : World} {Ar : Around} {E : Value → Shared → Prop} {s : Shared} {g h h' : Heap} {L : Addr} {m : Str → Option Value} {A : EA} {S S' : ES} {T : Tg → Prop} {env : Env} {Ps Qs Rs : List Ast}
theorem getAttr_super {hp : Heap} {gg : Array GenState} {d : Drawn} {t : Nat} {os : OsState} {so D x C f : Addr} {of : Obj} {l₀ l : List Value} {K : Frag} {name : Str} {Q : Value → Shared → Prop}
    (hso : hp.get? so = some { cls := .type "super", dict := none, data := .fields #[.ref D, .ref x, .ref C], slots := #[] }) (hno : Looks (model prog w) hp (opaqueClassAbove (.ref C)) none)
    (hC : Looks (model prog w) hp (mroOf (.ref C)) l₀) (hl : (l₀.dropWhile (· != .ref D)).drop 1 = l) (X : K.In hp)
    (hf : alongIn K name l = some (some (.ref f))) (hfo : hp.get? f = some of) (hfc : of.cls = .type "function") (hxC : x ≠ C) (hn : (name == ("__class__" : Str)) = false)
    (hq : Q (.ref hp.objs.size) ⟨hp.push { cls := .type "method", data := .fields #[.ref f, .ref x] }, gg, d, t + 1, os⟩) :
    wpAny (model prog w) Ar (getAttr (.ref so) name true) Q E ⟨hp, gg, d, t, os⟩ := by
  have hlk := PySem.F.ks_slot_super_ga.lookup
  have hT : ∀ t', (⟨hp, gg, d, t', os⟩ : Shared).TypeIs (.ref so) "super" := fun _ => ⟨_, hso, rfl⟩
  unfold getAttr getAttrBy
  refine wpAny_bind (wpAny_mkText (wpAny_holding (wpAny_bind (wpAny_typeOf (hT _) (wpAny_bind (wpAny_of_eq hlk ?_))))))
  show wpAny _ _ (getAttrByItsOwn (.ref so) (.str name t) (.type "super") (.builtin "super.__getattribute__") true true) _ _ _
  unfold getAttrByItsOwn hookBefore callGetattribute boundAndCalled
  refine wpAny_bind (wpAny_of_eq (show (if onTheHeap (.type "super") then typeLookup (.type "super") "__getattr__" else pure none) = pure none from rfl) ?_)
  refine wpAny_bind (wpAny_attempt (wpAny_holding ?_))
  show wpAny _ _ (bindSpecial (.builtin "super.__getattribute__") (.ref so) >>= _) _ _ _
  refine wpAny_bind (wpAny_of_eq (PySem.F.ks_slot_super_ga.bind _) ?_)
  refine wpAny_mono (Q := fun v s' => v = .ref hp.objs.size ∧ s' = ⟨hp.push { cls := .type "method", data := .fields #[.ref f, .ref x] }, gg, d, t + 1, os⟩) (E := fun _ _ => False)
    (wpAny_call_entry PySem.F.ks_slot_super_ga (hT _) PySem.F.ks_entry_super_ga (ks_wpAny_super_ga hso hno hC hl X hf hfo hfc hxC hn ⟨_, rfl, rfl, rfl⟩) (PySem.F.ks_gaArgs_super _ _)) (fun v s' hv => ?_) fun _ _ z => z.elim
  obtain ⟨rfl, rfl⟩ := hv
  exact wpAny_pure hq
theorem super_callS {body : List Stmt} {p0 p1 apos pos : Pos} {name : Str} {args : List Expr} {kws : List Keyword} {dx fa f2 cc x : Addr} {of oc : Obj} {fd : FuncData} {ar : Arg} {vs : Array Value} {file : Str} {tf : Tok} {Q : Value → Shared → Prop}
    (G : Gd w s.heap) (hx : s.heap.get? x = some (instObj 906 dx)) (hxh : topSize ≤ x) (hself : ∀ s' : Shared, s'.heap = s.heap → ∀ Q' : Value → Shared → Prop, Q' (.ref x) s' → wpAny (model prog w) Ar (loadName env ar.arg) Q' E s')
    (hks : env.kindOf "super" = some .globalImplicit) (hkc : env.kindOf "__class__" = some .free) (hkf : env.scope.kind = .function) (hcl : env.cells.lookup (Str.ofString "__class__") = some 768) (hgl : env.globals = mainGlobals) (hbl : env.builtins = builtinsNs)
    (hat : (name == ("__class__" : Str)) = false) (hfu : env.func = some fa) (hf : (frag w.params).lookup fa = some of) (hfd : of.data = .func fd)
    (hp : (fd.params.posonlyargs ++ fd.params.args).head? = some ar) (hco : env.code = .ref cc) (hcc : (frag w.params).lookup cc = some oc) (hoc : oc.data = .fields vs) (hvs : vs[2]? = some (.str file tf))
    (hfile : ((prog.main.file : Str) == file) = true)
    (ha : alongIn (frag w.params) name (((cdOf (o906 w.params)).mro.dropWhile (· != .ref 906)).drop 1) = some (some (.ref f2))) (ht : typeIn (frag w.params) (.ref f2) = some (.type "function")) (hfn : fnIn (frag w.params) f2 = true)
    (h : ∀ q h1 tk, (∀ b o, s.heap.get? b = some o → h1.get? b = some o) → h1.get? q = some (methodObj (.ref f2) (.ref x)) → 
      wpAny (model prog w) Ar (evalArgs (.ref q) true (backTo pos (starEach args env)) (backToKw pos (keywordEach kws env))) (fun a s₂ => (∀ b o, h1.get? b = some o → s₂.heap.get? b = some o) ∧
        codeAny (model prog w) Ar (.call (.ref f2) ⟨.ref x :: a.pos, a.kw⟩) (fun r s' => ∃ v, r = .ok (.ret v) ∧ Q v s') s₂) E { s with heap := h1, toks := tk })
    (he : eval (.Call (.Attribute (.Call (.Name "super" p0) [] [] p1) name apos) args kws pos) env = (do
      let ov ← attributeBase (.Call (.Name "super" p0) [] [] p1) name env (eval (.Call (.Name "super" p0) [] [] p1) env)
      standAt apos.atName
      let (f, first) ← holding [ov] (do pure (← getAttr ov name true, []))
      let callPos ← pure pos
      callWith callPos f first (backTo pos (starEach args env)) (backToKw pos (keywordEach kws env))) := by rfl) :
    PySem.wpAt (model prog w) Ar (.func body env) (eval (.Call (.Attribute (.Call (.Name "super" p0) [] [] p1) name apos) args kws pos) env) Q E s := by
  rw [he]
  have X := G.kin
  obtain ⟨mg, mb, hmg, hmb, hall⟩ := G.bt
  obtain ⟨ofn, hofn, hofc⟩ := fn_obj X ht
  refine PySem.wpAt_bind ?_
  refine ks_wpAt_super_base hks hkc hat hfu (X _ _ hf) hfd hp hco (X _ _ hcc) hoc hvs hfile (by kernel_rfl!) ?_
  refine ks_loadName_global hkf hks (loadGlobal_builtin (hgl ▸ hmg) (mg_none_of X hmg (kn_super _)) (hbl ▸ hmb) ((hall (Str.ofString "super") (by decide +kernel)).trans boot_super) ⟨rfl, ?_⟩)
  refine wpAny_loadName_free hkf hkc hcl ⟨_, X 768 (o768 w.params) (by kernel_rfl!), rfl⟩ ?_
  refine hself _ rfl _ ?_
  have h906 : s.heap.get? 906 = some (o906 w.params) := X 906 (o906 w.params) (by kernel_rfl!)
  obtain ⟨hh, gg, dd, tk, os⟩ := s
  refine ks_wpAny_isType_cls h906 rfl ⟨rfl, ?_⟩
  refine ks_wpAny_call_super h906 rfl hx rfl (fun c e => by cases e) (looks_mroIn X (km_906 _)) (fun h' e k => ?_)
  refine PySem.wpAt_of_wpAny (wpAny_bind (wpAny_standAt (wpAny_bind (wpAny_holding ?_))))
  have X' := X.keeps k
  have hne : x ≠ 906 := fun z => absurd hxh (by rw [z]; decide)
  refine wpAny_bind ?_
  refine getAttr_super (l₀ := (cdOf (o906 w.params)).mro) e (looks_opaque X' (k_opaque _)) ?_ rfl X' ha (k _ _ hofn) hofc hne hat ?_
  · exact fun A Q E s k q => wpAny_bind ((looks_clsIn X' (kc_906 _)) A _ E s k (wpAny_pure q))
  · refine wpAny_pure (wpAny_bind (wpAny_pure ?_))
    try dsimp only
    have hq : (h'.push { cls := .type "method", data := .fields #[.ref f2, .ref x] }).get? h'.objs.size = some (methodObj (.ref f2) (.ref x)) := Heap.get?_push_size _ rfl
    refine callWith_any (keeps_M (self := .ref x) hfn) (wpAny_mono (h h'.objs.size _ (tk + 1) (fun b o q => Heap.get?_push_of_some _ (k b o q)) hq) (fun a s₂ h₂ => ?_) fun _ _ z => z)
    refine ⟨⟨h₂.1 _ _ hq, X'.keeps fun b o q => h₂.1 b o (Heap.get?_push_of_some _ q)⟩, ?_⟩
    refine wpAny_call (ks_codeAny_call_bound (h₂.1 _ _ hq) (codeAny_mono h₂.2 fun r s' q => ?_))
    obtain ⟨v, rfl, q⟩ := q
    exact q
theorem enterA {R : Result → Shared → Prop} {fa : Addr} {o : Obj} {fd : FuncData} {body : List Stmt} {args : Args} {binds : Addr → List (Str × Value)} 
    (G : Gd w s.heap) (x : Sep Ps s.heap) (hroom : Ar.depth < recursionLimit)
    (ho : (frag w.params).lookup fa = some o) (hdata : o.data = .func fd) (hcd : codeIn (frag w.params) fd.code fd.qualname = true)
    (hbody : fd.body = .stmts body) (hbind : ∀ {Ar' : Around} {E' : Value → Shared → Prop} {Q : List (Str × Value) → Shared → Prop}, Q (binds s.heap.objs.size) { s with heap := s.heap.push { cls := .type "dict", data := .dict #[] } } → wpAny (model prog w) Ar' (bindArgs fd args) Q E' s)
    (hcell : (fd.scope.names.all fun x => decide (x.2 ≠ NameKind.cell)) = true) (hloc : ∀ D, ((binds D).all fun x => decide (fd.scope.names.lookup x.1 = some NameKind.local)) = true)
    (k : ∀ D L h₁ tk, B w (hide s.heap (Fps Ps)) L [] (m0 (binds D)) (fun _ => none) (ObA D emptyDict :: Ps) h₁ →
      PySem.wpAt (model prog w) (Ar.deeper (callEnv fd L fa)) (.func body (callEnv fd L fa)) (execs body (callEnv fd L fa)) (fun f s' => R (.ok (.ret (match f with | .ret v => v | _ => .none))) s')
        (fun e s' => wpAny (model prog w) (Ar.deeper (callEnv fd L fa)) (leaving (callEnv fd L fa) e) (fun _ s'' => R (.error e) s'') (fun e' s'' => R (.error e') s'') s')
        { s with heap := h₁, toks := tk })
    (hco : fd.scope.isCoroutine = false := by rfl) (hgen : fd.scope.isGenerator = false := by rfl) (hk : fd.scope.kind = .function := by rfl) :
    codeAny (model prog w) Ar (.call (.ref fa) args) R s := by
  refine codeAny_call_function hroom (G.kin _ _ ho) hdata hco hgen hbody (codeRec_of G.kin hcd) (hbind ?_)
  have sz := G.size
  obtain ⟨hh, gg, dd, tk, os⟩ := s
  dsimp only at *
  generalize hD : hh.objs.size = D at sz
  have D0 : (hh.push { cls := .type "dict", data := .dict #[] }).get? D = some emptyDict := by rw [← hD]; exact Heap.get?_push_size _ rfl
  have sL : (hh.push { cls := .type "dict", data := .dict #[] }).objs.size = D + 1 := by rw [Heap.size_push, hD]
  have k0 : ∀ b o, hh.get? b = some o → (hh.push { cls := .type "dict", data := .dict #[] }).get? b = some o := fun b o e => Heap.get?_push_of_some _ e
  refine wpAny_newFunctionEnv (fun x hx => of_decide_eq_true (List.all_eq_true.mp hcell x hx)) (fun x hx => of_decide_eq_true (List.all_eq_true.mp (hloc D) x hx)) (fun h₀ hns₀ hsb₀ => ?_) hk
  dsimp only at hns₀ hsb₀ ⊢
  rw [sL] at hns₀ hsb₀ ⊢
  have k1 : ∀ b o, (hh.push { cls := .type "dict", data := .dict #[] }).get? b = some o → h₀.get? b = some o := fun b o e => hsb₀.extBut b o (Nat.ne_of_lt (sL ▸ Heap.lt_size e)) (Heap.get?_push_of_some _ e)
  have k2 : ∀ b o, hh.get? b = some o → h₀.get? b = some o := fun b o e => k1 b o (k0 b o e)
  have old : ∀ b, (∃ o, hh.get? b = some o) → b ≠ D ∧ b ≠ D + 1 := fun b ⟨o, e⟩ => by
    have := Heap.lt_size e
    rw [hD] at this
    exact ⟨Nat.ne_of_lt this, Nat.ne_of_lt (Nat.lt_succ_of_lt this)⟩
  have G₀ : Gd w h₀ := G.keeps k2
  refine ⟨G₀.lim, ks_codeAny_funcAt (k D (D + 1) h₀ _ ?_)⟩
  refine ⟨⟨fun P hP => ?_, List.pairwise_cons.mpr ⟨fun P hP b hb hb' => ?_, List.pairwise_cons.mpr ⟨fun P hP b hb hb' => ?_, x.dis⟩⟩⟩, fun b o e => ?_, fun b hb => ?_, gd_fps G x⟩
  · rcases List.mem_cons.mp hP with rfl | hP
    · exact ⟨hns₀, fun p hp => (nomatch hp), .nil, .nil, fun p hp => (nomatch hp), Nat.le_succ_of_le sz, fun p hp => (nomatch hp)⟩
    · rcases List.mem_cons.mp hP with rfl | hP
      · exact ⟨k1 _ _ D0, sz⟩
      · exact P.loc (x.ok P hP) fun b o _ => k2 b o
  · rcases hb with rfl | ⟨p, hp, _⟩
    · rcases List.mem_cons.mp hP with rfl | hP
      · exact absurd (show D + 1 = D from hb') (Nat.succ_ne_self D)
      · exact (old _ (x.some ⟨P, hP, hb'⟩)).2 rfl
    · cases hp
  · obtain rfl : b = D := hb
    exact (old _ (x.some ⟨P, hP, hb'⟩)).1 rfl
  · rw [hide_get] at e
    split at e
    · cases e
    · exact k2 b o e
  · have fresh : ∀ b, b = D ∨ b = D + 1 → hh.get? b = none := fun b hb => by
      cases z : hh.get? b with
      | none => rfl
      | some o => exact absurd hb (fun q => q.elim (old b ⟨o, z⟩).1 (old b ⟨o, z⟩).2)
    rw [hide_get]
    split
    · rfl
    · rename_i nf
      rcases Fps_cons.mp hb with (rfl | ⟨p, hp, _⟩) | z
      · exact fresh _ (.inr rfl)
      · cases hp
      · rcases Fps_cons.mp z with z | z
        · exact fresh _ (.inl z)
        · exact absurd z nf
end
end Mine
end
section
open PySem PySem.W PySem.Calls PyProof.Rows PySem.Spec PySem.SeqAt
set_option maxRecDepth 100000
set_option maxHeartbeats 1000000
set_option linter.all false
namespace Mine
def rowsD (rows : List (List Int)) : PyData := .list (rows.map fun r => .list (r.map PyData.int))
theorem rowsD_can : ∀ rows : List (List Int), PyData.canLayAll0 (rows.map fun r => .list (r.map PyData.int)) = true
  | [] => rfl
  | r :: q => by simp [PyData.canLayAll0, PyData.canLay0, canLayAll0_ints r, rowsD_can q]
theorem rowsD_depth : ∀ rows : List (List Int), PyData.depthAll (rows.map fun r => .list (r.map PyData.int)) ≤ 5
  | [] => by simp [PyData.depthAll]
  | r :: q => by
    have h1 := PySem.W.depthAll_ints r
    have h2 := rowsD_depth q
    simp only [List.map_cons, PyData.depthAll, PyData.depth]
    omega
theorem rowsD_shaped (rows : List (List Int)) : shaped (rowsD rows) = true := by
  have h1 := rowsD_depth rows
  have h2 : PyData.depth (rowsD rows) ≤ 64 := by simp only [rowsD, PyData.depth]; omega
  show (PyData.canLay0 (rowsD rows) && decide (PyData.depth (rowsD rows) ≤ 64)) = true
  rw [Bool.and_eq_true]
  exact ⟨by simp only [rowsD, PyData.canLay0]; exact rowsD_can rows, decide_eq_true h2⟩
theorem rowsD_mix : ∀ a b : List (List Int), noMixAll (a.map fun r => .list (r.map PyData.int)) (b.map fun r => .list (r.map PyData.int)) = true
  | [], [] => by simp [noMixAll]
  | [], _ :: _ => by simp [noMixAll]
  | _ :: _, [] => by simp [noMixAll]
  | x :: r, y :: q => by simp [noMixAll, noMix, noMix_ints x y, rowsD_mix r q]
theorem rowsD_same : ∀ a b : List (List Int), PySem.Spec.sameAll (a.map fun r => .list (r.map PyData.int)) (b.map fun r => .list (r.map PyData.int)) = decide (a = b)
  | [], [] => by simp [PySem.Spec.sameAll]
  | [], _ :: _ => by simp [PySem.Spec.sameAll]
  | _ :: _, [] => by simp [PySem.Spec.sameAll]
  | x :: r, y :: q => by
    simp only [List.map_cons, PySem.Spec.sameAll, PySem.Spec.same, same_ints x y, rowsD_same r q]
    by_cases h : x = y <;> simp [h]
def Rows (h : Heap) (l : Addr) (us : List Int) (la : Int → Addr) (R : Int → List Int) : Prop := h.IsList l (us.map fun u => Value.ref (la u)).toArray ∧ ∀ u ∈ us, IL h (la u) (R u)
theorem reads_rowsAll {h : Heap} {la : Int → Addr} {R : Int → List Int} : ∀ us : List Int, (∀ u ∈ us, IL h (la u) (R u)) → ∃ as, ReadsAll h (us.map fun u => Value.ref (la u)) ((us.map R).map fun r => .list (r.map PyData.int)) as
  | [], _ => ⟨[], .nil⟩
  | u :: r, hr => by
    obtain ⟨as, x⟩ := reads_rowsAll r fun v hv => hr v (.tail _ hv)
    obtain ⟨vs, hv, iv⟩ := hr u (.head _)
    exact ⟨_, .cons (reads_of_ints hv.isList iv) x⟩
theorem Rows.reads {h : Heap} {l : Addr} {us : List Int} {la : Int → Addr} {R : Int → List Int} (x : Rows h l us la R) : ∃ as, Reads h (.ref l) (rowsD (us.map R)) as := by
  obtain ⟨⟨o, ho, hc, n, hd⟩, hr⟩ := x
  obtain ⟨as, y⟩ := reads_rowsAll us hr
  exact ⟨_, Reads.list ho hc hd (by simpa using y)⟩
theorem Rows.keeps {h h' : Heap} {l : Addr} {us : List Int} {la : Int → Addr} {R : Int → List Int} (x : Rows h l us la R) (k : ∀ b o, h.get? b = some o → h'.get? b = some o) : Rows h' l us la R := ⟨x.1.at fun o e => k _ o e, fun u hu => (x.2 u hu).keeps k⟩
section
variable {w : World} {Ar : Around} {E : Value → Shared → Prop} {s s₀ : Shared} {g h h' : Heap} {L C D I : Addr} {cs : List (Str × Addr)} {m cm m' : Str → Option Value} {env : Env} {Ps Qs Qs' Rs : List Ast}
theorem eqRows {a b : Addr} {us vs : List Int} {la lb : Int → Addr} {R R' : Int → List Int} {Q : Value → Shared → Prop} (x : Rows s.heap a us la R) (y : Rows s.heap b vs lb R') (hu : Ar.units + 64 < cLine) (k : Q (.bool (decide (us.map R = vs.map R'))) s) :
    wpAny (model prog w) Ar (compareOp .Eq (.ref a) (.ref b)) Q E s := by
  obtain ⟨as, rx⟩ := x.reads
  obtain ⟨bs, ry⟩ := y.reads
  exact eq_dataH_same rx ry (rowsD_shaped _) (rowsD_shaped _) hu (by simp only [rowsD, noMix]; exact rowsD_mix _ _) (by simp only [rowsD, PySem.Spec.same]; rw [rowsD_same]; exact k)
theorem neRows {a b : Addr} {us vs : List Int} {la lb : Int → Addr} {R R' : Int → List Int} {Q : Value → Shared → Prop} (x : Rows s.heap a us la R) (y : Rows s.heap b vs lb R') (hu : Ar.units + 64 < cLine) (k : Q (.bool (!decide (us.map R = vs.map R'))) s) :
    wpAny (model prog w) Ar (compareOp .NotEq (.ref a) (.ref b)) Q E s := by
  obtain ⟨as, rx⟩ := x.reads
  obtain ⟨bs, ry⟩ := y.reads
  exact ne_dataH_same rx ry (rowsD_shaped _) (rowsD_shaped _) hu (by simp only [rowsD, noMix]; exact rowsD_mix _ _) (by simp only [rowsD, PySem.Spec.same]; rw [rowsD_same]; exact k)
theorem B.mergeRow {us : List Int} {la : Int → Addr} {R : Int → List Int} {u : Int} {d : Addr} (c : B w g L cs m cm (ILA d (R u) :: RowsA us la R :: Rs) h) (hu : u ∉ us) : B w g L cs m cm (RowsA (us ++ [u]) (upd la u d) R :: Rs) h := by
  have c1 : B w g L cs m cm ([ILA d (R u), RowsA us la R] ++ Rs) h := c
  refine B.step (Qs := [ILA d (R u), RowsA us la R]) (Qs' := [RowsA (us ++ [u]) (upd la u d) R]) c1 ⟨⟨fun P hP => ?_, List.pairwise_singleton ..⟩, fun _ _ _ e => e, fun b ⟨P, hP, hb⟩ => .inl ?_⟩
  · rw [List.mem_singleton.mp hP]
    intro v hv
    by_cases q : v = u
    · subst q; rw [upd_same]; exact c.at 0 rfl
    · rw [upd_ne _ _ q]
      rcases List.mem_append.mp hv with z | z
      · exact (c.at 1 rfl : (RowsA us la R).ok h) v z
      · exact absurd (List.mem_singleton.mp z) q
  · rw [List.mem_singleton.mp hP] at hb
    obtain ⟨v, hv, rfl⟩ := hb
    by_cases q : v = u
    · subst q; rw [upd_same]; exact ⟨_, .head _, rfl⟩
    · rw [upd_ne _ _ q]
      rcases List.mem_append.mp hv with z | z
      · exact ⟨_, .tail _ (.head _), v, z, rfl⟩
      · exact absurd (List.mem_singleton.mp z) q
theorem B.mergeAt {us : List Int} {la : Int → Addr} {R : Int → List Int} {u : Int} {d : Addr} (i : Nat) (c : B w g L cs m cm (ILA d (R u) :: Ps) h) (hi : Ps[i]? = some (RowsA us la R)) (hu : u ∉ us) : B w g L cs m cm (Ps.set i (RowsA (us ++ [u]) (upd la u d) R)) h := by
  have hl : i < Ps.length := (List.getElem?_eq_some_iff.mp hi).1
  have e1 : Ps = Ps.take i ++ RowsA us la R :: Ps.drop (i + 1) := by
    have h2 : Ps[i] = RowsA us la R := (List.getElem?_eq_some_iff.mp hi).2
    conv => lhs; rw [← List.take_append_drop i Ps, List.drop_eq_getElem_cons hl, h2]
  have e2 : Ps.set i (RowsA (us ++ [u]) (upd la u d) R) = Ps.take i ++ RowsA (us ++ [u]) (upd la u d) R :: Ps.drop (i + 1) := List.set_eq_take_append_cons_drop.trans (if_pos hl)
  rw [e1] at c
  rw [e2]
  have c2 : B w g L cs m cm (ILA d (R u) :: RowsA us la R :: (Ps.take i ++ Ps.drop (i + 1))) h := c.perm (List.perm_middle.cons _)
  have p2 : (RowsA (us ++ [u]) (upd la u d) R :: (Ps.take i ++ Ps.drop (i + 1))).Perm (Ps.take i ++ RowsA (us ++ [u]) (upd la u d) R :: Ps.drop (i + 1)) := List.perm_middle.symm
  exact (c2.mergeRow hu).perm p2
theorem B.mergeAtR {us : List Int} {la : Int → Addr} {R : Int → List Int} {u : Int} {d : Addr} {r : List Int} (i : Nat) (c : B w g L cs m cm (ILA d r :: Ps) h) (hi : Ps[i]? = some (RowsA us la R)) (hu : u ∉ us) : B w g L cs m cm (Ps.set i (RowsA (us ++ [u]) (upd la u d) (upd R u r))) h := by
  have hi1 : (ILA d r :: Ps)[i + 1]? = some (RowsA us la R) := by simpa using hi
  have ok0 : (RowsA us la R).ok h := c.at (i + 1) hi1
  have ok : (RowsA us la (upd R u r)).ok h := fun v hv => by
    have e : upd R u r v = R v := upd_ne _ _ fun z => hu (z ▸ hv)
    rw [e]
    exact ok0 v hv
  have c1 : B w g L cs m cm ((ILA d r :: Ps).set (i + 1) (RowsA us la (upd R u r))) h := c.weak (i + 1) hi1 ok fun b z => z
  rw [List.set_cons_succ] at c1
  have hl : i < Ps.length := (List.getElem?_eq_some_iff.mp hi).1
  have := B.mergeAt (u := u) (R := upd R u r) (la := la) (us := us) (d := d) i (by rw [upd_same]; exact c1) (by simp [hl]) hu
  rwa [List.set_set] at this
theorem CompOut.intro {Q : Value → Shared → Prop} {Ps' : List Ast} (c : B w g C [] m' (fun _ => none) (FrA L cs m cm :: Ps') s.heap) (k : ∀ h', B w g L cs m cm Ps' h' → Q (.ref D) { s with heap := h' }) : CompOut w g L cs m cm C D Q (.ok .next) s := ⟨rfl, m', Ps', c, k⟩
theorem map_upd' {us : List Int} {la : Int → Addr} {u : Int} {d : Addr} (hu : u ∉ us) : (us.map fun u => Value.ref (la u)) ++ [Value.ref d] = (us ++ [u]).map fun x => Value.ref (upd la u d x) := by
  rw [List.map_append, List.map_singleton, upd_same]
  congr 1
  refine List.map_congr_left fun x hx => ?_
  rw [upd_ne]; exact fun q => hu (q ▸ hx)
theorem B.noRows {la : Int → Addr} {R : Int → List Int} (c : B w g L cs m cm Ps h) : B w g L cs m cm (RowsA [] la R :: Ps) h :=
  c.more ⟨⟨fun P hP => by rw [List.mem_singleton.mp hP]; exact fun u hu => (nomatch hu), List.pairwise_singleton ..⟩, fun _ _ _ e => e, fun b ⟨P, hP, hb⟩ => by
    rw [List.mem_singleton.mp hP] at hb
    obtain ⟨u, hu, _⟩ := hb
    cases hu⟩
theorem B.noRowsAt (la : Int → Addr) (R : Int → List Int) (i : Nat) (c : B w g L cs m cm Ps h) : B w g L cs m cm (Ps.take i ++ RowsA [] la R :: Ps.drop i) h := by
  have c1 : B w g L cs m cm (RowsA [] la R :: (Ps.take i ++ Ps.drop i)) h := by rw [List.take_append_drop]; exact c.noRows
  have p2 : (RowsA [] la R :: (Ps.take i ++ Ps.drop i)).Perm (Ps.take i ++ RowsA [] la R :: Ps.drop i) := List.perm_middle.symm
  exact c1.perm p2
theorem values_m {ks : List Int} {la : Int → Addr} {d : Addr} {pl : Sem Bool} {Q : Value × List Value → Shared → Prop} (i : Nat) (c : B w g L cs m cm Ps s.heap) (hi : Ps[i]? = some (DiA w d (refs ks la))) (k : Q (.builtin "dict.values", [.ref d]) s) :
    wpAny (model prog w) Ar (getMethod (.ref d) (Str.ofString "values") pl) Q E s :=
  getMethod_builtin (c.at i hi).1.typeIs PySem.F.plainAttrs_dict PySem.F.slot_dict_values PySem.F.type_dict_values (c.at i hi).1.mapOf.noDict k
theorem values_b {ks : List Int} {la : Int → Addr} {d : Addr} {Q : Value → Shared → Prop} (i : Nat) (c : B w g L cs m cm Ps s.heap) (hi : Ps[i]? = some (DiA w d (refs ks la))) (k : ∀ h' v, B w g L cs m cm Ps h' → h'.IsValuesView v d → Q (.ref v) { s with heap := h' }) :
    wpAny (model prog w) Ar (call (.builtin "dict.values") [.ref d]) Q E s := by
  obtain ⟨hD, hh⟩ := c.at i hi
  exact call_meetsIn PySem.F.slot_dict_values hD.typeIs PySem.F.entry_dict_values (PySem.F.args_dict_values_1 _) (meets_dict_values (PySem.intKind prog w) d (not_sys hh)) ⟨⟨_, hD⟩, k _ _ (c.keeps (push_keeps _ _)) ⟨_, Heap.get?_push_size _ rfl, rfl, rfl⟩⟩
theorem listV_b {ks : List Int} {la : Int → Addr} {d v : Addr} {Q : Value → Shared → Prop} (i : Nat) (c : B w g L cs m cm Ps s.heap) (hi : Ps[i]? = some (DiA w d (refs ks la))) (hv : s.heap.IsValuesView v d) (hh : Ar.handled = none) (few : ks.length ≤ 100)
    (k : ∀ h' tk l, B w g L cs m cm (LiA l (ks.map fun u => .ref (la u)) :: Ps) h' → Q (.ref l) { s with heap := h', toks := tk }) : wpAny (model prog w) Ar (call (.type "list") [.ref v]) Q E s := by
  obtain ⟨hD, lo⟩ := c.at i hi
  obtain ⟨ep, hat⟩ := hD.dictAt
  refine kdl_call (kdl_values (knd := PySem.intKind prog w) (kvs := refs ks la) (ep := ep) (r := v) (d := d)) hh ⟨hv, hat⟩ (by rw [refs_length]; exact line_of few) fun h' tk acc' c' hk hS hacc => k h' tk _ ?_
  have e : acc'.toList = ks.map fun u => Value.ref (la u) := by
    have := kdl_vals_eq (kvs := refs ks la) acc'.toList (by rw [Array.length_toList, hacc.1]) fun j x hx => by
      obtain ⟨kk, hk⟩ := hacc.2 j x (by rw [← Array.getElem?_toList]; exact hx)
      exact ⟨kk, hk⟩
    rw [this]; unfold refs; rw [List.map_map]; rfl
  exact c.newList hk ⟨_, hS, rfl, c', by rw [← e, Array.toArray_toList]⟩ (Nat.le_refl _)
end
end Mine
end
section
open PySem PySem.W PySem.Calls PyProof.Rows
set_option maxRecDepth 100000
set_option maxHeartbeats 1000000
set_option linter.all false
namespace Mine
section
variable {S : ES} {ks : List Int} {R : Int → List Int}
theorem Ok.pre (o : Ok S ks R) {u v : Int} (hu : u ∈ ks) (hv : v ∈ ks) (uv : v ∉ R u) : u ∈ S.ns ∧ v ∈ S.ns ∧ v ∉ S.nbr u ∧ v ∈ S.np ∧ u ∉ S.pnb v ∧ (S.nbr u).length < 100 ∧ (S.pnb v).length < 100 :=
  ⟨o.ns ▸ hu, o.ns ▸ hv, fun z => uv ((o.mem hu).mp z), o.np ▸ hv, fun z => uv ((o.pnb v hv u).mp z).2, Nat.lt_of_le_of_lt (o.len hu) (by decide), Nat.lt_of_le_of_lt (o.plen hv) (by decide)⟩
theorem Ok.last (o : Ok S ks R) {u : Int} (hu : u ∈ ks) (ne : R u ≠ []) : ∃ l, (S.nbr u).getLast? = some l ∧ l ∈ R u := by
  cases h : (S.nbr u).getLast? with
  | none => exact absurd (o.empty hu h) ne
  | some l => exact ⟨l, rfl, o.last_mem hu h⟩
theorem Ok.nbr_nil (o : Ok S ks R) {u : Int} (hu : u ∈ ks) (q : R u = []) : S.nbr u = [] := by
  have := o.perm u hu
  rw [q] at this
  exact this.symm.eq_nil
theorem take_at {l : List Int} {i : Nat} (h : i < l.length) : l.take (i + 1) = l.take i ++ [l[i]] := by rw [List.take_add_one, List.getElem?_eq_getElem h]; rfl
theorem split_get {l : List Int} {i : Nat} (h : i < l.length) : l = l.take i ++ l[i] :: l.drop (i + 1) := by rw [← List.drop_eq_getElem_cons h, List.take_append_drop]
theorem ins_mem (l : List Int) (i : Nat) (v : Int) : ∀ y, y ∈ l.take i ++ [v] ++ l.drop i ↔ y = v ∨ y ∈ l := fun y => by
  have e := List.take_append_drop i l
  constructor
  · intro h
    rcases List.mem_append.mp h with h | h
    · rcases List.mem_append.mp h with h | h
      · exact .inr (List.mem_of_mem_take h)
      · exact .inl (List.mem_singleton.mp h)
    · exact .inr (List.mem_of_mem_drop h)
  · rintro (rfl | h)
    · exact List.mem_append_left _ (List.mem_append_right _ (List.mem_singleton.mpr rfl))
    · rw [← e] at h
      rcases List.mem_append.mp h with h | h
      · exact List.mem_append_left _ (List.mem_append_left _ h)
      · exact List.mem_append_right _ h
theorem Ok.insAt (o : Ok S ks R) {u v l : Int} {i : Nat} (hu : u ∈ ks) (hv : v ∈ ks) (ne : v ≠ u) (uv : v ∉ R u) (hi : i < (R u).length) (hl : l ∈ R u) : Ok (S.insCw u v (R u)[i] l) ks (upd R u ((R u).take i ++ v :: (R u).drop i)) := by
  have := o.insCw hu hv ne uv (split_get hi) hl
  rwa [← List.drop_eq_getElem_cons hi] at this
theorem Ok.insBehind (o : Ok S ks R) {u v l : Int} {i : Nat} (hu : u ∈ ks) (hv : v ∈ ks) (ne : v ≠ u) (uv : v ∉ R u) (hi : i < (R u).length) (hl : l ∈ R u) : Ok (S.insCcw u v (R u)[i] l) ks (upd R u ((R u).take (i + 1) ++ v :: (R u).drop (i + 1))) := by
  have := o.insCcw hu hv ne uv (split_get hi) hl
  rw [take_at hi, List.append_assoc]
  exact this
end
section
variable {w : World} {Ar : Around} {E : Value → Shared → Prop} {s s₀ : Shared} {g h h' : Heap} {L : Addr} {m : Str → Option Value} {A : EA} {S : ES} {ks : List Int} {Rw : Int → List Int}
local macro_rules | `(tactic| tm_at "k") => `(tactic| first | exact kk_915 _ | exact kk_922 _ | exact kk_929 _ | exact kk_936 _ | exact kk_941 _ | exact kk_825 _ | exact kk_802 _ | exact kk_853 _ | exact kk_788 _ | exact kk_816 _ | exact kk_614 _ | exact kk_809 _ | exact kk_860 _ | exact kk_867 _ | exact kk_839 _ | exact kk_846 _ | exact kk_261 _ | exact kk_268 _ | exact kk_275 _ | exact kk_282 _ | exact kk_289 _ | exact kk_296 _)
local macro_rules | `(tactic| tm_at "V") => `(tactic| first | assumption | exact C.v (by assumption) | exact C0.v (by assumption))
local macro_rules | `(tactic| tm_at "h") => `(tactic| first | assumption | with_unfolding_all assumption)
local macro_rules | `(tactic| tm_at "t") => `(tactic| first | assumption | (with_unfolding_all exact True.intro) | (with_unfolding_all exact fun q => Tg.noConfusion q))
local macro_rules | `(tactic| tm_at "M") => `(tactic| with_unfolding_all first | exact .head _ | exact .tail _ (.head _) | exact .tail _ (.tail _ (.head _)))
local macro_rules | `(tactic| tm_at "u") => `(tactic| with_unfolding_all rfl)
local macro_rules | `(tactic| tm_at "s0") => `(tactic| (with_reducible refine Slice_b ?_ (by intro _ _; with_unfolding_all rfl)))
local macro_rules | `(tactic| tm_at "s1") => `(tactic| (with_reducible refine wpAny_execs_cons ?_))
local macro_rules | `(tactic| tm_at "s2") => `(tactic| (with_reducible refine wpAny_execs_nil ?_))
local macro_rules | `(tactic| tm_at "s3") => `(tactic| (with_reducible refine wpAny_Assign_Name ?_ (by tm_at "u")))
local macro_rules | `(tactic| tm_at "s7") => `(tactic| (with_reducible refine wpAny_If ?_))
local macro_rules | `(tactic| tm_at "s8") => `(tactic| (with_reducible refine wpAny_isTrue_Compare1 ?_ (by tm_at "u")))
local macro_rules | `(tactic| tm_at "s10") => `(tactic| (with_reducible refine Subscript_ ?_))
local macro_rules | `(tactic| tm_at "s15") => `(tactic| (with_reducible refine wpAny_Constant_int ?_))
local macro_rules | `(tactic| tm_at "s18") => `(tactic| (with_reducible refine wpAny_Expr_any ?_ (by tm_at "u") (by tm_at "u")))
local macro_rules | `(tactic| tm_at "s19") => `(tactic| (with_reducible refine wpAny_Return_some ?_))
local macro_rules | `(tactic| tm_at "s21") => `(tactic| (with_reducible refine MethodCall_ ?_ (by tm_at "u")))
local macro_rules | `(tactic| tm_at "s22") => `(tactic| (with_reducible refine Call_ ?_ (by tm_at "u")))
local macro_rules | `(tactic| tm_at "s23") => `(tactic| (with_reducible refine methodCall_KW ?_ (by tm_at "u")))
local macro_rules | `(tactic| tm_at "s24") => `(tactic| ((with_reducible show wpAny _ _ (callWith _ _ _ _ _) _ _ _); (try dsimp only); first
     | (with_reducible refine callWith_method1 ?_ (by tm_at "u") (by tm_at "u"))
     | (with_reducible refine callWith_method0 ?_)
     | (with_reducible refine callWith_K (B.kin (by assumption)) (by tm_at "k") ?_ (by tm_at "u") (by tm_at "u"))
     | (with_reducible refine callWith_K0 (B.kin (by assumption)) (by tm_at "k") ?_)
     | (with_reducible refine callWith_KW (B.kin (by assumption)) (by tm_at "k") (by tm_at "u") ?_ (by tm_at "u") (by tm_at "u"))
     | (with_reducible refine PyProof.Rows.callWith_type1 ?_ (by tm_at "u") (by tm_at "u"))))
local macro_rules | `(tactic| tm_at "s25") => `(tactic| (with_reducible refine spliced_more ?_ (by tm_at "u")))
local macro_rules | `(tactic| tm_at "s26") => `(tactic| ((with_reducible refine spliced_none ?_); try dsimp only [List.cons_append, List.nil_append]))
local macro_rules | `(tactic| tm_at "s28") => `(tactic| (with_reducible refine kwAll_cons ?_))
local macro_rules | `(tactic| tm_at "s29") => `(tactic| (with_reducible refine kwAll_nil ?_))
local macro_rules | `(tactic| tm_at "s30") => `(tactic| (with_reducible refine in_and (B.kin (by assumption)) ?_))
local macro_rules | `(tactic| tm_at "s31") => `(tactic| (with_reducible refine wpAny_bindName ?_))
local macro_rules | `(tactic| tm_at "v0") => `(tactic| (with_reducible refine wpAny_BinOp ?_))
local macro_rules | `(tactic| tm_at "v1") => `(tactic| (with_unfolding_all refine ld_b (by assumption) (by first | rfl | assumption) ?_))
local macro_rules | `(tactic| tm_at "v3") => `(tactic| ((with_reducible refine st_b (by assumption) ?_ (by tm_at "u") (by tm_at "u") (by tm_at "u")); intro _ _; try dsimp only))
local macro_rules | `(tactic| tm_at "v6") => `(tactic| (with_reducible refine P.add_int ?_))
local macro_rules | `(tactic| tm_at "v9") => `(tactic| (with_reducible refine PySem.wpAny_truthy_bool ?_))
local macro_rules | `(tactic| tm_at "v10") => `(tactic| (with_reducible refine part_none ?_))
local macro_rules | `(tactic| tm_at "v12") => `(tactic| (with_reducible refine List_b ?_))
local macro_rules | `(tactic| tm_at "v14") => `(tactic| (with_reducible refine IfExp_ ?_))
local macro_rules | `(tactic| tm_at "v15") => `(tactic| (with_reducible refine PyProof.Rows.eq_int ?_))
theorem sum929 {R : Result → Shared → Prop} {a sa l : Addr} {xs : List Int} {u v : Int} {t1 t2 : Tok} (G : Gd w s.heap) (rm : Rm Ar 5) (sp : Sep [StA a sa xs, EmbA w A S, ILA l (Rw u)] s.heap) (o : Ok S ks Rw) (hu : u ∈ ks) (hv : v ∈ ks) (ne : v ≠ u) (uv : v ∉ Rw u)
   (k : ∀ h' tk d A' S' row, A'.x = A.x → Ok S' ks (upd Rw u row) → (∀ y, y ∈ row ↔ y = v ∨ y ∈ Rw u) → Step [StA a sa xs, EmbA w A S, ILA l (Rw u)] [ILA d row, StA a sa xs, EmbA w A' S', ILA l (Rw u)] s.heap h' → R (.ok (.ret (.ref d))) { s with heap := h', toks := tk }) :
   codeAny (model prog w) Ar (.call (.ref 929) ⟨[.ref a, .ref A.x, .ref l, .int u t1, .int v t2], []⟩) R s := by
  refine enterB (Ps := [StA a sa xs, EmbA w A S, ILA l (Rw u)]) (o := o929 w.params) (fd := fdOf (o929 w.params)) (body := fbody (topSt 20)) (binds := [("state", .ref a), ("drawing", .ref A.x), ("row", .ref l), ("node", .int u t1), ("other", .int v t2)]) G sp rm.room (by rfl) (by rfl) (by kernel_rfl!) (by rfl) (BindsTo.of_eq (by rfl)) (by kernel_rfl!) (by kernel_rfl!) fun L h₁ hL c => ?_
  have rd : Rm (Ar.deeper (callEnv (fdOf (o929 w.params)) L 929)) 4 := rm.deeper
  obtain ⟨p1, p2, p3, p4, p5, p6, p7⟩ := o.pre hu hv uv
  have len : (Rw u).length ≤ 50 := by rw [(o.perm u hu).length_eq]; exact o.len hu
  refine wpAny_execs_cons ?_
  (tm_at "s7"; tm_at "s8"; tm_at "v1"; tm_at "v12"; tm_at "s26")
  refine list_fin c .nil (by decide) fun h1 d1 c1 => ?_
  refine eq_b 3 c1 rfl (c1.at 0 rfl).1 rd.eq ?_
  (tm_at "v9")
  by_cases q : Rw u = []
  · rw [decide_eq_true q]
    simp only [if_true]
    (tm_at "s1"; tm_at "s18"; tm_at "s21"; tm_at "v1")
    have c2 := c1.drop
    refine m_add_half_edge (c2.V 1 rfl) ?_
    (tm_at "s24"; tm_at "s25"; tm_at "v1"; tm_at "s25"; tm_at "v1"; tm_at "s26"; tm_at "s30")
    refine callR (sum825_none (t3 := 0) (x := 0) (l := 0) (c2.at 1 rfl) c2.gd (rd.less (j := 2) (by decide)).depth rd.hd p1 p2 (Ok.nbr_nil o hu q) p4 p5 p7 fun h3 tk3 D b => ⟨_, rfl, ?_⟩)
    have c3 := c2.step1 1 rfl (Back.step b)
    (tm_at "s1"; tm_at "s19"; tm_at "v12"; tm_at "s25"; tm_at "v1"; tm_at "s26")
    refine list_fin c3 (.cons _ _ .nil) (by simp) fun h4 d4 c4 => ?_
    exact k _ _ _ (A.setDat u v D) _ _ rfl (o.insFirst hu hv ne q) (fun y => by rw [q]; simp) (B.done c4)
  · rw [decide_eq_false q]
    simp only [Bool.false_eq_true, if_false]
    (tm_at "s2"; tm_at "s1")
    have c2 := c1.drop
    have pos : 0 < (Rw u).length := List.length_pos_iff.mpr q
    refine Assign_Tuple_swapped (names := ["k", "way"]) ?_ (by tm_at "u") (by tm_at "u")
    refine Tuple_b ?_
    (tm_at "s25"; tm_at "s22")
    refine gl_b c2 (kg_next _) ?_ (by tm_at "u") (by tm_at "u") (by tm_at "u")
    (tm_at "s24"; tm_at "s25"; tm_at "v1"; tm_at "s25"; tm_at "s22")
    refine bi_b c2 (kn_len _) boot_len (by decide +kernel) ?_ (by tm_at "u") (by tm_at "u") (by tm_at "u") (by tm_at "u")
    (tm_at "s24"; tm_at "s25"; tm_at "v1"; tm_at "s26")
    refine len_b 2 c2 rfl (by omega) ?_
    (tm_at "s26"; tm_at "s30")
    refine next_b 0 c2 rfl (rd.less (by decide)) (by omega) fun h3 tk3 i ti i0 i1 c3 => ?_
    (tm_at "s25"; tm_at "s22")
    refine gl_b c3 (kg_next _) ?_ (by tm_at "u") (by tm_at "u") (by tm_at "u")
    (tm_at "s24"; tm_at "s25"; tm_at "v1"; tm_at "s25"; tm_at "s15"; tm_at "s26"; tm_at "s30")
    refine next_b 0 c3 rfl (rd.less (by decide)) (by decide) fun h4 tk4 y ty y0 y1 c4 => ?_
    (tm_at "s26")
    refine tup_fin c4 (by simp) fun h5 d5 c5 tup5 _ _ _ => ?_
    dsimp only
    refine unpack2 rd.hd tup5 fun h6 hk6 => ?_
    have c6 := c5.keeps hk6
    clear c c1 c2 c3 c4 c5 tup5 hk6
    refine wpAny_assignInOrder_more ?_
    (tm_at "s31"; tm_at "v3")
    refine wpAny_assignInOrder_more ?_
    (tm_at "s31"; tm_at "v3")
    refine wpAny_assignInOrder_none ?_
    try dsimp only
    obtain ⟨n, rfl⟩ : ∃ n : Nat, i = n := ⟨i.toNat, by omega⟩
    have n1 : n < (Rw u).length := by omega
    obtain ⟨l0, hl0, ml0⟩ := o.last hu q
    have x1 : (Rw u)[n] ∈ Rw u := List.getElem_mem n1
    have x2 : (Rw u)[n] ∈ S.nbr u := (o.mem hu).mpr x1
    have x3 : S.ccw u (Rw u)[n] ∈ S.nbr u := (o.mem hu).mpr (o.next hu x1).2
    have x4 : S.cw u (Rw u)[n] ∈ S.nbr u := (o.mem hu).mpr (o.next hu x1).1
    rename_i h7 c7' h8 c8
    clear c7'
    refine wpAny_execs_cons (wpAny_mono (Q := fun f s' => f = .next ∧ ∃ h' tk m' A' S', s' = { s with heap := h', toks := tk } ∧ B w (hide s.heap (Fps [StA a sa xs, EmbA w A S, ILA l (Rw u)])) L [] m' (fun _ => none) [StA a sa xs, EmbA w A' S', ILA l (Rw u)] h' ∧
      A'.x = A.x ∧ Ok S' ks (upd Rw u ((Rw u).take (if y.fmod 2 = 0 then n else n + 1) ++ v :: (Rw u).drop (if y.fmod 2 = 0 then n else n + 1))) ∧ (∃ t, m' (Str.ofString "k") = some (.int n t)) ∧ (∃ t, m' (Str.ofString "way") = some (.int y t)) ∧ m' (Str.ofString "row") = some (.ref l) ∧ (∃ t, m' (Str.ofString "other") = some (.int v t))) ?_ (fun f s' hh => ?_) fun _ _ z => z)
    · (tm_at "s7"; tm_at "s8"; tm_at "v1"; tm_at "s15"; tm_at "v15"; tm_at "v9")
      by_cases y0' : y = 0
      · subst y0'
        rw [show ((0 : Int) == 0) = true from rfl]
        simp only [if_true]
        (tm_at "s1"; tm_at "s18"; tm_at "s23"; tm_at "v1")
        refine m_add_half_edge (c8.V 1 rfl) ?_
        (tm_at "s24"; tm_at "s25"; tm_at "v1"; tm_at "s25"; tm_at "v1"; tm_at "s26"; tm_at "s28"; tm_at "s10"; tm_at "v1"; tm_at "v1")
        refine items_b 2 c8 rfl (Int.natCast_nonneg _) (by omega) (by rw [Int.toNat_natCast]; exact List.getElem?_eq_getElem n1) (fun t' => ?_) (by tm_at "u")
        (tm_at "s29"; tm_at "s30")
        refine callR (sum825_cw (l := l0) (c8.at 1 rfl) c8.gd (rd.less (j := 2) (by decide)).depth rd.hd p1 p2 p3 p4 p5 p6 p7 x2 x3 hl0 fun h9 tk9 D b => ⟨_, rfl, ?_⟩)
        (tm_at "s2")
        exact ⟨rfl, _, _, _, A.setDat u v D, _, rfl, c8.step1 1 rfl (Back.step b), rfl, o.insAt hu hv ne uv n1 ml0, ⟨_, rfl⟩, ⟨_, rfl⟩, rfl, ⟨_, rfl⟩⟩
      · rw [show (y == 0) = false from by simpa using y0']
        simp only [Bool.false_eq_true, if_false]
        (tm_at "s1"; tm_at "s7"; tm_at "s8"; tm_at "v1"; tm_at "s15"; tm_at "v15"; tm_at "v9")
        by_cases y1' : y = 1
        · subst y1'
          rw [show ((1 : Int) == 1) = true from rfl]
          simp only [if_true]
          (tm_at "s1"; tm_at "s18"; tm_at "s23"; tm_at "v1")
          refine m_add_half_edge (c8.V 1 rfl) ?_
          (tm_at "s24"; tm_at "s25"; tm_at "v1"; tm_at "s25"; tm_at "v1"; tm_at "s26"; tm_at "s28"; tm_at "s10"; tm_at "v1"; tm_at "v1")
          refine items_b 2 c8 rfl (Int.natCast_nonneg _) (by omega) (by rw [Int.toNat_natCast]; exact List.getElem?_eq_getElem n1) (fun t' => ?_) (by tm_at "u")
          (tm_at "s29"; tm_at "s30")
          refine callR (sum825_ccw (l := l0) (c8.at 1 rfl) c8.gd (rd.less (j := 2) (by decide)).depth rd.hd p1 p2 p3 p4 p5 p6 p7 x2 x4 hl0 fun h9 tk9 D b => ⟨_, rfl, ?_⟩)
          (tm_at "s2"; tm_at "s2")
          exact ⟨rfl, _, _, _, A.setDat u v D, _, rfl, c8.step1 1 rfl (Back.step b), rfl, o.insBehind hu hv ne uv n1 ml0, ⟨_, rfl⟩, ⟨_, rfl⟩, rfl, ⟨_, rfl⟩⟩
        · rw [show (y == 1) = false from by simpa using y1']
          simp only [Bool.false_eq_true, if_false]
          (tm_at "s1"; tm_at "s7"; tm_at "s8"; tm_at "v1"; tm_at "s15"; tm_at "v15"; tm_at "v9")
          by_cases y2' : y = 2
          · subst y2'
            rw [show ((2 : Int) == 2) = true from rfl]
            simp only [if_true]
            (tm_at "s1"; tm_at "s18"; tm_at "s21"; tm_at "v1")
            refine m_add_half_edge_ccw (c8.V 1 rfl) ?_
            (tm_at "s24"; tm_at "s25"; tm_at "v1"; tm_at "s25"; tm_at "v1"; tm_at "s25"; tm_at "s10"; tm_at "v1"; tm_at "v1")
            refine items_b 2 c8 rfl (Int.natCast_nonneg _) (by omega) (by rw [Int.toNat_natCast]; exact List.getElem?_eq_getElem n1) (fun t' => ?_) (by tm_at "u")
            (tm_at "s26"; tm_at "s30")
            refine callR (sum839 (l := l0) (c8.at 1 rfl) c8.gd (rd.less (j := 3) (by decide)).depth rd.hd p1 p2 p3 p4 p5 p6 p7 x2 x3 hl0 fun h9 tk9 D b => ⟨_, rfl, ?_⟩)
            (tm_at "s2"; tm_at "s2"; tm_at "s2")
            exact ⟨rfl, _, _, _, A.setDat u v D, _, rfl, c8.step1 1 rfl (Back.step b), rfl, o.insAt hu hv ne uv n1 ml0, ⟨_, rfl⟩, ⟨_, rfl⟩, rfl, ⟨_, rfl⟩⟩
          · obtain rfl : y = 3 := by omega
            rw [show ((3 : Int) == 2) = false from rfl]
            simp only [Bool.false_eq_true, if_false]
            (tm_at "s1"; tm_at "s18"; tm_at "s21"; tm_at "v1")
            refine m_add_half_edge_cw (c8.V 1 rfl) ?_
            (tm_at "s24"; tm_at "s25"; tm_at "v1"; tm_at "s25"; tm_at "v1"; tm_at "s25"; tm_at "s10"; tm_at "v1"; tm_at "v1")
            refine items_b 2 c8 rfl (Int.natCast_nonneg _) (by omega) (by rw [Int.toNat_natCast]; exact List.getElem?_eq_getElem n1) (fun t' => ?_) (by tm_at "u")
            (tm_at "s26"; tm_at "s30")
            refine callR (sum846 (l := l0) (c8.at 1 rfl) c8.gd (rd.less (j := 3) (by decide)).depth rd.hd p1 p2 p3 p4 p5 p6 p7 x2 x4 hl0 fun h9 tk9 D b => ⟨_, rfl, ?_⟩)
            (tm_at "s2"; tm_at "s2"; tm_at "s2")
            exact ⟨rfl, _, _, _, A.setDat u v D, _, rfl, c8.step1 1 rfl (Back.step b), rfl, o.insBehind hu hv ne uv n1 ml0, ⟨_, rfl⟩, ⟨_, rfl⟩, rfl, ⟨_, rfl⟩⟩
    · obtain ⟨rfl, h9, tk9, m', A', S', rfl, c9, hx9, o9, ⟨t1', e1⟩, ⟨t2', e2⟩, e3, ⟨t4', e4⟩⟩ := hh
      dsimp only
      have e3' := e3
      (tm_at "s1"; tm_at "s3"; tm_at "v14"; tm_at "s8"; tm_at "v0"; tm_at "v1"; tm_at "s15")
      refine mod_int (by decide) ?_
      (tm_at "s15"; tm_at "v15"; tm_at "v9")
      by_cases r : y.fmod 2 = 0
      · rw [show (y.fmod 2 == 0) = true from by simpa using r]
        rw [if_pos r] at o9
        simp only [if_true]
        (tm_at "v1"; tm_at "v3"; tm_at "s1"; tm_at "s19"; tm_at "v0"; tm_at "v0"; tm_at "s0"; tm_at "v1"; tm_at "v10"; tm_at "v1")
        refine slice_fin 2 (by assumption) rfl .none (.int _ _) (by omega) (fun iv => slice_ints_upto iv (y := (n : Int)) (by omega) (by omega)) fun h10 d10 c10 => ?_
        (tm_at "v12"; tm_at "s25"; tm_at "v1"; tm_at "s26")
        refine list_fin c10 (.cons _ _ .nil) (by simp) fun h11 d11 c11 => ?_
        skip
        refine add_b 1 0 c11 rfl rfl (by simp only [List.length_take, List.length_cons, List.length_nil]; omega) fun h12 d12 c12 => ?_
        (tm_at "s0"; tm_at "v1"; tm_at "v1"; tm_at "v10")
        refine slice_fin 5 c12 rfl (.int _ _) .none (by omega) (fun iv => slice_ints_from iv (x := (n : Int)) (by omega) (by omega)) fun h13 d13 c13 => ?_
        skip
        refine add_b 1 0 c13 rfl rfl (by simp only [List.length_take, List.length_append, List.length_drop, List.length_cons, List.length_nil]; omega) fun h14 d14 c14 => ?_
        refine k _ _ d14 A' S' _ hx9 ?_ (ins_mem _ _ _) (B.done (c14.sub (.cons_cons _ (.cons _ (.cons _ (.cons _ (.cons _ (.cons_cons _ (.cons_cons _ (.cons_cons _ .slnil))))))))))
        rw [Int.toNat_natCast, List.append_assoc]
        exact o9
      · rw [show (y.fmod 2 == 0) = false from by simpa using r]
        rw [if_neg r] at o9
        simp only [Bool.false_eq_true, if_false]
        (tm_at "v0"; tm_at "v1"; tm_at "s15"; tm_at "v6"; tm_at "v3"; tm_at "s1"; tm_at "s19"; tm_at "v0"; tm_at "v0"; tm_at "s0"; tm_at "v1"; tm_at "v10"; tm_at "v1")
        refine slice_fin 2 (by assumption) rfl .none (.int _ _) (by omega) (fun iv => slice_ints_upto iv (y := (n : Int) + 1) (by omega) (by omega)) fun h10 d10 c10 => ?_
        (tm_at "v12"; tm_at "s25"; tm_at "v1"; tm_at "s26")
        refine list_fin c10 (.cons _ _ .nil) (by simp) fun h11 d11 c11 => ?_
        skip
        refine add_b 1 0 c11 rfl rfl (by simp only [List.length_take, List.length_cons, List.length_nil]; omega) fun h12 d12 c12 => ?_
        (tm_at "s0"; tm_at "v1"; tm_at "v1"; tm_at "v10")
        refine slice_fin 5 c12 rfl (.int _ _) .none (by omega) (fun iv => slice_ints_from iv (x := (n : Int) + 1) (by omega) (by omega)) fun h13 d13 c13 => ?_
        skip
        refine add_b 1 0 c13 rfl rfl (by simp only [List.length_take, List.length_append, List.length_drop, List.length_cons, List.length_nil]; omega) fun h14 d14 c14 => ?_
        refine k _ _ d14 A' S' _ hx9 ?_ (ins_mem _ _ _) (B.done (c14.sub (.cons_cons _ (.cons _ (.cons _ (.cons _ (.cons _ (.cons_cons _ (.cons_cons _ (.cons_cons _ .slnil))))))))))
        rw [show ((n : Int) + 1).toNat = n + 1 from by omega, List.append_assoc]
        exact o9
end
end Mine
end
section
open PySem PySem.W PySem.Calls PyProof.Rows
set_option maxRecDepth 100000
set_option maxHeartbeats 1000000
set_option linter.all false
namespace Mine
section
variable {w : World} {Ar : Around} {E : Value → Shared → Prop} {s s₀ : Shared} {g h h' : Heap} {L : Addr} {m : Str → Option Value} {A : EA} {S : ES} {ks : List Int} {Rw : Int → List Int}
local macro_rules | `(tactic| tm_at "k") => `(tactic| first | exact kk_915 _ | exact kk_922 _ | exact kk_929 _ | exact kk_936 _ | exact kk_941 _ | exact kk_825 _ | exact kk_802 _ | exact kk_853 _ | exact kk_788 _ | exact kk_816 _ | exact kk_614 _ | exact kk_809 _ | exact kk_860 _ | exact kk_867 _ | exact kk_839 _ | exact kk_846 _ | exact kk_261 _ | exact kk_268 _ | exact kk_275 _ | exact kk_282 _ | exact kk_289 _ | exact kk_296 _)
local macro_rules | `(tactic| tm_at "V") => `(tactic| first | assumption | exact C.v (by assumption) | exact C0.v (by assumption))
local macro_rules | `(tactic| tm_at "h") => `(tactic| first | assumption | with_unfolding_all assumption)
local macro_rules | `(tactic| tm_at "t") => `(tactic| first | assumption | (with_unfolding_all exact True.intro) | (with_unfolding_all exact fun q => Tg.noConfusion q))
local macro_rules | `(tactic| tm_at "M") => `(tactic| with_unfolding_all first | exact .head _ | exact .tail _ (.head _) | exact .tail _ (.tail _ (.head _)))
local macro_rules | `(tactic| tm_at "u") => `(tactic| with_unfolding_all rfl)
local macro_rules | `(tactic| tm_at "s1") => `(tactic| (with_reducible refine wpAny_execs_cons ?_))
local macro_rules | `(tactic| tm_at "s2") => `(tactic| (with_reducible refine wpAny_execs_nil ?_))
local macro_rules | `(tactic| tm_at "s3") => `(tactic| (with_reducible refine wpAny_Assign_Name ?_ (by tm_at "u")))
local macro_rules | `(tactic| tm_at "s7") => `(tactic| (with_reducible refine wpAny_If ?_))
local macro_rules | `(tactic| tm_at "s8") => `(tactic| (with_reducible refine wpAny_isTrue_Compare1 ?_ (by tm_at "u")))
local macro_rules | `(tactic| tm_at "s9") => `(tactic| (with_reducible refine wpAny_Compare1 ?_ (by tm_at "u")))
local macro_rules | `(tactic| tm_at "s10") => `(tactic| (with_reducible refine Subscript_ ?_))
local macro_rules | `(tactic| tm_at "s19") => `(tactic| (with_reducible refine wpAny_Return_some ?_))
local macro_rules | `(tactic| tm_at "s21") => `(tactic| (with_reducible refine MethodCall_ ?_ (by tm_at "u")))
local macro_rules | `(tactic| tm_at "s22") => `(tactic| (with_reducible refine Call_ ?_ (by tm_at "u")))
local macro_rules | `(tactic| tm_at "s24") => `(tactic| ((with_reducible show wpAny _ _ (callWith _ _ _ _ _) _ _ _); (try dsimp only); first
     | (with_reducible refine callWith_method1 ?_ (by tm_at "u") (by tm_at "u"))
     | (with_reducible refine callWith_method0 ?_)
     | (with_reducible refine callWith_K (B.kin (by assumption)) (by tm_at "k") ?_ (by tm_at "u") (by tm_at "u"))
     | (with_reducible refine callWith_K0 (B.kin (by assumption)) (by tm_at "k") ?_)
     | (with_reducible refine callWith_KW (B.kin (by assumption)) (by tm_at "k") (by tm_at "u") ?_ (by tm_at "u") (by tm_at "u"))
     | (with_reducible refine PyProof.Rows.callWith_type1 ?_ (by tm_at "u") (by tm_at "u"))))
local macro_rules | `(tactic| tm_at "s25") => `(tactic| (with_reducible refine spliced_more ?_ (by tm_at "u")))
local macro_rules | `(tactic| tm_at "s26") => `(tactic| ((with_reducible refine spliced_none ?_); try dsimp only [List.cons_append, List.nil_append]))
local macro_rules | `(tactic| tm_at "s30") => `(tactic| (with_reducible refine in_and (B.kin (by assumption)) ?_))
local macro_rules | `(tactic| tm_at "s34") => `(tactic| (with_reducible refine isTrue_or ?_))
local macro_rules | `(tactic| tm_at "s36") => `(tactic| (with_reducible refine isTrue_or_nil ?_))
local macro_rules | `(tactic| tm_at "v1") => `(tactic| (with_unfolding_all refine ld_b (by assumption) (by first | rfl | assumption) ?_))
local macro_rules | `(tactic| tm_at "v2") => `(tactic| (with_unfolding_all refine lc_b (by assumption) (by first | rfl | assumption) (by rfl) ?_))
local macro_rules | `(tactic| tm_at "v3") => `(tactic| ((with_reducible refine st_b (by assumption) ?_ (by tm_at "u") (by tm_at "u") (by tm_at "u")); intro _ _; try dsimp only))
local macro_rules | `(tactic| tm_at "v4") => `(tactic| ((with_reducible refine sc_b (by assumption) (by tm_at "u") ?_ (by tm_at "u") (by tm_at "u") (by tm_at "u")); intro _ _; try dsimp only))
local macro_rules | `(tactic| tm_at "v9") => `(tactic| (with_reducible refine PySem.wpAny_truthy_bool ?_))
theorem kn_list' (P : Params) : nsIn (frag P) mainGlobals (Str.ofString "list") = some none := kn_list P
theorem Ok.rows (o : Ok S ks Rw) : ∃ row : Int → List Int, ∀ u ∈ ks, (∃ p q, Rw u = p ++ q ∧ row u = q ++ p) ∧ Told S u (row u) := by
  have h : ∀ u : Int, ∃ r : List Int, u ∈ ks → (∃ p q, Rw u = p ++ q ∧ r = q ++ p) ∧ Told S u r := fun u => by
    by_cases hu : u ∈ ks
    · obtain ⟨p, q, e, t⟩ := o.tells hu
      exact ⟨q ++ p, fun _ => ⟨⟨p, q, e, rfl⟩, t⟩⟩
    · exact ⟨[], fun z => absurd z hu⟩
  exact ⟨fun u => (h u).choose, fun u hu => (h u).choose_spec hu⟩
theorem told_len (o : Ok S ks Rw) {row : Int → List Int} {u : Int} (hu : u ∈ ks) (h : ∃ p q, Rw u = p ++ q ∧ row u = q ++ p) : (row u).length ≤ 50 := by
  obtain ⟨p, q, e1, e2⟩ := h
  have : (row u).length = (Rw u).length := by rw [e1, e2]; simp; omega
  rw [this, (o.perm u hu).length_eq]; exact o.len hu
theorem sum941 {R : Result → Shared → Prop} {la : Int → Addr} {d : Addr} (G : Gd w s.heap) (rm : Rm Ar 6) (hB : AllBare s.gens) (sp : Sep [EmbA w A S, DiA w d (refs ks la), RowsA ks la Rw] s.heap) (o : Ok S ks Rw)
   (k : ∀ s', Step [EmbA w A S, DiA w d (refs ks la), RowsA ks la Rw] [EmbA w A S, DiA w d (refs ks la), RowsA ks la Rw] s.heap s'.heap → AllBare s'.gens → s'.os = s.os → s'.drawn = s.drawn → R (.ok (.ret (.bool true))) s') :
   codeAny (model prog w) Ar (.call (.ref 941) ⟨[.ref A.x, .ref d], []⟩) R s := by
  refine enterBC (Ps := [EmbA w A S, DiA w d (refs ks la), RowsA ks la Rw]) (o := o941 w.params) (fd := fdOf (o941 w.params)) (body := fbody (topSt 22)) (binds := [("drawing", .ref A.x), ("turns", .ref d)]) G sp rm.room (by rfl) (by rfl) (by kernel_rfl!) (by rfl) (by rfl) (by rfl) ?_ ?_ fun L h₁ tk hL c => ?_
  · intro n x hx
    right
    rcases List.mem_cons.mp hx with rfl | hx
    · exact ⟨by rfl, by rfl⟩
    · rw [List.mem_singleton.mp hx]; exact ⟨by rfl, by rfl⟩
  · intro n
    show List.Pairwise (fun x y : Str × Addr => x.1 ≠ y.1) [(Str.ofString "told", n + 2), (Str.ofString "turns", n + 1), (Str.ofString "drawing", n)]
    simp [List.pairwise_cons]
    decide
  have rd : Rm (Ar.deeper (callEnvC (fdOf (o941 w.params)) L 941)) 5 := rm.deeper
  obtain ⟨row, hrow⟩ := o.rows
  refine wpAny_execs_cons ?_
  (tm_at "s3"; tm_at "s21"; tm_at "v2")
  refine m_get_data (c.V 0 rfl) ?_
  (tm_at "s24")
  refine callR (sum788 (row := row) (c.at 0 rfl) c.gd rd.hd (rd.less (j := 4) (by decide)).depth hB (o.nn ▸ o.nd) (fun u hu => ?_) fun s2 D la2 hk2 hB2 ho2 hd2 hD hdict hrows => ⟨_, rfl, ?_⟩)
  · have hu' : u ∈ ks := o.nn ▸ hu
    exact ⟨o.ns ▸ hu', (hrow u hu').2, Nat.le_trans (told_len o hu' (hrow u hu').1) (by decide)⟩
  rw [o.nn] at hdict hrows
  have c2 : B w (hide s.heap (Fps [EmbA w A S, DiA w d (refs ks la), RowsA ks la Rw])) L (cellsFrom (L + 1) (fdOf (o941 w.params)).scope.names []) (bindL (callEnvC (fdOf (o941 w.params)) L 941).kindOf [("drawing", .ref A.x), ("turns", .ref d)] fun _ => none) (bindC (callEnvC (fdOf (o941 w.params)) L 941).kindOf [("drawing", .ref A.x), ("turns", .ref d)] fun _ => none)
      ([DiA w D (refs ks la2), RowsA ks la2 row] ++ [EmbA w A S, DiA w d (refs ks la), RowsA ks la Rw]) s2.heap := by
    refine B.step (Qs := []) (Qs' := [DiA w D (refs ks la2), RowsA ks la2 row]) c ⟨⟨fun P hP => ?_, List.pairwise_cons.mpr ⟨fun Q hQ b hb hb' => ?_, List.pairwise_singleton ..⟩⟩, fun b o' _ e => hk2 b o' e, fun b ⟨P, hP, hb⟩ => .inr (Heap.get?_none_of_le ?_)⟩
    · rcases List.mem_cons.mp hP with rfl | hP
      · exact ⟨hdict, Nat.le_trans c.gd.size hD⟩
      · rw [List.mem_singleton.mp hP]; exact fun u hu => ⟨(hrows u hu).1, Nat.le_trans c.gd.size (hrows u hu).2.1⟩
    · rw [List.mem_singleton.mp hQ] at hb'
      obtain ⟨u, hu, e⟩ := hb'
      exact (hrows u hu).2.2 (e.trans hb)
    · rcases List.mem_cons.mp hP with rfl | hP
      · rw [show b = D from hb]; exact hD
      · rw [List.mem_singleton.mp hP] at hb
        obtain ⟨u, hu, rfl⟩ := hb
        exact (hrows u hu).2.1
  clear c
  (tm_at "v4"; tm_at "s1"; tm_at "s7"; tm_at "s34"; tm_at "s8"; tm_at "s22")
  rename_i h3 c3
  refine bi_b c3 (kn_list _) boot_list (by decide +kernel) ?_ (by tm_at "u") (by tm_at "u") (by tm_at "u") (by tm_at "u")
  (tm_at "s24"; tm_at "s25"; tm_at "v2"; tm_at "s26")
  have few : ks.length ≤ 100 := Nat.le_trans o.few (by decide)
  refine listD_b 0 c3 rfl rd.hd few fun h4 tk4 l4 c4 => ?_
  (tm_at "s22")
  refine bi_b c4 (kn_list _) boot_list (by decide +kernel) ?_ (by tm_at "u") (by tm_at "u") (by tm_at "u") (by tm_at "u")
  (tm_at "s24"; tm_at "s25"; tm_at "v2"; tm_at "s26")
  refine listD_b 4 c4 rfl rd.hd few fun h5 tk5 l5 c5 => ?_
  skip
  refine ne_b' (c5.at 1 rfl).1 (c5.at 0 rfl).1 rd.eq ?_
  rw [decide_eq_true rfl]
  (tm_at "v9")
  obtain ⟨mL, cmL, c6, e1, e2, e3⟩ : ∃ mL cmL, B w (hide s.heap (Fps [EmbA w A S, DiA w d (refs ks la), RowsA ks la Rw])) L (cellsFrom (L + 1) (fdOf (o941 w.params)).scope.names []) mL cmL [DiA w D (refs ks la2), RowsA ks la2 row, EmbA w A S, DiA w d (refs ks la), RowsA ks la Rw] h5 ∧ cmL (Str.ofString "drawing") = some (.ref A.x) ∧ cmL (Str.ofString "turns") = some (.ref d) ∧ cmL (Str.ofString "told") = some (.ref D) := ⟨_, _, c5.drop.drop, by rfl, by rfl, by rfl⟩
  clear c2 c3 c4 c5
  simp only [Bool.not_true, Bool.false_eq_true, if_false]
  (tm_at "s34"; tm_at "s8")
  refine ListComp_b (g := (hide s.heap (Fps [EmbA w A S, DiA w d (refs ks la), RowsA ks la Rw]))) (L := L) (cs := (cellsFrom (L + 1) (fdOf (o941 w.params)).scope.names [])) (m := mL) (cm := cmL) (by tm_at "u") (by rfl) (by decide) (by decide) ?_
  (tm_at "v2")
  refine iterD_b 3 c6 rfl fun h7 I ep c7 => ?_
  refine ⟨_, c7, fun C acc h8 tk8 c8 => ⟨fun Q' E' q => selfK_b 2 c8 rfl q, ?_⟩⟩
  have nd := o.nd
  refine comp_upto ks.length (fun i s' => ∃ m' la3, B w (hide s.heap (Fps [EmbA w A S, DiA w d (refs ks la), RowsA ks la Rw])) C [] m' (fun _ => none) [FrA L (cellsFrom (L + 1) (fdOf (o941 w.params)).scope.names []) mL cmL, LiA acc ((ks.take i).map fun u => Value.ref (la3 u)), KItA I d (refs ks la).length ep i, RowsA (ks.take i) la3 row, DiA w D (refs ks la2), RowsA ks la2 row, EmbA w A S, DtA w d (refs ks la) ep, RowsA ks la Rw] s'.heap ∧
    AllBare s'.gens ∧ s'.os = s.os ∧ s'.drawn = s.drawn) ?_ ?_ ⟨_, fun _ => 0, c8.noRowsAt (fun _ => 0) row 3, hB2, ho2, hd2⟩
  · rintro i s' hlt ⟨m', la3, c', hB', ho', hd'⟩
    have hu : ks[i]? = some ks[i] := List.getElem?_eq_getElem hlt
    generalize ks[i] = u at hu
    have mu : u ∈ ks := List.mem_of_getElem? hu
    have nu : u ∉ ks.take i := not_mem_take nd hu
    have tk1 : ks.take (i + 1) = ks.take i ++ [u] := by rw [List.take_add_one, hu]; rfl
    refine nextK_b 2 7 c' rfl rfl hu fun h9 t c9 => ⟨_, rfl, ?_⟩
    refine wpAny_assign_Name ?_
    (tm_at "v3")
    rename_i h10 c10
    refine wpAny_tests_nil ?_
    simp only [if_true]
    (tm_at "s22")
    refine bi_b c10 (kn_list _) boot_list (by decide +kernel) ?_ (by tm_at "u") (by tm_at "u") (by tm_at "u") (by tm_at "u")
    (tm_at "s24"; tm_at "s25"; tm_at "s21")
    refine lk_b 0 c10 rfl (by tm_at "u") (by tm_at "M") e1 ?_ (by tm_at "u") (by tm_at "u")
    skip
    refine m_neighbors_cw_order (c10.V 6 rfl) ?_
    (tm_at "s24"; tm_at "s25"; tm_at "v1"; tm_at "s26"; tm_at "s30")
    refine callR (list_816 (row := row u) (c10.at 6 rfl) c10.gd rd.hd (rd.less (j := 2) (by decide)).depth (o.ns ▸ mu) (hrow u mu).2 (Nat.le_trans (told_len o mu (hrow u mu).1) (by decide)) hB' fun s11 a hk11 hB11 ho11 hd11 hsz hlist => ⟨_, rfl, ?_⟩)
    (tm_at "s26")
    refine hlist _ _ fun s12 dd hk12 hB12 ho12 hd12 hsz12 il12 => ?_
    have c12 := (c10.newInts (fun b o e => hk12 b o e) il12 hsz12).mergeAt 3 rfl nu
    refine app_b 1 c12 rfl (by rw [List.length_map, List.length_take]; omega) fun h13 c13 => ?_
    rw [map_upd' nu, ← tk1] at c13
    exact ⟨_, upd la3 u dd, c13, hB12, ho12.trans ho', hd12.trans hd'⟩
  · rintro s' ⟨m', la3, c', hB', ho', hd'⟩
    refine endK_b 2 7 c' rd.hd rfl rfl (by rw [refs_length]; exact Nat.le_refl _) fun h9 c9 => ⟨rfl, CompOut.intro c9 fun h10 c10 => ?_⟩
    rw [List.take_length] at c10
    (tm_at "s22")
    refine bi_b c10 (kn_list _) boot_list (by decide +kernel) ?_ (by tm_at "u") (by tm_at "u") (by tm_at "u") (by tm_at "u")
    (tm_at "s24"; tm_at "s25"; tm_at "s21"; tm_at "v2")
    refine values_m 2 c10 rfl ?_
    (tm_at "s24")
    refine values_b 2 c10 rfl fun h11 v11 c11 hv11 => ?_
    (tm_at "s26")
    refine listV_b 2 c11 rfl hv11 rd.hd few fun h12 tk12 l12 c12 => ?_
    have R1 : Rows h12 acc ks la3 row := ⟨(c12.at 1 rfl).1, fun u hu => ((c12.at 2 rfl : (RowsA ks la3 row).ok h12) u hu).1⟩
    have R2 : Rows h12 l12 ks la2 row := ⟨(c12.at 0 rfl).1, fun u hu => ((c12.at 4 rfl : (RowsA ks la2 row).ok h12) u hu).1⟩
    refine neRows R1 R2 rd.eq ?_
    rw [decide_eq_true rfl]
    (tm_at "v9")
    simp only [Bool.not_true, Bool.false_eq_true, if_false]
    (tm_at "s36")
    have c13 := c12.sub (Qs := [DiA w D (refs ks la2), RowsA ks la2 row, EmbA w A S, DtA w d (refs ks la) ep, RowsA ks la Rw]) (.cons _ (.cons _ (.cons _ (.refl _))))
    have c14 := c13.undt 3 rfl
    simp only [Bool.false_eq_true, if_false]
    clear c6 c10 c11 c12 c13 R1 R2 hv11
    (tm_at "s2"; tm_at "s1"; tm_at "s19"; tm_at "s9")
    refine ListComp_b (g := (hide s.heap (Fps [EmbA w A S, DiA w d (refs ks la), RowsA ks la Rw]))) (L := L) (cs := (cellsFrom (L + 1) (fdOf (o941 w.params)).scope.names [])) (m := mL) (cm := cmL) (by tm_at "u") (by rfl) (by decide) (by decide) ?_
    (tm_at "v2")
    refine iterD_b 3 c14 rfl fun h15 I2 ep2 c15 => ?_
    refine ⟨_, c15, fun C2 acc2 h16 tk16 c16 => ⟨fun Q' E' q => selfK_b 2 c16 rfl q, ?_⟩⟩
    refine comp_upto ks.length (fun i s'' => ∃ m' la5 bg, B w (hide s.heap (Fps [EmbA w A S, DiA w d (refs ks la), RowsA ks la Rw])) C2 [] m' (fun _ => none) [FrA L (cellsFrom (L + 1) (fdOf (o941 w.params)).scope.names []) mL cmL, LiA acc2 ((ks.take i).map fun u => Value.ref (la5 u)), KItA I2 d (refs ks la).length ep2 i, RowsA (ks.take i) la5 bg, DiA w D (refs ks la2), RowsA ks la2 row, EmbA w A S, DtA w d (refs ks la) ep2, RowsA ks la Rw] s''.heap ∧
      (∀ u ∈ ks.take i, Begun (row u) (bg u)) ∧ AllBare s''.gens ∧ s''.os = s.os ∧ s''.drawn = s.drawn) ?_ ?_ ⟨_, fun _ => 0, fun _ => [], c16.noRowsAt (fun _ => 0) (fun _ => []) 3, fun u hu => by simp at hu, hB', ho', hd'⟩
    · rintro i s'' hlt ⟨m', la5, bg, c', bgs, hB', ho', hd'⟩
      have hu : ks[i]? = some ks[i] := List.getElem?_eq_getElem hlt
      generalize ks[i] = u at hu
      have mu : u ∈ ks := List.mem_of_getElem? hu
      have nu : u ∉ ks.take i := not_mem_take nd hu
      have tk1 : ks.take (i + 1) = ks.take i ++ [u] := by rw [List.take_add_one, hu]; rfl
      refine nextK_b 2 7 c' rfl rfl hu fun h9 t c9 => ⟨_, rfl, ?_⟩
      refine wpAny_assign_Name ?_
      (tm_at "v3")
      rename_i h10 c10
      refine wpAny_tests_nil ?_
      simp only [if_true]
      (tm_at "s22")
      refine gl_b c10 (kg_begun _) ?_ (by tm_at "u") (by tm_at "u") (by tm_at "u")
      (tm_at "s24"; tm_at "s25"; tm_at "s10")
      refine lk_b 0 c10 rfl (by tm_at "u") (by tm_at "M") e3 ?_ (by tm_at "u") (by tm_at "u")
      (tm_at "v1")
      refine getD_b 4 c10 rfl mu ?_ (by tm_at "u")
      (tm_at "s26"; tm_at "s30")
      refine callR (sum922 c10.gd (rd.less (j := 1) (by decide)) ((c10.at 5 rfl : (RowsA ks la2 row).ok h10) u mu).1 (Nat.le_trans (told_len o mu (hrow u mu).1) (by decide)) fun h11 tk11 dd r hb hk11 il11 hsz11 => ⟨_, rfl, ?_⟩)
      skip
      have c12 := (c10.newInts hk11 il11 hsz11).mergeAtR 3 rfl nu
      refine app_b 1 c12 rfl (by rw [List.length_map, List.length_take]; omega) fun h13 c13 => ?_
      rw [map_upd' nu, ← tk1] at c13
      refine ⟨_, upd la5 u dd, upd bg u r, c13, fun v hv => ?_, hB', ho', hd'⟩
      rw [tk1] at hv
      by_cases q : v = u
      · subst q; rw [upd_same]; exact hb
      · rw [upd_ne _ _ q]
        rcases List.mem_append.mp hv with z | z
        · exact bgs v z
        · exact absurd (List.mem_singleton.mp z) q
    · rintro s'' ⟨m', la5, bg, c', bgs, hB', ho', hd'⟩
      refine endK_b 2 7 c' rd.hd rfl rfl (by rw [refs_length]; exact Nat.le_refl _) fun h9 c9 => ⟨rfl, CompOut.intro c9 fun h20 c20 => ?_⟩
      rw [List.take_length] at c20 bgs
      have c21 := c20.undt 5 rfl
      skip
      refine ListComp_b (g := (hide s.heap (Fps [EmbA w A S, DiA w d (refs ks la), RowsA ks la Rw]))) (L := L) (cs := (cellsFrom (L + 1) (fdOf (o941 w.params)).scope.names [])) (m := mL) (cm := cmL) (by tm_at "u") (by rfl) (by decide) (by decide) ?_
      (tm_at "v2")
      refine iterD_b 5 c21 rfl fun h25 I3 ep3 c25 => ?_
      refine ⟨_, c25, fun C3 acc3 h26 tk26 c26 => ⟨fun Q' E' q => selfK_b 2 c26 rfl q, ?_⟩⟩
      refine comp_upto ks.length (fun i s'' => ∃ m' la6 bg2, B w (hide s.heap (Fps [EmbA w A S, DiA w d (refs ks la), RowsA ks la Rw])) C3 [] m' (fun _ => none) [FrA L (cellsFrom (L + 1) (fdOf (o941 w.params)).scope.names []) mL cmL, LiA acc3 ((ks.take i).map fun u => Value.ref (la6 u)), KItA I3 d (refs ks la).length ep3 i, RowsA (ks.take i) la6 bg2, LiA acc2 (ks.map fun u => Value.ref (la5 u)), RowsA ks la5 bg, DiA w D (refs ks la2), RowsA ks la2 row, EmbA w A S, DtA w d (refs ks la) ep3, RowsA ks la Rw] s''.heap ∧
        (∀ u ∈ ks.take i, Begun (Rw u) (bg2 u)) ∧ AllBare s''.gens ∧ s''.os = s.os ∧ s''.drawn = s.drawn) ?_ ?_ ⟨_, fun _ => 0, fun _ => [], c26.noRowsAt (fun _ => 0) (fun _ => []) 3, fun u hu => by simp at hu, hB', ho', hd'⟩
      · rintro i s'' hlt ⟨m', la6, bg2, c', bgs2, hB', ho', hd'⟩
        have hu : ks[i]? = some ks[i] := List.getElem?_eq_getElem hlt
        generalize ks[i] = u at hu
        have mu : u ∈ ks := List.mem_of_getElem? hu
        have nu : u ∉ ks.take i := not_mem_take nd hu
        have tk1 : ks.take (i + 1) = ks.take i ++ [u] := by rw [List.take_add_one, hu]; rfl
        refine nextK_b 2 9 c' rfl rfl hu fun h9 t c9 => ⟨_, rfl, ?_⟩
        refine wpAny_assign_Name ?_
        (tm_at "v3")
        rename_i h10 c10
        refine wpAny_tests_nil ?_
        simp only [if_true]
        (tm_at "s22")
        refine gl_b c10 (kg_begun _) ?_ (by tm_at "u") (by tm_at "u") (by tm_at "u")
        (tm_at "s24"; tm_at "s25"; tm_at "s10")
        refine lk_b 0 c10 rfl (by tm_at "u") (by tm_at "M") e2 ?_ (by tm_at "u") (by tm_at "u")
        (tm_at "v1")
        refine getDt_b 9 c10 rfl mu ?_ (by tm_at "u")
        (tm_at "s26"; tm_at "s30")
        have few50 : (Rw u).length ≤ 50 := by rw [(o.perm u mu).length_eq]; exact o.len mu
        refine callR (sum922 c10.gd (rd.less (j := 1) (by decide)) ((c10.at 10 rfl : (RowsA ks la Rw).ok h10) u mu).1 (Nat.le_trans few50 (by decide)) fun h11 tk11 dd r hb hk11 il11 hsz11 => ⟨_, rfl, ?_⟩)
        skip
        have c12 := (c10.newInts hk11 il11 hsz11).mergeAtR 3 rfl nu
        refine app_b 1 c12 rfl (by rw [List.length_map, List.length_take]; omega) fun h13 c13 => ?_
        rw [map_upd' nu, ← tk1] at c13
        refine ⟨_, upd la6 u dd, upd bg2 u r, c13, fun v hv => ?_, hB', ho', hd'⟩
        rw [tk1] at hv
        by_cases q : v = u
        · subst q; rw [upd_same]; exact hb
        · rw [upd_ne _ _ q]
          rcases List.mem_append.mp hv with z | z
          · exact bgs2 v z
          · exact absurd (List.mem_singleton.mp z) q
      · rintro s'' ⟨m', la6, bg2, c', bgs2, hB', ho', hd'⟩
        refine endK_b 2 9 c' rd.hd rfl rfl (by rw [refs_length]; exact Nat.le_refl _) fun h9 c9 => ⟨rfl, CompOut.intro c9 fun h30 c30 => ?_⟩
        rw [List.take_length] at c30 bgs2
        have R1 : Rows h30 acc2 ks la5 bg := ⟨(c30.at 2 rfl).1, fun u hu => ((c30.at 3 rfl : (RowsA ks la5 bg).ok h30) u hu).1⟩
        have R2 : Rows h30 acc3 ks la6 bg2 := ⟨(c30.at 0 rfl).1, fun u hu => ((c30.at 1 rfl : (RowsA ks la6 bg2).ok h30) u hu).1⟩
        refine eqRows R1 R2 rd.eq ?_
        have e : ks.map bg = ks.map bg2 := List.map_congr_left fun u hu => by
          obtain ⟨⟨p, q, e1, e2⟩, _⟩ := hrow u hu
          have n1 : (p ++ q).Nodup := e1 ▸ o.rnd u hu
          have b1 := bgs u hu
          have b2 := bgs2 u hu
          rw [e2] at b1
          rw [e1] at b2
          exact (Begun.same n1 b2 b1).symm
        rw [decide_eq_true e]
        have c31 := (c30.sub (Qs := [EmbA w A S, DtA w d (refs ks la) ep3, RowsA ks la Rw]) (.cons _ (.cons _ (.cons _ (.cons _ (.cons _ (.cons _ (.refl _)))))))).undt 1 rfl
        exact k _ (B.done c31) hB' ho' hd'
end
end Mine
end
section
open PySem PySem.W PySem.Calls PyProof.Rows
set_option maxRecDepth 100000
set_option maxHeartbeats 1000000
set_option linter.all false
namespace Mine
theorem kf_set (P : Params) : findIn (frag P) (.ref 906) (Str.ofString "__setattr__") = some (some (.builtin "object.__setattr__")) := by kernel_rfl!
theorem kp_over (P : Params) : plainOver (frag P) 906 = true := by kernel_rfl!
theorem kt_graph (P : Params) : takerIn (frag P) 906 (Str.ofString "graph") = some none := by kernel_rfl!
theorem kt_node (P : Params) : takerIn (frag P) 906 (Str.ofString "_node") = some none := by kernel_rfl!
theorem kt_adj (P : Params) : takerIn (frag P) 906 (Str.ofString "_adj") = some none := by kernel_rfl!
theorem kt_succ (P : Params) : takerIn (frag P) 906 (Str.ofString "_succ") = some none := by kernel_rfl!
theorem kt_pred (P : Params) : takerIn (frag P) 906 (Str.ofString "_pred") = some none := by kernel_rfl!
def SomeA (a : Addr) : Ast where
  fp b := b = a
  ok h := (∃ o, h.get? a = some o) ∧ topSize ≤ a
  loc := fun ⟨⟨o, x⟩, y⟩ k => ⟨⟨o, k _ o rfl x⟩, y⟩
  live := fun ⟨x, _⟩ b hb => hb ▸ x
  high := fun ⟨_, y⟩ b hb => hb ▸ y
section
variable {w : World} {Ar : Around} {E : Value → Shared → Prop} {s : Shared} {g h h' : Heap} {L : Addr} {m cm : Str → Option Value} {cs : List (Str × Addr)} {A : EA} {S S' : ES} {T : Tg → Prop} {env : Env} {Ps Qs Rs : List Ast} {x dx : Addr}
theorem sep_ne {P Q : Ast} {a b : Addr} (c : Sep Ps h) (i j : Nat) (lt : i < j) (hi : Ps[i]? = some P) (hj : Ps[j]? = some Q) (ha : P.fp a) (hb : Q.fp b) : a ≠ b := fun e => by
  obtain ⟨hi', rfl⟩ := List.getElem?_eq_some_iff.mp hi
  obtain ⟨hj', rfl⟩ := List.getElem?_eq_some_iff.mp hj
  exact List.pairwise_iff_getElem.mp c.dis i j hi' hj' lt a ha (e ▸ hb)
theorem Step.fold (c : Step Ps Qs h h') (y : Sep Rs h') (sub : ∀ b, Fps Rs b → Fps Qs b) : Step Ps Rs h h' := ⟨y, c.keep, fun b hb => c.new b (sub b hb)⟩
theorem wpAny_Assign_Attr {o : Expr} {attr : Str} {pos' pos : Pos} {value : Expr} {Q : Flow → Shared → Prop}
    (h : wpAny (model prog w) Ar (eval value env) (fun v s₁ => wpAny (model prog w) Ar (eval o env) (fun ov s₂ => wpAny (model prog w) Ar (setAttr ov attr v) (fun _ => Q .next) E s₂) E s₁) E s)
    (hs : swapsWith value (some (.Attribute o attr pos')) pos.line env = pure false := by rfl) : wpAny (model prog w) Ar (exec (.Assign [.Attribute o attr pos'] value pos) env) Q E s := fun Γ p hΓ => by
  simp only [plainObj_exec_Assign_Attribute o attr pos' value pos hs, assign_Attribute, Sem.wp_bind', Sem.wp_holding, Sem.wp_cmd_standAt, Sem.wp_release, Sem.wp_pure']
  exact Sem.wp_mono _ Γ _ (fun v p₁ s₁ h₁ => Sem.wp_mono _ Γ _ (fun ov _ s₂ h₂ => h₂ Γ _ hΓ) (fun _ _ _ h' => h') _ _ (h₁ Γ p₁ hΓ)) (fun _ _ _ h' => h') _ _ (h Γ _ hΓ)
theorem set_half {es : List DictEntry} {n : Nat} {name : Str} {v : Value} {Q : Unit → Shared → Prop} (i j : Nat) (c : B w g L cs m cm Ps s.heap) (hi : Ps[i]? = some (ObA x (instObj 906 dx))) (hj : Ps[j]? = some (ObA dx (dictOf es n)))
    (ht : takerIn (frag w.params) 906 name = some none) (hf : (es.all fun e => !e.key.isStr name && !e.refKey) = true) (few : es.length ≤ 100)
    (k : ∀ h' t tk, B w g L cs m cm (Ps.set j (ObA dx (dictOf (es ++ [⟨PyData.keyHash w.params name, .str name t, v⟩]) (n + 1)))) h' → Q () { s with heap := h', toks := tk }) :
    wpAny (model prog w) Ar (setAttr (.ref x) name v) Q E s := by
  have hx := (c.at i hi).1
  have D := (c.at j hj).1
  have I : InstAt s.heap x (instObj 906 dx) 906 (some (dictOf es n)) := ⟨hx, rfl, rfl, D⟩
  obtain ⟨cd, hc, hd'⟩ := any_some (kf_hd w.params)
  have f1 : ∀ e ∈ es, e.key.isStr name = false := fun e he => by
    have := List.all_eq_true.mp hf e he
    rw [Bool.and_eq_true, Bool.not_eq_true', Bool.not_eq_true'] at this
    exact this.1
  have f2 : ∀ e ∈ es, e.refKey = false := fun e he => by
    have := List.all_eq_true.mp hf e he
    rw [Bool.and_eq_true, Bool.not_eq_true', Bool.not_eq_true'] at this
    exact this.2
  refine set_plain c.kin I (kf_set _) ?_
  refine osa_open (s := { s with toks := s.toks + 1 }) c.kin I (kp_over _) ht fun b => ?_
  refine wpAny_bind (wpAny_pure (wpAny_bind (wpAny_bind (wpAny_loadPart hx (wpAny_bind (Looks.here (s := { s with toks := s.toks + 1 }) (looks_clsIn c.kin hc) ?_))))))
  rw [hd']
  refine wpAny_pure (a := some dx) (wpAny_bind (wpAny_pure (wpAny_bind ?_)))
  refine kw_set (s := { s with toks := s.toks + 1 }) D f1 f2 fun h' D' sb => ?_
  refine wpAny_bind (wpAny_lookBehind D' (by exact pastItsLine_dict (by rw [List.size_toArray, sizeLine_eq, List.length_append]; simp only [List.length_singleton]; omega)) ?_)
  exact wpAny_pure (k h' _ _ (c.step1 j hj (one_step sb rfl ⟨D', (c.at j hj).2⟩ fun _ z => z)))
theorem meth_half {es : List DictEntry} {n : Nat} {name : Str} {f : Addr} {pl : Sem Bool} {Q : Value × List Value → Shared → Prop} (i j : Nat) (c : B w g L cs m cm Ps s.heap) (hi : Ps[i]? = some (ObA x (instObj 906 dx))) (hj : Ps[j]? = some (ObA dx (dictOf es n)))
    (hf : findIn (frag w.params) (.ref 906) name = some (some (.ref f))) (ht : typeIn (frag w.params) (.ref f) = some (.type "function"))
    (hs : shadowIn (some (dictOf es n)) name = some false) (k : Q (.ref f, [.ref x]) s) : wpAny (model prog w) Ar (getMethod (.ref x) name pl) Q E s :=
  method_fn c.kin (⟨(c.at i hi).1, rfl, rfl, (c.at j hj).1⟩ : InstAt s.heap x (instObj 906 dx) 906 (some (dictOf es n))) (kf_ga _) (kf_gat _) hf ht hs k
theorem attr_half {es : List DictEntry} {n : Nat} {name : Str} {a : Addr} {expr : Bool} {Q : Value → Shared → Prop} (i j : Nat) (c : B w g L cs m cm Ps s.heap) (hi : Ps[i]? = some (ObA x (instObj 906 dx))) (hj : Ps[j]? = some (ObA dx (dictOf es n)))
    (hf : findIn (frag w.params) (.ref 906) name = some none) (hl : getL name es = some (some (.ref a)))
    (k : Q (.ref a) { s with toks := s.toks + 1 }) : wpAny (model prog w) Ar (getAttr (.ref x) name expr) Q E s :=
  get_value c.kin (⟨(c.at i hi).1, rfl, rfl, (c.at j hj).1⟩ : InstAt s.heap x (instObj 906 dx) 906 (some (dictOf es n))) (kf_ga _) (findObj_own (kf_hd _) hf rfl (by rw [lookIn_dict]; exact hl)) rfl k
theorem B.newOb (c : B w g L cs m cm Ps h) {D : Addr} {o : Obj} (hd : h.objs.size ≤ D) (ho : h'.get? D = some o) (k : ∀ b o, h.get? b = some o → h'.get? b = some o) : B w g L cs m cm (ObA D o :: Ps) h' :=
  c.more (fresh_step c.gd k ⟨ho, Nat.le_trans c.gd.size hd⟩ fun b hb => hb ▸ hd)
def A00 (x dx dg dn ds dp : Addr) : EA := { x := x, dx := dx, dg := dg, dn := dn, ds := ds, dp := dp, inn := fun _ => 0, pin := fun _ => 0, att := fun _ => 0, dat := fun _ _ => 0 }
def S00 : ES := { nn := [], ns := [], np := [], nbr := fun _ => [], pnb := fun _ => [], cw := fun _ _ => 0, ccw := fun _ _ => 0 }
theorem emb_fp {Q1 Q2 Q3 Q5 Q6 Q7 : Obj} {D dg dn ds dp b : Addr} (h : Fp (A00 x dx dg dn ds dp) S00 b) : Fps [ObA dp Q1, ObA ds Q2, ObA dn Q3, SomeA dg, ObA D Q5, ObA x Q6, ObA dx Q7] b := by
  obtain ⟨t, l, rfl⟩ := h
  cases t
  · exact ⟨ObA x Q6, by simp, rfl⟩
  · exact ⟨ObA dx Q7, by simp, rfl⟩
  · exact ⟨SomeA dg, by simp, rfl⟩
  · exact ⟨ObA dn Q3, by simp, rfl⟩
  · exact ⟨ObA ds Q2, by simp, rfl⟩
  · exact ⟨ObA dp Q1, by simp, rfl⟩
  · exact absurd l List.not_mem_nil
  · exact absurd l List.not_mem_nil
  · exact absurd l.1 List.not_mem_nil
theorem emb_bare {D dg dn ds dp : Addr} {t0 t1 t2 t3 t4 : Tok} (sp : Sep [ObA dp emptyDict, ObA ds emptyDict, ObA dn emptyDict, SomeA dg, ObA D emptyDict, ObA x (instObj 906 dx), ObA dx (dictOf (instEs w.params (A00 x dx dg dn ds dp) fun i => [t0, t1, t2, t3, t4].getD i 0) 5)] h) : EmbAt prog w h (A00 x dx dg dn ds dp) S00 := by
  have n01 : dp ≠ ds := sep_ne sp 0 1 (by decide) rfl rfl rfl rfl
  have n02 : dp ≠ dn := sep_ne sp 0 2 (by decide) rfl rfl rfl rfl
  have n03 : dp ≠ dg := sep_ne sp 0 3 (by decide) rfl rfl rfl rfl
  have n05 : dp ≠ x := sep_ne sp 0 5 (by decide) rfl rfl rfl rfl
  have n06 : dp ≠ dx := sep_ne sp 0 6 (by decide) rfl rfl rfl rfl
  have n12 : ds ≠ dn := sep_ne sp 1 2 (by decide) rfl rfl rfl rfl
  have n13 : ds ≠ dg := sep_ne sp 1 3 (by decide) rfl rfl rfl rfl
  have n15 : ds ≠ x := sep_ne sp 1 5 (by decide) rfl rfl rfl rfl
  have n16 : ds ≠ dx := sep_ne sp 1 6 (by decide) rfl rfl rfl rfl
  have n23 : dn ≠ dg := sep_ne sp 2 3 (by decide) rfl rfl rfl rfl
  have n25 : dn ≠ x := sep_ne sp 2 5 (by decide) rfl rfl rfl rfl
  have n26 : dn ≠ dx := sep_ne sp 2 6 (by decide) rfl rfl rfl rfl
  have n35 : dg ≠ x := sep_ne sp 3 5 (by decide) rfl rfl rfl rfl
  have n36 : dg ≠ dx := sep_ne sp 3 6 (by decide) rfl rfl rfl rfl
  have n56 : x ≠ dx := sep_ne sp 5 6 (by decide) rfl rfl rfl rfl
  have at_ : ∀ {P : Ast} (i : Nat), [ObA dp emptyDict, ObA ds emptyDict, ObA dn emptyDict, SomeA dg, ObA D emptyDict, ObA x (instObj 906 dx), ObA dx (dictOf (instEs w.params (A00 x dx dg dn ds dp) fun i => [t0, t1, t2, t3, t4].getD i 0) 5)][i]? = Option.some P → P.ok h := fun i hi => sp.ok _ (List.mem_of_getElem? hi)
  have no : ∀ u : Int, ¬ u ∈ ([] : List Int) := fun u => List.not_mem_nil
  refine { inst := (at_ 5 rfl).1, dict := ⟨_, (at_ 6 rfl).1⟩, graph := (at_ 3 rfl).1, node := empty_at (at_ 2 rfl).1, succ := empty_at (at_ 1 rfl).1, pred := empty_at (at_ 0 rfl).1, inn := fun u h => absurd h (no u), pin := fun u h => absurd h (no u), dat := fun u h => absurd h (no u), small := ?_, sep := ?_, high := ?_ }
  · exact ⟨Nat.zero_le _, Nat.zero_le _, Nat.zero_le _, fun u h => absurd h (no u), fun u h => absurd h (no u)⟩
  · intro t t' l l' q
    cases t <;> first | (exact absurd l (no _)) | (exact absurd l.1 (no _)) | skip
    all_goals (cases t' <;> first | (exact absurd l' (no _)) | (exact absurd l'.1 (no _)) | rfl | exact absurd q (by assumption) | exact absurd q.symm (by assumption))
  · intro t l
    cases t
    · exact (at_ 5 rfl).2
    · exact (at_ 6 rfl).2
    · exact (at_ 3 rfl).2
    · exact (at_ 2 rfl).2
    · exact (at_ 1 rfl).2
    · exact (at_ 0 rfl).2
    · exact absurd l (no _)
    · exact absurd l (no _)
    · exact absurd l.1 (no _)
local macro_rules | `(tactic| tm_at "k") => `(tactic| first | exact kk_915 _ | exact kk_922 _ | exact kk_929 _ | exact kk_936 _ | exact kk_941 _ | exact kk_825 _ | exact kk_802 _ | exact kk_853 _ | exact kk_788 _ | exact kk_816 _ | exact kk_614 _ | exact kk_809 _ | exact kk_860 _ | exact kk_867 _ | exact kk_839 _ | exact kk_846 _ | exact kk_261 _ | exact kk_268 _ | exact kk_275 _ | exact kk_282 _ | exact kk_289 _ | exact kk_296 _)
local macro_rules | `(tactic| tm_at "V") => `(tactic| first | assumption | exact C.v (by assumption) | exact C0.v (by assumption))
local macro_rules | `(tactic| tm_at "h") => `(tactic| first | assumption | with_unfolding_all assumption)
local macro_rules | `(tactic| tm_at "t") => `(tactic| first | assumption | (with_unfolding_all exact True.intro) | (with_unfolding_all exact fun q => Tg.noConfusion q))
local macro_rules | `(tactic| tm_at "M") => `(tactic| with_unfolding_all first | exact .head _ | exact .tail _ (.head _) | exact .tail _ (.tail _ (.head _)))
local macro_rules | `(tactic| tm_at "u") => `(tactic| with_unfolding_all rfl)
local macro_rules | `(tactic| tm_at "s1") => `(tactic| (with_reducible refine wpAny_execs_cons ?_))
local macro_rules | `(tactic| tm_at "s2") => `(tactic| (with_reducible refine wpAny_execs_nil ?_))
local macro_rules | `(tactic| tm_at "s11") => `(tactic| (with_reducible refine Attribute_Name_ ?_ (by tm_at "u")))
local macro_rules | `(tactic| tm_at "s12") => `(tactic| (with_reducible refine wpAny_Constant_str ?_))
local macro_rules | `(tactic| tm_at "s14") => `(tactic| (with_reducible refine wpAny_Constant_none ?_))
local macro_rules | `(tactic| tm_at "s18") => `(tactic| (with_reducible refine wpAny_Expr_any ?_ (by tm_at "u") (by tm_at "u")))
local macro_rules | `(tactic| tm_at "s21") => `(tactic| (with_reducible refine MethodCall_ ?_ (by tm_at "u")))
local macro_rules | `(tactic| tm_at "s24") => `(tactic| ((with_reducible show wpAny _ _ (callWith _ _ _ _ _) _ _ _); (try dsimp only); first
     | (with_reducible refine callWith_method1 ?_ (by tm_at "u") (by tm_at "u"))
     | (with_reducible refine callWith_method0 ?_)
     | (with_reducible refine callWith_K (B.kin (by assumption)) (by tm_at "k") ?_ (by tm_at "u") (by tm_at "u"))
     | (with_reducible refine callWith_K0 (B.kin (by assumption)) (by tm_at "k") ?_)
     | (with_reducible refine callWith_KW (B.kin (by assumption)) (by tm_at "k") (by tm_at "u") ?_ (by tm_at "u") (by tm_at "u"))
     | (with_reducible refine PyProof.Rows.callWith_type1 ?_ (by tm_at "u") (by tm_at "u"))))
local macro_rules | `(tactic| tm_at "s25") => `(tactic| (with_reducible refine spliced_more ?_ (by tm_at "u")))
local macro_rules | `(tactic| tm_at "s26") => `(tactic| ((with_reducible refine spliced_none ?_); try dsimp only [List.cons_append, List.nil_append]))
local macro_rules | `(tactic| tm_at "v1") => `(tactic| (with_unfolding_all refine ld_b (by assumption) (by first | rfl | assumption) ?_))
theorem sum570 {R : Result → Shared → Prop} {v : Value} (G : Gd w s.heap) (y : Sep [ObA x (instObj 906 dx), ObA dx (dictOf [] 0)] s.heap) (rm : Rm Ar 1)
   (k : ∀ h' tk A S, A.x = x → Bare S [] → Step [ObA x (instObj 906 dx), ObA dx (dictOf [] 0)] [EmbA w A S] s.heap h' → R (.ok (.ret .none)) { s with heap := h', toks := tk }) :
   codeAny (model prog w) Ar (.call (.ref 570) ⟨[.ref x], [(Str.ofString "incoming_graph_data", v)]⟩) R s := by
  refine enterA (o := o570 w.params) (fd := fdOf (o570 w.params)) (body := fbody (clsSt 14 1)) (binds := fun D => [(Str.ofString "self", .ref x), (Str.ofString "incoming_graph_data", v), (Str.ofString "attr", .ref D)]) G y rm.room (by rfl) (by rfl) (by kernel_rfl!) (by rfl) (fun {_ _ _} q => bind570 G.kin q) (by kernel_rfl!) (fun D => by kernel_rfl!) fun D L h₁ tk c => ?_
  refine PySem.wpAt_of_wpAny ?_
  have rd : Rm (Ar.deeper (callEnv (fdOf (o570 w.params)) L 570)) 0 := rm.deeper
  refine wpAny_execs_cons (wpAny_Assign_Attr ?_ (by tm_at "u"))
  (tm_at "s21"; tm_at "v1")
  refine meth_half 1 2 c rfl rfl (kf_m_graph_attr_dict_factory _) (kt_296 _) (by with_unfolding_all rfl) ?_
  (tm_at "s24")
  refine callR (sum296 c.gd rd.room fun h1 dg tk1 hdg odg k1 => ⟨_, rfl, ?_⟩)
  have c1 := c.newOb hdg odg k1
  (tm_at "v1")
  refine set_half 2 3 c1 rfl rfl (kt_graph _) (by with_unfolding_all rfl) (Nat.le_of_ble_eq_true rfl) fun h2 t2 tk2 c2 => ?_
  dsimp only [List.set, List.nil_append] at c2
  try dsimp only
  refine wpAny_execs_cons (wpAny_Assign_Attr ?_ (by tm_at "u"))
  (tm_at "s21"; tm_at "v1")
  refine meth_half 2 3 c2 rfl rfl (kf_m_node_dict_factory _) (kt_261 _) (by with_unfolding_all rfl) ?_
  (tm_at "s24")
  refine callR (sum261 c2.gd rd.room fun h3 dn tk3 hdn odn k3 => ⟨_, rfl, ?_⟩)
  have c3 := c2.newOb hdn odn k3
  (tm_at "v1")
  refine set_half 3 4 c3 rfl rfl (kt_node _) (by with_unfolding_all rfl) (Nat.le_of_ble_eq_true rfl) fun h4 t4 tk4 c4 => ?_
  dsimp only [List.set, List.nil_append, List.cons_append] at c4
  try dsimp only
  refine wpAny_execs_cons (wpAny_Assign_Attr ?_ (by tm_at "u"))
  (tm_at "s21"; tm_at "v1")
  refine meth_half 3 4 c4 rfl rfl (kf_m_adjlist_outer_dict_factory _) (kt_275 _) (by with_unfolding_all rfl) ?_
  (tm_at "s24")
  refine callR (sum275 c4.gd rd.room fun h5 ds tk5 hds ods k5 => ⟨_, rfl, ?_⟩)
  have c5 := c4.newOb hds ods k5
  (tm_at "v1")
  refine set_half 4 5 c5 rfl rfl (kt_adj _) (by with_unfolding_all rfl) (Nat.le_of_ble_eq_true rfl) fun h6 t6 tk6 c6 => ?_
  dsimp only [List.set, List.nil_append, List.cons_append] at c6
  try dsimp only
  refine wpAny_execs_cons (wpAny_Assign_Attr ?_ (by tm_at "u"))
  (tm_at "s11"; tm_at "v1")
  refine attr_half 4 5 c6 rfl rfl (kf_adj _) (by with_unfolding_all rfl) ?_
  (tm_at "v1")
  refine set_half 4 5 c6 rfl rfl (kt_succ _) (by with_unfolding_all rfl) (Nat.le_of_ble_eq_true rfl) fun h7 t7 tk7 c7 => ?_
  dsimp only [List.set, List.nil_append, List.cons_append] at c7
  try dsimp only
  refine wpAny_execs_cons (wpAny_Assign_Attr ?_ (by tm_at "u"))
  (tm_at "s21"; tm_at "v1")
  refine meth_half 4 5 c7 rfl rfl (kf_m_adjlist_outer_dict_factory _) (kt_275 _) (by with_unfolding_all rfl) ?_
  (tm_at "s24")
  refine callR (sum275 c7.gd rd.room fun h8 dp tk8 hdp odp k8 => ⟨_, rfl, ?_⟩)
  have c8 := c7.newOb hdp odp k8
  (tm_at "v1")
  refine set_half 5 6 c8 rfl rfl (kt_pred _) (by with_unfolding_all rfl) (Nat.le_of_ble_eq_true rfl) fun h9 t9 tk9 c9 => ?_
  dsimp only [List.set, List.nil_append, List.cons_append] at c9
  try dsimp only
  (tm_at "s1"; tm_at "s18"; tm_at "s21"; tm_at "v1")
  have da : h9.DictOf (PySem.strKind prog w) D [] := empty_at (c9.at 4 rfl).1
  have hDa : topSize ≤ D := (c9.at 4 rfl).2
  refine getMethod_builtin (s := { s with heap := h9, toks := tk9 }) da.typeIs PySem.F.plainAttrs_dict PySem.F.slot_dict_pop PySem.F.type_dict_pop da.mapOf.noDict ?_
  (tm_at "s24"; tm_at "s25"; tm_at "s12"; tm_at "s25"; tm_at "s14"; tm_at "s26")
  refine call_meetsIn PySem.F.slot_dict_pop (Heap.DictOf.typeIs (by exact da)) PySem.F.entry_dict_pop (PySem.F.args_dict_pop_3 _ _ _) (meets_dict_pop_default (PySem.strKind prog w) D (is_str _ _) (not_sys hDa) (by rfl) _) ⟨_, da, rfl, ?_⟩
  (tm_at "s1"; tm_at "s18"; tm_at "s21"; tm_at "s11"; tm_at "v1")
  refine attr_half 5 6 c9 rfl rfl (kf_graph _) (by with_unfolding_all rfl) ?_
  have dgd : h9.DictOf (PySem.strKind prog w) dg [] := empty_at (c9.at 3 rfl).1
  skip
  refine getMethod_builtin (Heap.DictOf.typeIs (by exact dgd)) PySem.F.plainAttrs_dict PySem.F.slot_dict_update PySem.F.type_dict_update dgd.mapOf.noDict ?_
  (tm_at "s24"; tm_at "s25"; tm_at "v1"; tm_at "s26")
  have ne : dg ≠ D := sep_ne c9.psep 3 4 (by decide) rfl rfl rfl rfl
  refine call_meetsIn PySem.F.slot_dict_update (Heap.DictOf.typeIs (by exact dgd)) PySem.F.entry_dict_update (PySem.F.args_dict_update_2 _ _) (meets_dict_update (PySem.strKind prog w) dg D ne (not_sys hDa)) ⟨_, _, dgd, da, (by decide), fun h10 hd10 _ sb10 => ?_⟩
  have c10 := c9.step1 (P' := SomeA dg) 3 rfl (one_step sb10 rfl ⟨by obtain ⟨o, _, _, ho, _⟩ := hd10; exact ⟨o, ho⟩, (c9.at 3 rfl).2⟩ fun _ z => z)
  dsimp only [List.set] at c10
  (tm_at "s2")
  refine k _ _ (A00 x dx dg dn ds dp) S00 rfl ⟨rfl, rfl, rfl, fun u h => absurd h List.not_mem_nil⟩ (Step.fold (B.done c10) ⟨fun P hP => by rw [List.mem_singleton.mp hP]; exact emb_bare c10.psep, List.pairwise_singleton ..⟩ fun b hb => ?_)
  obtain ⟨P, hP, hb⟩ := hb
  rw [List.mem_singleton.mp hP] at hb
  exact emb_fp hb
end
end Mine
end
section
open PySem PySem.W PySem.Calls PyProof.Rows
set_option maxRecDepth 100000
set_option maxHeartbeats 1000000
set_option linter.all false
namespace Mine
theorem km_make (P : Params) : makesIn (frag P) 906 = true := by kernel_rfl!
theorem kf_init (P : Params) : findIn (frag P) (.ref 906) (Str.ofString "__init__") = some (some (.ref 781)) := by kernel_rfl!
theorem kt_781 (P : Params) : typeIn (frag P) (.ref 781) = some (.type "function") := by kernel_rfl!
theorem kk_906 (P : Params) : keepIn (frag P) (.ref 906) = true := by kernel_rfl!
section
variable {w : World} {Ar : Around} {E : Value → Shared → Prop} {s : Shared} {g h h' : Heap} {L : Addr} {m cm : Str → Option Value} {cs : List (Str × Addr)} {A : EA} {S S' : ES} {T : Tg → Prop} {env : Env} {Ps Qs Rs : List Ast} {x dx : Addr}
theorem Rm.make {k : Nat} (r : Rm Ar (k + 1)) (C : Addr) (vals : List Value) : Rm (Ar.under (.builtin "type.__call__" ⟨.ref C :: vals, []⟩)) k :=
  ⟨by have := r.depth; rw [depth_under_make]; omega, by have := r.units; rw [units_under_make]; omega, r.hd⟩
local macro_rules | `(tactic| tm_at "k") => `(tactic| first | exact kk_915 _ | exact kk_922 _ | exact kk_929 _ | exact kk_936 _ | exact kk_941 _ | exact kk_825 _ | exact kk_802 _ | exact kk_853 _ | exact kk_788 _ | exact kk_816 _ | exact kk_614 _ | exact kk_809 _ | exact kk_860 _ | exact kk_867 _ | exact kk_839 _ | exact kk_846 _ | exact kk_261 _ | exact kk_268 _ | exact kk_275 _ | exact kk_282 _ | exact kk_289 _ | exact kk_296 _)
local macro_rules | `(tactic| tm_at "V") => `(tactic| first | assumption | exact C.v (by assumption) | exact C0.v (by assumption))
local macro_rules | `(tactic| tm_at "h") => `(tactic| first | assumption | with_unfolding_all assumption)
local macro_rules | `(tactic| tm_at "t") => `(tactic| first | assumption | (with_unfolding_all exact True.intro) | (with_unfolding_all exact fun q => Tg.noConfusion q))
local macro_rules | `(tactic| tm_at "M") => `(tactic| with_unfolding_all first | exact .head _ | exact .tail _ (.head _) | exact .tail _ (.tail _ (.head _)))
local macro_rules | `(tactic| tm_at "u") => `(tactic| with_unfolding_all rfl)
local macro_rules | `(tactic| tm_at "s2") => `(tactic| (with_reducible refine wpAny_execs_nil ?_))
local macro_rules | `(tactic| tm_at "v1") => `(tactic| (with_unfolding_all refine ld_b (by assumption) (by first | rfl | assumption) ?_))
theorem sum781 {R : Result → Shared → Prop} (G : Gd w s.heap) (y : Sep [ObA x (instObj 906 dx), ObA dx (dictOf [] 0)] s.heap) (rm : Rm Ar 2)
   (k : ∀ h' tk A S, A.x = x → Bare S [] → Step [ObA x (instObj 906 dx), ObA dx (dictOf [] 0)] [EmbA w A S] s.heap h' → R (.ok (.ret .none)) { s with heap := h', toks := tk }) :
   codeAny (model prog w) Ar (.call (.ref 781) ⟨[.ref x], []⟩) R s := by
  refine enterA (o := o781 w.params) (fd := fdOf (o781 w.params)) (body := fbody (clsSt 16 0)) (binds := fun D => [(Str.ofString "self", .ref x), (Str.ofString "incoming_graph_data", .none), (Str.ofString "attr", .ref D)]) G y rm.room (by rfl) (by rfl) (by kernel_rfl!) (by rfl) (fun {_ _ _} q => bind781 G.kin q) (by kernel_rfl!) (fun D => by kernel_rfl!) fun D L h₁ tk c => ?_
  have rd : Rm (Ar.deeper (callEnv (fdOf (o781 w.params)) L 781)) 1 := rm.deeper
  refine PySem.ks_wpAt_execs_cons (PySem.ks_wpAt_Expr_any ?_ (by tm_at "u") (by tm_at "u"))
  have hx := c.at 1 (P := ObA x (instObj 906 dx)) rfl
  refine super_callS (x := x) (dx := dx) (fa := 781) (f2 := 570) (cc := 780) (of := o781 w.params) (oc := o780 w.params) (fd := fdOf (o781 w.params)) (ar := ((fdOf (o781 w.params)).params.args.head?.getD default)) c.gd hx.1 hx.2 ?_ (by tm_at "u") (by tm_at "u") (by tm_at "u") (by kernel_rfl!) (by tm_at "u") (by tm_at "u") (by kernel_rfl!) (by tm_at "u") (by kernel_rfl!) (by tm_at "u") (by tm_at "u") (by tm_at "u") (by kernel_rfl!) (by tm_at "u") (by tm_at "u") (by kernel_rfl!) (ka_init _) (kt_570 _) (kf_570 _) ?_ (by tm_at "u")
  · intro s' hs' Q' hQ'
    show wpAny _ _ (loadName _ (Str.ofString "self")) _ _ _
    have ns' : s'.heap.Ns L (m0 [(Str.ofString "self", .ref x), (Str.ofString "incoming_graph_data", .none), (Str.ofString "attr", .ref D)]) := by rw [hs']; exact c.ns
    exact wpAny_loadName_local (by tm_at "u") (by tm_at "u") ns' (by rfl) hQ'
  · intro q h1 tk1 hk hm
    have c1 := c.keeps hk
    refine args_two (a := D) (v := .none) c1.gd (c1.at 0 rfl).1 (c1.at 0 rfl).2 ?_ ?_ fun h2 tk2 k2 => ⟨k2, ?_⟩
    · intro s' k' Q' q
      have c2 := c1.keeps k'
      refine wpAny_bind ?_
      (tm_at "v1")
      exact wpAny_bind (wpAny_standAt (wpAny_pure q))
    · intro s' k' Q' q
      have c2 := c1.keeps k'
      refine wpAny_bind ?_
      (tm_at "v1")
      exact wpAny_bind (wpAny_standAt (wpAny_pure q))
    · have c2 := c1.keeps k2
      have y2 : Sep [ObA x (instObj 906 dx), ObA dx (dictOf [] 0)] h2 := c2.psep.tail
      refine sum570 c2.gd y2 rd fun h3 tk3 A S hA hB st => ⟨_, rfl, ?_⟩
      have c3 := B.step (Qs := [ObA x (instObj 906 dx), ObA dx (dictOf [] 0)]) (Rs := [ObA D emptyDict]) (c2.perm (List.perm_append_comm (l₁ := [ObA D emptyDict]))) st
      have c4 := (c3.perm (List.perm_append_comm (l₁ := [EmbA w A S]) (l₂ := [ObA D emptyDict]))).drop
      try dsimp only
      refine PySem.wpAt_of_wpAny ?_
      (tm_at "s2")
      exact k _ _ A S hA hB (B.done c4)
theorem sum906 {R : Result → Shared → Prop} (G : Gd w s.heap) (rm : Rm Ar 3)
   (k : ∀ h' tk A S, Bare S [] → Step [] [EmbA w A S] s.heap h' → R (.ok (.ret (.ref A.x))) { s with heap := h', toks := tk }) :
   codeAny (model prog w) Ar (.call (.ref 906) ⟨[], []⟩) R s := by
  obtain ⟨hh, gg, dd, tk, os⟩ := s
  refine make_core (makes_of G.kin (km_make _)) (looks_findIn G.kin (kf_init _)) (fun self => bind_fn G.kin self (kt_781 _)) (.inl rfl) ?_
  have e1 := new_step G emptyDict rfl
  have G1 : Gd w (hh.push emptyDict) := G.keeps fun b o e => Heap.get?_push_of_some _ e
  have e2 := new_step G1 (instObj 906 hh.objs.size) rfl
  rw [Heap.size_push] at e2
  have st : Step [] [ObA (hh.objs.size + 1) (instObj 906 hh.objs.size), ObA hh.objs.size (dictOf [] 0)] hh ((hh.push emptyDict).push (instObj 906 hh.objs.size)) :=
    e1.trans (Step.frame (Qs := [ObA hh.objs.size emptyDict]) e2 e1.sep)
  have G2 : Gd w ((hh.push emptyDict).push (instObj 906 hh.objs.size)) := G1.keeps fun b o e => Heap.get?_push_of_some _ e
  refine sum781 (s := ⟨_, gg, dd, tk, os⟩) G2 st.sep (rm.make 906 []) fun h' tk' A S hA hB st' => ⟨rfl, ?_⟩
  have := k h' tk' A S hB (st.trans st')
  rw [hA] at this
  exact this
theorem make_b {cs : List (Str × Addr)} {Q : Value → Shared → Prop} (c : B w g L cs m cm Ps s.heap) (rm : Rm Ar 3) (k : ∀ h' tk A S, Bare S [] → B w g L cs m cm (EmbA w A S :: Ps) h' → Q (.ref A.x) { s with heap := h', toks := tk }) :
   wpAny (model prog w) Ar (call (.ref 906) []) Q E s := callR (sum906 c.gd rm fun h' tk A S hB st => ⟨_, rfl, k _ _ _ _ hB (c.more st)⟩)
end
end Mine
end
section
open PySem PySem.W PySem.Calls PyProof.Rows
set_option maxRecDepth 100000
set_option maxHeartbeats 1000000
set_option linter.all false
namespace Mine
structure Tr (base : Heap) (l : List Env) (e : Addr) (cls cx fl : Value) (h : Heap) : Prop where
  stay : base.StaysIn h
  new : base.get? e = none
  fun_ : h.FunFrames base l
  recd : ∃ oe vs T oT ts, h.get? e = some oe ∧ oe.cls = cls ∧ oe.data = .fields vs ∧ vs.size = 6 ∧ vs[1]? = some (.ref T) ∧ vs[2]? = some cx ∧ base.get? T = none ∧ T ≠ e ∧ h.get? T = some oT ∧ oT.data = .fields ts ∧ ts[3]? = some fl
section
variable {M : Model} {Ar : Around} {E : Value → Shared → Prop} {s : Shared} {base : Heap} {env : Env} {outer l : List Env} {L e : Addr} {cls cx fl : Value}
theorem Tr.keeps {h h' : Heap} (x : Tr base l e cls cx fl h) (k : ∀ b o, h.get? b = some o → h'.get? b = some o) : Tr base l e cls cx fl h' := by
  obtain ⟨a, b, c, oe, vs, T, oT, ts, h1, h2, h3, h4, h5, h6, h7, h8, h9, r⟩ := x
  exact ⟨fun p o q => k p o (a p o q), b, c.of_keeps fun p o q _ => ⟨o, k p o q, rfl⟩, oe, vs, T, oT, ts, k _ _ h1, h2, h3, h4, h5, h6, h7, h8, k _ _ h9, r⟩
theorem Tr.type {h : Heap} (x : Tr base l e cls cx fl h) : ∃ oe, h.get? e = some oe ∧ oe.cls = cls := let ⟨oe, _, _, _, _, h1, h2, _⟩ := x.recd; ⟨oe, h1, h2⟩
theorem Tr.frame {h h' : Heap} {L' : Addr} {m : Str → Option Value} (x : Tr base l e cls cx fl h) (hs : Heap.SameBut L' h h') (hn0 : base.get? L' = none) (hn : h.Ns L' m) {m' : Str → Option Value} (hn' : h'.Ns L' m') : Tr base l e cls cx fl h' := by
  obtain ⟨a, b, c, oe, vs, T, oT, ts, h1, h2, h3, h4, h5, h6, h7, h8, h9, h10, r⟩ := x
  obtain ⟨o0, es0, ep0, ho0, hd0, _⟩ := hn
  obtain ⟨o1, es1, ep1, ho1, hd1, _⟩ := hn'
  have n1 : e ≠ L' := fun z => by rw [z, ho0] at h1; injection h1 with h1; subst h1; rw [hd0] at h3; cases h3
  have n2 : T ≠ L' := fun z => by rw [z, ho0] at h9; injection h9 with h9; subst h9; rw [hd0] at h10; cases h10
  refine ⟨fun p o q => (hs.2 p fun z => by rw [z, hn0] at q; cases q).trans (a p o q), b, ?_, oe, vs, T, oT, ts, (hs.2 _ n1).trans h1, h2, h3, h4, h5, h6, h7, h8, (hs.2 _ n2).trans h9, h10, r⟩
  clear h1 h9 n1 n2 a
  induction l with
  | nil => trivial
  | cons env rest ih =>
    obtain ⟨hk, ⟨Lf, o, hf, hnf, ho, hd⟩, hr⟩ := c
    refine ⟨hk, ?_, ih hr⟩
    by_cases q : Lf = L'
    · subst q; exact ⟨Lf, o1, hf, hnf, ho1, fun vs z => by rw [hd1] at z; cases z⟩
    · exact ⟨Lf, o, hf, hnf, (hs.2 _ q).trans ho, hd⟩
theorem tr_entry {oe : Obj} {vs : Array Value} {head : Value} {hadNext : Bool} {Q : Unit → Shared → Prop}
    (hfr : Ar.frames = some (env :: outer)) (hl : s.heap.FunFrames base (env :: outer)) (hf : env.frame = some L)
    (he : s.heap.get? e = some oe) (hkb : base.StaysIn s.heap) (hen : base.get? e = none) (hd : oe.data = .fields vs) (hsz : vs.size = 6) (h2 : vs[2]? = some cx)
    (h : ∀ h', Tr base (env :: outer) e oe.cls cx (rawInt L) h' → s.heap.UpToSlots h' → Q () { s with heap := h' }) :
    wpAny M Ar (do let a ← frameOf env; let pl ← entryPlaceOf L hadNext; let b ← EntryCells.newEntry head a .none (rawInt L) .none pl; setField (.ref e) 1 b) Q E s := by
  have hene : e ∉ (env :: outer).filterMap (·.frame) := fun hm => by
    obtain ⟨_, o, ho, hnf⟩ := hl.mem hm
    rw [he] at ho; injection ho with ho; subst ho; exact hnf vs hd
  refine wpAny_bind (wpAny_frameOf_fun hfr hl hf fun h₁ hs₁ => ?_)
  refine wpAny_bind (wpAny_entryPlaceOf fun pl hpl => ?_)
  unfold EntryCells.newEntry newFields
  refine wpAny_bind (wpAny_newObj_type ?_ (hpl.sizeOk5 _ _ _ _ _))
  have he₁ : h₁.get? e = some oe := (hs₁.2.1 e hene).trans he
  have kb₁ : base.StaysIn h₁ := fun b o hbo => (hs₁.2.1 b fun hm => by rw [(hl.mem hm).1] at hbo; cases hbo).trans (hkb b o hbo)
  generalize hTO : ({ cls := .type "traceback", dict := none, data := .fields ([head, .ref L, .none, rawInt L, .none] ++ (if pl.isEmpty then List.replicate 6 Value.none else pl)).toArray } : Obj) = tb
  have hTf : tb.isFreed = false := by rw [← hTO]; rfl
  have he₂ := Heap.get?_push_of_some (h := h₁) tb he₁
  refine wpAny_setField he₂ hd (by omega) (h _ ?_ ?_)
  · have hTe : h₁.objs.size ≠ e := Nat.ne_of_gt (Heap.lt_size he₁)
    have hd₃ := Obj.data_mapFields hd (·.setIfInBounds 1 (Value.ref h₁.objs.size))
    have keep : ∀ b o, b ≠ e → h₁.get? b = some o → ((h₁.push tb).update e (Obj.mapFields (·.setIfInBounds 1 (Value.ref h₁.objs.size)))).get? b = some o := fun b o hbe hb => by
      rw [Heap.get?_update_other _ _ (Ne.symm hbe)]; exact Heap.get?_push_of_some _ hb
    refine ⟨fun b o hbo => keep b o (fun q => by rw [q, hen] at hbo; cases hbo) (kb₁ b o hbo), hen, ?_, _, _, h₁.objs.size, tb, _, Heap.get?_update_self _ he₂ (Obj.isFreed_of_fields hd₃), Obj.cls_mapFields _ _, hd₃, by simp [hsz], by simp [hsz], ?_, kb₁.fresh, hTe, ?_, by rw [← hTO], ?_⟩
    · refine (hl.of_slotsOnly hs₁).of_keeps fun b o hb hnf => ⟨o, keep b o (fun q => ?_) hb, rfl⟩
      rw [q, he₁] at hb; injection hb with hb; subst hb; exact hnf vs hd
    · rw [Array.getElem?_setIfInBounds_ne (by decide)]; exact h2
    · rw [Heap.get?_update_other _ _ (Ne.symm hTe)]; exact Heap.get?_push_size h₁ hTf
    · first | (simp; done) | (rcases hpl with rfl | ⟨_, _, _, _, _, _, _, rfl⟩ <;> simp)
  · intro b o hb hnf
    have nb : b ≠ e := fun q => by rw [q, he] at hb; injection hb with hb; subst hb; exact hnf vs hd
    obtain ⟨sl, hs⟩ := hs₁.2.2 b o hb
    exact ⟨sl, by rw [Heap.get?_update_other _ _ (Ne.symm nb)]; exact Heap.get?_push_of_some _ hs⟩
theorem tr_first {oe : Obj} {vs : Array Value} {Q : Unit → Shared → Prop}
    (hfr : Ar.frames = some (env :: outer)) (hl : s.heap.FunFrames base (env :: outer)) (hf : env.frame = some L)
    (he : s.heap.get? e = some oe) (hkb : base.StaysIn s.heap) (hen : base.get? e = none) (hd : oe.data = .fields vs) (hsz : vs.size = 6) (h1 : vs[1]? = some .none) (h2 : vs[2]? = some cx)
    (h : ∀ h', Tr base (env :: outer) e oe.cls cx (rawInt L) h' → s.heap.UpToSlots h' → Q () { s with heap := h' }) : wpAny M Ar (noteFrame (.ref e) env) Q E s := by
  unfold noteFrame
  simp only [hf]
  refine wpAny_bind (wpAny_field he hd h1 ?_)
  rw [if_neg (by decide)]
  exact tr_entry hfr hl hf he hkb hen hd hsz h2 h
theorem tr_again {Q : Unit → Shared → Prop} (hf : env.frame = some L) (x : Tr base l e cls cx (rawInt L) s.heap) (h : Q () s) : wpAny M Ar (noteFrame (.ref e) env) Q E s := by
  obtain ⟨oe, vs, T, oT, ts, h1, h2, h3, h4, h5, h6, h7, h8, h9, h10, h11⟩ := x.recd
  unfold noteFrame
  simp only [hf]
  refine wpAny_bind (wpAny_field h1 h3 h5 ?_)
  rw [if_pos (show (Value.ref T != Value.none) = true from by simp)]
  refine wpAny_bind (wpAny_field h9 h10 h11 ?_)
  rw [if_pos (show (rawInt L == rawInt L) = true from by simp)]
  exact wpAny_pure h
theorem tr_set {fr : Option Addr} {Q : Unit → Shared → Prop} (x : Tr base l e cls cx fl s.heap) (h : ∀ h', Tr base l e cls cx (fr.elim .none fun f => rawInt f) h' → s.heap.UpToSlots h' → Q () { s with heap := h' }) :
    wpAny M Ar (setFlight (.ref e) fr) Q E s := by
  obtain ⟨a, b, c, oe, vs, T, oT, ts, h1, h2, h3, h4, h5, h6, h7, h8, h9, h10, h11⟩ := x
  have hsz3 : 3 < ts.size := (Array.getElem?_eq_some_iff.mp h11).1
  have other : ∀ p, p ≠ T → (s.heap.update T (Obj.mapFields (·.setIfInBounds 3 (fr.elim Value.none fun f => rawInt f)))).get? p = s.heap.get? p := fun p hp => Heap.get?_update_other _ _ (Ne.symm hp)
  have noRecord : ∀ p o, s.heap.get? p = some o → (∀ vs, o.data ≠ .fields vs) → p ≠ T := fun p o hp hnf q => by
    rw [q, h9] at hp; injection hp with hp; subst hp; exact hnf ts h10
  unfold setFlight
  refine wpAny_bind (wpAny_field h1 h3 h5 ?_)
  rw [if_pos (show (Value.ref T != Value.none) = true from by simp)]
  refine wpAny_setField h9 h10 hsz3 (h _ ⟨fun p o q => (other p fun z => by rw [z, h7] at q; cases q).trans (a p o q), b, c.of_keeps fun p o hp hnf => ⟨o, (other p (noRecord p o hp hnf)).trans hp, rfl⟩, oe, vs, T, _, _, (other e (Ne.symm h8)).trans h1, h2, h3, h4, h5, h6, h7, h8, Heap.get?_update_self _ h9 (Obj.isFreed_of_fields (Obj.data_mapFields h10 _)), Obj.data_mapFields h10 _, by simp [hsz3]⟩ fun p o hp hnf => ⟨o.slots, (other p (noRecord p o hp hnf)).trans hp⟩)
theorem tr_next {Q : Unit → Shared → Prop} (hfr : Ar.frames = some (env :: outer)) (hf : env.frame = some L) (x : Tr base (env :: outer) e cls cx .none s.heap)
    (h : ∀ h', Tr base (env :: outer) e cls cx (rawInt L) h' → s.heap.UpToSlots h' → Q () { s with heap := h' }) : wpAny M Ar (noteFrame (.ref e) env) Q E s := by
  obtain ⟨a, b, c, oe, vs, T, oT, ts, h1, h2, h3, h4, h5, h6, h7, h8, h9, h10, h11⟩ := x
  have hsz3 : 3 < ts.size := (Array.getElem?_eq_some_iff.mp h11).1
  have other : ∀ p, p ≠ T → (s.heap.update T (Obj.mapFields (·.setIfInBounds 3 Value.none))).get? p = s.heap.get? p := fun p hp => Heap.get?_update_other _ _ (Ne.symm hp)
  have noRecord : ∀ p o, s.heap.get? p = some o → (∀ vs, o.data ≠ .fields vs) → p ≠ T := fun p o hp hnf q => by
    rw [q, h9] at hp; injection hp with hp; subst hp; exact hnf ts h10
  unfold noteFrame
  simp only [hf]
  refine wpAny_bind (wpAny_field h1 h3 h5 ?_)
  rw [if_pos (show (Value.ref T != Value.none) = true from by simp)]
  refine wpAny_bind (wpAny_field h9 h10 h11 ?_)
  rw [if_neg (show ¬ ((Value.none == rawInt L) = true) from by simp [rawInt])]
  refine wpAny_bind (wpAny_setField h9 h10 hsz3 ?_)
  subst h2
  refine tr_entry hfr (c.of_keeps fun p o hp hnf => ⟨o, (other p (noRecord p o hp hnf)).trans hp, rfl⟩) hf ((other e (Ne.symm h8)).trans h1) (fun p o q => (other p fun z => by rw [z, h7] at q; cases q).trans (a p o q)) b h3 h4 h6 fun h' t u => h h' t fun p o hp hnf => u p o ((other p (noRecord p o hp hnf)).trans hp) hnf
theorem Tr.pop {h : Heap} (x : Tr base (env :: outer) e cls cx fl h) : Tr base outer e cls cx fl h := ⟨x.stay, x.new, x.fun_.2.2, x.recd⟩
theorem tr_leave_held {Q : Unit → Shared → Prop} (hf : env.frame = some L) (x : Tr base (env :: outer) e cls cx (rawInt L) s.heap) (h : ∀ h', Tr base outer e cls cx .none h' → s.heap.UpToSlots h' → Q () { s with heap := h' }) : wpAny M Ar (leaving env (.ref e)) Q E s := by
  unfold leaving
  exact wpAny_bind (tr_again hf x (tr_set (fr := none) x fun h' y u => h h' y.pop u))
theorem tr_leave_next {Q : Unit → Shared → Prop} (hfr : Ar.frames = some (env :: outer)) (hf : env.frame = some L) (x : Tr base (env :: outer) e cls cx .none s.heap) (h : ∀ h', Tr base outer e cls cx .none h' → s.heap.UpToSlots h' → Q () { s with heap := h' }) : wpAny M Ar (leaving env (.ref e)) Q E s := by
  unfold leaving
  exact wpAny_bind (tr_next hfr hf x fun h1 y u => tr_set (fr := none) y fun h' y' u' => h h' y'.pop (u.trans u'))
theorem tr_leave_first {oe : Obj} {vs : Array Value} {Q : Unit → Shared → Prop}
    (hfr : Ar.frames = some (env :: outer)) (hl : s.heap.FunFrames base (env :: outer)) (hf : env.frame = some L)
    (he : s.heap.get? e = some oe) (hkb : base.StaysIn s.heap) (hen : base.get? e = none) (hd : oe.data = .fields vs) (hsz : vs.size = 6) (h1 : vs[1]? = some .none) (h2 : vs[2]? = some cx)
    (h : ∀ h', Tr base outer e oe.cls cx .none h' → s.heap.UpToSlots h' → Q () { s with heap := h' }) : wpAny M Ar (leaving env (.ref e)) Q E s := by
  unfold leaving
  exact wpAny_bind (tr_first hfr hl hf he hkb hen hd hsz h1 h2 fun h1 y u => tr_set (fr := none) y fun h' y' u' => h h' y'.pop (u.trans u'))
theorem tr_came {Q : Value → Shared → Prop} (hf : env.frame = some L) (x : Tr base l e cls cx fl s.heap) (h : ∀ h', Tr base l e cls cx (rawInt L) h' → s.heap.UpToSlots h' → Q (.ref e) { s with heap := h' }) : cameBackBy M Ar env Q (.ref e) s := by
  obtain ⟨oe, vs, T, oT, ts, h1, h2, h3, h4, h5, h6, h7, h8, h9, h10, h11⟩ := x.recd
  unfold cameBackBy
  refine wpAny_bind (wpAny_field h1 h3 h5 ?_)
  rw [if_neg (show ¬ ((Value.ref T == Value.none) = true) from by simp)]
  rw [hf]
  exact tr_set (fr := some L) x fun h' y u => h h' y u
theorem tr_pass {α : Type} {what : String} {Q : α → Shared → Prop} (hf : env.frame = some L) (x : Tr base l e cls cx fl s.heap) (h : ∀ h', Tr base l e cls cx (rawInt L) h' → s.heap.UpToSlots h' → E (.ref e) { s with heap := h' }) : wpAny M Ar (PySem.passOn what (.ref e) env : Sem α) Q E s := by
  obtain ⟨oe, vs, T, oT, ts, h1, h2, h3, h4, h5, h6, h7, h8, h9, h10, h11⟩ := x.recd
  unfold PySem.passOn
  refine wpAny_bind (wpAny_field h1 h3 h5 ?_)
  rw [if_neg (show ¬ ((Value.ref T == Value.none) = true) from by simp)]
  rw [hf]
  exact wpAny_bind (tr_set (fr := some L) x fun h' y u => wpAny_throw (h h' y u))
end
end Mine
end
section
open PySem PySem.W PySem.Calls PyProof.Rows
set_option maxRecDepth 100000
set_option maxHeartbeats 1000000
set_option linter.all false
namespace Mine
theorem below_push {Ar : Around} {base h₀ h : Heap} {outer : List Env} {env : Env} {L : Addr} {m : Str → Option Value} (K : Below Ar base outer h₀) (keep : ∀ b o, h₀.get? b = some o → h.get? b = some o) (ns : h.Ns L m) (hL : h₀.objs.size ≤ L) (hf : env.frame = some L := by rfl) (hk : env.scope.kind ≠ .module := by decide) :
    Below (Ar.deeper env) base (env :: outer) h := by
  obtain ⟨k1, k2, k3⟩ := K
  refine ⟨Around.frames_deeper k1, fun b o e => keep b o (k2 b o e), hk, ?_, k3.of_keeps fun b o e _ => ⟨o, keep b o e, rfl⟩⟩
  obtain ⟨o, es, ep, ho, hd, _⟩ := ns
  refine ⟨L, o, hf, ?_, ho, fun vs z => by rw [hd] at z; cases z⟩
  cases q : base.get? L with
  | none => rfl
  | some o' => exact absurd (Heap.lt_size (k2 _ _ q)) (Nat.not_lt.mpr hL)
theorem stays_new {base h : Heap} {e : Addr} (K : base.StaysIn h) (hn : h.get? e = none) : base.get? e = none := by
  cases q : base.get? e with
  | none => rfl
  | some o => have := K _ _ q; rw [hn] at this; cases this
theorem below_new {Ar : Around} {base h : Heap} {outer : List Env} {e : Addr} (K : Below Ar base outer h) (hn : h.get? e = none) : base.get? e = none := by
  cases q : base.get? e with
  | none => rfl
  | some o => have := K.stays _ _ q; rw [hn] at this; cases this
section
variable {w : World} {Ar : Around} {E : Value → Shared → Prop} {s : Shared} {g h h' : Heap} {L : Addr} {m : Str → Option Value} {A : EA} {S S' : ES} {T : Tg → Prop} {env : Env}
local macro_rules | `(tactic| tm_at "k") => `(tactic| first | exact kk_825 _ | exact kk_802 _ | exact kk_853 _ | exact kk_788 _ | exact kk_816 _ | exact kk_614 _ | exact kk_809 _ | exact kk_860 _ | exact kk_867 _ | exact kk_839 _ | exact kk_846 _ | exact kk_261 _ | exact kk_268 _ | exact kk_275 _ | exact kk_282 _ | exact kk_289 _ | exact kk_296 _)
local macro_rules | `(tactic| tm_at "V") => `(tactic| first | assumption | exact C.v (by assumption) | exact C0.v (by assumption))
local macro_rules | `(tactic| tm_at "h") => `(tactic| first | assumption | with_unfolding_all assumption)
local macro_rules | `(tactic| tm_at "t") => `(tactic| first | assumption | (with_unfolding_all exact True.intro) | (with_unfolding_all exact fun q => Tg.noConfusion q))
local macro_rules | `(tactic| tm_at "u") => `(tactic| with_unfolding_all rfl)
local macro_rules | `(tactic| tm_at "s0") => `(tactic| (with_reducible refine wpAny_execs_cons ?_))
local macro_rules | `(tactic| tm_at "s1") => `(tactic| (with_reducible refine wpAny_execs_nil ?_))
local macro_rules | `(tactic| tm_at "s2") => `(tactic| (with_reducible refine wpAny_Assign_Name ?_ (by tm_at "u")))
local macro_rules | `(tactic| tm_at "s6") => `(tactic| (with_reducible refine wpAny_If ?_))
local macro_rules | `(tactic| tm_at "s7") => `(tactic| (with_reducible refine wpAny_isTrue_Compare1 ?_ (by tm_at "u")))
local macro_rules | `(tactic| tm_at "s9") => `(tactic| (with_reducible refine Subscript_ ?_))
local macro_rules | `(tactic| tm_at "s10") => `(tactic| (with_reducible refine Attribute_Name_ ?_ (by tm_at "u")))
local macro_rules | `(tactic| tm_at "s13") => `(tactic| (with_reducible refine wpAny_Constant_none ?_))
local macro_rules | `(tactic| tm_at "s14") => `(tactic| (with_reducible refine wpAny_Constant_int ?_))
local macro_rules | `(tactic| tm_at "s20") => `(tactic| (with_reducible refine MethodCall_ ?_ (by tm_at "u")))
local macro_rules | `(tactic| tm_at "s21") => `(tactic| (with_reducible refine Call_ ?_ (by tm_at "u")))
local macro_rules | `(tactic| tm_at "s23") => `(tactic| ((with_reducible show wpAny _ _ (callWith _ _ _ _ _) _ _ _); dsimp only; first
     | (with_reducible refine callWith_method1 ?_ (by tm_at "u") (by tm_at "u"))
     | (with_reducible refine callWith_K (V.kin (by tm_at "V")) (by tm_at "k") ?_ (by tm_at "u") (by tm_at "u"))
     | (with_reducible refine callWith_K0 (V.kin (by tm_at "V")) (by tm_at "k") ?_)
     | (with_reducible refine callWith_KW (V.kin (by tm_at "V")) (by tm_at "k") (by tm_at "u") ?_ (by tm_at "u") (by tm_at "u"))
     | (with_reducible refine PyProof.Rows.callWith_type1 ?_ (by tm_at "u") (by tm_at "u"))))
local macro_rules | `(tactic| tm_at "s24") => `(tactic| (with_reducible refine spliced_more ?_ (by tm_at "u")))
local macro_rules | `(tactic| tm_at "s25") => `(tactic| ((with_reducible refine spliced_none ?_); try dsimp only [List.cons_append, List.nil_append]))
local macro_rules | `(tactic| tm_at "s26") => `(tactic| (with_reducible refine wpAny_UnaryOp ?_))
local macro_rules | `(tactic| tm_at "s33") => `(tactic| (with_reducible refine isTrue_or ?_))
local macro_rules | `(tactic| tm_at "s36") => `(tactic| (with_reducible refine isTrue_plain ?_ (by tm_at "u")))
local macro_rules | `(tactic| tm_at "v0") => `(tactic| (with_unfolding_all refine ld_v (by tm_at "V") (by first | rfl | assumption) ?_))
local macro_rules | `(tactic| tm_at "v2") => `(tactic| ((with_reducible refine st_v0 (by assumption) ?_ (by tm_at "u") (by tm_at "u") (by tm_at "u")); intro _ _ _; try dsimp only))
local macro_rules | `(tactic| tm_at "v3") => `(tactic| (with_reducible refine attr_succ (by tm_at "V") ?_))
local macro_rules | `(tactic| tm_at "v8") => `(tactic| (with_reducible refine PyProof.Rows.neg_int ?_))
local macro_rules | `(tactic| tm_at "v9") => `(tactic| (with_reducible refine ld_list (by tm_at "V") ?_ (by tm_at "u") (by tm_at "u") (by tm_at "u") (by tm_at "u")))
local macro_rules | `(tactic| tm_at "v32") => `(tactic| (with_reducible refine nin_inn (by tm_at "V") (by tm_at "h") ?_))
local macro_rules | `(tactic| tm_at "v33") => `(tactic| (with_reducible refine PySem.wpAny_truthy_bool ?_))
local macro_rules | `(tactic| tm_at "v34") => `(tactic| (with_reducible refine isnot_in ?_))
local macro_rules | `(tactic| tm_at "v35") => `(tactic| (with_reducible refine isnot_nn ?_))
local macro_rules | `(tactic| tm_at "v36") => `(tactic| (with_reducible refine get_ds_m (by tm_at "V") ?_))
local macro_rules | `(tactic| tm_at "v37") => `(tactic| (with_reducible refine get_ds_y (by tm_at "V") (by tm_at "h") ?_))
local macro_rules | `(tactic| tm_at "v38") => `(tactic| (with_reducible refine truthy_inn (by tm_at "V") (by tm_at "h") ?_))
local macro_rules | `(tactic| tm_at "v47") => `(tactic| (with_reducible refine sub_ds (by tm_at "V") (by tm_at "h") ?_ (by tm_at "u")))
theorem tail200 (X : (frag w.params).In h) : OwnTail h [.type "Exception", .type "BaseException", .type "object"] [.ref 187, .type "Exception", .type "BaseException", .type "object"] := tail_of_in X (by kernel_rfl!)
theorem cls200 (X : (frag w.params).In h) : h.get? 200 = some (excClassObj (Str.ofString "NetworkXError") (Str.ofString "NetworkXError") 200 199 [.ref 187] [.ref 187, .type "Exception", .type "BaseException", .type "object"] true [] [] false none none (some (.ref 191)) none (some (.str (Str.ofString "NetworkXError") 415)) (some (.str (Str.ofString "NetworkXError") 423)) (some (.bool true)) "Exception.__new__") := X 200 (o200 w.params) (by rfl)
theorem ok199 (P : Params) : nsOkIn (frag P) 199 = true := by kernel_rfl!
theorem init199 (P : Params) : nsIn (frag P) 199 (Str.ofString "__init__") = some none := by kernel_rfl!
theorem raise_nx {np cpos pos : Pos} {args : List Expr} {Q : Flow → Shared → Prop} (hh : Ar.handled = none) (X : (frag w.params).In s.heap) (hplain : (backTo cpos (starEach args env)).any (·.1) = false)
    (h : wpAny (model prog w) Ar (eval (.Name "NetworkXError" np) env) (fun f s₁ => f = .ref 200 ∧ wpAny (model prog w) Ar (evalArgs (.ref 200) true (backTo cpos (starEach args env)) [])
      (fun a s₂ => a.kw = [] ∧ a.pos.length ≤ sizeLine ∧ (∀ b o, s.heap.get? b = some o → s₂.heap.get? b = some o) ∧ ∀ h' e, Heap.MadeExcOf s₂.heap h' e (.ref 200) a.pos → E (.ref e) { s₂ with heap := h' }) E s₁) E s) :
    wpAny (model prog w) Ar (exec (.Raise (some (.Call (.Name "NetworkXError" np) args [] cpos)) none pos) env) Q E s := by
  refine wpAny_Raise_call_subU (nm := Str.ofString "NetworkXError") (q := Str.ofString "NetworkXError") (C := 200) (N := 199) (bs := [.ref 187]) (bm := [.ref 187, .type "Exception", .type "BaseException", .type "object"]) (hdct := true) (sn := []) (sub := []) (ab := false) (col := none) (dd := none) (k0 := some (.ref 191)) (k1 := none) (k2 := some (.str (Str.ofString "NetworkXError") 415)) (k3 := some (.str (Str.ofString "NetworkXError") 423)) (k5 := some (.bool true)) PySem.F.excBase_Exception (by decide) PySem.F.excBase_Exception (by decide) hh hplain (nsMap_none_of_in X (ok199 _) (init199 _)) (wpAny_mono h (fun f s₁ h₁ => ⟨h₁.1, wpAny_mono h₁.2 (fun a s₂ h₂ => ?_) fun _ _ z => z⟩) fun _ _ z => z)
  obtain ⟨h1, h2, h3, h4⟩ := h₂
  have X2 := X.keeps h3
  have ns : s₂.heap.Ns 199 (s.heap.nsMap 199) := (Heap.Ns.of_isNs (isNs_of_in X (ok199 _))).keeps h3
  exact ⟨h1, h2, cls200 X2, ns, tail200 X2, h4⟩
def Gone (base : Heap) (outer : List Env) (R : Result → Shared → Prop) (s : Shared) : Prop := ∀ h' tk e, Tr base outer e (.ref 200) .none .none h' → s.heap.UpToSlots h' → R (.error (.ref e)) { s with heap := h', toks := tk }
theorem binds825_both (X : (frag w.params).In s.heap) (a b c d e : Value) : BindsTo s (fdOf (o825 w.params)) ⟨[a, b, c], [(Str.ofString "cw", d), (Str.ofString "ccw", e)]⟩ [("self", a), ("start_node", b), ("end_node", c), ("cw", d), ("ccw", e)] :=
  binds_peek X fun S => by kernel_rfl!
theorem raise_lit {base : Heap} {outer : List Env} {x : Str} {np cp cpos pos : Pos} {kk : Nat} {Q : Flow → Shared → Prop} {A₀ : Around} {h₀ : Heap} {R : Result → Shared → Prop} {E' : Value → Shared → Prop}
    (hh : Ar.handled = none) (hA : Ar = A₀.deeper env) (c : C0 prog w g L s.heap m A S) (K : Below A₀ base outer h₀) (hk : ∀ b o, h₀.get? b = some o → s.heap.get? b = some o) (hL : h₀.objs.size ≤ L) (hf : env.frame = some L) (hm : env.scope.kind ≠ .module)
    (hk1 : env.scope.kind = .function) (hx : env.kindOf "NetworkXError" = some .globalImplicit) (hg : env.globals = mainGlobals)
    (k : ∀ h' e, Tr base outer e (.ref 200) .none .none h' → s.heap.UpToSlots h' → ∀ tk, R (.error (.ref e)) { s with heap := h', toks := tk }) :
    wpAny (model prog w) Ar (exec (.Raise (some (.Call (.Name "NetworkXError" np) [.Constant (.str x) kk cp] [] cpos)) none pos) env) Q (fun e s' => wpAny (model prog w) (A₀.deeper env) (leaving env e) (fun _ s'' => R (.error e) s'') E' s') s := by
  refine raise_nx hh c.gd.kin (by rfl) ?_
  refine gl_v c.v (kg_NXE _) ⟨rfl, ?_⟩ hk1 hx hg
  refine Calls.evalArgs_plain ?_
  refine Calls.spliced_cons (x := eval (.Constant (.str x) kk cp) env) (wpAny_Constant_str ?_)
  refine Calls.spliced_nil ⟨rfl, by simp; rw [sizeLine_eq]; omega, fun _ _ e => e, fun h' e me => ?_⟩
  obtain ⟨t, he, _, _⟩ := me.there
  have K2 := below_push K (env := env) (fun b o q => me.keeps b o (hk b o q)) (c.ns.keeps me.keeps) hL hf hm
  refine tr_leave_first (cx := .none) K2.stack K2.frames hf he K2.stays (stays_new (fun b o q => hk b o (K.stays b o q)) me.new) rfl rfl rfl rfl fun h'' tr u => ?_
  exact k h'' e tr ((Heap.UpToSlots.of_keeps me.keeps).trans u) _
theorem sum825_badcw {base : Heap} {outer : List Env} {R : Result → Shared → Prop} {t1 t2 t3 : Tok} {u v x : Int} (e : EmbAt prog w s.heap A S) (G : Gd w s.heap) (rm : Rm Ar 1) (K : Below Ar base outer s.heap) (hu : u ∈ S.ns) (hx : x ∉ S.nbr u)
   (k : ∀ h' tk e, Tr base outer e (.ref 200) .none .none h' → s.heap.UpToSlots h' → R (.error (.ref e)) { s with heap := h', toks := tk }) :
   codeAny (model prog w) Ar (.call (.ref 825) ⟨[.ref A.x, .int u t1, .int v t2], [(Str.ofString "cw", .int x t3)]⟩) R s := by
  refine enter_emb0 (o := o825 w.params) (fd := fdOf (o825 w.params)) (body := fbody (clsSt 16 6)) e G rm.room (by rfl) (by rfl) (by kernel_rfl!) (by rfl) (binds825_cw G.kin _ _ _ _) (by kernel_rfl!) (by kernel_rfl!) fun L h₁ hL hL2 c => ?_
  have fin : ∀ (s₁ : Shared), (∀ b o, s.heap.get? b = some o → s₁.heap.get? b = some o) → s₁.gens = s.gens → s₁.drawn = s.drawn → s₁.os = s.os → ∀ h' e, Tr base outer e (.ref 200) .none .none h' → s₁.heap.UpToSlots h' → ∀ tk, R (.error (.ref e)) { s₁ with heap := h', toks := tk } := fun s₁ hk q1 q2 q3 h' e tr u tk => by
    have := k h' tk e tr ((Heap.UpToSlots.of_keeps hk).trans u)
    rw [← q1, ← q2, ← q3] at this
    exact this
  refine wpAny_execs_cons ?_
  (tm_at "s2"; tm_at "s20"; tm_at "s10"; tm_at "v0"; tm_at "v3"; tm_at "v36"; tm_at "s23"; tm_at "s24"; tm_at "v0"; tm_at "s25"; tm_at "v37"; tm_at "v2"; tm_at "s0"; tm_at "s6"; tm_at "s36"; tm_at "v0"; tm_at "v38")
  by_cases ne : S.nbr u = []
  · rw [ne]
    simp only [List.isEmpty_nil, Bool.not_true, Bool.false_eq_true, if_false]
    (tm_at "s0"; tm_at "s6"; tm_at "s33"; tm_at "s7"; tm_at "v0"; tm_at "s13"; tm_at "v34"; tm_at "v33")
    simp only [if_true]
    (tm_at "s0")
    rename_i h2 c2 hs2
    refine raise_lit (A₀ := Ar) (h₀ := s.heap) (handled_deeper' rm.hd) rfl c2 K (fun b o q => c2.keep b o q) (Nat.le_of_eq hL.symm) rfl (by show ScopeKind.function ≠ .module; decide) (by rfl) (by tm_at "u") (by rfl) (fin _ (fun b o q => c2.keep b o q) rfl rfl rfl)
  · rw [show (S.nbr u).isEmpty = false from by cases h : S.nbr u with | nil => exact absurd h ne | cons => rfl]
    simp only [Bool.not_false, if_true]
    (tm_at "s0"; tm_at "s2"; tm_at "s9"; tm_at "s21"; tm_at "v9"; tm_at "s23"; tm_at "s24"; tm_at "s9"; tm_at "s10"; tm_at "v0"; tm_at "v3"; tm_at "v0"; tm_at "v47"; tm_at "s25")
    refine list_inn (handled_deeper' rm.hd) (by tm_at "V") hu fun h2 tk2 hk2 il => ?_
    have c2 := C0.keeps (by assumption) hk2
    clear hk2
    (tm_at "s26"; tm_at "s14"; tm_at "v8")
    obtain ⟨l, hl⟩ : ∃ l, (S.nbr u).getLast? = some l := ⟨_, List.getLast?_eq_some_getLast ne⟩
    refine item_last il hl (fun t => ?_) (by tm_at "u")
    (tm_at "v2"; tm_at "s0"; tm_at "s6"; tm_at "s7"; tm_at "v0"; tm_at "s13"; tm_at "v34"; tm_at "v33")
    simp only [if_true]
    (tm_at "s0"; tm_at "s6"; tm_at "s7"; tm_at "v0"; tm_at "v0"; tm_at "v32"; tm_at "v33")
    rw [decide_eq_false hx]
    simp only [Bool.not_false, if_true]
    (tm_at "s0")
    rename_i h4 c4 hs4
    refine raise_lit (A₀ := Ar) (h₀ := s.heap) (handled_deeper' rm.hd) rfl c4 K (fun b o q => c4.keep b o q) (Nat.le_of_eq hL.symm) rfl (by show ScopeKind.function ≠ .module; decide) (by rfl) (by tm_at "u") (by rfl) (fin _ (fun b o q => c4.keep b o q) rfl rfl rfl)
theorem sum825_badboth {base : Heap} {outer : List Env} {R : Result → Shared → Prop} {t1 t2 t3 t4 : Tok} {u v x y : Int} (e : EmbAt prog w s.heap A S) (G : Gd w s.heap) (rm : Rm Ar 1) (K : Below Ar base outer s.heap) (hu : u ∈ S.ns) (ne : S.nbr u ≠ []) (hx : x ∈ S.nbr u)
   (k : ∀ h' tk e, Tr base outer e (.ref 200) .none .none h' → s.heap.UpToSlots h' → R (.error (.ref e)) { s with heap := h', toks := tk }) :
   codeAny (model prog w) Ar (.call (.ref 825) ⟨[.ref A.x, .int u t1, .int v t2], [(Str.ofString "cw", .int x t3), (Str.ofString "ccw", .int y t4)]⟩) R s := by
  refine enter_emb0 (o := o825 w.params) (fd := fdOf (o825 w.params)) (body := fbody (clsSt 16 6)) e G rm.room (by rfl) (by rfl) (by kernel_rfl!) (by rfl) (binds825_both G.kin _ _ _ _ _) (by kernel_rfl!) (by kernel_rfl!) fun L h₁ hL hL2 c => ?_
  have fin : ∀ (s₁ : Shared), (∀ b o, s.heap.get? b = some o → s₁.heap.get? b = some o) → s₁.gens = s.gens → s₁.drawn = s.drawn → s₁.os = s.os → ∀ h' e, Tr base outer e (.ref 200) .none .none h' → s₁.heap.UpToSlots h' → ∀ tk, R (.error (.ref e)) { s₁ with heap := h', toks := tk } := fun s₁ hk q1 q2 q3 h' e tr u tk => by
    have := k h' tk e tr ((Heap.UpToSlots.of_keeps hk).trans u)
    rw [← q1, ← q2, ← q3] at this
    exact this
  refine wpAny_execs_cons ?_
  (tm_at "s2"; tm_at "s20"; tm_at "s10"; tm_at "v0"; tm_at "v3"; tm_at "v36"; tm_at "s23"; tm_at "s24"; tm_at "v0"; tm_at "s25"; tm_at "v37"; tm_at "v2"; tm_at "s0"; tm_at "s6"; tm_at "s36"; tm_at "v0"; tm_at "v38")
  rw [show (S.nbr u).isEmpty = false from by cases h : S.nbr u with | nil => exact absurd h ne | cons => rfl]
  simp only [Bool.not_false, if_true]
  (tm_at "s0"; tm_at "s2"; tm_at "s9"; tm_at "s21"; tm_at "v9"; tm_at "s23"; tm_at "s24"; tm_at "s9"; tm_at "s10"; tm_at "v0"; tm_at "v3"; tm_at "v0"; tm_at "v47"; tm_at "s25")
  refine list_inn (handled_deeper' rm.hd) (by tm_at "V") hu fun h2 tk2 hk2 il => ?_
  have c2 := C0.keeps (by assumption) hk2
  clear hk2
  (tm_at "s26"; tm_at "s14"; tm_at "v8")
  obtain ⟨l, hl⟩ : ∃ l, (S.nbr u).getLast? = some l := ⟨_, List.getLast?_eq_some_getLast ne⟩
  refine item_last il hl (fun t => ?_) (by tm_at "u")
  (tm_at "v2"; tm_at "s0"; tm_at "s6"; tm_at "s7"; tm_at "v0"; tm_at "s13"; tm_at "v34"; tm_at "v33")
  simp only [if_true]
  (tm_at "s0"; tm_at "s6"; tm_at "s7"; tm_at "v0"; tm_at "v0"; tm_at "v32"; tm_at "v33")
  rw [decide_eq_true hx]
  simp only [Bool.not_true, Bool.false_eq_true, if_false]
  (tm_at "s1"; tm_at "s0"; tm_at "s6"; tm_at "s7"; tm_at "v0"; tm_at "s13"; tm_at "v34"; tm_at "v33")
  simp only [if_true]
  (tm_at "s0")
  rename_i h4 c4 hs4
  refine raise_lit (A₀ := Ar) (h₀ := s.heap) (handled_deeper' rm.hd) rfl c4 K (fun b o q => c4.keep b o q) (Nat.le_of_eq hL.symm) rfl (by show ScopeKind.function ≠ .module; decide) (by rfl) (by tm_at "u") (by rfl) (fin _ (fun b o q => c4.keep b o q) rfl rfl rfl)
theorem sum825_badnone {base : Heap} {outer : List Env} {R : Result → Shared → Prop} {t1 t2 : Tok} {u v : Int} (e : EmbAt prog w s.heap A S) (G : Gd w s.heap) (rm : Rm Ar 1) (K : Below Ar base outer s.heap) (hu : u ∈ S.ns) (ne : S.nbr u ≠ [])
   (k : ∀ h' tk e, Tr base outer e (.ref 200) .none .none h' → s.heap.UpToSlots h' → R (.error (.ref e)) { s with heap := h', toks := tk }) :
   codeAny (model prog w) Ar (.call (.ref 825) ⟨[.ref A.x, .int u t1, .int v t2], []⟩) R s := by
  refine enter_emb0 (o := o825 w.params) (fd := fdOf (o825 w.params)) (body := fbody (clsSt 16 6)) e G rm.room (by rfl) (by rfl) (by kernel_rfl!) (by rfl) (binds825 G.kin _ _ _) (by kernel_rfl!) (by kernel_rfl!) fun L h₁ hL hL2 c => ?_
  have fin : ∀ (s₁ : Shared), (∀ b o, s.heap.get? b = some o → s₁.heap.get? b = some o) → s₁.gens = s.gens → s₁.drawn = s.drawn → s₁.os = s.os → ∀ h' e, Tr base outer e (.ref 200) .none .none h' → s₁.heap.UpToSlots h' → ∀ tk, R (.error (.ref e)) { s₁ with heap := h', toks := tk } := fun s₁ hk q1 q2 q3 h' e tr u tk => by
    have := k h' tk e tr ((Heap.UpToSlots.of_keeps hk).trans u)
    rw [← q1, ← q2, ← q3] at this
    exact this
  refine wpAny_execs_cons ?_
  (tm_at "s2"; tm_at "s20"; tm_at "s10"; tm_at "v0"; tm_at "v3"; tm_at "v36"; tm_at "s23"; tm_at "s24"; tm_at "v0"; tm_at "s25"; tm_at "v37"; tm_at "v2"; tm_at "s0"; tm_at "s6"; tm_at "s36"; tm_at "v0"; tm_at "v38")
  rw [show (S.nbr u).isEmpty = false from by cases h : S.nbr u with | nil => exact absurd h ne | cons => rfl]
  simp only [Bool.not_false, if_true]
  (tm_at "s0"; tm_at "s2"; tm_at "s9"; tm_at "s21"; tm_at "v9"; tm_at "s23"; tm_at "s24"; tm_at "s9"; tm_at "s10"; tm_at "v0"; tm_at "v3"; tm_at "v0"; tm_at "v47"; tm_at "s25")
  refine list_inn (handled_deeper' rm.hd) (by tm_at "V") hu fun h2 tk2 hk2 il => ?_
  have c2 := C0.keeps (by assumption) hk2
  clear hk2
  (tm_at "s26"; tm_at "s14"; tm_at "v8")
  obtain ⟨l, hl⟩ : ∃ l, (S.nbr u).getLast? = some l := ⟨_, List.getLast?_eq_some_getLast ne⟩
  refine item_last il hl (fun t => ?_) (by tm_at "u")
  (tm_at "v2"; tm_at "s0"; tm_at "s6"; tm_at "s7"; tm_at "v0"; tm_at "s13"; tm_at "v35"; tm_at "v33")
  simp only [Bool.false_eq_true, if_false]
  (tm_at "s0"; tm_at "s6"; tm_at "s7"; tm_at "v0"; tm_at "s13"; tm_at "v35"; tm_at "v33")
  simp only [Bool.false_eq_true, if_false]
  (tm_at "s0")
  rename_i h4 c4 hs4
  refine raise_lit (A₀ := Ar) (h₀ := s.heap) (handled_deeper' rm.hd) rfl c4 K (fun b o q => c4.keep b o q) (Nat.le_of_eq hL.symm) rfl (by show ScopeKind.function ≠ .module; decide) (by rfl) (by tm_at "u") (by rfl) (fin _ (fun b o q => c4.keep b o q) rfl rfl rfl)
end
end Mine
end
section
open PySem PySem.W PySem.Calls PyProof.Rows
set_option maxRecDepth 100000
set_option maxHeartbeats 1000000
set_option linter.all false
namespace Mine
section
variable {w : World} {Ar : Around} {E : Value → Shared → Prop} {s : Shared} {g h h' : Heap} {L : Addr} {m : Str → Option Value} {A : EA} {S S' : ES} {T : Tg → Prop} {env : Env}
local macro_rules | `(tactic| tm_at "k") => `(tactic| first | exact kk_825 _ | exact kk_802 _ | exact kk_853 _ | exact kk_788 _ | exact kk_816 _ | exact kk_614 _ | exact kk_809 _ | exact kk_860 _ | exact kk_867 _ | exact kk_839 _ | exact kk_846 _ | exact kk_261 _ | exact kk_268 _ | exact kk_275 _ | exact kk_282 _ | exact kk_289 _ | exact kk_296 _)
local macro_rules | `(tactic| tm_at "V") => `(tactic| first | assumption | exact C.v (by assumption) | exact C0.v (by assumption))
local macro_rules | `(tactic| tm_at "h") => `(tactic| first | assumption | with_unfolding_all assumption)
local macro_rules | `(tactic| tm_at "t") => `(tactic| first | assumption | (with_unfolding_all exact True.intro) | (with_unfolding_all exact fun q => Tg.noConfusion q))
local macro_rules | `(tactic| tm_at "u") => `(tactic| with_unfolding_all rfl)
theorem entry_unchain : entryFor table "proto.unchain" = some Builtin.«proto.unchain» := entryFor_of_tree (by kernel_rfl)
theorem raiseStmt_from {x c : Sem Value} {e1 : Addr} {Q : Flow → Shared → Prop} (hh : Ar.handled = some (.ref e1))
   (h : wpAny (model prog w) Ar x (fun v s₁ => ∃ e2 t, v = .ref e2 ∧ 
     wpAny (model prog w) Ar c (fun cv s₂ => cv = .ref e1 ∧ (frag w.params).In s₂.heap ∧ s₂.heap.get? e2 = some { cls := .ref 200, data := .fields #[.ref t, .none, .none, .none, .bool false, .none] } ∧ e1 ≠ e2 ∧
       (∃ o1 vs1, s₂.heap.get? e1 = some o1 ∧ o1.cls = .type "KeyError" ∧ o1.data = .fields vs1 ∧ vs1[2]? = some .none) ∧
       ∀ h', Heap.SameBut e2 s₂.heap h' → h'.get? e2 = some { cls := .ref 200, data := .fields #[.ref t, .none, .ref e1, .ref e1, .bool true, .none] } → E (.ref e2) { s₂ with heap := h' }) E s₁) E s) :
   wpAny (model prog w) Ar (raiseStmt env (some x) (some c)) Q E s := by
  unfold raiseStmt
  refine wpAny_bind (wpAny_mono h (fun v s₁ h₁ => ?_) fun _ _ z => z)
  obtain ⟨e2, t, rfl, h₁⟩ := h₁
  refine wpAny_bind (wpAny_holding (wpAny_mono h₁ (fun cv s₂ h₂ => wpAny_bind (wpAny_pure ?_)) fun _ _ z => z))
  obtain ⟨rfl, X, he2, ne, ⟨o1, vs1, he1, hc1, hd1, hv1⟩, fin⟩ := h₂
  have hC := cls200 X
  have hcB : (Value.ref 200 :: [Value.ref 187, .type "Exception", .type "BaseException", .type "object"]).contains (.type "BaseException") = true := by decide
  obtain ⟨hp, gg, d, tk, os⟩ := s₂
  dsimp only at he2 he1 hC fin X
  have hisE : ∀ {Q : Bool → Shared → Prop}, Q false ⟨hp, gg, d, tk, os⟩ → wpAny (model prog w) Ar (isExcClass (.ref e2)) Q E ⟨hp, gg, d, tk, os⟩ := fun {Q} q => by
    unfold isExcClass
    repeat (first | with_reducible refine wpAny_loadPart_at he2 ?_ | with_reducible refine wpAny_loadPart_at hC ?_ | wp_step)
    exact q
  dsimp only
  refine wpAny_bind (wpAny_holding ?_)
  unfold excFromValue
  repeat (first | with_reducible refine wpAny_loadPart_at he2 ?_ | with_reducible refine wpAny_loadPart_at hC ?_ | with_reducible refine wpAny_isSubtype_exc hC ?_ | wp_step)
  rw [hc1, kr_isExc_KeyError]
  repeat wp_step
  have he3 : (hp.update e2 (Obj.mapFields (·.setIfInBounds 3 (Value.ref e1)))).get? e2 = some { cls := .ref 200, data := .fields #[.ref t, .none, .none, .ref e1, .bool false, .none] } := Heap.get?_update_self _ he2 rfl
  have he4 : ((hp.update e2 (Obj.mapFields (·.setIfInBounds 3 (Value.ref e1)))).update e2 (Obj.mapFields (·.setIfInBounds 4 (Value.bool true)))).get? e2 = some { cls := .ref 200, data := .fields #[.ref t, .none, .none, .ref e1, .bool true, .none] } := Heap.get?_update_self _ he3 rfl
  have sb : Heap.SameBut e2 hp ((hp.update e2 (Obj.mapFields (·.setIfInBounds 3 (Value.ref e1)))).update e2 (Obj.mapFields (·.setIfInBounds 4 (Value.bool true)))) := (Heap.SameBut.update ..).trans (Heap.SameBut.update ..)
  generalize (hp.update e2 (Obj.mapFields (·.setIfInBounds 3 (Value.ref e1)))).update e2 (Obj.mapFields (·.setIfInBounds 4 (Value.bool true))) = h4 at he4 sb
  have hC4 := (sb.2 200 (fun z => by rw [z, he2] at hC; injection hC with hC; injection hC with hC; cases hC)).trans hC
  have he14 := (sb.2 e1 ne).trans he1
  repeat (first | with_reducible refine wpAny_loadPart_at he4 ?_ | with_reducible refine wpAny_loadPart_at hC4 ?_ | with_reducible refine wpAny_isSubtype_exc hC4 ?_ | wp_step)
  unfold raiseNew
  refine wpAny_bind (wpAny_handled ?_)
  rw [hh]
  dsimp only
  rw [if_pos (show (Value.ref e1 != Value.ref e2) = true from by simpa using ne)]
  refine wpAny_bind (wpAny_holding (wpAny_runValue (codeAny_builtin entry_unchain ?_)))
  unfold Builtin.«proto.unchain»
  refine wpAny_bind (wpAny_field he14 hd1 hv1 ?_)
  repeat wp_step
  exact fin _ (sb.trans (Heap.SameBut.update ..)) (Heap.get?_update_self _ he4 rfl)
theorem call_nx {np cpos : Pos} {args : List Expr} {Q : Value → Shared → Prop} (X : (frag w.params).In s.heap) (hplain : (backTo cpos (starEach args env)).any (·.1) = false)
    (h : wpAny (model prog w) Ar (eval (.Name "NetworkXError" np) env) (fun f s₁ => f = .ref 200 ∧ wpAny (model prog w) Ar (evalArgs (.ref 200) true (backTo cpos (starEach args env)) [])
      (fun a s₂ => a.kw = [] ∧ a.pos.length ≤ sizeLine ∧ (∀ b o, s.heap.get? b = some o → s₂.heap.get? b = some o) ∧ ∀ h' e, Heap.MadeExcOf s₂.heap h' e (.ref 200) a.pos → Q (.ref e) { s₂ with heap := h' }) E s₁) E s) :
    wpAny (model prog w) Ar (eval (.Call (.Name "NetworkXError" np) args [] cpos) env) Q E s := by
  refine wpAny_Call_ofName (wpAny_mono h (fun f s₁ h₁ => ?_) fun _ _ z => z)
  obtain ⟨rfl, h₁⟩ := h₁
  unfold callWith
  refine wpAny_bind (wpAny_holding (wpAny_mono h₁ (fun a s₂ h₂ => wpAny_bind (wpAny_standAt ?_)) fun _ _ x => x))
  obtain ⟨apos, akw⟩ := a
  obtain ⟨hkw, hlen, hk, fin⟩ := h₂
  obtain rfl : akw = [] := hkw
  have X2 := X.keeps hk
  have ns : s₂.heap.Ns 199 (s.heap.nsMap 199) := (Heap.Ns.of_isNs (isNs_of_in X (ok199 _))).keeps hk
  have hC := cls200 X2
  have T := tail200 X2
  obtain ⟨hp, g, d, tk, os⟩ := s₂
  have hkp : backToKw cpos (keywordEach ([] : List Keyword) env) = [] := rfl
  simp only [hplain]
  refine wpAny_bind (wpAny_keeperOf_exc hC ?_)
  refine wpAny_bind (wpAny_call_exc_subU (hrest := hlen) PySem.F.excBase_Exception (by decide) PySem.F.excBase_Exception T hC ns (nsMap_none_of_in X (ok199 _) (init199 _)) fun h' e hm => wpAny_bind (wpAny_holding (wpAny_point (wpAny_pure ?_))))
  exact fin h' e hm
theorem gd_of_base {base : Heap} (G : Gd w base) (k : base.StaysIn h) : Gd w h := G.keeps k
theorem gl_h {x : Str} {pos : Pos} {v : Value} {Q : Value → Shared → Prop} (G : Gd w s.heap) (e : nsIn (frag w.params) mainGlobals x = some (some v)) (h : Q v s)
    (hk : env.scope.kind = .function := by rfl) (hx : env.kindOf x = some .globalImplicit := by rfl) (hg : env.globals = mainGlobals := by rfl) (hd : (x == ("__debug__" : Str)) = false := by decide) :
    wpAny (model prog w) Ar (eval (.Name x pos) env) Q E s := by
  obtain ⟨mg, _, hm, _⟩ := G.bt
  exact Name_function_global hk hx (loadGlobal_global (hg ▸ hm) (mg_of G.kin hm e) h) hd
theorem bi_h {x : Str} {pos : Pos} {v : Value} {Q : Value → Shared → Prop} (G : Gd w s.heap) (e : nsIn (frag w.params) mainGlobals x = some none) (hv : bootBuiltins x = some v) (hn : x ≠ "__name__") (h : Q v s)
    (hk : env.scope.kind = .function := by rfl) (hx : env.kindOf x = some .globalImplicit := by rfl) (hg : env.globals = mainGlobals := by rfl) (hb : env.builtins = builtinsNs := by rfl) (hd : (x == ("__debug__" : Str)) = false := by decide) :
    wpAny (model prog w) Ar (eval (.Name x pos) env) Q E s := by
  obtain ⟨mg, mb, hm, hmb, hall⟩ := G.bt
  exact Name_function_global hk hx (loadGlobal_builtin (hg ▸ hm) (mg_none_of G.kin hm e) (hb ▸ hmb) ((hall x hn).trans hv) h) hd
theorem ld_h {x : Str} {pos : Pos} {v : Value} {m : Str → Option Value} {Q : Value → Shared → Prop} (ns : s.heap.Ns env.locals m) (hv : m x = some v) (k : Q v s)
    (hl : env.kindOf x = some .local := by rfl) (hk : env.scope.kind = .function := by rfl)
    (hd : (x == ("__debug__" : Str)) = false := by decide) :
    wpAny (model prog w) Ar (eval (.Name x pos) env) Q E s := wpAny_Name (wpAny_loadName_local hk hl ns hv k) hd
def UpBut (L : Addr) (h h' : Heap) : Prop := ∀ b o, b ≠ L → h.get? b = some o → (∀ vs, o.data ≠ .fields vs) → ∃ sl, h'.get? b = some { o with slots := sl }
theorem UpBut.of {L : Addr} {h h' : Heap} (u : h.UpToSlots h') : UpBut L h h' := fun b o _ e n => u b o e n
theorem UpBut.trans {L : Addr} {h h' h'' : Heap} (u : UpBut L h h') (v : UpBut L h' h'') : UpBut L h h'' := fun b o nb e n => by
  obtain ⟨sl, e1⟩ := u b o nb e n
  obtain ⟨sl2, e2⟩ := v b _ nb e1 n
  exact ⟨sl2, e2⟩
theorem UpBut.same {L : Addr} {h h' : Heap} (sb : Heap.SameBut L h h') : UpBut L h h' := fun b o nb e n => ⟨o.slots, (sb.2 b nb).trans e⟩
theorem key_handler {base h1 : Heap} {outer : List Env} {A₀ : Around} {h₀ : Heap} {R : Result → Shared → Prop} {E' : Value → Shared → Prop} {Q : Flow → Shared → Prop} {e1 : Addr} {tk1 : Nat} {kp hpos np cpos rpos ep jp : Pos} {j1 j2 : Expr} {js : List Expr} {rest : List ExceptHandler}
    (hh : A₀.handled = none) (ns : s.heap.Ns L m) (K : Below A₀ base outer h₀) (GB : Gd w base) (hk : ∀ b o, h₀.get? b = some o → s.heap.get? b = some o) (hL : h₀.objs.size ≤ L) (me : Heap.NewExc s.heap h1 e1 "KeyError")
    (hf : env.frame = some L) (hlo : env.locals = L) (hm : env.scope.kind ≠ .module) (hk1 : env.scope.kind = .function) (hx : env.kindOf "NetworkXError" = some .globalImplicit) (hx2 : env.kindOf "KeyError" = some .globalImplicit) (hx3 : env.kindOf "err" = some .local) (hg : env.globals = mainGlobals) (hb : env.builtins = builtinsNs) (hp : (env.scope.kind == .class || (env.scope.kind == .module && env.locals != env.globals)) = false)
    (text : ∀ (A' : Around) (E'' : Value → Shared → Prop) (s' : Shared) (m' : Str → Option Value), s'.heap.Ns L m' → (∀ y, y ≠ Str.ofString "err" → m' y = m y) → ∀ (Q' : Value → Shared → Prop), (∀ (x : Str) (t : Tok) (tk : Nat), Q' (.str x t) { s' with toks := tk }) → wpAny (model prog w) A' (eval (.JoinedStr (j1 :: j2 :: js) jp) env) Q' E'' s')
    (k : ∀ h' e, ∀ cx, Tr base outer e (.ref 200) cx .none h' → h₀.UpToSlots h' → ∀ tk, R (.error (.ref e)) { s with heap := h', toks := tk }) :
    wpAny (model prog w) (A₀.deeper env) (noteFrame (.ref e1) env) (fun _ s₂ => wpAny (model prog w) (A₀.deeper env) (setFlight (.ref e1) none) (fun _ s₃ => wpAny (model prog w) (A₀.deeper env) (handleBy (.ref e1) env
      (.ExceptHandler (some (.Name "KeyError" kp)) (some "err") [.Raise (some (.Call (.Name "NetworkXError" np) [.JoinedStr (j1 :: j2 :: js) jp] [] cpos)) (some (.Name "err" ep)) rpos] hpos :: rest)) Q
      (fun e s' => wpAny (model prog w) (A₀.deeper env) (leaving env e) (fun _ s'' => R (.error e) s'') E' s') s₃) (fun e s' => wpAny (model prog w) (A₀.deeper env) (leaving env e) (fun _ s'' => R (.error e) s'') E' s') s₂) (fun e s' => wpAny (model prog w) (A₀.deeper env) (leaving env e) (fun _ s'' => R (.error e) s'') E' s') { s with heap := h1, toks := tk1 } := by
  obtain ⟨ob, t, he, hcls, hd⟩ := me.there
  have hkB : base.StaysIn s.heap := fun b o q => hk b o (K.stays b o q)
  have K2 := below_push K (env := env) (h := h1) (fun b o q => me.keeps b o (hk b o q)) (ns.keeps me.keeps) hL hf hm
  have nL : base.get? L = none := by
    cases q : base.get? L with
    | none => rfl
    | some o' => exact absurd (Heap.lt_size (K.stays _ _ q)) (Nat.not_lt.mpr hL)
  refine tr_first (cx := .none) K2.stack K2.frames hf he K2.stays (stays_new hkB me.new) hd rfl rfl rfl fun h2 tr2 u2 => ?_
  rw [hcls] at tr2
  refine tr_set (fr := none) tr2 fun h3 tr3 u3 => ?_
  have U3 : s.heap.UpToSlots h3 := ((Heap.UpToSlots.of_keeps me.keeps).trans u2).trans u3
  refine wpAny_handleBy_builtin_as (X := "KeyError") (T := "KeyError") (b := true) kr_isExc_KeyError kr_notTuple_KeyError (by rw [isSubtype_type]; kernel_rfl) ?_
  refine bi_h (gd_of_base GB tr3.stay) (kn_KeyError _) (by kernel_rfl!) (by decide +kernel) ⟨rfl, tr3.type, ?_⟩ hk1 hx2 hg hb
  rw [if_pos rfl]
  refine tr_set (fr := none) tr3 fun h4 tr4 u4 => ?_
  have ns4 : h4.Ns L m := (U3.trans u4).ns ns
  subst hlo
  refine wpAny_storeName_local hx3 ns4 (fun h5 ns5 sb5 => ?_) hp
  have tr5 := tr4.frame sb5 nL ns4 ns5
  have G5 : Gd w h5 := gd_of_base GB tr5.stay
  have U5 : UpBut env.locals s.heap h5 := (UpBut.of (U3.trans u4)).trans (UpBut.same sb5)
  have fr : ((A₀.deeper env).mark (some (.ref e1))).frames = some (env :: outer) := K2.stack
  refine wpAny_execs_cons ?_
  rw [arm_exec_Raise]
  simp only [evalOpt, Option.map]
  refine wpAny_bind (wpAny_standAt (raiseStmt_from (e1 := e1) rfl (wpAny_bind (call_nx G5.kin (by rfl) ?_))))
  refine gl_h G5 (kg_NXE _) ⟨rfl, ?_⟩ hk1 hx hg
  refine Calls.evalArgs_plain ?_
  refine Calls.spliced_cons (x := eval (.JoinedStr (j1 :: j2 :: js) jp) env) (text _ _ _ _ ns5 (fun y hy => if_neg hy) _ fun tx tt ttk => ?_)
  refine Calls.spliced_nil ⟨rfl, by simp; rw [sizeLine_eq]; omega, fun _ _ e => e, fun h6 e2 me2 => ?_⟩
  obtain ⟨t2, he2, _, _⟩ := me2.there
  refine wpAny_bind (wpAny_standAt (wpAny_pure ⟨e2, t2, rfl, wpAny_bind (ld_h (ns5.keeps me2.keeps) (if_pos rfl) (wpAny_bind (wpAny_standAt (wpAny_pure ⟨rfl, G5.kin.keeps me2.keeps, he2, ?_, ?_, fun h7 sb7 he7 => ?_⟩))) hx3 hk1)⟩))
  · obtain ⟨oe, _, _, _, _, z1, _⟩ := tr5.recd
    intro z
    have := me2.new
    rw [← z, z1] at this
    cases this
  · obtain ⟨oe, vs, T, oT, ts, z1, z2, z3, z4, z5, z6, r⟩ := tr5.recd
    exact ⟨oe, vs, me2.keeps _ _ z1, z2, z3, z6⟩
  have nb2 : base.get? e2 = none := stays_new tr5.stay me2.new
  have st7 : base.StaysIn h7 := fun b o q => (sb7.2 b fun z => by rw [z, nb2] at q; cases q).trans (me2.keeps b o (tr5.stay b o q))
  have ne2 : ∀ b o, h5.get? b = some o → b ≠ e2 := fun b o q z => by rw [z, me2.new] at q; cases q
  have up7 : ∀ b o, h5.get? b = some o → h7.get? b = some o := fun b o q => (sb7.2 b (ne2 b o q)).trans (me2.keeps b o q)
  refine tr_first (cx := .ref e1) fr (tr5.fun_.of_keeps fun b o q _ => ⟨o, up7 b o q, rfl⟩) hf he7 st7 nb2 rfl rfl rfl rfl fun h8 tr8 u8 => ?_
  have ns8 := u8.ns (ns5.keeps up7)
  refine wpAny_nameGoes hx3 ns8 hp fun h9 m9 ns9 sb9 => ?_
  have tr9 := tr8.frame sb9 nL ns8 ns9
  have U9 : UpBut env.locals s.heap h9 := ((U5.trans (UpBut.of (Heap.UpToSlots.of_keeps up7))).trans (UpBut.of u8)).trans (UpBut.same sb9)
  refine tr_pass hf tr9 fun h10 tr10 u10 => ?_
  refine tr_again hf tr10 ?_
  refine tr_came hf tr10 fun h11 tr11 u11 => ?_
  refine tr_leave_held hf tr11 fun h12 tr12 u12 => ?_
  have U12 := ((U9.trans (UpBut.of u10)).trans (UpBut.of u11)).trans (UpBut.of u12)
  exact k h12 e2 (.ref e1) tr12 (fun b o q n => U12 b o (fun z => by rw [z] at q; exact absurd (Heap.lt_size q) (Nat.not_lt.mpr hL)) (hk b o q) n) _
end
end Mine
end
section
open PySem PySem.W PySem.Calls PyProof.Rows
set_option maxRecDepth 100000
set_option maxHeartbeats 1000000
set_option linter.all false
namespace Mine
section
variable {w : World} {Ar : Around} {E : Value → Shared → Prop} {s : Shared} {g h h' : Heap} {L : Addr} {m : Str → Option Value} {A : EA} {S S' : ES} {T : Tg → Prop} {env : Env}
local macro_rules | `(tactic| tm_at "k") => `(tactic| first | exact kk_825 _ | exact kk_802 _ | exact kk_853 _ | exact kk_788 _ | exact kk_816 _ | exact kk_614 _ | exact kk_809 _ | exact kk_860 _ | exact kk_867 _ | exact kk_839 _ | exact kk_846 _ | exact kk_261 _ | exact kk_268 _ | exact kk_275 _ | exact kk_282 _ | exact kk_289 _ | exact kk_296 _)
local macro_rules | `(tactic| tm_at "V") => `(tactic| first | assumption | exact C.v (by assumption) | exact C0.v (by assumption))
local macro_rules | `(tactic| tm_at "h") => `(tactic| first | assumption | with_unfolding_all assumption)
local macro_rules | `(tactic| tm_at "t") => `(tactic| first | assumption | (with_unfolding_all exact True.intro) | (with_unfolding_all exact fun q => Tg.noConfusion q))
local macro_rules | `(tactic| tm_at "u") => `(tactic| with_unfolding_all rfl)
local macro_rules | `(tactic| tm_at "s0") => `(tactic| (with_reducible refine wpAny_execs_cons ?_))
local macro_rules | `(tactic| tm_at "s2") => `(tactic| (with_reducible refine wpAny_Assign_Name ?_ (by tm_at "u")))
local macro_rules | `(tactic| tm_at "s9") => `(tactic| (with_reducible refine Subscript_ ?_))
local macro_rules | `(tactic| tm_at "s10") => `(tactic| (with_reducible refine Attribute_Name_ ?_ (by tm_at "u")))
local macro_rules | `(tactic| tm_at "s16") => `(tactic| (with_reducible refine wpAny_Try_except ?_))
local macro_rules | `(tactic| tm_at "v0") => `(tactic| (with_unfolding_all refine ld_v (by tm_at "V") (by first | rfl | assumption) ?_))
local macro_rules | `(tactic| tm_at "v2") => `(tactic| ((with_reducible refine st_v0 (by assumption) ?_ (by tm_at "u") (by tm_at "u") (by tm_at "u")); intro _ _ _; try dsimp only))
local macro_rules | `(tactic| tm_at "v3") => `(tactic| (with_reducible refine attr_succ (by tm_at "V") ?_))
local macro_rules | `(tactic| tm_at "v4") => `(tactic| (with_reducible refine attr_pred (by tm_at "V") ?_))
local macro_rules | `(tactic| tm_at "v47") => `(tactic| (with_reducible refine sub_ds (by tm_at "V") (by tm_at "h") ?_ (by tm_at "u")))
theorem missing {d : Addr} {l : List Int} {f : Int → Addr} {n : Int} {t : Tok} {value slice : Expr} {Q : Value → Shared → Prop} (hD : s.heap.DictOf (PySem.intKind prog w) d (refs l f)) (lo : topSize ≤ d) (hn : n ∉ l) (hh : Ar.handled = none)
   (k : ∀ h' e, Heap.NewExc s.heap h' e "KeyError" → E (.ref e) { s with heap := h', toks := s.toks + 1 })
   (hs : subscripted slice false (.ref d) (.int n t) = operate [.ref d, .int n t] (getItem (.ref d) (.int n t))) :
   wpAny (model prog w) Ar (subscriptTail value slice (.ref d) (.int n t)) Q E s :=
  tail_dict hD (wpAny_getItem_missing_of (is_int _ _) (not_sys lo) hh hD.mapOf (valueAt_refs_none hn) k) hs
def small6 (u : Int) : Prop := 0 ≤ u ∧ u < 6
theorem digit_len {u : Int} (h : small6 u) : (Str.ofString (toString u)).length = 1 := by
  obtain ⟨h0, h1⟩ := h
  have : u = 0 ∨ u = 1 ∨ u = 2 ∨ u = 3 ∨ u = 4 ∨ u = 5 := by omega
  rcases this with rfl | rfl | rfl | rfl | rfl | rfl <;> decide +kernel
theorem digit_log {u : Int} (h : small6 u) : u.natAbs.log2 < 1920 := by
  obtain ⟨h0, h1⟩ := h
  have : u = 0 ∨ u = 1 ∨ u = 2 ∨ u = 3 ∨ u = 4 ∨ u = 5 := by omega
  rcases this with rfl | rfl | rfl | rfl | rfl | rfl <;> decide +kernel
theorem part_lit {out x : Str} {kk : Nat} {p : Pos} {rest : List (Sem Value)} {Q : Value → Shared → Prop} (hl : (out ++ x).length ≤ sizeLine) (h : ∀ tk, wpAny (model prog w) Ar (joinParts (out ++ x) rest) Q E { s with toks := tk }) :
    wpAny (model prog w) Ar (joinParts out (eval (.Constant (.str x) kk p) env :: rest)) Q E s :=
  joinParts_cons (x := eval (.Constant (.str x) kk p) env) (wpAny_Constant_str ⟨hl, h _⟩)
theorem part_int {out x : Str} {p fp : Pos} {rest : List (Sem Value)} {u : Int} {t : Tok} {m : Str → Option Value} {Q : Value → Shared → Prop} (ns : s.heap.Ns env.locals m) (hv : m x = some (.int u t)) (h6 : small6 u) (hl : (out ++ Str.ofString (toString u)).length ≤ sizeLine)
    (hlo : env.kindOf x = some .local) (hk : env.scope.kind = .function) (h : ∀ tk, wpAny (model prog w) Ar (joinParts (out ++ Str.ofString (toString u)) rest) Q E { s with toks := tk }) (hd : (x == ("__debug__" : Str)) = false := by decide) :
    wpAny (model prog w) Ar (joinParts out (eval (.FormattedValue (.Name x p) (-1) none fp) env :: rest)) Q E s :=
  joinParts_cons (x := eval (.FormattedValue (.Name x p) (-1) none fp) env) (FormattedValue_plain (ld_h ns hv (formatField_int_small (digit_log h6) ⟨hl, h _⟩) hlo hk hd))
theorem len_app (a b : Str) : (a ++ b).length = a.length + b.length := strLen_append ..
theorem len_empty : Str.empty.length = 0 := by rfl
theorem text3 {a b x : Str} {k1 k2 : Nat} {p1 p fp p2 jp : Pos} {u : Int} {t : Tok} {m : Str → Option Value} {Q : Value → Shared → Prop} (ns : s.heap.Ns env.locals m) (hv : m x = some (.int u t)) (h6 : small6 u) (la : a.length ≤ 1000) (lb : b.length ≤ 1000)
    (hlo : env.kindOf x = some .local) (hk : env.scope.kind = .function) (k : ∀ y t tk, Q (.str y t) { s with toks := tk }) (hd : (x == ("__debug__" : Str)) = false := by decide) :
    wpAny (model prog w) Ar (eval (.JoinedStr [.Constant (.str a) k1 p1, .FormattedValue (.Name x p) (-1) none fp, .Constant (.str b) k2 p2] jp) env) Q E s := by
  have ld := digit_len h6
  have z : ∀ {n : Nat}, n ≤ 3000 → n ≤ sizeLine := fun h => by rw [sizeLine_eq]; omega
  refine JoinedStr_many (part_lit (z (by rw [len_app, len_empty]; omega)) fun tk1 => ?_)
  refine part_int ns hv h6 (z (by rw [len_app, len_app, len_empty, ld]; omega)) hlo hk (fun tk2 => ?_) hd
  refine part_lit (z (by rw [len_app, len_app, len_app, len_empty, ld]; omega)) fun tk3 => ?_
  exact joinParts_nil (k _ _ _) (z (by rw [len_app, len_app, len_app, len_empty, ld]; omega))
theorem text5 {a b c x y : Str} {k1 k2 k3 : Nat} {p1 p fp p2 p' fp' p3 jp : Pos} {u v : Int} {t t' : Tok} {m : Str → Option Value} {Q : Value → Shared → Prop} (ns : s.heap.Ns env.locals m) (hv : m x = some (.int u t)) (hv' : m y = some (.int v t')) (h6 : small6 u) (h6' : small6 v) (la : a.length ≤ 500) (lb : b.length ≤ 500) (lc : c.length ≤ 500)
    (hlo : env.kindOf x = some .local) (hlo' : env.kindOf y = some .local) (hk : env.scope.kind = .function) (k : ∀ y t tk, Q (.str y t) { s with toks := tk }) (hd : (x == ("__debug__" : Str)) = false := by decide) (hd' : (y == ("__debug__" : Str)) = false := by decide) :
    wpAny (model prog w) Ar (eval (.JoinedStr [.Constant (.str a) k1 p1, .FormattedValue (.Name x p) (-1) none fp, .Constant (.str b) k2 p2, .FormattedValue (.Name y p') (-1) none fp', .Constant (.str c) k3 p3] jp) env) Q E s := by
  have ld := digit_len h6
  have ld' := digit_len h6'
  have z : ∀ {n : Nat}, n ≤ 3000 → n ≤ sizeLine := fun h => by rw [sizeLine_eq]; omega
  refine JoinedStr_many (part_lit (z (by rw [len_app, len_empty]; omega)) fun tk1 => ?_)
  refine part_int ns hv h6 (z (by rw [len_app, len_app, len_empty, ld]; omega)) hlo hk (fun tk2 => ?_) hd
  refine part_lit (z (by rw [len_app, len_app, len_app, len_empty, ld]; omega)) fun tk3 => ?_
  refine part_int ns hv' h6' (z (by rw [len_app, len_app, len_app, len_app, len_empty, ld, ld']; omega)) hlo' hk (fun tk2 => ?_) hd'
  refine part_lit (z (by rw [len_app, len_app, len_app, len_app, len_app, len_empty, ld, ld']; omega)) fun tk3 => ?_
  exact joinParts_nil (k _ _ _) (z (by rw [len_app, len_app, len_app, len_app, len_app, len_empty, ld, ld']; omega))
theorem sum802_bad {base : Heap} {outer : List Env} {R : Result → Shared → Prop} {t1 : Tok} {n : Int} (e : EmbAt prog w s.heap A S) (G : Gd w s.heap) (rm : Rm Ar 1) (K : Below Ar base outer s.heap) (GB : Gd w base) (hn : n ∉ S.np) (h6 : small6 n)
   (k : ∀ h' tk e cx, Tr base outer e (.ref 200) cx .none h' → s.heap.UpToSlots h' → R (.error (.ref e)) { s with heap := h', toks := tk }) :
   codeAny (model prog w) Ar (.call (.ref 802) ⟨[.ref A.x, .int n t1], []⟩) R s := by
  refine enter_emb0 (o := o802 w.params) (fd := fdOf (o802 w.params)) (body := fbody (clsSt 16 3)) (binds := [("self", .ref A.x), ("n", .int n t1)]) e G rm.room (by rfl) (by rfl) (by kernel_rfl!) (by rfl) (BindsTo.of_eq (by rfl)) (by kernel_rfl!) (by kernel_rfl!) fun L h₁ hL hL2 c => ?_
  refine wpAny_execs_cons ?_
  (tm_at "s16"; tm_at "s0")
  refine wpAny_For ?_ (by intro _; rfl)
  (tm_at "s9"; tm_at "s10"; tm_at "v0"; tm_at "v4"; tm_at "v0")
  refine missing c.v.em.pred (c.v.em.high .dp trivial) hn (handled_deeper' rm.hd) (fun h2 e2 me2 => ?_) (by tm_at "u")
  refine key_handler (s := { heap := h₁, gens := s.gens, drawn := s.drawn, toks := s.toks, os := s.os }) (m := m0 [("self", .ref A.x), ("n", .int n t1)]) rm.hd c.ns K GB (fun b o q => c.keep b o q) (Nat.le_of_eq hL.symm) me2 rfl rfl (by show ScopeKind.function ≠ .module; decide) rfl (by tm_at "u") (by tm_at "u") (by tm_at "u") rfl rfl (by rfl) (fun A' E'' s' m' ns hm' Q' kq => ?_) fun h' e cx tr u tk => k h' tk e cx tr u
  exact text3 ns ((hm' _ (by decide)).trans (by rfl)) h6 (by decide +kernel) (by decide +kernel) (by tm_at "u") (by rfl) kq
theorem sum853_bad {base : Heap} {outer : List Env} {R : Result → Shared → Prop} {t1 t2 : Tok} {u v : Int} (e : EmbAt prog w s.heap A S) (G : Gd w s.heap) (rm : Rm Ar 1) (K : Below Ar base outer s.heap) (GB : Gd w base) (hu : u ∈ S.ns) (hv : v ∈ S.ns) (uv : v ∉ S.nbr u) (u6 : small6 u) (v6 : small6 v)
   (k : ∀ h' tk e cx, Tr base outer e (.ref 200) cx .none h' → s.heap.UpToSlots h' → R (.error (.ref e)) { s with heap := h', toks := tk }) :
   codeAny (model prog w) Ar (.call (.ref 853) ⟨[.ref A.x, .int u t1, .int v t2], []⟩) R s := by
  refine enter_emb0 (o := o853 w.params) (fd := fdOf (o853 w.params)) (body := fbody (clsSt 16 10)) (binds := [("self", .ref A.x), ("u", .int u t1), ("v", .int v t2)]) e G rm.room (by rfl) (by rfl) (by kernel_rfl!) (by rfl) (BindsTo.of_eq (by rfl)) (by kernel_rfl!) (by kernel_rfl!) fun L h₁ hL hL2 c => ?_
  refine wpAny_execs_cons ?_
  (tm_at "s16"; tm_at "s0"; tm_at "s2"; tm_at "s9"; tm_at "s10"; tm_at "v0"; tm_at "v3"; tm_at "v0"; tm_at "v47"; tm_at "v2"; tm_at "s0"; tm_at "s2"; tm_at "s9"; tm_at "s10"; tm_at "v0"; tm_at "v3"; tm_at "v0"; tm_at "v47"; tm_at "v2"; tm_at "s0"; tm_at "s2"; tm_at "s9"; tm_at "s9"; tm_at "v0"; tm_at "v0")
  rename_i h2 c2 s2 h3 c3 s3
  refine missing (c3.v.em.inn u hu) (c3.v.em.high (.inn u) hu) uv (handled_deeper' rm.hd) (fun h4 e4 me4 => ?_) (by tm_at "u")
  have kp3 : ∀ b o, s.heap.get? b = some o → h3.get? b = some o := fun b o q => c3.keep b o q
  refine key_handler (s := { heap := h3, gens := s.gens, drawn := s.drawn, toks := s.toks, os := s.os }) (L := L) rm.hd c3.ns K GB kp3 (Nat.le_of_eq hL.symm) me4 rfl rfl (by show ScopeKind.function ≠ .module; decide) rfl (by tm_at "u") (by tm_at "u") (by tm_at "u") rfl rfl (by rfl) (fun A' E'' s' m' ns hm' Q' kq => ?_) fun h' e cx tr u tk => k h' tk e cx tr u
  exact text5 ns ((hm' _ (by decide)).trans (by rfl)) ((hm' _ (by decide)).trans (by rfl)) u6 v6 (by decide +kernel) (by decide +kernel) (by decide +kernel) (by tm_at "u") (by tm_at "u") (by rfl) kq
end
end Mine
end
section
open PySem PySem.W PySem.Calls PyProof.Rows
set_option maxRecDepth 100000
set_option maxHeartbeats 1000000
set_option linter.all false
namespace Mine
section
variable {w : World} {Ar : Around} {E : Value → Shared → Prop} {s : Shared} {g h h' : Heap} {L : Addr} {m : Str → Option Value} {A : EA} {S S' : ES} {T : Tg → Prop} {env : Env} {ks : List Int} {Rw : Int → List Int}
local macro_rules | `(tactic| tm_at "k") => `(tactic| first | exact kk_825 _ | exact kk_802 _ | exact kk_853 _ | exact kk_788 _ | exact kk_816 _ | exact kk_614 _ | exact kk_809 _ | exact kk_860 _ | exact kk_867 _ | exact kk_839 _ | exact kk_846 _ | exact kk_261 _ | exact kk_268 _ | exact kk_275 _ | exact kk_282 _ | exact kk_289 _ | exact kk_296 _)
local macro_rules | `(tactic| tm_at "V") => `(tactic| first | assumption | exact C.v (by assumption) | exact C0.v (by assumption))
local macro_rules | `(tactic| tm_at "h") => `(tactic| first | assumption | with_unfolding_all assumption)
local macro_rules | `(tactic| tm_at "t") => `(tactic| first | assumption | (with_unfolding_all exact True.intro) | (with_unfolding_all exact fun q => Tg.noConfusion q))
local macro_rules | `(tactic| tm_at "u") => `(tactic| with_unfolding_all rfl)
local macro_rules | `(tactic| tm_at "s0") => `(tactic| (with_reducible refine wpAny_execs_cons ?_))
local macro_rules | `(tactic| tm_at "s6") => `(tactic| (with_reducible refine wpAny_If ?_))
local macro_rules | `(tactic| tm_at "s7") => `(tactic| (with_reducible refine wpAny_isTrue_Compare1 ?_ (by tm_at "u")))
local macro_rules | `(tactic| tm_at "s9") => `(tactic| (with_reducible refine Subscript_ ?_))
local macro_rules | `(tactic| tm_at "s14") => `(tactic| (with_reducible refine wpAny_Constant_int ?_))
local macro_rules | `(tactic| tm_at "s16") => `(tactic| (with_reducible refine wpAny_Try_except ?_))
local macro_rules | `(tactic| tm_at "s17") => `(tactic| (with_reducible refine wpAny_Expr_any ?_ (by tm_at "u") (by tm_at "u")))
local macro_rules | `(tactic| tm_at "s20") => `(tactic| (with_reducible refine MethodCall_ ?_ (by tm_at "u")))
local macro_rules | `(tactic| tm_at "s22") => `(tactic| (with_reducible refine methodCall_KW ?_ (by tm_at "u")))
local macro_rules | `(tactic| tm_at "s23") => `(tactic| ((with_reducible show wpAny _ _ (callWith _ _ _ _ _) _ _ _); dsimp only; first
     | (with_reducible refine callWith_method1 ?_ (by tm_at "u") (by tm_at "u"))
     | (with_reducible refine callWith_K (V.kin (by tm_at "V")) (by tm_at "k") ?_ (by tm_at "u") (by tm_at "u"))
     | (with_reducible refine callWith_K0 (V.kin (by tm_at "V")) (by tm_at "k") ?_)
     | (with_reducible refine callWith_KW (V.kin (by tm_at "V")) (by tm_at "k") (by tm_at "u") ?_ (by tm_at "u") (by tm_at "u"))
     | (with_reducible refine PyProof.Rows.callWith_type1 ?_ (by tm_at "u") (by tm_at "u"))))
local macro_rules | `(tactic| tm_at "s24") => `(tactic| (with_reducible refine spliced_more ?_ (by tm_at "u")))
local macro_rules | `(tactic| tm_at "s25") => `(tactic| ((with_reducible refine spliced_none ?_); try dsimp only [List.cons_append, List.nil_append]))
local macro_rules | `(tactic| tm_at "s26") => `(tactic| (with_reducible refine wpAny_UnaryOp ?_))
local macro_rules | `(tactic| tm_at "s27") => `(tactic| (with_reducible refine kwAll_cons ?_))
local macro_rules | `(tactic| tm_at "s28") => `(tactic| (with_reducible refine kwAll_nil ?_))
local macro_rules | `(tactic| tm_at "s29") => `(tactic| (with_reducible refine in_and (V.kin (by tm_at "V")) ?_))
local macro_rules | `(tactic| tm_at "s32") => `(tactic| (with_reducible refine isTrue_and ?_))
local macro_rules | `(tactic| tm_at "s34") => `(tactic| (with_reducible refine isTrue_and_nil ?_))
local macro_rules | `(tactic| tm_at "v0") => `(tactic| (with_unfolding_all refine ld_v (by tm_at "V") (by first | rfl | assumption) ?_))
local macro_rules | `(tactic| tm_at "v8") => `(tactic| (with_reducible refine PyProof.Rows.neg_int ?_))
local macro_rules | `(tactic| tm_at "v10") => `(tactic| (with_reducible refine m_add_half_edge (by tm_at "V") ?_))
local macro_rules | `(tactic| tm_at "v11") => `(tactic| (with_reducible refine m_remove_node (by tm_at "V") ?_))
local macro_rules | `(tactic| tm_at "v12") => `(tactic| (with_reducible refine m_remove_edge (by tm_at "V") ?_))
local macro_rules | `(tactic| tm_at "v33") => `(tactic| (with_reducible refine PySem.wpAny_truthy_bool ?_))
theorem catch_nx {base : Heap} {outer : List Env} {e : Addr} {cx : Value} {np cp rp hpos : Pos} {kk : Nat} {rest : List ExceptHandler} {Q : Flow → Shared → Prop} (hfr : Ar.frames = some (env :: outer)) (hf : env.frame = some L) (GB : Gd w base) (tr : Tr base (env :: outer) e (.ref 200) cx .none s.heap)
    (hk1 : env.scope.kind = .function) (hx : env.kindOf "NetworkXError" = some .globalImplicit) (hg : env.globals = mainGlobals)
    (k : ∀ h' tk, base.StaysIn h' → s.heap.UpToSlots h' → Q (.ret (.bool true)) { s with heap := h', toks := tk }) :
    wpAny (model prog w) Ar (noteFrame (.ref e) env) (fun _ s₂ => wpAny (model prog w) Ar (setFlight (.ref e) none) (fun _ s₃ => wpAny (model prog w) Ar (handleBy (.ref e) env
      (.ExceptHandler (some (.Name "NetworkXError" np)) none [.Return (some (.Constant (.bool true) kk cp)) rp] hpos :: rest)) Q E s₃) E s₂) E s := by
  refine tr_next hfr hf tr fun h2 tr2 u2 => ?_
  refine tr_set (fr := none) tr2 fun h3 tr3 u3 => ?_
  refine wpAny_handleBy_cons (codeAny_handlers_test ?_) (by intro q; cases q)
  refine gl_h (gd_of_base GB tr3.stay) (kg_NXE _) ?_ hk1 hx hg
  obtain ⟨oe, he, hc⟩ := tr3.type
  refine wpAny_excMatches_sub_self (cls200 (gd_of_base GB tr3.stay).kin) he hc (by decide) ?_
  rw [if_pos rfl]
  refine codeAny_handlers_suite ?_
  refine tr_set (fr := none) tr3 fun h4 tr4 u4 => ?_
  refine wpAny_execs_cons (wpAny_Return_some (wpAny_Constant_bool ?_))
  exact k h4 _ tr4.stay ((u2.trans u3).trans u4)
theorem items_il {value slice : Expr} {a : Addr} {ns : List Int} {k : Int} {t : Tok} {x : Int} {Q : Value → Shared → Prop} (hl : IL s.heap a ns) (h0 : 0 ≤ k) (hf : k < 2 ^ 63) (hx : ns[k.toNat]? = some x)
    (q : ∀ t, Q (.int x t) s) (hs : subscripted slice false (.ref a) (.int k t) = operate [.ref a, .int k t] (getItem (.ref a) (.int k t))) : wpAny (model prog w) Ar (subscriptTail value slice (.ref a) (.int k t)) Q E s := by
  obtain ⟨vs, hv, iv⟩ := hl
  obtain ⟨t', e⟩ := ints_at iv hx
  exact item_v hv.isList h0 hf (x := .int x t') (by simpa using e) (q t') hs
theorem kk_936' (P : Params) : keepIn (frag P) (.ref 936) = true := by kernel_rfl!
theorem callE {f : Value} {pos : List Value} {kw : List (Str × Value)} {Q : Value → Shared → Prop} (h : codeAny (model prog w) Ar (.call f ⟨pos, kw⟩) (fun r s' => ∃ e, r = .error (.ref e) ∧ E (.ref e) s') s) : wpAny (model prog w) Ar (call f pos kw) Q E s :=
  wpAny_call (codeAny_mono h fun r s' q => by obtain ⟨e, rfl, q⟩ := q; exact q)
theorem sum936 {base : Heap} {outer : List Env} {R : Result → Shared → Prop} {kd u v : Int} {l : Addr} {t0 t1 t2 : Tok} (em : EmbAt prog w s.heap A S) (G : Gd w s.heap) (rm : Rm Ar 4) (K : Below Ar base outer s.heap) (GB : Gd w base) (o : Ok S ks Rw) (hu : u ∈ ks) (hv : v ∈ ks) (ne : v ≠ u) (uv : v ∉ Rw u)
   (sm : ∀ x ∈ ks, 0 ≤ x ∧ x < 5) (il : IL s.heap l (Rw u))
   (k : ∀ h' tk, base.StaysIn h' → s.heap.UpToSlots h' → R (.ok (.ret (.bool true))) { s with heap := h', toks := tk }) :
   codeAny (model prog w) Ar (.call (.ref 936) ⟨[.int kd t0, .ref A.x, .ref l, .int u t1, .int v t2], []⟩) R s := by
  refine enter_emb0 (o := o936 w.params) (fd := fdOf (o936 w.params)) (body := fbody (topSt 21)) (binds := [("kind", .int kd t0), ("drawing", .ref A.x), ("row", .ref l), ("a", .int u t1), ("b", .int v t2)]) em G rm.room (by rfl) (by rfl) (by kernel_rfl!) (by rfl) (BindsTo.of_eq (by rfl)) (by kernel_rfl!) (by kernel_rfl!) fun L h₁ hL hL2 c => ?_
  have rd : Rm (Ar.deeper (callEnv (fdOf (o936 w.params)) L 936)) 3 := rm.deeper
  obtain ⟨p1, p2, p3, p4, p5, p6, p7⟩ := o.pre hu hv uv
  have s5 : (5 : Int) ∉ S.np := fun z => by have := (sm 5 (o.np ▸ z)).2; omega
  have u6 : small6 u := ⟨(sm u hu).1, by have := (sm u hu).2; omega⟩
  have v6 : small6 v := ⟨(sm v hv).1, by have := (sm v hv).2; omega⟩
  have BP : ∀ {h2 : Heap} {m2 : Str → Option Value}, C0 prog w s.heap L h2 m2 A S → Below (Ar.deeper (callEnv (fdOf (o936 w.params)) L 936)) base (callEnv (fdOf (o936 w.params)) L 936 :: outer) h2 := fun c2 => below_push K (fun b o q => c2.keep b o q) c2.ns (Nat.le_of_eq hL.symm) rfl (by show ScopeKind.function ≠ .module; decide)
  refine wpAny_execs_cons ?_
  (tm_at "s16"; tm_at "s0"; tm_at "s6"; tm_at "s7"; tm_at "v0"; tm_at "s14")
  refine PyProof.Rows.eq_int ?_
  (tm_at "v33")
  by_cases k0 : kd = 0
  · rw [show (kd == 0) = true from by simpa using k0]
    simp only [if_true]
    (tm_at "s0"; tm_at "s17"; tm_at "s22"; tm_at "v0"; tm_at "v10"; tm_at "s23"; tm_at "s24"; tm_at "v0"; tm_at "s24"; tm_at "v0"; tm_at "s25"; tm_at "s27"; tm_at "v0"; tm_at "s28"; tm_at "s29")
    refine callE (sum825_badcw c.v.em c.gd (rd.less (j := 1) (by decide)) (BP c) p1 p3 fun h' tk e tr uu => ?_)
    refine ⟨e, rfl, catch_nx (BP c).stack rfl GB tr rfl (by tm_at "u") rfl fun h'' tk'' st u2 => ?_⟩
    exact k _ _ st (((Heap.UpToSlots.of_keeps fun b o q => c.keep b o q).trans uu).trans u2)
  · rw [show (kd == 0) = false from by simpa using k0]
    simp only [Bool.false_eq_true, if_false]
    (tm_at "s0"; tm_at "s6"; tm_at "s32"; tm_at "s7"; tm_at "v0"; tm_at "s14")
    refine PyProof.Rows.eq_int ?_
    (tm_at "v33")
    have nel : ∀ {m2 : Str → Option Value} {Q : Value → Shared → Prop} {s2 : Shared} {E2 : Value → Shared → Prop} {pos : Pos}, C0 prog w s.heap L s2.heap m2 A S → (∀ tk h', C0 prog w s.heap L h' m2 A S → IL h' l (Rw u) → ∀ c, IL h' c [] → Q (.ref c) { s2 with heap := h', toks := tk }) → wpAny (model prog w) (Ar.deeper (callEnv (fdOf (o936 w.params)) L 936)) (eval (.List [] pos) (callEnv (fdOf (o936 w.params)) L 936)) Q E2 s2 := fun c2 q => by
      refine wpAny_List (Calls.spliced_nil ⟨Nat.zero_le _, ?_⟩)
      exact q _ _ (c2.push _) (il.keeps fun b o z => (c2.push _).keep b o z) _ ⟨[], ⟨_, Heap.get?_push_size _ rfl⟩, .nil⟩
    by_cases k1 : kd = 1
    · subst k1
      rw [show ((1 : Int) == 1) = true from by decide]
      simp only [if_true]
      (tm_at "s32"; tm_at "s7"; tm_at "v0")
      refine nel c fun tk2 h2 c2 il2 d2 il3 => ?_
      skip
      refine ne_b' il2 il3 rd.eq ?_
      (tm_at "v33")
      by_cases re : Rw u = []
      · rw [decide_eq_true re]
        simp only [Bool.not_true, Bool.false_eq_true, if_false]
        (tm_at "s0"; tm_at "s6"; tm_at "s32"; tm_at "s7"; tm_at "v0"; tm_at "s14")
        simp only [Bool.false_eq_true, if_false]
        skip
        refine PyProof.Rows.eq_int ?_
        (tm_at "v33")
        rw [show ((1 : Int) == 2) = false from by decide]
        simp only [Bool.false_eq_true, if_false]
        (tm_at "s0"; tm_at "s6"; tm_at "s7"; tm_at "v0"; tm_at "s14")
        simp only [Bool.false_eq_true, if_false]
        skip
        refine PyProof.Rows.eq_int ?_
        (tm_at "v33")
        rw [show ((1 : Int) == 3) = false from by decide]
        simp only [Bool.false_eq_true, if_false]
        (tm_at "s0"; tm_at "s17"; tm_at "s20"; tm_at "v0"; tm_at "v12"; tm_at "s23"; tm_at "s24"; tm_at "v0"; tm_at "s24"; tm_at "v0"; tm_at "s25"; tm_at "s29")
        refine callE (sum853_bad c2.v.em c2.gd (rd.less (j := 1) (by decide)) (BP c2) GB p1 p2 p3 u6 v6 fun h' tk e cx tr uu => ?_)
        refine ⟨e, rfl, catch_nx (BP c2).stack rfl GB tr rfl (by tm_at "u") rfl fun h'' tk'' st u2 => ?_⟩
        exact k _ _ st (((Heap.UpToSlots.of_keeps fun b o q => c2.keep b o q).trans uu).trans u2)
      · rw [decide_eq_false re]
        simp only [Bool.not_false, if_true]
        (tm_at "s34")
        simp only [if_true]
        (tm_at "s0"; tm_at "s17"; tm_at "s22"; tm_at "v0"; tm_at "v10"; tm_at "s23"; tm_at "s24"; tm_at "v0"; tm_at "s24"; tm_at "v0"; tm_at "s25"; tm_at "s27"; tm_at "s9"; tm_at "v0"; tm_at "s14")
        obtain ⟨y0, yr, hy⟩ : ∃ y0 yr, Rw u = y0 :: yr := by cases h : Rw u with | nil => exact absurd h re | cons a b => exact ⟨a, b, rfl⟩
        refine items_il il2 (by decide) (by decide) (x := y0) (by rw [hy]; rfl) (fun t => ?_) (by tm_at "u")
        (tm_at "s27"; tm_at "s9"; tm_at "v0"; tm_at "s26"; tm_at "s14"; tm_at "v8")
        obtain ⟨z0, hz⟩ : ∃ z0, (Rw u).getLast? = some z0 := ⟨_, List.getLast?_eq_some_getLast re⟩
        refine item_last il2 hz (fun t => ?_) (by tm_at "u")
        (tm_at "s28"; tm_at "s29")
        refine callE (sum825_badboth c2.v.em c2.gd (rd.less (j := 1) (by decide)) (BP c2) p1 (fun z => re (List.eq_nil_iff_forall_not_mem.mpr fun x hx => by have := (o.mem hu).mpr hx; rw [z] at this; cases this)) ((o.mem hu).mpr (by rw [hy]; exact .head _)) fun h' tk e tr uu => ?_)
        refine ⟨e, rfl, catch_nx (BP c2).stack rfl GB tr rfl (by tm_at "u") rfl fun h'' tk'' st u2 => ?_⟩
        exact k _ _ st (((Heap.UpToSlots.of_keeps fun b o q => c2.keep b o q).trans uu).trans u2)
    · rw [show (kd == 1) = false from by simpa using k1]
      simp only [Bool.false_eq_true, if_false]
      (tm_at "s0"; tm_at "s6"; tm_at "s32"; tm_at "s7"; tm_at "v0"; tm_at "s14")
      simp only [Bool.false_eq_true, if_false]
      skip
      refine PyProof.Rows.eq_int ?_
      (tm_at "v33")
      by_cases k2 : kd = 2
      · subst k2
        rw [show ((2 : Int) == 2) = true from by decide]
        simp only [if_true]
        (tm_at "s32"; tm_at "s7"; tm_at "v0")
        refine nel c fun tk2 h2 c2 il2 d2 il3 => ?_
        skip
        refine ne_b' il2 il3 rd.eq ?_
        (tm_at "v33")
        by_cases re : Rw u = []
        · rw [decide_eq_true re]
          simp only [Bool.not_true, Bool.false_eq_true, if_false]
          (tm_at "s0"; tm_at "s6"; tm_at "s7"; tm_at "v0"; tm_at "s14")
          simp only [Bool.false_eq_true, if_false]
          skip
          refine PyProof.Rows.eq_int ?_
          (tm_at "v33")
          rw [show ((2 : Int) == 3) = false from by decide]
          simp only [Bool.false_eq_true, if_false]
          (tm_at "s0"; tm_at "s17"; tm_at "s20"; tm_at "v0"; tm_at "v12"; tm_at "s23"; tm_at "s24"; tm_at "v0"; tm_at "s24"; tm_at "v0"; tm_at "s25"; tm_at "s29")
          refine callE (sum853_bad c2.v.em c2.gd (rd.less (j := 1) (by decide)) (BP c2) GB p1 p2 p3 u6 v6 fun h' tk e cx tr uu => ?_)
          refine ⟨e, rfl, catch_nx (BP c2).stack rfl GB tr rfl (by tm_at "u") rfl fun h'' tk'' st u2 => ?_⟩
          exact k _ _ st (((Heap.UpToSlots.of_keeps fun b o q => c2.keep b o q).trans uu).trans u2)
        · rw [decide_eq_false re]
          simp only [Bool.not_false, if_true]
          (tm_at "s34")
          simp only [if_true]
          (tm_at "s0"; tm_at "s17"; tm_at "s20"; tm_at "v0"; tm_at "v10"; tm_at "s23"; tm_at "s24"; tm_at "v0"; tm_at "s24"; tm_at "v0"; tm_at "s25"; tm_at "s29")
          refine callE (sum825_badnone c2.v.em c2.gd (rd.less (j := 1) (by decide)) (BP c2) p1 (fun z => re (List.eq_nil_iff_forall_not_mem.mpr fun x hx => by have := (o.mem hu).mpr hx; rw [z] at this; cases this)) fun h' tk e tr uu => ?_)
          refine ⟨e, rfl, catch_nx (BP c2).stack rfl GB tr rfl (by tm_at "u") rfl fun h'' tk'' st u2 => ?_⟩
          exact k _ _ st (((Heap.UpToSlots.of_keeps fun b o q => c2.keep b o q).trans uu).trans u2)
      · rw [show (kd == 2) = false from by simpa using k2]
        simp only [Bool.false_eq_true, if_false]
        (tm_at "s0"; tm_at "s6"; tm_at "s7"; tm_at "v0"; tm_at "s14")
        simp only [Bool.false_eq_true, if_false]
        skip
        refine PyProof.Rows.eq_int ?_
        (tm_at "v33")
        by_cases k3 : kd = 3
        · subst k3
          rw [show ((3 : Int) == 3) = true from by decide]
          simp only [if_true]
          (tm_at "s0"; tm_at "s17"; tm_at "s20"; tm_at "v0"; tm_at "v11"; tm_at "s23"; tm_at "s24"; tm_at "s14"; tm_at "s25"; tm_at "s29")
          refine callE (sum802_bad c.v.em c.gd (rd.less (j := 1) (by decide)) (BP c) GB s5 ⟨by decide, by decide⟩ fun h' tk e cx tr uu => ?_)
          refine ⟨e, rfl, catch_nx (BP c).stack rfl GB tr rfl (by tm_at "u") rfl fun h'' tk'' st u2 => ?_⟩
          exact k _ _ st (((Heap.UpToSlots.of_keeps fun b o q => c.keep b o q).trans uu).trans u2)
        · rw [show (kd == 3) = false from by simpa using k3]
          simp only [Bool.false_eq_true, if_false]
          (tm_at "s0"; tm_at "s17"; tm_at "s20"; tm_at "v0"; tm_at "v12"; tm_at "s23"; tm_at "s24"; tm_at "v0"; tm_at "s24"; tm_at "v0"; tm_at "s25"; tm_at "s29")
          refine callE (sum853_bad c.v.em c.gd (rd.less (j := 1) (by decide)) (BP c) GB p1 p2 p3 u6 v6 fun h' tk e cx tr uu => ?_)
          refine ⟨e, rfl, catch_nx (BP c).stack rfl GB tr rfl (by tm_at "u") rfl fun h'' tk'' st u2 => ?_⟩
          exact k _ _ st (((Heap.UpToSlots.of_keeps fun b o q => c.keep b o q).trans uu).trans u2)
end
end Mine
end
section
open PySem PySem.W PySem.Calls PyProof.Rows
set_option maxRecDepth 100000
set_option maxHeartbeats 1000000
set_option linter.all false
namespace Mine
def ILw (h : Heap) (l : Addr) (ns : List Int) : Prop := ∃ vs, h.IsList l vs.toArray ∧ IntsAre vs ns
theorem ILw.keeps {h h' : Heap} {l : Addr} {ns : List Int} (x : ILw h l ns) (k : ∀ b o, h.get? b = some o → h'.get? b = some o) : ILw h' l ns := let ⟨vs, a, b⟩ := x; ⟨vs, a.at fun o e => k _ o e, b⟩
section
variable {w : World} {Ar : Around} {E : Value → Shared → Prop} {s : Shared} {g h h' : Heap} {L I : Addr} {m cm : Str → Option Value} {cs : List (Str × Addr)} {A : EA} {S S' : ES} {T : Tg → Prop} {env : Env} {Ps Qs Qs' Rs : List Ast} {x dx : Addr}
theorem B.fold (c : B w g L cs m cm (Qs ++ Rs) h) (y : Sep Qs' h) (sub : ∀ b, Fps Qs' b → Fps Qs b) : B w g L cs m cm (Qs' ++ Rs) h := c.step (Step.fold (Step.refl c.psep.left) y sub)
theorem slice_finL {l : Addr} {ns ns' : List Int} {vl vu : Value} {lo hi : Option Int} {Q : Value → Shared → Prop} (c : B w g L cs m cm Ps s.heap) (hl : ILw s.heap l ns) (pl : IsPart vl lo) (pu : IsPart vu hi)
    (few : ns.length ≤ sizeLine) (hp : ∀ {vs : List Value}, IntsAre vs ns → IntsAre (slicePick vs.toArray lo hi none).toList ns')
    (k : ∀ h' d, B w g L cs m cm (ILA d ns' :: Ps) h' → Q (.ref d) { s with heap := h' }) : SlicePost Q (.ref l) vl vu s := by
  obtain ⟨vs, hv, iv⟩ := hl
  refine ⟨l, vs.toArray, lo, hi, rfl, hv, by rw [List.size_toArray, iv.length]; exact few, pl, pu, k _ _ ?_⟩
  refine c.newInts (fun b o e => push_keeps _ _ b o (push_keeps _ _ b o e)) ⟨(slicePick vs.toArray lo hi none).toList, ?_, hp iv⟩ (Nat.le_succ _)
  have := Heap.get?_push_size (s.heap.push { cls := .type "slice", data := .fields #[vl, vu, .none] }) (o := { cls := .type "list", data := .seq (slicePick vs.toArray lo hi none) }) rfl
  rw [Heap.size_push] at this
  exact ⟨_, by rw [Array.toArray_toList]; exact this⟩
theorem iterR_b {n : Int} {t : Tok} {Q : Value → Shared → Prop} (c : B w g L cs m cm Ps s.heap) (h0 : 0 ≤ n) (h1 : n ≤ 1000)
    (k : ∀ h' tk I, B w g L cs m cm (RItA I 0 n :: Ps) h' → Q (.ref I) { s with heap := h', toks := tk }) :
    wpAny (model prog w) Ar (call (.type "range") [.int n t]) (fun v s₁ => wpAny (model prog w) Ar (pyIter v) Q E s₁) E s := by
  refine PySem.call_range_1 ?_
  have hr : IsRange (s.heap.push { cls := .type "range", data := .fields #[.int 0 s.toks, .int n t, .int 1 (s.toks + 1)] }) s.heap.objs.size 0 n 1 s.toks t (s.toks + 1) := Heap.get?_push_size _ rfl
  have sz : Builtin.Range.rangeSize 0 n 1 = n := by unfold Builtin.Range.rangeSize; simp; omega
  refine wpAny_pyIter_range hr (by unfold Builtin.Range.small; simp only [sz, Builtin.Range.rangeFitsLong]; simp; omega) ?_
  rw [sz]
  have G := c.gd
  have G1 : Gd w (s.heap.push { cls := .type "range", data := .fields #[.int 0 s.toks, .int n t, .int 1 (s.toks + 1)] }) := G.keeps (push_keeps _ _)
  have c1 := c.keeps (push_keeps s.heap { cls := .type "range", data := .fields #[.int 0 s.toks, .int n t, .int 1 (s.toks + 1)] })
  refine k _ _ _ (c1.more (fresh_step G1 (push_keeps _ _) ⟨Heap.get?_push_size _ rfl, G1.size⟩ fun b hb => hb ▸ Nat.le_refl _))
theorem selfR_b {a n : Int} {Q : Value → Shared → Prop} (i : Nat) (c : B w g L cs m cm Ps s.heap) (hi : Ps[i]? = some (RItA I a n)) (k : Q (.ref I) s) : wpAny (model prog w) Ar (pyIter (.ref I)) Q E s := by
  have hit := (c.at i hi).1
  have hT : s.TypeIs (.ref I) "range_iterator" := ⟨_, hit, rfl⟩
  refine wpAny_pyIter_slot hT PySem.F.slot_range_iterator_iter (wpAny_call_entry PySem.F.slot_range_iterator_iter hT PySem.F.entry_range_iterator_iter ?_ (PySem.F.args_range_iterator_iter_1 _))
  exact wpAny_pure ⟨_, rfl, "range_iterator", _, hT, PySem.F.slot_range_iterator_next.lookup, k⟩
theorem nextR_b {a n : Int} {Q : Option Value → Shared → Prop} (i : Nat) (c : B w g L cs m cm Ps s.heap) (hi : Ps[i]? = some (RItA I a n)) (hn : 0 < n)
    (k : ∀ h' t tk, B w g L cs m cm (Ps.set i (RItA I (a + 1) (n - 1))) h' → Q (some (.int a t)) { s with heap := h', toks := tk }) : wpAny (model prog w) Ar (pyNext (.ref I)) Q E s :=
  wpAny_pyNext_range_item (c.at i hi).1 hn fun h' hr sb => k h' _ _ (c.step1 i hi (one_step sb rfl ⟨hr, (c.at i hi).2⟩ fun _ z => z))
theorem endR_b {a n : Int} {Q : Option Value → Shared → Prop} (i : Nat) (c : B w g L cs m cm Ps s.heap) (hh : Ar.handled = none) (hi : Ps[i]? = some (RItA I a n)) (hn : n ≤ 0)
    (k : ∀ h', B w g L cs m cm (Ps.eraseIdx i) h' → Q none { s with heap := h' }) : wpAny (model prog w) Ar (pyNext (.ref I)) Q E s :=
  wpAny_pyNext_range_end hh (c.at i hi).1 hn fun h' eb => k h' (c.lose i hi rfl fun b o n e => eb b o n e)
local macro_rules | `(tactic| tm_at "k") => `(tactic| first | exact kk_915 _ | exact kk_922 _ | exact kk_929 _ | exact kk_936 _ | exact kk_941 _ | exact kk_825 _ | exact kk_802 _ | exact kk_853 _ | exact kk_788 _ | exact kk_816 _ | exact kk_614 _ | exact kk_809 _ | exact kk_860 _ | exact kk_867 _ | exact kk_839 _ | exact kk_846 _ | exact kk_261 _ | exact kk_268 _ | exact kk_275 _ | exact kk_282 _ | exact kk_289 _ | exact kk_296 _)
local macro_rules | `(tactic| tm_at "V") => `(tactic| first | assumption | exact C.v (by assumption) | exact C0.v (by assumption))
local macro_rules | `(tactic| tm_at "h") => `(tactic| first | assumption | with_unfolding_all assumption)
local macro_rules | `(tactic| tm_at "t") => `(tactic| first | assumption | (with_unfolding_all exact True.intro) | (with_unfolding_all exact fun q => Tg.noConfusion q))
local macro_rules | `(tactic| tm_at "M") => `(tactic| with_unfolding_all first | exact .head _ | exact .tail _ (.head _) | exact .tail _ (.tail _ (.head _)))
local macro_rules | `(tactic| tm_at "u") => `(tactic| with_unfolding_all rfl)
local macro_rules | `(tactic| tm_at "s0") => `(tactic| (with_reducible refine Slice_b ?_ (by intro _ _; with_unfolding_all rfl)))
local macro_rules | `(tactic| tm_at "s3") => `(tactic| (with_reducible refine wpAny_Assign_Name ?_ (by tm_at "u")))
local macro_rules | `(tactic| tm_at "s15") => `(tactic| (with_reducible refine wpAny_Constant_int ?_))
local macro_rules | `(tactic| tm_at "s25") => `(tactic| (with_reducible refine spliced_more ?_ (by tm_at "u")))
local macro_rules | `(tactic| tm_at "s26") => `(tactic| ((with_reducible refine spliced_none ?_); try dsimp only [List.cons_append, List.nil_append]))
local macro_rules | `(tactic| tm_at "v1") => `(tactic| (with_unfolding_all refine ld_b (by assumption) (by first | rfl | assumption) ?_))
local macro_rules | `(tactic| tm_at "v3") => `(tactic| ((with_reducible refine st_b (by assumption) ?_ (by tm_at "u") (by tm_at "u") (by tm_at "u")); intro _ _; try dsimp only))
local macro_rules | `(tactic| tm_at "v10") => `(tactic| (with_reducible refine part_none ?_))
local macro_rules | `(tactic| tm_at "v11") => `(tactic| (with_reducible refine part_some ?_))
local macro_rules | `(tactic| tm_at "v12") => `(tactic| (with_reducible refine List_b ?_))
theorem execs_append {env : Env} (xs ys : List Stmt) : execs (xs ++ ys) env = (do match ← execs xs env with | .next => execs ys env | f => pure f) := by
  induction xs with
  | nil => rfl
  | cons x xs ih =>
    rw [List.cons_append, execs_cons, execs_cons, ih, bind_assoc]
    congr 1
    funext f
    cases f <;> rfl
theorem execs_app {env : Env} {Q : Flow → Shared → Prop} (xs ys : List Stmt) (h : wpAny (model prog w) Ar (execs xs env) (fun f s' => match f with | .next => wpAny (model prog w) Ar (execs ys env) Q E s' | f => Q f s') E s) : wpAny (model prog w) Ar (execs (xs ++ ys) env) Q E s := by
  rw [execs_append]
  refine wpAny_bind (wpAny_mono h (fun f s' h' => ?_) fun _ _ z => z)
  cases f <;> first | exact h' | exact wpAny_pure h'
theorem B.setMap {m' : Str → Option Value} (c : B w g L cs m cm Ps h) (e : m = m') : B w g L cs m' cm Ps h := e ▸ c
theorem law_a {l : Addr} {xs : List Int} {Q : Flow → Shared → Prop} (c : B w g L (cellsFrom (L + 1) (fdOf (o946 w.params)).scope.names []) m cm [] s.heap) (rd : Rm Ar 8) (hl : ILw s.heap l xs) (few : xs.length ≤ sizeLine) (hm : m (Str.ofString "script") = some (.ref l))
   (k : ∀ h' tk a sa m', m' (Str.ofString "state") = some (.ref a) → B w g L (cellsFrom (L + 1) (fdOf (o946 w.params)).scope.names []) m' cm [StA a sa (xs.take 50)] h' → Q .next { s with heap := h', toks := tk }) :
   wpAny (model prog w) Ar (execs (List.take 1 (fbody (topSt 23))) (callEnvC (fdOf (o946 w.params)) L 946)) Q E s := by
  refine wpAny_execs_cons ?_
  (tm_at "s3"; tm_at "v12"; tm_at "s25"; tm_at "s0"; tm_at "v1"; tm_at "v10"; tm_at "v11"; tm_at "s15")
  refine slice_finL c hl .none (.int _ _) few (fun iv => slice_ints_uptoW iv (by decide)) fun h1 sa c1 => ?_
  (tm_at "s25"; tm_at "s15"; tm_at "s25"; tm_at "s15"; tm_at "s26")
  refine list_finV c1 (Nat.le_of_ble_eq_true rfl) fun h2 a c2 => ?_
  have lenOk : (xs.take 50).length ≤ 50 := by rw [List.length_take]; omega
  have ne : a ≠ sa := sep_ne c2.psep 0 1 (by decide) rfl rfl rfl rfl
  have c3 := B.fold (Qs := [LiA a [.ref sa, .int 0 _, .int 17 _], ILA sa (xs.take 50)]) (Rs := []) (Qs' := [StA a sa (xs.take 50)]) c2
    ⟨fun P hP => by rw [List.mem_singleton.mp hP]; exact ⟨⟨0, 17, _, _, (c2.at 0 rfl).1, by decide, by decide, by decide⟩, (c2.at 1 rfl).1, lenOk, ne, (c2.at 0 rfl).2, (c2.at 1 rfl).2⟩, List.pairwise_singleton ..⟩
    (fun b ⟨P, hP, hb⟩ => by
      rw [List.mem_singleton.mp hP] at hb
      rcases hb with rfl | rfl
      · exact ⟨_, .head _, rfl⟩
      · exact ⟨_, .tail _ (.head _), rfl⟩)
  clear c2 c1 c
  (tm_at "v3")
  rename_i h4 c4
  refine wpAny_execs_nil ?_
  exact k _ _ _ _ _ rfl c4
end
end Mine
end
section
open PySem PySem.W PySem.Calls PyProof.Rows
set_option maxRecDepth 100000
set_option maxHeartbeats 1000000
set_option linter.all false
namespace Mine
def Inj (ks : List Int) (la : Int → Addr) : Prop := ∀ u ∈ ks, ∀ v ∈ ks, la u = la v → u = v
def upI (n : Nat) : List Int := (List.range n).map Int.ofNat
theorem upI_succ (n : Nat) : upI (n + 1) = upI n ++ [(n : Int)] := by unfold upI; rw [List.range_succ, List.map_append]; rfl
theorem mem_upI {n : Nat} {u : Int} : u ∈ upI n ↔ 0 ≤ u ∧ u < n := by
  unfold upI
  rw [List.mem_map]
  constructor
  · rintro ⟨a, h, rfl⟩
    have := List.mem_range.mp h
    exact ⟨Int.natCast_nonneg _, by show (a : Int) < n; omega⟩
  · rintro ⟨h0, h1⟩
    exact ⟨u.toNat, List.mem_range.mpr (by omega), by show ((u.toNat : Nat) : Int) = u; omega⟩
theorem upI_nodup (n : Nat) : (upI n).Nodup := List.Pairwise.map _ (fun a b h e => h (Int.ofNat.inj e)) List.nodup_range
theorem upI_length (n : Nat) : (upI n).length = n := by unfold upI; rw [List.length_map, List.length_range]
theorem Inj.snoc {ks : List Int} {la : Int → Addr} {u : Int} {d : Addr} (h : Inj ks la) (hu : u ∉ ks) (hd : ∀ v ∈ ks, la v ≠ d) : Inj (ks ++ [u]) (upd la u d) := by
  intro a ha b hb e
  have nq : ∀ {v : Int}, v ∈ ks → v ≠ u := fun hv z => hu (z ▸ hv)
  rcases List.mem_append.mp ha with ha | ha <;> rcases List.mem_append.mp hb with hb | hb
  · rw [upd_ne _ _ (nq ha), upd_ne _ _ (nq hb)] at e
    exact h a ha b hb e
  · rw [List.mem_singleton.mp hb] at e ⊢
    rw [upd_same, upd_ne _ _ (nq ha)] at e
    exact absurd e (hd a ha)
  · rw [List.mem_singleton.mp ha] at e ⊢
    rw [upd_same, upd_ne _ _ (nq hb)] at e
    exact absurd e.symm (hd b hb)
  · rw [List.mem_singleton.mp ha, List.mem_singleton.mp hb]
theorem Inj.put {ks : List Int} {la : Int → Addr} {u : Int} {d : Addr} (h : Inj ks la) (hd : ∀ v ∈ ks, v ≠ u → la v ≠ d) : Inj ks (upd la u d) := by
  intro a ha b hb e
  by_cases qa : a = u <;> by_cases qb : b = u
  · rw [qa, qb]
  · rw [qa, upd_same, upd_ne _ _ qb] at e; exact absurd e.symm (hd b hb qb)
  · rw [qb, upd_same, upd_ne _ _ qa] at e; exact absurd e (hd a ha qa)
  · rw [upd_ne _ _ qa, upd_ne _ _ qb] at e; exact h a ha b hb e
theorem stored_old {l : List Int} {f : Int → Addr} {u : Int} {a : Addr} (h : u ∈ l) : stored (refs l f) u (.ref a) = refs l (upd f u a) := by
  unfold stored refs
  have e : ((l.map fun u => (u, Value.ref (f u))).any fun kv => decide (kv.1 = u)) = true := by
    rw [List.any_eq_true]
    exact ⟨_, List.mem_map_of_mem h, by simp⟩
  rw [if_pos e, List.map_map]
  refine List.map_congr_left fun x hx => ?_
  by_cases q : x = u
  · subst q; simp [upd_same]
  · simp [q, upd_ne]
section
variable {w : World} {Ar : Around} {E : Value → Shared → Prop} {s : Shared} {g h h' : Heap} {L I : Addr} {m cm : Str → Option Value} {cs : List (Str × Addr)} {A : EA} {S S' : ES} {T : Tg → Prop} {env : Env} {Ps Qs Qs' Rs : List Ast} {x dx : Addr}
theorem dset_b {ks : List Int} {la : Int → Addr} {d a : Addr} {u : Int} {t : Tok} {Q : Unit → Shared → Prop} (i : Nat) (c : B w g L cs m cm Ps s.heap) (hi : Ps[i]? = some (DiA w d (refs ks la))) (hu : u ∉ ks) (few : ks.length ≤ 100)
    (k : ∀ h' tk, B w g L cs m cm (Ps.set i (DiA w d (refs (ks ++ [u]) (upd la u a)))) h' → Q () { s with heap := h', toks := tk }) : wpAny (model prog w) Ar (dictSet d (.int u t) (.ref a)) Q E s :=
  wpAny_dictSet_pairs (is_int _ _) (c.at i hi).1 (fun h' hm sb => k h' _ (c.step1 i hi (one_step sb rfl ⟨by rw [stored_new (valueAt_refs_none hu), refs_snoc hu] at hm; exact hm, (c.at i hi).2⟩ fun _ z => z))) (by rw [refs_length]; exact il_small (Nat.le_trans few (by decide)))
theorem put_b {ks : List Int} {la : Int → Addr} {d a : Addr} {u : Int} {t : Tok} {Q : Unit → Shared → Prop} (i : Nat) (c : B w g L cs m cm Ps s.heap) (hi : Ps[i]? = some (DiA w d (refs ks la))) (hu : u ∈ ks) (few : ks.length ≤ 100)
    (k : ∀ h' tk, B w g L cs m cm (Ps.set i (DiA w d (refs ks (upd la u a)))) h' → Q () { s with heap := h', toks := tk }) : wpAny (model prog w) Ar (setItem (.ref d) (.int u t) (.ref a)) Q E s :=
  wpAny_setItem_pairs (is_int _ _) (c.at i hi).1 (fun h' hm sb => k h' _ (c.step1 i hi (one_step sb rfl ⟨by rw [stored_old hu] at hm; exact hm, (c.at i hi).2⟩ fun _ z => z))) (by rw [refs_length]; exact il_small (Nat.le_trans few (by decide)))
theorem B.putRow {ks : List Int} {la : Int → Addr} {R : Int → List Int} {u : Int} {d : Addr} {row : List Int} (c : B w g L cs m cm (ILA d row :: RowsA ks la R :: Rs) h) : B w g L cs m cm (RowsA ks (upd la u d) (upd R u row) :: Rs) h := by
  refine B.fold (Qs := [ILA d row, RowsA ks la R]) (Qs' := [RowsA ks (upd la u d) (upd R u row)]) c ⟨fun P hP => ?_, List.pairwise_singleton ..⟩ fun b ⟨P, hP, hb⟩ => ?_
  · rw [List.mem_singleton.mp hP]
    intro v hv
    by_cases q : v = u
    · subst q; rw [upd_same, upd_same]; exact c.at 0 rfl
    · rw [upd_ne _ _ q, upd_ne _ _ q]; exact (c.at 1 rfl : (RowsA ks la R).ok h) v hv
  · rw [List.mem_singleton.mp hP] at hb
    obtain ⟨v, hv, e⟩ := hb
    by_cases q : v = u
    · subst q; rw [upd_same] at e; exact ⟨ILA d row, .head _, e.symm⟩
    · rw [upd_ne _ _ q] at e; exact ⟨RowsA ks la R, .tail _ (.head _), v, hv, e⟩
theorem B.rowNe {ks : List Int} {la : Int → Addr} {R : Int → List Int} {d : Addr} {P : Ast} (i j : Nat) (c : B w g L cs m cm Ps h) (hi : Ps[i]? = some P) (hj : Ps[j]? = some (RowsA ks la R)) (lt : i < j) (hd : P.fp d) : ∀ v ∈ ks, la v ≠ d := fun v hv e =>
  sep_ne c.psep i j lt hi hj hd ⟨v, hv, rfl⟩ e.symm
end
end Mine
end
section
open PySem PySem.W PySem.Calls PyProof.Rows
set_option maxRecDepth 100000
set_option maxHeartbeats 1000000
set_option linter.all false
namespace Mine
section
variable {w : World} {Ar : Around} {E : Value → Shared → Prop} {s : Shared} {g h h' : Heap} {L I : Addr} {m cm : Str → Option Value} {cs : List (Str × Addr)} {A : EA} {S S' : ES} {T : Tg → Prop} {env : Env} {Ps Qs Qs' Rs : List Ast} {x dx : Addr}
local macro_rules | `(tactic| tm_at "k") => `(tactic| first | exact kk_915 _ | exact kk_922 _ | exact kk_929 _ | exact kk_936 _ | exact kk_941 _ | exact kk_825 _ | exact kk_802 _ | exact kk_853 _ | exact kk_788 _ | exact kk_816 _ | exact kk_614 _ | exact kk_809 _ | exact kk_860 _ | exact kk_867 _ | exact kk_839 _ | exact kk_846 _ | exact kk_261 _ | exact kk_268 _ | exact kk_275 _ | exact kk_282 _ | exact kk_289 _ | exact kk_296 _)
local macro_rules | `(tactic| tm_at "V") => `(tactic| first | assumption | exact C.v (by assumption) | exact C0.v (by assumption))
local macro_rules | `(tactic| tm_at "h") => `(tactic| first | assumption | with_unfolding_all assumption)
local macro_rules | `(tactic| tm_at "t") => `(tactic| first | assumption | (with_unfolding_all exact True.intro) | (with_unfolding_all exact fun q => Tg.noConfusion q))
local macro_rules | `(tactic| tm_at "M") => `(tactic| with_unfolding_all first | exact .head _ | exact .tail _ (.head _) | exact .tail _ (.tail _ (.head _)))
local macro_rules | `(tactic| tm_at "u") => `(tactic| with_unfolding_all rfl)
local macro_rules | `(tactic| tm_at "s3") => `(tactic| (with_reducible refine wpAny_Assign_Name ?_ (by tm_at "u")))
local macro_rules | `(tactic| tm_at "s15") => `(tactic| (with_reducible refine wpAny_Constant_int ?_))
local macro_rules | `(tactic| tm_at "s22") => `(tactic| (with_reducible refine Call_ ?_ (by tm_at "u")))
local macro_rules | `(tactic| tm_at "s24") => `(tactic| ((with_reducible show wpAny _ _ (callWith _ _ _ _ _) _ _ _); (try dsimp only); first
     | (with_reducible refine callWith_method1 ?_ (by tm_at "u") (by tm_at "u"))
     | (with_reducible refine callWith_method0 ?_)
     | (with_reducible refine callWith_K (B.kin (by assumption)) (by tm_at "k") ?_ (by tm_at "u") (by tm_at "u"))
     | (with_reducible refine callWith_K0 (B.kin (by assumption)) (by tm_at "k") ?_)
     | (with_reducible refine callWith_KW (B.kin (by assumption)) (by tm_at "k") (by tm_at "u") ?_ (by tm_at "u") (by tm_at "u"))
     | (with_reducible refine PyProof.Rows.callWith_type1 ?_ (by tm_at "u") (by tm_at "u"))))
local macro_rules | `(tactic| tm_at "s25") => `(tactic| (with_reducible refine spliced_more ?_ (by tm_at "u")))
local macro_rules | `(tactic| tm_at "s26") => `(tactic| ((with_reducible refine spliced_none ?_); try dsimp only [List.cons_append, List.nil_append]))
local macro_rules | `(tactic| tm_at "s30") => `(tactic| (with_reducible refine in_and (B.kin (by assumption)) ?_))
local macro_rules | `(tactic| tm_at "v0") => `(tactic| (with_reducible refine wpAny_BinOp ?_))
local macro_rules | `(tactic| tm_at "v1") => `(tactic| (with_unfolding_all refine ld_b (by assumption) (by first | rfl | assumption) ?_))
local macro_rules | `(tactic| tm_at "v3") => `(tactic| ((with_reducible refine st_b (by assumption) ?_ (by tm_at "u") (by tm_at "u") (by tm_at "u")); intro _ _; try dsimp only))
local macro_rules | `(tactic| tm_at "v4") => `(tactic| ((with_reducible refine sc_b (by assumption) (by tm_at "u") ?_ (by tm_at "u") (by tm_at "u") (by tm_at "u")); intro _ _; try dsimp only))
local macro_rules | `(tactic| tm_at "v6") => `(tactic| (with_reducible refine P.add_int ?_))
local macro_rules | `(tactic| tm_at "v12") => `(tactic| (with_reducible refine List_b ?_))
theorem law_b {a sa : Addr} {xs : List Int} {Q : Flow → Shared → Prop} (c : B w g L (cellsFrom (L + 1) (fdOf (o946 w.params)).scope.names []) m cm [StA a sa xs] s.heap) (rd : Rm Ar 8) (hm : m (Str.ofString "state") = some (.ref a))
   (k : ∀ h' tk d n la cm', 3 ≤ n → n ≤ 5 → cm' (Str.ofString "turns") = some (.ref d) → Inj (upI n) la → B w g L (cellsFrom (L + 1) (fdOf (o946 w.params)).scope.names []) m cm' [StA a sa xs, DiA w d (refs (upI n) la), RowsA (upI n) la fun _ => []] h' → Q .next { s with heap := h', toks := tk }) :
   wpAny (model prog w) Ar (execs (List.take 1 (List.drop 1 (fbody (topSt 23)))) (callEnvC (fdOf (o946 w.params)) L 946)) Q E s := by
  refine wpAny_execs_cons ?_
  (tm_at "s3")
  refine DictComp_b (g := g) (L := L) (cs := (cellsFrom (L + 1) (fdOf (o946 w.params)).scope.names [])) (m := m) (cm := cm) (by tm_at "u") (by rfl) (by decide) (by decide) ?_
  (tm_at "s22")
  refine bi_b c (kn_range _) boot_range (by decide +kernel) ?_ (by tm_at "u") (by tm_at "u") (by tm_at "u") (by tm_at "u")
  (tm_at "s24"; tm_at "s25"; tm_at "v0"; tm_at "s15"; tm_at "s22")
  refine gl_b c (kg_next _) ?_ (by tm_at "u") (by tm_at "u") (by tm_at "u")
  (tm_at "s24"; tm_at "s25"; tm_at "v1"; tm_at "s25"; tm_at "s15"; tm_at "s26"; tm_at "s30")
  refine next_b 0 c rfl (rd.less (by decide)) (by decide) fun h1 tk1 y t1 y0 y3 c1 => ?_
  (tm_at "v6"; tm_at "s26")
  obtain ⟨n, hn⟩ : ∃ n : Nat, 3 + y = (n : Int) := ⟨(3 + y).toNat, by omega⟩
  rw [hn]
  refine iterR_b c1 (by omega) (by omega) fun h2 tk2 I c2 => ⟨_, c2, fun C acc h3 tk3 c3 => ⟨fun Q' E' q => selfR_b 2 c3 rfl q, ?_⟩⟩
  refine compD_upto n (fun i s' => ∃ m' la, Inj (upI i) la ∧ B w g C [] m' (fun _ => none) [FrA L (cellsFrom (L + 1) (fdOf (o946 w.params)).scope.names []) m cm, DiA w acc (refs (upI i) la), RItA I i ((n : Int) - i), RowsA (upI i) la (fun _ => []), StA a sa xs] s'.heap ∧ s'.gens = s.gens ∧ s'.drawn = s.drawn ∧ s'.os = s.os) ?_ ?_ ⟨_, fun _ => 0, (fun u hu => absurd hu List.not_mem_nil), by rw [show ((n : Int) - ((0 : Nat) : Int)) = n from by simp]; exact c3.noRowsAt (fun _ => 0) (fun _ => []) 3, rfl, rfl, rfl⟩
  · rintro i s' hlt ⟨m', la, inj, c', e1, e2, e3⟩
    refine nextR_b 2 c' rfl (by omega) fun h4 t4 tk4 c4 => ⟨_, rfl, ?_⟩
    refine wpAny_assign_Name ?_
    (tm_at "v3")
    rename_i h5 c5
    refine wpAny_tests_nil ?_
    simp only [if_true]
    (tm_at "v1"; tm_at "v12"; tm_at "s26")
    refine list_fin c5 .nil (by decide) fun h6 dd c6 => ?_
    have ni : (i : Int) ∉ upI i := fun z => by have := (mem_upI.mp z).2; omega
    have nd : ∀ v ∈ upI i, la v ≠ dd := c6.rowNe 0 4 rfl rfl (by decide) rfl
    have c7 := c6.mergeAt (R := fun _ => []) 3 rfl ni
    refine dset_b 1 c7 rfl ni (by rw [upI_length]; omega) fun h8 tk8 c8 => ?_
    rw [show (n : Int) - i - 1 = ((n : Int) - ((i + 1 : Nat) : Int)) from by omega, ← upI_succ] at c8
    have inj' : Inj (upI (i + 1)) (upd la i dd) := by rw [upI_succ]; exact inj.snoc ni nd
    exact ⟨_, _, inj', c8, e1, e2, e3⟩
  · rintro s' ⟨m', la, inj, c', e1, e2, e3⟩
    refine endR_b 2 c' rd.hd rfl (by omega) fun h4 c4 => ⟨rfl, CompOut.intro c4 fun h5 c5 => ?_⟩
    (tm_at "v4")
    rename_i h6 c6
    refine wpAny_execs_nil ?_
    have c7 := c6.perm (Qs := [StA a sa xs, DiA w acc (refs (upI n) la), RowsA (upI n) la fun _ => []]) ?_
    · have := k h6 s'.toks acc n la _ (by omega) (by omega) (by rfl) inj c7
      rw [← e1, ← e2, ← e3] at this
      exact this
    · exact (List.perm_append_comm (l₁ := [DiA w acc (refs (upI n) la), RowsA (upI n) la fun _ => []]) (l₂ := [StA a sa xs]))
end
end Mine
end
section
open PySem PySem.W PySem.Calls PyProof.Rows
set_option maxRecDepth 100000
set_option maxHeartbeats 1000000
set_option linter.all false
namespace Mine
section
variable {w : World} {Ar : Around} {E : Value → Shared → Prop} {s : Shared} {g h h' : Heap} {L I : Addr} {m cm : Str → Option Value} {cs : List (Str × Addr)} {A : EA} {S S' : ES} {T : Tg → Prop} {env : Env} {Ps Qs Qs' Rs : List Ast} {x dx : Addr}
local macro_rules | `(tactic| tm_at "k") => `(tactic| first | exact kk_915 _ | exact kk_922 _ | exact kk_929 _ | exact kk_936 _ | exact kk_941 _ | exact kk_825 _ | exact kk_802 _ | exact kk_853 _ | exact kk_788 _ | exact kk_816 _ | exact kk_614 _ | exact kk_809 _ | exact kk_860 _ | exact kk_867 _ | exact kk_839 _ | exact kk_846 _ | exact kk_261 _ | exact kk_268 _ | exact kk_275 _ | exact kk_282 _ | exact kk_289 _ | exact kk_296 _)
local macro_rules | `(tactic| tm_at "V") => `(tactic| first | assumption | exact C.v (by assumption) | exact C0.v (by assumption))
local macro_rules | `(tactic| tm_at "h") => `(tactic| first | assumption | with_unfolding_all assumption)
local macro_rules | `(tactic| tm_at "t") => `(tactic| first | assumption | (with_unfolding_all exact True.intro) | (with_unfolding_all exact fun q => Tg.noConfusion q))
local macro_rules | `(tactic| tm_at "M") => `(tactic| with_unfolding_all first | exact .head _ | exact .tail _ (.head _) | exact .tail _ (.tail _ (.head _)))
local macro_rules | `(tactic| tm_at "u") => `(tactic| with_unfolding_all rfl)
local macro_rules | `(tactic| tm_at "s3") => `(tactic| (with_reducible refine wpAny_Assign_Name ?_ (by tm_at "u")))
local macro_rules | `(tactic| tm_at "s18") => `(tactic| (with_reducible refine wpAny_Expr_any ?_ (by tm_at "u") (by tm_at "u")))
local macro_rules | `(tactic| tm_at "s21") => `(tactic| (with_reducible refine MethodCall_ ?_ (by tm_at "u")))
local macro_rules | `(tactic| tm_at "s22") => `(tactic| (with_reducible refine Call_ ?_ (by tm_at "u")))
local macro_rules | `(tactic| tm_at "s24") => `(tactic| ((with_reducible show wpAny _ _ (callWith _ _ _ _ _) _ _ _); (try dsimp only); first
     | (with_reducible refine callWith_method1 ?_ (by tm_at "u") (by tm_at "u"))
     | (with_reducible refine callWith_method0 ?_)
     | (with_reducible refine callWith_K (B.kin (by assumption)) (by tm_at "k") ?_ (by tm_at "u") (by tm_at "u"))
     | (with_reducible refine callWith_K0 (B.kin (by assumption)) (by tm_at "k") ?_)
     | (with_reducible refine callWith_KW (B.kin (by assumption)) (by tm_at "k") (by tm_at "u") ?_ (by tm_at "u") (by tm_at "u"))
     | (with_reducible refine PyProof.Rows.callWith_type1 ?_ (by tm_at "u") (by tm_at "u"))))
local macro_rules | `(tactic| tm_at "s25") => `(tactic| (with_reducible refine spliced_more ?_ (by tm_at "u")))
local macro_rules | `(tactic| tm_at "s26") => `(tactic| ((with_reducible refine spliced_none ?_); try dsimp only [List.cons_append, List.nil_append]))
local macro_rules | `(tactic| tm_at "s30") => `(tactic| (with_reducible refine in_and (B.kin (by assumption)) ?_))
local macro_rules | `(tactic| tm_at "v1") => `(tactic| (with_unfolding_all refine ld_b (by assumption) (by first | rfl | assumption) ?_))
local macro_rules | `(tactic| tm_at "v2") => `(tactic| (with_unfolding_all refine lc_b (by assumption) (by first | rfl | assumption) (by rfl) ?_))
local macro_rules | `(tactic| tm_at "v3") => `(tactic| ((with_reducible refine st_b (by assumption) ?_ (by tm_at "u") (by tm_at "u") (by tm_at "u")); intro _ _; try dsimp only))
theorem law_c {a sa d : Addr} {n : Nat} {la : Int → Addr} {xs : List Int} {Q : Flow → Shared → Prop} (c : B w g L (cellsFrom (L + 1) (fdOf (o946 w.params)).scope.names []) m cm [StA a sa xs, DiA w d (refs (upI n) la), RowsA (upI n) la fun _ => []] s.heap) (rd : Rm Ar 8) (n5 : n ≤ 5) (hm : cm (Str.ofString "turns") = some (.ref d))
   (k : ∀ h' tk A S m', m' (Str.ofString "drawing") = some (.ref A.x) → m' (Str.ofString "state") = m (Str.ofString "state") → Ok S (upI n) (fun _ => []) → B w g L (cellsFrom (L + 1) (fdOf (o946 w.params)).scope.names []) m' cm [StA a sa xs, EmbA w A S, DiA w d (refs (upI n) la), RowsA (upI n) la fun _ => []] h' → Q .next { s with heap := h', toks := tk }) :
   wpAny (model prog w) Ar (execs (List.take 2 (List.drop 2 (fbody (topSt 23)))) (callEnvC (fdOf (o946 w.params)) L 946)) Q E s := by
  refine wpAny_execs_cons ?_
  (tm_at "s3"; tm_at "s22")
  refine gl_b c (kg_PE _) ?_ (by tm_at "u") (by tm_at "u") (by tm_at "u")
  skip
  refine callWith_K0 c.kin (kk_906 _) ?_
  refine make_b c (rd.less (by decide)) fun h1 tk1 A S bare c1 => ?_
  (tm_at "v3")
  rename_i h2 c2
  refine wpAny_execs_cons ?_
  (tm_at "s18"; tm_at "s21"; tm_at "v1")
  refine m_add_nodes_from (c2.V 0 rfl) ?_
  (tm_at "s24"; tm_at "s25"; tm_at "s22")
  refine bi_b c2 (kn_list _) boot_list (by decide +kernel) ?_ (by tm_at "u") (by tm_at "u") (by tm_at "u") (by tm_at "u")
  (tm_at "s24"; tm_at "s25"; tm_at "v2"; tm_at "s26")
  refine listD_b 2 c2 rfl rd.hd (by rw [upI_length]; omega) fun h3 tk3 l c3 => ?_
  (tm_at "s26"; tm_at "s30")
  obtain ⟨vs, hv, iv⟩ := (c3.at 0 rfl : (ILA l (upI n)).ok h3).1
  have hlf : ¬ Fp A S l := fun z => by
    obtain ⟨t, lt, e⟩ := z
    exact sep_ne c3.psep 0 1 (by decide) (P := ILA l (upI n)) (Q := EmbA w A S) rfl rfl rfl ⟨t, lt, e⟩ rfl
  refine callR (sum614 (ks := upI n) (c3.at 1 rfl) c3.gd (rd.less (j := 2) (by decide)).depth rd.hd (by kernel_rfl!) hv.isList hlf iv bare (upI_nodup n) (by rw [upI_length]; omega) fun h4 tk4 A' S' hA bare' back => ⟨_, rfl, ?_⟩)
  have c4 := c3.step1 1 rfl back.step
  dsimp only [List.set] at c4
  skip
  refine wpAny_execs_nil ?_
  have c5 := (c4.drop).perm (Qs := [StA a sa xs, EmbA w A' S', DiA w d (refs (upI n) la), RowsA (upI n) la fun _ => []]) (List.Perm.swap _ _ _)
  exact k _ _ A' S' (fun y => if y = Str.ofString "drawing" then some (.ref A.x) else m y) (by rw [hA]; rfl) rfl (bare'.ok (upI_nodup n) (by rw [upI_length]; omega)) c5
end
end Mine
end
section
open PySem PySem.W PySem.Calls PyProof.Rows
set_option maxRecDepth 100000
set_option maxHeartbeats 1000000
set_option linter.all false
namespace Mine
theorem compTurn_outer (elt t0 i0 t1 i1 : Expr) (ifs1 : List Expr) (scope : Scope) (pos : Pos) (it acc : Value) (env : Env) :
    compTurn (.ListComp elt [⟨t0, i0, [], 0⟩, ⟨t1, i1, ifs1, 0⟩] scope pos) 0 it acc env = (do
      standAt i0.pos
      match ← pyNext it with
      | none => pure (.done .next)
      | some v =>
        letOwnedTupleGo t0 it v
        assign t0 env v
        let x ← eval i1 env
        standAt i1.pos
        let x ← foldedSetIterable i1 env x
        let it2 ← holding [x] (pyIter x)
        let _ ← runOwn (.compStart (.ListComp elt [⟨t0, i0, [], 0⟩, ⟨t1, i1, ifs1, 0⟩] scope pos) 1 it2 acc env) env
        again (.compLoop (.ListComp elt [⟨t0, i0, [], 0⟩, ⟨t1, i1, ifs1, 0⟩] scope pos) 0 it acc env)) := by rfl
theorem compTurn_inner (elt t0 i0 t1 i1 : Expr) (ifs1 : List Expr) (scope : Scope) (pos : Pos) (it acc : Value) (env : Env) :
    compTurn (.ListComp elt [⟨t0, i0, [], 0⟩, ⟨t1, i1, ifs1, 0⟩] scope pos) 1 it acc env = (do
      standAt i1.pos
      match ← pyNext it with
      | none => pure (.done .next)
      | some v =>
        letOwnedTupleGo t1 it v
        assign t1 env v
        let mut ok := true
        for c in ifs1 do
          if ok then ok ← isTrue c env (eval c env)
        if ok then
          (do let _ ← call (.builtin "list.append") [acc, ← eval elt env])
        again (.compLoop (.ListComp elt [⟨t0, i0, [], 0⟩, ⟨t1, i1, ifs1, 0⟩] scope pos) 1 it acc env)) := by rfl
section
variable {w : World} {Ar : Around} {E : Value → Shared → Prop} {s : Shared} {env : Env}
theorem compStart_two {R : Result → Shared → Prop} {elt t0 i0 t1 i1 : Expr} {ifs1 : List Expr} {scope : Scope} {pos : Pos} {it acc : Value}
    (h0 : codeAny (model prog w) Ar (.compLoop (.ListComp elt [⟨t0, i0, [], 0⟩, ⟨t1, i1, ifs1, 0⟩] scope pos) 1 it acc env) R s)
    (h : wpAny (model prog w) Ar (pyIter it) (fun it' s' => codeAny (model prog w) Ar (.compLoop (.ListComp elt [⟨t0, i0, [], 0⟩, ⟨t1, i1, ifs1, 0⟩] scope pos) 1 it' acc env) R s')
      (notedBy (model prog w) Ar env fun x s' => R (.error x) s') s) :
    codeAny (model prog w) Ar (.compStart (.ListComp elt [⟨t0, i0, [], 0⟩, ⟨t1, i1, ifs1, 0⟩] scope pos) 1 it acc env) R s := by
  refine codeAny_of_tree ?_
  show wpAny _ _ ((compStart (.ListComp elt [⟨t0, i0, [], 0⟩, ⟨t1, i1, ifs1, 0⟩] scope pos) 1 it acc env).onRaise (fun x => do noteFrame x env; standAt theWindowsPlace)) _ _ s
  refine wpAny_notedAt ?_
  unfold compStart
  show wpAny _ _ (ask >>= _) _ _ s
  refine wpAny_bind (wpAny_askSetting (wpAny_ite ?_))
  split
  · first
      | exact wpAny_bind (wpAny_pure (wpAny_pure (And.intro rfl h0)))
      | exact wpAny_pure (And.intro rfl h0)
  · first
      | exact wpAny_bind (wpAny_rule (wpAny_bind (wpAny_standAt (wpAny_bind (wpAny_mono h (fun it' s' h' => wpAny_pure (And.intro rfl h')) fun _ _ x => x)))))
      | (refine wpAny_bind (wpAny_rule ?_); show wpAny _ _ (standAt i1.pos >>= _) _ _ s; exact wpAny_bind (wpAny_standAt (wpAny_bind (wpAny_mono h (fun it' s' h' => wpAny_pure (And.intro rfl h')) fun _ _ x => x))))
theorem comp_outer {R : Result → Shared → Prop} {elt t0 i0 t1 i1 : Expr} {ifs1 : List Expr} {scope : Scope} {pos : Pos} {it acc : Value} (n : Nat) (J : Nat → Shared → Prop)
    (turn : ∀ i s, i < n → J i s → wpAny (model prog w) Ar (pyNext it) (fun r s₁ => ∃ v, r = some v ∧ wpAny (model prog w) Ar (assign t0 env v) (fun _ s₂ =>
      wpAny (model prog w) Ar (eval i1 env) (fun x s₃ => wpAny (model prog w) Ar (pyIter x) (fun it2 s₄ =>
        codeAny (model prog w) Ar (.compStart (.ListComp elt [⟨t0, i0, [], 0⟩, ⟨t1, i1, ifs1, 0⟩] scope pos) 1 it2 acc env) (fun r s' => ∃ f, r = .ok f ∧ J (i + 1) s') s₄) (notedBy (model prog w) Ar env fun e s' => R (.error e) s') s₃) (notedBy (model prog w) Ar env fun e s' => R (.error e) s') s₂) (notedBy (model prog w) Ar env fun e s' => R (.error e) s') s₁) (notedBy (model prog w) Ar env fun e s' => R (.error e) s') s)
    (done : ∀ s, J n s → wpAny (model prog w) Ar (pyNext it) (fun r s₁ => r = none ∧ R (.ok .next) s₁) (notedBy (model prog w) Ar env fun e s' => R (.error e) s') s)
    (h0 : J 0 s) (ht : ∀ v, letOwnedTupleGo t0 it v = pure () := by intro _; rfl) (hs : ∀ x, foldedSetIterable i1 env x = pure x := by intro _; rfl) :
    codeAny (model prog w) Ar (.compLoop (.ListComp elt [⟨t0, i0, [], 0⟩, ⟨t1, i1, ifs1, 0⟩] scope pos) 0 it acc env) R s := by
  refine codeAny_loop rfl (fun k s' => ∃ i, i ≤ n ∧ k = n - i ∧ J i s') (fun k s' ⟨i, hi, hk, hj⟩ => ?_) n ⟨0, Nat.zero_le _, rfl, h0⟩
  show wpAny _ Ar ((compTurn (.ListComp elt [⟨t0, i0, [], 0⟩, ⟨t1, i1, ifs1, 0⟩] scope pos) 0 it acc env).onRaise (fun x => do noteFrame x env; theTreesLotGoes x)) _ _ _
  refine wpAny_noted ?_
  rw [compTurn_outer]
  refine wpAny_bind (wpAny_standAt (wpAny_bind ?_))
  by_cases q : i < n
  · refine wpAny_mono (turn i s' q hj) (fun r s₁ h₁ => ?_) fun _ _ z => z
    obtain ⟨v, rfl, h₁⟩ := h₁
    refine wpAny_bind (wpAny_of_eq (ht v) ?_)
    refine wpAny_bind (wpAny_mono h₁ (fun _ s₂ h₂ => ?_) fun _ _ z => z)
    refine wpAny_bind (wpAny_mono h₂ (fun x s₃ h₃ => ?_) fun _ _ z => z)
    refine wpAny_bind (wpAny_standAt (wpAny_bind (wpAny_of_eq (hs x) ?_)))
    refine wpAny_bind (wpAny_holding (wpAny_mono h₃ (fun it2 s₄ h₄ => ?_) fun _ _ z => z))
    refine wpAny_bind (wpAny_runOwn (codeAny_mono h₄ fun r s' hr => ?_))
    obtain ⟨f, rfl, hr⟩ := hr
    exact wpAny_pure ⟨rfl, n - (i + 1), by omega, i + 1, q, rfl, hr⟩
  · obtain rfl : i = n := by omega
    refine wpAny_mono (done s' hj) (fun r s₁ h₁ => ?_) fun _ _ z => z
    obtain ⟨rfl, h₁⟩ := h₁
    exact wpAny_pure h₁
theorem comp_inner {R : Result → Shared → Prop} {elt t0 i0 t1 i1 : Expr} {ifs1 : List Expr} {scope : Scope} {pos : Pos} {it acc : Value} (n : Nat) (J : Nat → Shared → Prop)
    (turn : ∀ i s, i < n → J i s → wpAny (model prog w) Ar (pyNext it) (fun r s₁ => ∃ v, r = some v ∧ wpAny (model prog w) Ar (assign t1 env v) (fun _ s₂ =>
      wpAny (model prog w) Ar (forIn ifs1 true fun c r => if r = true then do let ok ← isTrue c env (eval c env); pure (ForInStep.yield ok) else pure (ForInStep.yield r)) (fun ok s₃ =>
        if ok = true then wpAny (model prog w) Ar (eval elt env) (fun x s₄ => wpAny (model prog w) Ar (call (.builtin "list.append") [acc, x]) (fun _ s₅ => J (i + 1) s₅) (notedBy (model prog w) Ar env fun e s' => R (.error e) s') s₄) (notedBy (model prog w) Ar env fun e s' => R (.error e) s') s₃
        else J (i + 1) s₃) (notedBy (model prog w) Ar env fun e s' => R (.error e) s') s₂) (notedBy (model prog w) Ar env fun e s' => R (.error e) s') s₁) (notedBy (model prog w) Ar env fun e s' => R (.error e) s') s)
    (done : ∀ s, J n s → wpAny (model prog w) Ar (pyNext it) (fun r s₁ => r = none ∧ R (.ok .next) s₁) (notedBy (model prog w) Ar env fun e s' => R (.error e) s') s)
    (h0 : J 0 s) (ht : ∀ v, letOwnedTupleGo t1 it v = pure () := by intro _; rfl) :
    codeAny (model prog w) Ar (.compLoop (.ListComp elt [⟨t0, i0, [], 0⟩, ⟨t1, i1, ifs1, 0⟩] scope pos) 1 it acc env) R s := by
  refine codeAny_loop rfl (fun k s' => ∃ i, i ≤ n ∧ k = n - i ∧ J i s') (fun k s' ⟨i, hi, hk, hj⟩ => ?_) n ⟨0, Nat.zero_le _, rfl, h0⟩
  show wpAny _ Ar ((compTurn (.ListComp elt [⟨t0, i0, [], 0⟩, ⟨t1, i1, ifs1, 0⟩] scope pos) 1 it acc env).onRaise (fun x => do noteFrame x env; theTreesLotGoes x)) _ _ _
  refine wpAny_noted ?_
  rw [compTurn_inner]
  refine wpAny_bind (wpAny_standAt (wpAny_bind ?_))
  by_cases q : i < n
  · refine wpAny_mono (turn i s' q hj) (fun r s₁ h₁ => ?_) fun _ _ z => z
    obtain ⟨v, rfl, h₁⟩ := h₁
    refine wpAny_bind (wpAny_of_eq (ht v) ?_)
    refine wpAny_bind (wpAny_mono h₁ (fun _ s₂ h₂ => wpAny_bind (wpAny_mono h₂ (fun ok s₃ h₃ => ?_) fun _ _ h' => h')) fun _ _ h' => h')
    cases ok with
    | false => exact wpAny_pure ⟨rfl, n - (i + 1), by omega, i + 1, q, rfl, h₃⟩
    | true =>
      exact wpAny_bind (wpAny_bind (wpAny_mono h₃ (fun x s₄ h₄ => wpAny_bind (wpAny_mono h₄ (fun _ s₅ h₅ => wpAny_pure (wpAny_pure ⟨rfl, n - (i + 1), by omega, i + 1, q, rfl, h₅⟩)) fun _ _ h' => h')) fun _ _ h' => h'))
  · obtain rfl : i = n := by omega
    refine wpAny_mono (done s' hj) (fun r s₁ h₁ => ?_) fun _ _ z => z
    obtain ⟨rfl, h₁⟩ := h₁
    exact wpAny_pure h₁
end
end Mine
end
section
open PySem PySem.W PySem.Calls PyProof.Rows PySem.Spec PySem.SeqAt
set_option maxRecDepth 100000
set_option maxHeartbeats 1000000
set_option linter.all false
namespace Mine
def pairD (p : Int × Int) : PyData := .tuple [.int p.1, .int p.2]
theorem pairsD_can : ∀ ps : List (Int × Int), PyData.canLayAll0 (ps.map pairD) = true
  | [] => rfl
  | r :: q => by simp [PyData.canLayAll0, PyData.canLay0, pairD, pairsD_can q]
theorem pairsD_depth : ∀ ps : List (Int × Int), PyData.depthAll (ps.map pairD) ≤ 5
  | [] => by simp [PyData.depthAll]
  | r :: q => by
    have h2 := pairsD_depth q
    simp only [List.map_cons, PyData.depthAll, PyData.depth, pairD] at h2 ⊢
    omega
theorem pairsD_shaped (ps : List (Int × Int)) : shaped (.list (ps.map pairD)) = true := by
  have h1 := pairsD_depth ps
  have h2 : PyData.depth (.list (ps.map pairD)) ≤ 64 := by simp only [PyData.depth]; omega
  show (PyData.canLay0 (.list (ps.map pairD)) && decide (PyData.depth (.list (ps.map pairD)) ≤ 64)) = true
  rw [Bool.and_eq_true]
  exact ⟨by simp only [PyData.canLay0]; exact pairsD_can ps, decide_eq_true h2⟩
def TupsA (as : List Addr) (ps : List (Int × Int)) : Ast where
  fp b := b ∈ as
  ok h := as.length = ps.length ∧ ∀ (i : Nat) (a : Addr) (p : Int × Int), as[i]? = some a → ps[i]? = some p → (∃ t1 t2 : Tok, h.IsTuple a #[.int p.1 t1, .int p.2 t2]) ∧ topSize ≤ a
  loc := fun ⟨x, y⟩ k => ⟨x, fun i a p ha hp => let ⟨⟨t1, t2, z⟩, q⟩ := y i a p ha hp; ⟨⟨t1, t2, z.at fun o e => k _ o (List.mem_of_getElem? ha) e⟩, q⟩⟩
  live := fun ⟨x, y⟩ b hb => by
    obtain ⟨i, hi⟩ := List.getElem?_of_mem hb
    have : i < _ := (List.getElem?_eq_some_iff.mp hi).1
    obtain ⟨⟨t1, t2, o, ho, _⟩, _⟩ := y i b _ hi (List.getElem?_eq_getElem (x ▸ this))
    exact ⟨o, ho⟩
  high := fun ⟨x, y⟩ b hb => by
    obtain ⟨i, hi⟩ := List.getElem?_of_mem hb
    have : i < _ := (List.getElem?_eq_some_iff.mp hi).1
    exact (y i b _ hi (List.getElem?_eq_getElem (x ▸ this))).2
theorem reads_tups {h : Heap} : ∀ (as : List Addr) (ps : List (Int × Int)), (TupsA as ps).ok h → ∃ bs, ReadsAll h (as.map Value.ref) (ps.map pairD) bs
  | [], [], _ => ⟨[], .nil⟩
  | [], _ :: _, x => nomatch x.1
  | _ :: _, [], x => nomatch x.1
  | a :: as, p :: ps, x => by
    obtain ⟨bs, y⟩ := reads_tups as ps ⟨Nat.succ.inj x.1, fun i a' p' ha hp => x.2 (i + 1) a' p' ha hp⟩
    obtain ⟨⟨t1, t2, o, ho, hc, n, hd⟩, _⟩ := x.2 0 a p rfl rfl
    exact ⟨_, .cons (Reads.tuple ho hc hd (.cons (.int _ _) (.cons (.int _ _) .nil))) y⟩
section
variable {w : World} {Ar : Around} {E : Value → Shared → Prop} {s s₀ : Shared} {g h h' : Heap} {L C D I : Addr} {cs : List (Str × Addr)} {m cm m' : Str → Option Value} {env : Env} {Ps Qs Qs' Rs : List Ast}
theorem nePairs {a b : Addr} {as : List Addr} {ps : List (Int × Int)} {Q : Value → Shared → Prop} (hl : s.heap.IsList a (as.map Value.ref).toArray) (x : (TupsA as ps).ok s.heap) (y : IL s.heap b []) (hu : Ar.units + 64 < cLine) (k : Q (.bool (!decide (ps = []))) s) :
    wpAny (model prog w) Ar (compareOp .NotEq (.ref a) (.ref b)) Q E s := by
  obtain ⟨bs, rx⟩ := reads_tups as ps x
  obtain ⟨o, ho, hc, n, hd⟩ := hl
  have r1 : Reads s.heap (.ref a) (.list (ps.map pairD)) _ := Reads.list ho hc hd (by simpa using rx)
  obtain ⟨vs, hv, iv⟩ := y
  have r2 := reads_of_ints hv.isList iv
  refine ne_dataH_same r1 r2 (pairsD_shaped ps) (by exact rowsD_shaped []) hu ?_ ?_
  · cases ps <;> simp [noMix, noMixAll]
  · have e : PySem.Spec.same (.list (ps.map pairD)) (.list (([] : List Int).map PyData.int)) = decide (ps = []) := by cases ps <;> simp [PySem.Spec.same, PySem.Spec.sameAll]
    rw [e]; exact k
theorem pair_fin {as : List Addr} {ps : List (Int × Int)} {u v : Int} {t1 t2 : Tok} {Q : Value → Shared → Prop} (i : Nat) (c : B w g L cs m cm Ps s.heap) (hi : Ps[i]? = some (TupsA as ps))
    (k : ∀ h' d, B w g L cs m cm (Ps.set i (TupsA (as ++ [d]) (ps ++ [(u, v)]))) h' → Q (.ref d) { s with heap := h' }) : TupPost Q [.int u t1, .int v t2] s := by
  have hsz := c.gd.size
  refine ⟨by rw [sizeLine_eq]; exact Nat.le_of_ble_eq_true rfl, k _ _ (c.step1 i hi ⟨⟨fun P hP => ?_, List.pairwise_singleton ..⟩, fun b o _ e => push_keeps _ _ b o e, fun b ⟨P, hP, hb⟩ => ?_⟩)⟩
  · rw [List.mem_singleton.mp hP]
    obtain ⟨x, y⟩ := (c.at i hi : (TupsA as ps).ok s.heap)
    refine ⟨by rw [List.length_append, List.length_append, x]; rfl, fun j a p ha hp => ?_⟩
    rcases Nat.lt_or_ge j as.length with q | q
    · rw [List.getElem?_append_left q] at ha
      rw [List.getElem?_append_left (x ▸ q)] at hp
      obtain ⟨⟨t1, t2, z⟩, r⟩ := y j a p ha hp
      exact ⟨⟨t1, t2, z.at fun o e => push_keeps _ _ _ o e⟩, r⟩
    · rw [List.getElem?_append_right q] at ha
      rw [List.getElem?_append_right (x ▸ q)] at hp
      have j0 : j - as.length = 0 := by
        have := (List.getElem?_eq_some_iff.mp ha).1
        simp only [List.length_singleton] at this; omega
      rw [j0] at ha
      rw [← x, j0] at hp
      obtain rfl : s.heap.objs.size = a := Option.some.inj ha
      obtain rfl : (u, v) = p := Option.some.inj hp
      exact ⟨⟨t1, t2, _, Heap.get?_push_size _ rfl, rfl, _, rfl⟩, hsz⟩
  · rw [List.mem_singleton.mp hP] at hb
    rcases List.mem_append.mp (show b ∈ as ++ [s.heap.objs.size] from hb) with z | z
    · exact .inl ⟨TupsA as ps, .head _, z⟩
    · rw [List.mem_singleton.mp z]; exact .inr (Heap.get?_none_of_le (Nat.le_refl _))
theorem B.noTups (i : Nat) (c : B w g L cs m cm Ps h) : B w g L cs m cm (Ps.take i ++ TupsA [] [] :: Ps.drop i) h := by
  have z : B w g L cs m cm (TupsA [] [] :: Ps) h := c.more ⟨⟨fun P hP => by rw [List.mem_singleton.mp hP]; exact ⟨rfl, fun i a p ha _ => by simp at ha⟩, List.pairwise_singleton ..⟩, fun _ _ _ e => e, fun b ⟨P, hP, hb⟩ => by
    rw [List.mem_singleton.mp hP] at hb
    exact absurd (show b ∈ [] from hb) List.not_mem_nil⟩
  have := z.perm (Qs := Ps.take i ++ TupsA [] [] :: Ps.drop i) (by
    have e := List.take_append_drop i Ps
    conv => lhs; rw [← e]
    exact List.perm_middle.symm)
  exact this
end
end Mine
end
section
open PySem PySem.W PySem.Calls PyProof.Rows
set_option maxRecDepth 100000
set_option maxHeartbeats 1000000
set_option linter.all false
namespace Mine
section
variable {w : World} {Ar : Around} {E : Value → Shared → Prop} {s : Shared} {g h h' : Heap} {L C : Addr} {cs cs' : List (Str × Addr)} {m cm m' cm' : Str → Option Value} {env : Env} {Ps : List Ast}
theorem B.swap (c : B w g C cs' m' cm' (FrA L cs m cm :: Ps) h) : B w g L cs m cm (FrA C cs' m' cm' :: Ps) h :=
  ⟨c.sep.perm (List.Perm.swap _ _ _), c.keep, fun b hb => c.out b ((Fps_perm (List.Perm.swap _ _ _)).mp hb), c.gnd⟩
def CompOutU (w : World) (g : Heap) (L : Addr) (cs : List (Str × Addr)) (m cm : Str → Option Value) (C D : Addr) (x : Str) (Q : Flow → Shared → Prop) (r : Result) (s' : Shared) : Prop :=
  r = .ok .next ∧ ∃ m' Ps', B w g C [] m' (fun _ => none) (FrA L cs m cm :: Ps') s'.heap ∧ ∀ h', B w g L cs (fun y => if y = x then some (.ref D) else m y) cm Ps' h' → Q .next { s' with heap := h', toks := s'.toks + 1 }
theorem CompOutU.intro {D : Addr} {x : Str} {Q : Flow → Shared → Prop} {Ps' : List Ast} (c : B w g C [] m' (fun _ => none) (FrA L cs m cm :: Ps') s.heap)
    (k : ∀ h', B w g L cs (fun y => if y = x then some (.ref D) else m y) cm Ps' h' → Q .next { s with heap := h', toks := s.toks + 1 }) : CompOutU w g L cs m cm C D x Q (.ok .next) s := ⟨rfl, m', Ps', c, k⟩
theorem AssignListComp_b {x : Str} {px spos : Pos} {elt iter : Expr} {target : Expr} {ifs : List Expr} {rest : List Comprehension} {scope : Scope} {cl : List (Str × Addr)} {pos : Pos} {Q : Flow → Shared → Prop}
    (hsw : swapsWith (.ListComp elt (⟨target, iter, ifs, 0⟩ :: rest) scope pos) (some (.Name x px)) spos.line env = pure true)
    (hl : env.kindOf x = some .local) (he : env.locals = L) (hp : (env.scope.kind == .class || (env.scope.kind == .module && env.locals != env.globals)) = false)
    (hclos : closureFor scope env = pure cl) (hkind : scope.kind = .function) (hnames : ∀ x ∈ scope.names, x.2 = .local → scope.names.lookup x.1 = some .local) (hcell : ∀ y ∈ scope.names, y.2 ≠ .cell)
    (h : wpAny (model prog w) Ar (eval iter env) (fun x' s₁ => wpAny (model prog w) Ar (pyIter x') (fun it s₂ => ∃ Ps₂, B w g L cs m cm Ps₂ s₂.heap ∧ 
      ∀ C D h₁ tk, B w g C [] (fun _ => none) (fun _ => none) (FrA L cs m cm :: LiA D [] :: Ps₂) h₁ → 
        (∀ (Q' : Value → Shared → Prop) (E' : Value → Shared → Prop), Q' it { s₂ with heap := h₁, toks := tk } → wpAny (model prog w) Ar (pyIter it) Q' E' { s₂ with heap := h₁, toks := tk }) ∧
        codeAny (model prog w) Ar (.compLoop (.ListComp elt (⟨target, iter, ifs, 0⟩ :: rest) scope pos) 0 it (.ref D) (compEnvC scope cl C env)) (CompOutU w g L cs m cm C D x Q) { s₂ with heap := h₁, toks := tk }) E s₁) E s)
    (hs : ∀ x, foldedSetIterable iter env x = pure x := by intro _; rfl) :
    wpAny (model prog w) Ar (exec (.Assign [.Name x px] (.ListComp elt (⟨target, iter, ifs, 0⟩ :: rest) scope pos) spos) env) Q E s := by
  rw [exec_Assign_Name_used x px _ spos hsw]
  refine wpAny_bind (wpAny_standAt ?_)
  refine wpAny_bind ?_
  rw [arm_evalThenUse_ListComp]
  refine wpAny_bind ?_
  refine wpAny_comprehension_free (use := some (assign (.Name x px) env)) (g := ⟨target, iter, ifs, 0⟩) (gs := rest) rfl hs hclos hkind hnames (wpAny_mono h (fun x' s₁ h₁ => wpAny_mono h₁ (fun it s₂ h₂ => ?_) fun _ _ z => z) fun _ _ z => z)
  obtain ⟨Ps₂, c₂, h₂⟩ := h₂
  refine newList_b c₂ fun h₃ D c₃ => ?_
  refine wpAny_newFunctionEnv hcell (by intro y hy; simp at hy) (fun h₁ hns₁ hsb₁ => ?_) hkind
  have k1 : ∀ b o, h₃.get? b = some o → h₁.get? b = some o := fun b o q => hsb₁.extBut b o (Nat.ne_of_lt (Heap.lt_size q)) (Heap.get?_push_of_some _ q)
  have c₄ := c₃.enterFrame (C := h₃.objs.size) hns₁ (Nat.le_refl _) k1
  obtain ⟨hself, hlo⟩ := h₂ _ D h₁ _ c₄
  refine codeAny_mono (codeAny_compStart_list hlo (hself _ _ hlo)) fun r s' hr => ?_
  obtain ⟨rfl, m', Ps', c', q⟩ := hr
  refine wpAny_assign_Name (st_b c'.swap (fun h'' c'' => ?_) hl he hp)
  refine ⟨m', (c''.at 0 rfl).1, fun h3 hs3 => ?_⟩
  exact wpAny_pure (wpAny_pure (q h3 (c''.lose 0 rfl (.inl rfl) fun b o n e => (hs3.2 b n).trans e)))
end
end Mine
end
section
open PySem PySem.W PySem.Calls PyProof.Rows
set_option maxRecDepth 100000
set_option maxHeartbeats 1000000
set_option linter.all false
namespace Mine
def lawLoop : List Stmt := match stAt (fbody (topSt 23)) 4 with | .For _ _ b _ _ => b | _ => []
section
variable {w : World} {Ar : Around} {E : Value → Shared → Prop} {s : Shared} {g h h' : Heap} {L C I D : Addr} {m cm : Str → Option Value} {cs : List (Str × Addr)} {A : EA} {S S' : ES} {T : Tg → Prop} {env : Env} {Ps Qs Qs' Rs : List Ast} {x dx : Addr}
theorem iterDt_b {d : Addr} {kvs : List (Int × Value)} {ep : Nat} {Q : Value → Shared → Prop} (i : Nat) (c : B w g L cs m cm Ps s.heap) (hi : Ps[i]? = some (DtA w d kvs ep))
    (k : ∀ h' I, B w g L cs m cm (KItA I d kvs.length ep 0 :: Ps) h' → Q (.ref I) { s with heap := h' }) : wpAny (model prog w) Ar (pyIter (.ref d)) Q E s := by
  obtain ⟨hat, hh⟩ := c.at i hi
  refine wpAny_pyIter_dict (not_sys hh) hat (k _ _ ?_)
  exact c.more (fresh_step c.gd (push_keeps _ _) ⟨⟨_, Heap.get?_push_size _ rfl, rfl, rfl⟩, c.gd.size⟩ fun b hb => by rw [show b = s.heap.objs.size from hb]; exact Nat.le_refl _)
theorem in_b {l : Addr} {ns : List Int} {k : Int} {t : Tok} {Q : Value → Shared → Prop} (hl : IL s.heap l ns) (few : ns.length ≤ 1000) (q : ∀ tk, Q (.bool (decide (k ∈ ns))) { s with toks := tk }) : wpAny (model prog w) Ar (compareOp .In (.int k t) (.ref l)) Q E s := by
  obtain ⟨vs, hv, iv⟩ := hl
  refine in_list_ints hv.isList iv ?_
  have e : ns.any (· == k) = decide (k ∈ ns) := by
    by_cases z : k ∈ ns
    · rw [decide_eq_true z, List.any_eq_true]; exact ⟨k, z, beq_self_eq_true k⟩
    · rw [decide_eq_false z, List.any_eq_false]; exact fun x hx e => z (by rw [← eq_of_beq e]; exact hx)
  rw [e]; exact q s.toks
local macro_rules | `(tactic| tm_at "k") => `(tactic| first | exact kk_915 _ | exact kk_922 _ | exact kk_929 _ | exact kk_936 _ | exact kk_941 _ | exact kk_825 _ | exact kk_802 _ | exact kk_853 _ | exact kk_788 _ | exact kk_816 _ | exact kk_614 _ | exact kk_809 _ | exact kk_860 _ | exact kk_867 _ | exact kk_839 _ | exact kk_846 _ | exact kk_261 _ | exact kk_268 _ | exact kk_275 _ | exact kk_282 _ | exact kk_289 _ | exact kk_296 _)
local macro_rules | `(tactic| tm_at "V") => `(tactic| first | assumption | exact C.v (by assumption) | exact C0.v (by assumption))
local macro_rules | `(tactic| tm_at "h") => `(tactic| first | assumption | with_unfolding_all assumption)
local macro_rules | `(tactic| tm_at "t") => `(tactic| first | assumption | (with_unfolding_all exact True.intro) | (with_unfolding_all exact fun q => Tg.noConfusion q))
local macro_rules | `(tactic| tm_at "M") => `(tactic| with_unfolding_all first | exact .head _ | exact .tail _ (.head _) | exact .tail _ (.tail _ (.head _)))
local macro_rules | `(tactic| tm_at "u") => `(tactic| with_unfolding_all rfl)
local macro_rules | `(tactic| tm_at "s3") => `(tactic| (with_reducible refine wpAny_Assign_Name ?_ (by tm_at "u")))
local macro_rules | `(tactic| tm_at "s8") => `(tactic| (with_reducible refine wpAny_isTrue_Compare1 ?_ (by tm_at "u")))
local macro_rules | `(tactic| tm_at "s9") => `(tactic| (with_reducible refine wpAny_Compare1 ?_ (by tm_at "u")))
local macro_rules | `(tactic| tm_at "s10") => `(tactic| (with_reducible refine Subscript_ ?_))
local macro_rules | `(tactic| tm_at "s15") => `(tactic| (with_reducible refine wpAny_Constant_int ?_))
local macro_rules | `(tactic| tm_at "s22") => `(tactic| (with_reducible refine Call_ ?_ (by tm_at "u")))
local macro_rules | `(tactic| tm_at "s24") => `(tactic| ((with_reducible show wpAny _ _ (callWith _ _ _ _ _) _ _ _); (try dsimp only); first
     | (with_reducible refine callWith_method1 ?_ (by tm_at "u") (by tm_at "u"))
     | (with_reducible refine callWith_method0 ?_)
     | (with_reducible refine callWith_K (B.kin (by assumption)) (by tm_at "k") ?_ (by tm_at "u") (by tm_at "u"))
     | (with_reducible refine callWith_K0 (B.kin (by assumption)) (by tm_at "k") ?_)
     | (with_reducible refine callWith_KW (B.kin (by assumption)) (by tm_at "k") (by tm_at "u") ?_ (by tm_at "u") (by tm_at "u"))
     | (with_reducible refine PyProof.Rows.callWith_type1 ?_ (by tm_at "u") (by tm_at "u"))))
local macro_rules | `(tactic| tm_at "s25") => `(tactic| (with_reducible refine spliced_more ?_ (by tm_at "u")))
local macro_rules | `(tactic| tm_at "s26") => `(tactic| ((with_reducible refine spliced_none ?_); try dsimp only [List.cons_append, List.nil_append]))
local macro_rules | `(tactic| tm_at "s30") => `(tactic| (with_reducible refine in_and (B.kin (by assumption)) ?_))
local macro_rules | `(tactic| tm_at "s33") => `(tactic| (with_reducible refine isTrue_and ?_))
local macro_rules | `(tactic| tm_at "v1") => `(tactic| (with_unfolding_all refine ld_b (by assumption) (by first | rfl | assumption) ?_))
local macro_rules | `(tactic| tm_at "v2") => `(tactic| (with_unfolding_all refine lc_b (by assumption) (by first | rfl | assumption) (by rfl) ?_))
local macro_rules | `(tactic| tm_at "v3") => `(tactic| ((with_reducible refine st_b (by assumption) ?_ (by tm_at "u") (by tm_at "u") (by tm_at "u")); intro _ _; try dsimp only))
local macro_rules | `(tactic| tm_at "v4") => `(tactic| ((with_reducible refine sc_b (by assumption) (by tm_at "u") ?_ (by tm_at "u") (by tm_at "u") (by tm_at "u")); intro _ _; try dsimp only))
local macro_rules | `(tactic| tm_at "v9") => `(tactic| (with_reducible refine PySem.wpAny_truthy_bool ?_))
local macro_rules | `(tactic| tm_at "v13") => `(tactic| (with_reducible refine Tuple_b ?_))
local macro_rules | `(tactic| tm_at "v15") => `(tactic| (with_reducible refine PyProof.Rows.eq_int ?_))
theorem loop_a {a sa d : Addr} {ks : List Int} {la : Int → Addr} {R : Int → List Int} {xs : List Int} {Q : Flow → Shared → Prop} (c : B w g L (cellsFrom (L + 1) (fdOf (o946 w.params)).scope.names []) m cm [StA a sa xs, EmbA w A S, DiA w d (refs ks la), RowsA ks la R] s.heap) (rd : Rm Ar 8) (n5 : ks.length ≤ 5) (rl : ∀ u ∈ ks, (R u).length ≤ 50)
   (hs : m (Str.ofString "state") = some (.ref a)) (hm : cm (Str.ofString "turns") = some (.ref d))
   (k : ∀ h' tk kd t jn P as ps m' cm', 0 ≤ kd → kd < 10 → (jn = true ↔ kd = 6 ∨ kd = 7) → (∀ p ∈ ps, p.1 ∈ ks ∧ p.2 ∈ ks ∧ p.1 ≠ p.2 ∧ (p.2 ∈ R p.1 ↔ jn = true)) → ps.length ≤ 25 → m' (Str.ofString "state") = some (.ref a) → m' (Str.ofString "drawing") = m (Str.ofString "drawing") → m' (Str.ofString "kind") = some (.int kd t) → m' (Str.ofString "pairs") = some (.ref P) → cm' (Str.ofString "turns") = some (.ref d) → 
      B w g L (cellsFrom (L + 1) (fdOf (o946 w.params)).scope.names []) m' cm' [LiA P (as.map Value.ref), TupsA as ps, StA a sa xs, EmbA w A S, DiA w d (refs ks la), RowsA ks la R] h' → Q .next { s with heap := h', toks := tk }) :
   wpAny (model prog w) Ar (execs (List.take 3 lawLoop) (callEnvC (fdOf (o946 w.params)) L 946)) Q E s := by
  refine wpAny_execs_cons ?_
  (tm_at "s3"; tm_at "s22")
  refine gl_b c (kg_next _) ?_ (by tm_at "u") (by tm_at "u") (by tm_at "u")
  (tm_at "s24"; tm_at "s25"; tm_at "v1"; tm_at "s25"; tm_at "s15"; tm_at "s26"; tm_at "s30")
  refine next_b 0 c rfl (rd.less (by decide)) (by decide) fun h1 tk1 kd t1 k0 k9 c1 => ?_
  (tm_at "v3")
  rename_i h2 c2
  refine wpAny_execs_cons ?_
  (tm_at "s3")
  refine wpAny_mono (Q := fun v s' => v = .bool (kd == 6 || kd == 7) ∧ ∃ tk, s' = { s with heap := h2, toks := tk }) ?_ (fun v s' hv => ?_) fun _ _ z => z
  · refine BoolOp_or ?_
    (tm_at "s9"; tm_at "v1"; tm_at "s15"; tm_at "v15"; tm_at "v9")
    by_cases q6 : kd = 6
    · have e6 : (kd == 6) = true := by rw [q6]; rfl
      rw [e6]
      skip
      simp only [if_true]
      exact ⟨rfl, _, rfl⟩
    · have e6 : (kd == 6) = false := by simpa using q6
      rw [e6]
      skip
      simp only [Bool.false_eq_true, if_false]
      refine BoolOp_one ?_
      (tm_at "s9"; tm_at "v1"; tm_at "s15"; tm_at "v15")
      exact ⟨by rw [Bool.false_or], _, rfl⟩
  obtain ⟨rfl, tk2, rfl⟩ := hv
  obtain ⟨jn, hjn⟩ : ∃ jn, (kd == 6 || kd == 7) = jn := ⟨_, rfl⟩
  have jn_iff : jn = true ↔ kd = 6 ∨ kd = 7 := by rw [← hjn]; simp
  rw [hjn]
  (tm_at "v4")
  rename_i h3 c3
  refine wpAny_execs_cons ?_
  obtain ⟨m3, cm3, c4, e1, e2, e3, e4, e5⟩ : ∃ m3 cm3, B w g L (cellsFrom (L + 1) (fdOf (o946 w.params)).scope.names []) m3 cm3 [StA a sa xs, EmbA w A S, DiA w d (refs ks la), RowsA ks la R] h3 ∧ m3 (Str.ofString "state") = some (.ref a) ∧ m3 (Str.ofString "drawing") = m (Str.ofString "drawing") ∧ m3 (Str.ofString "kind") = some (.int kd t1) ∧ cm3 (Str.ofString "turns") = some (.ref d) ∧ cm3 (Str.ofString "joined") = some (.bool jn) := ⟨_, _, c3, hs, rfl, rfl, hm, rfl⟩
  clear c c1 c2 c3
  refine AssignListComp_b (g := g) (L := L) (cs := (cellsFrom (L + 1) (fdOf (o946 w.params)).scope.names [])) (m := m3) (cm := cm3) (by tm_at "u") (by tm_at "u") (by tm_at "u") (by tm_at "u") (by tm_at "u") (by rfl) (by decide) (by decide) ?_
  (tm_at "v2")
  refine iterD_b 2 c4 rfl fun h5 I ep c5 => ?_
  refine ⟨_, c5, fun C acc h6 tk6 c6 => ⟨fun Q' E' q => selfK_b 2 c6 rfl q, ?_⟩⟩
  have J0 := c6.noTups 2
  refine comp_outer ks.length (fun i s' => ∃ m' as ps, (∀ p ∈ ps, p.1 ∈ ks ∧ p.2 ∈ ks ∧ p.1 ≠ p.2 ∧ (p.2 ∈ R p.1 ↔ jn = true)) ∧ ps.length ≤ 5 * i ∧ B w g C [] m' (fun _ => none) [FrA L (cellsFrom (L + 1) (fdOf (o946 w.params)).scope.names []) m3 cm3, LiA acc (as.map Value.ref), TupsA as ps, KItA I d (refs ks la).length ep i, StA a sa xs, EmbA w A S, DtA w d (refs ks la) ep, RowsA ks la R] s'.heap ∧ s'.gens = s.gens ∧ s'.drawn = s.drawn ∧ s'.os = s.os) ?_ ?_ ⟨_, [], [], (fun p hp => absurd hp List.not_mem_nil), Nat.zero_le _, J0, rfl, rfl, rfl⟩
  · rintro i s' hlt ⟨m', as, ps, hps, lps, c', f1, f2, f3⟩
    have hu : ks[i]? = some ks[i] := List.getElem?_eq_getElem hlt
    generalize ks[i] = u at hu
    have mu : u ∈ ks := List.mem_of_getElem? hu
    refine nextK_b 3 6 c' rfl rfl hu fun h7 tu c7 => ⟨_, rfl, ?_⟩
    refine wpAny_assign_Name ?_
    (tm_at "v3")
    rename_i h8 c8
    refine lk_b 0 c8 rfl (by tm_at "u") (by tm_at "M") e4 ?_ (by tm_at "u") (by tm_at "u")
    refine iterDt_b 6 c8 rfl fun h9 I2 c9 => ?_
    obtain ⟨m9, c9', a9⟩ : ∃ m9, B w g C [] m9 (fun _ => none) [KItA I2 d (refs ks la).length ep 0, FrA L (cellsFrom (L + 1) (fdOf (o946 w.params)).scope.names []) m3 cm3, LiA acc (as.map Value.ref), TupsA as ps, KItA I d (refs ks la).length ep (i + 1), StA a sa xs, EmbA w A S, DtA w d (refs ks la) ep, RowsA ks la R] h9 ∧ m9 (Str.ofString "a") = some (.int u tu) := ⟨_, c9, rfl⟩
    clear c9 c8 c7 c'
    refine (fun lo => compStart_two lo (selfK_b 0 c9' rfl lo)) ?_
    refine comp_inner ks.length (fun j s' => ∃ m' as ps, m' (Str.ofString "a") = some (.int u tu) ∧ (∀ p ∈ ps, p.1 ∈ ks ∧ p.2 ∈ ks ∧ p.1 ≠ p.2 ∧ (p.2 ∈ R p.1 ↔ jn = true)) ∧ ps.length ≤ 5 * i + j ∧ B w g C [] m' (fun _ => none) [KItA I2 d (refs ks la).length ep j, FrA L (cellsFrom (L + 1) (fdOf (o946 w.params)).scope.names []) m3 cm3, LiA acc (as.map Value.ref), TupsA as ps, KItA I d (refs ks la).length ep (i + 1), StA a sa xs, EmbA w A S, DtA w d (refs ks la) ep, RowsA ks la R] s'.heap ∧ s'.gens = s.gens ∧ s'.drawn = s.drawn ∧ s'.os = s.os) ?_ ?_ ⟨_, as, ps, a9, hps, lps, c9', f1, f2, f3⟩
    · clear c9' a9 hps lps f1 f2 f3
      rintro j s'' hlt' ⟨m', as, ps, ma, hps, lps, c', f1, f2, f3⟩
      have hv : ks[j]? = some ks[j] := List.getElem?_eq_getElem hlt'
      generalize ks[j] = v at hv
      have mv : v ∈ ks := List.mem_of_getElem? hv
      refine nextK_b 0 7 c' rfl rfl hv fun h10 tv c10 => ⟨_, rfl, ?_⟩
      refine wpAny_assign_Name ?_
      (tm_at "v3")
      rename_i h11 c11
      refine wpAny_tests_one ?_
      (tm_at "s33"; tm_at "s8"; tm_at "v1"; tm_at "v1")
      refine ne_int ?_
      (tm_at "v9")
      by_cases uv : u = v
      · rw [show (u != v) = false from by simpa using uv]
        simp only [Bool.false_eq_true, if_false]
        exact ⟨_, as, ps, by with_unfolding_all exact ma, hps, Nat.le_succ_of_le lps, c11, f1, f2, f3⟩
      · rw [show (u != v) = true from by simpa using uv]
        simp only [if_true]
        (tm_at "s33"; tm_at "s8"; tm_at "s9"; tm_at "v1"; tm_at "s10")
        refine lk_b 1 c11 rfl (by tm_at "u") (by tm_at "M") e4 ?_ (by tm_at "u") (by tm_at "u")
        refine ld_b (v := .int u tu) c11 (by with_unfolding_all exact ma) ?_ (by tm_at "u") (by tm_at "u") (by tm_at "u")
        refine getDt_b 7 c11 rfl mu ?_ (by tm_at "u")
        refine in_b ((c11.at 8 rfl : (RowsA ks la R).ok h11) u mu).1 (by have := rl u mu; omega) fun tk9 => ?_
        skip
        refine lk_b 1 c11 rfl (by tm_at "u") (by tm_at "M") e5 ?_ (by tm_at "u") (by tm_at "u")
        refine PyProof.Rows.eq_bool ?_
        (tm_at "v9")
        by_cases vr : (decide (v ∈ R u) == jn) = true
        · rw [vr]
          simp only [if_true]
          refine isTrue_and_nil ?_
          simp only [if_true]
          (tm_at "v13"; tm_at "s25"; tm_at "v1"; tm_at "s25"; tm_at "v1"; tm_at "s26")
          refine pair_fin 3 c11 rfl fun h12 dd c12 => ?_
          have vr' : v ∈ R u ↔ jn = true := by
            have := eq_of_beq vr
            rw [← this, decide_eq_true_iff]
          have la1 : as.length = ps.length := (c11.at 3 rfl : (TupsA as ps).ok h11).1
          refine app_b 2 c12 rfl (by rw [List.length_map, la1]; omega) fun h13 c13 => ?_
          have eas : as.map Value.ref ++ [Value.ref dd] = (as ++ [dd]).map Value.ref := by rw [List.map_append]; rfl
          rw [eas] at c13
          refine ⟨_, as ++ [dd], ps ++ [(u, v)], by with_unfolding_all exact ma, fun p hp => ?_, by rw [List.length_append, List.length_singleton]; omega, c13, f1, f2, f3⟩
          rcases List.mem_append.mp hp with z | z
          · exact hps p z
          · rw [List.mem_singleton.mp z]; exact ⟨mu, mv, uv, vr'⟩
        · rw [Bool.not_eq_true] at vr
          rw [vr]
          simp only [Bool.false_eq_true, if_false]
          exact ⟨_, as, ps, by with_unfolding_all exact ma, hps, Nat.le_succ_of_le lps, c11, f1, f2, f3⟩
    · rintro s'' ⟨m', as, ps, ma, hps, lps, c', f1, f2, f3⟩
      refine endK_b 0 7 c' rd.hd rfl rfl (by rw [refs_length]; exact Nat.le_refl _) fun h10 c10 => ⟨rfl, _, rfl, ?_⟩
      exact ⟨m', as, ps, hps, by omega, c10, f1, f2, f3⟩
  · rintro s' ⟨m', as, ps, hps, lps, c', f1, f2, f3⟩
    refine endK_b 3 6 c' rd.hd rfl rfl (by rw [refs_length]; exact Nat.le_refl _) fun h10 c10 => ⟨rfl, CompOutU.intro c10 fun h11 c11 => ?_⟩
    have c12 := c11.undt 4 rfl
    dsimp only [List.set, List.eraseIdx] at c12
    refine wpAny_execs_nil ?_
    have := k h11 (s'.toks + 1) kd t1 jn acc as ps _ _ k0 k9 jn_iff hps (by omega) (by exact e1) (by exact e2) (by exact e3) (by rfl) e4 c12
    rw [← f1, ← f2, ← f3] at this
    exact this
end
end Mine
end
section
open PySem PySem.W PySem.Calls PyProof.Rows
set_option maxRecDepth 100000
set_option maxHeartbeats 1000000
set_option linter.all false
namespace Mine
def lawIf : List Stmt := match stAt lawLoop 3 with | .If _ b _ _ => b | _ => []
def ifBody : Stmt → List Stmt | .If _ b _ _ => b | _ => []
def ifElse : Stmt → List Stmt | .If _ _ e _ => e | _ => []
def kind1 : Stmt := stAt lawIf 1
def kind2 : Stmt := stAt (ifElse kind1) 0
def kind3 : Stmt := stAt (ifElse kind2) 0
def kind4 : Stmt := stAt (ifElse kind3) 0
def kind5 : Stmt := stAt (ifElse kind4) 0
section
variable {w : World} {Ar : Around} {E : Value → Shared → Prop} {s : Shared} {g h h' : Heap} {L C I D : Addr} {m cm : Str → Option Value} {cs : List (Str × Addr)} {A : EA} {S S' : ES} {T : Tg → Prop} {env : Env} {Ps Qs Qs' Rs : List Ast} {x dx : Addr}
theorem B.takeRow {ks : List Int} {la : Int → Addr} {R : Int → List Int} {u : Int} (c : B w g L cs m cm (RowsA ks la R :: Rs) h) (inj : Inj ks la) (hu : u ∈ ks) : B w g L cs m cm (ILA (la u) (R u) :: RowsA (del ks u) la R :: Rs) h := by
  have r := (c.at 0 rfl : (RowsA ks la R).ok h)
  refine B.fold (Qs := [RowsA ks la R]) (Qs' := [ILA (la u) (R u), RowsA (del ks u) la R]) c ⟨fun P hP => ?_, List.pairwise_cons.mpr ⟨fun P hP b hb hb' => ?_, List.pairwise_singleton ..⟩⟩ fun b ⟨P, hP, hb⟩ => ?_
  · rcases List.mem_cons.mp hP with rfl | hP
    · exact r u hu
    · rw [List.mem_singleton.mp hP]; exact fun v hv => r v (mem_del.mp hv).1
  · rw [List.mem_singleton.mp hP] at hb'
    obtain ⟨v, hv, e⟩ := hb'
    exact (mem_del.mp hv).2 (inj v (mem_del.mp hv).1 u hu (e.trans hb))
  · rcases List.mem_cons.mp hP with rfl | hP
    · exact ⟨_, .head _, u, hu, (show b = la u from hb).symm⟩
    · rw [List.mem_singleton.mp hP] at hb
      obtain ⟨v, hv, e⟩ := hb
      exact ⟨_, .head _, v, (mem_del.mp hv).1, e⟩
theorem B.giveRow {ks : List Int} {la : Int → Addr} {R : Int → List Int} {u : Int} {d : Addr} {row : List Int} (c : B w g L cs m cm (ILA d row :: RowsA (del ks u) la R :: Rs) h) : B w g L cs m cm (RowsA ks (upd la u d) (upd R u row) :: Rs) h := by
  refine B.fold (Qs := [ILA d row, RowsA (del ks u) la R]) (Qs' := [RowsA ks (upd la u d) (upd R u row)]) c ⟨fun P hP => ?_, List.pairwise_singleton ..⟩ fun b ⟨P, hP, hb⟩ => ?_
  · rw [List.mem_singleton.mp hP]
    intro v hv
    by_cases q : v = u
    · subst q; rw [upd_same, upd_same]; exact c.at 0 rfl
    · rw [upd_ne _ _ q, upd_ne _ _ q]; exact (c.at 1 rfl : (RowsA (del ks u) la R).ok h) v (mem_del.mpr ⟨hv, q⟩)
  · rw [List.mem_singleton.mp hP] at hb
    obtain ⟨v, hv, e⟩ := hb
    by_cases q : v = u
    · subst q; rw [upd_same] at e; exact ⟨ILA d row, .head _, e.symm⟩
    · rw [upd_ne _ _ q] at e; exact ⟨RowsA (del ks u) la R, .tail _ (.head _), v, mem_del.mpr ⟨hv, q⟩, e⟩
theorem B.giveNe {ks : List Int} {la : Int → Addr} {R : Int → List Int} {u : Int} {d : Addr} {row : List Int} (c : B w g L cs m cm (ILA d row :: RowsA (del ks u) la R :: Rs) h) : ∀ v ∈ ks, v ≠ u → la v ≠ d := fun v hv n e =>
  sep_ne c.psep 0 1 (by decide) (P := ILA d row) (Q := RowsA (del ks u) la R) (a := d) (b := d) rfl rfl rfl ⟨v, mem_del.mpr ⟨hv, n⟩, e⟩ rfl
theorem put_row {a sa d : Addr} {ks : List Int} {la : Int → Addr} {R : Int → List Int} {xs : List Int} {u v : Int} {t1 t2 : Tok} {Q : Value → Shared → Prop} (c : B w g L cs m cm [StA a sa xs, EmbA w A S, DiA w d (refs ks la), RowsA ks la R] s.heap) (rd : Rm Ar 5)
   (o : Ok S ks R) (inj : Inj ks la) (hu : u ∈ ks) (hv : v ∈ ks) (ne : v ≠ u) (uv : v ∉ R u)
   (k : ∀ h' tk dd A' S' row, A'.x = A.x → Ok S' ks (upd R u row) → (∀ y, y ∈ row ↔ y = v ∨ y ∈ R u) → B w g L cs m cm [DiA w d (refs ks la), ILA dd row, RowsA (del ks u) la R, StA a sa xs, EmbA w A' S'] h' → Q (.ref dd) { s with heap := h', toks := tk }) :
   wpAny (model prog w) Ar (call (.ref 929) [.ref a, .ref A.x, .ref (la u), .int u t1, .int v t2]) Q E s := by
  have c1 := (c.perm (Qs := [RowsA ks la R, StA a sa xs, EmbA w A S, DiA w d (refs ks la)]) (List.perm_append_comm (l₁ := [StA a sa xs, EmbA w A S, DiA w d (refs ks la)]) (l₂ := [RowsA ks la R]))).takeRow inj hu
  have c2 := c1.perm (Qs := [StA a sa xs, EmbA w A S, ILA (la u) (R u)] ++ [DiA w d (refs ks la), RowsA (del ks u) la R]) (by
    refine (List.Perm.trans (List.perm_append_comm (l₁ := [ILA (la u) (R u), RowsA (del ks u) la R]) (l₂ := [StA a sa xs, EmbA w A S, DiA w d (refs ks la)])) ?_)
    exact List.Perm.cons _ (List.Perm.cons _ (List.Perm.swap _ _ _)))
  refine callR (sum929 c2.gd rd c2.psep.left o hu hv ne uv fun h' tk dd A' S' row hA o' hr st => ⟨_, rfl, ?_⟩)
  have c3 := c2.step st
  refine k h' tk dd A' S' row hA o' hr ?_
  have c4 := c3.sub (Qs := [ILA dd row, StA a sa xs, EmbA w A' S', DiA w d (refs ks la), RowsA (del ks u) la R]) (.cons_cons _ (.cons_cons _ (.cons_cons _ (.cons _ (.refl _)))))
  refine c4.perm ?_
  refine List.Perm.trans (List.perm_append_comm (l₁ := [ILA dd row, StA a sa xs, EmbA w A' S']) (l₂ := [DiA w d (refs ks la), RowsA (del ks u) la R])) ?_
  exact List.Perm.cons _ (List.Perm.swap _ _ _)
end
end Mine
end
section
open PySem PySem.W PySem.Calls PyProof.Rows
set_option maxRecDepth 100000
set_option maxHeartbeats 1000000
set_option linter.all false
namespace Mine
structure Inv (w : World) (g : Heap) (L a sa : Addr) (xs : List Int) (A : EA) (S : ES) (d : Addr) (ks : List Int) (la : Int → Addr) (R : Int → List Int) (m cm : Str → Option Value) (h : Heap) : Prop where
  b : B w g L (cellsFrom (L + 1) (fdOf (o946 w.params)).scope.names []) m cm [StA a sa xs, EmbA w A S, DiA w d (refs ks la), RowsA ks la R] h
  o : Ok S ks R
  y : Sym ks R
  inj : Inj ks la
  sm : ∀ u ∈ ks, 0 ≤ u ∧ u < 5
  few : ks.length ≤ 5
  st : m (Str.ofString "state") = some (.ref a)
  dr : m (Str.ofString "drawing") = some (.ref A.x)
  tn : cm (Str.ofString "turns") = some (.ref d)
theorem Sym.ins {ks : List Int} {R : Int → List Int} {u v : Int} {r1 r2 : List Int} (y : Sym ks R) (ne : u ≠ v) (h1 : ∀ x, x ∈ r1 ↔ x = v ∨ x ∈ R u) (h2 : ∀ x, x ∈ r2 ↔ x = u ∨ x ∈ R v) : Sym ks (upd (upd R u r1) v r2) := by
  intro a ha b hb
  have key : ∀ p q, q ∈ upd (upd R u r1) v r2 p ↔ (p = v ∧ q = u) ∨ (p = u ∧ q = v) ∨ q ∈ R p := fun p q => by
    by_cases pv : p = v
    · subst pv; rw [upd_same, h2]
      exact ⟨fun z => z.elim (fun z => .inl ⟨rfl, z⟩) fun z => .inr (.inr z), fun z => z.elim (fun z => .inl z.2) fun z => z.elim (fun z => absurd z.1.symm ne) .inr⟩
    · rw [upd_ne _ _ pv]
      by_cases pu : p = u
      · subst pu; rw [upd_same, h1]
        exact ⟨fun z => z.elim (fun z => .inr (.inl ⟨rfl, z⟩)) fun z => .inr (.inr z), fun z => z.elim (fun z => absurd z.1 pv) fun z => z.elim (fun z => .inl z.2) .inr⟩
      · rw [upd_ne _ _ pu]
        exact ⟨fun z => .inr (.inr z), fun z => z.elim (fun z => absurd z.1 pv) fun z => z.elim (fun z => absurd z.1 pu) id⟩
  rcases (key a b).mp hb with ⟨rfl, rfl⟩ | ⟨rfl, rfl⟩ | z
  · exact (key _ _).mpr (.inr (.inl ⟨rfl, rfl⟩))
  · exact (key _ _).mpr (.inl ⟨rfl, rfl⟩)
  · exact (key _ _).mpr (.inr (.inr (y a ha b z)))
section
variable {w : World} {Ar : Around} {E : Value → Shared → Prop} {s : Shared} {g h h' : Heap} {L C I D : Addr} {m cm : Str → Option Value} {cs : List (Str × Addr)} {A : EA} {S S' : ES} {T : Tg → Prop} {env : Env} {Ps Qs Qs' Rs : List Ast} {x dx : Addr}
theorem B.afterPut {a sa d dd : Addr} {ks : List Int} {la : Int → Addr} {R : Int → List Int} {xs row : List Int} {u : Int} (c : B w g L cs m cm [DiA w d (refs ks (upd la u dd)), ILA dd row, RowsA (del ks u) la R, StA a sa xs, EmbA w A S] h) :
    B w g L cs m cm [StA a sa xs, EmbA w A S, DiA w d (refs ks (upd la u dd)), RowsA ks (upd la u dd) (upd R u row)] h ∧ ∀ v ∈ ks, v ≠ u → la v ≠ dd := by
  have c1 := c.perm (Qs := [ILA dd row, RowsA (del ks u) la R, StA a sa xs, EmbA w A S, DiA w d (refs ks (upd la u dd))]) (List.perm_append_comm (l₁ := [DiA w d (refs ks (upd la u dd))]) (l₂ := [ILA dd row, RowsA (del ks u) la R, StA a sa xs, EmbA w A S]))
  refine ⟨c1.giveRow.perm ?_, c1.giveNe⟩
  exact List.perm_append_comm (l₁ := [RowsA ks (upd la u dd) (upd R u row)]) (l₂ := [StA a sa xs, EmbA w A S, DiA w d (refs ks (upd la u dd))])
local macro_rules | `(tactic| tm_at "k") => `(tactic| first | exact kk_915 _ | exact kk_922 _ | exact kk_929 _ | exact kk_936 _ | exact kk_941 _ | exact kk_825 _ | exact kk_802 _ | exact kk_853 _ | exact kk_788 _ | exact kk_816 _ | exact kk_614 _ | exact kk_809 _ | exact kk_860 _ | exact kk_867 _ | exact kk_839 _ | exact kk_846 _ | exact kk_261 _ | exact kk_268 _ | exact kk_275 _ | exact kk_282 _ | exact kk_289 _ | exact kk_296 _)
local macro_rules | `(tactic| tm_at "V") => `(tactic| first | assumption | exact C.v (by assumption) | exact C0.v (by assumption))
local macro_rules | `(tactic| tm_at "h") => `(tactic| first | assumption | with_unfolding_all assumption)
local macro_rules | `(tactic| tm_at "t") => `(tactic| first | assumption | (with_unfolding_all exact True.intro) | (with_unfolding_all exact fun q => Tg.noConfusion q))
local macro_rules | `(tactic| tm_at "M") => `(tactic| with_unfolding_all first | exact .head _ | exact .tail _ (.head _) | exact .tail _ (.tail _ (.head _)))
local macro_rules | `(tactic| tm_at "u") => `(tactic| with_unfolding_all rfl)
local macro_rules | `(tactic| tm_at "s4") => `(tactic| (with_reducible refine wpAny_Assign_Subscript ?_ (by tm_at "u")))
local macro_rules | `(tactic| tm_at "s10") => `(tactic| (with_reducible refine Subscript_ ?_))
local macro_rules | `(tactic| tm_at "s22") => `(tactic| (with_reducible refine Call_ ?_ (by tm_at "u")))
local macro_rules | `(tactic| tm_at "s24") => `(tactic| ((with_reducible show wpAny _ _ (callWith _ _ _ _ _) _ _ _); (try dsimp only); first
     | (with_reducible refine callWith_method1 ?_ (by tm_at "u") (by tm_at "u"))
     | (with_reducible refine callWith_method0 ?_)
     | (with_reducible refine callWith_K (B.kin (by assumption)) (by tm_at "k") ?_ (by tm_at "u") (by tm_at "u"))
     | (with_reducible refine callWith_K0 (B.kin (by assumption)) (by tm_at "k") ?_)
     | (with_reducible refine callWith_KW (B.kin (by assumption)) (by tm_at "k") (by tm_at "u") ?_ (by tm_at "u") (by tm_at "u"))
     | (with_reducible refine PyProof.Rows.callWith_type1 ?_ (by tm_at "u") (by tm_at "u"))))
local macro_rules | `(tactic| tm_at "s25") => `(tactic| (with_reducible refine spliced_more ?_ (by tm_at "u")))
local macro_rules | `(tactic| tm_at "s26") => `(tactic| ((with_reducible refine spliced_none ?_); try dsimp only [List.cons_append, List.nil_append]))
local macro_rules | `(tactic| tm_at "s30") => `(tactic| (with_reducible refine in_and (B.kin (by assumption)) ?_))
local macro_rules | `(tactic| tm_at "v1") => `(tactic| (with_unfolding_all refine ld_b (by assumption) (by first | rfl | assumption) ?_))
local macro_rules | `(tactic| tm_at "v2") => `(tactic| (with_unfolding_all refine lc_b (by assumption) (by first | rfl | assumption) (by rfl) ?_))
theorem do_put {a sa d : Addr} {ks : List Int} {la : Int → Addr} {R : Int → List Int} {xs : List Int} {u v : Int} {t1 t2 : Tok} {Q : Flow → Shared → Prop} (i : Inv w g L a sa xs A S d ks la R m cm s.heap) (rd : Rm Ar 8)
   (hu : u ∈ ks) (hv : v ∈ ks) (ne : u ≠ v) (uv : v ∉ R u) (ca : cm (Str.ofString "a") = some (.int u t1)) (mb : m (Str.ofString "b") = some (.int v t2))
   (k : ∀ h' tk A' S' la' R', Inv w g L a sa xs A' S' d ks la' R' m cm h' → Q .next { s with heap := h', toks := tk }) :
   wpAny (model prog w) Ar (execs (ifBody kind1) (callEnvC (fdOf (o946 w.params)) L 946)) Q E s := by
  obtain ⟨c, o, y, inj, sm, few, st, dr, tn⟩ := i
  refine wpAny_execs_cons ?_
  (tm_at "s4"; tm_at "s22")
  refine gl_b c (kg_put _) ?_ (by tm_at "u") (by tm_at "u") (by tm_at "u")
  (tm_at "s24"; tm_at "s25"; tm_at "v1"; tm_at "s25"; tm_at "v1"; tm_at "s25"; tm_at "s10"; tm_at "v2"; tm_at "v2")
  refine getD_b 2 c rfl hu ?_ (by tm_at "u")
  (tm_at "s25"; tm_at "v2"; tm_at "s25"; tm_at "v1"; tm_at "s26"; tm_at "s30")
  refine put_row c (rd.less (by decide)) o inj hu hv ne.symm uv fun h1 tk1 d1 A1 S1 row1 hA1 o1 hr1 c1 => ?_
  (tm_at "v2"; tm_at "v2")
  refine put_b 0 c1 rfl hu (by omega) fun h2 tk2 c2 => ?_
  dsimp only [List.set] at c2
  obtain ⟨c3, ne1⟩ := c2.afterPut
  have inj1 := inj.put ne1
  have dr1 : m (Str.ofString "drawing") = some (.ref A1.x) := by rw [hA1]; exact dr
  have vu : u ∉ upd R u row1 v := by rw [upd_ne _ _ ne.symm]; exact fun z => uv (y v hv u z)
  clear c c1 c2 dr
  try dsimp only
  refine wpAny_execs_cons ?_
  (tm_at "s4"; tm_at "s22")
  refine gl_b c3 (kg_put _) ?_ (by tm_at "u") (by tm_at "u") (by tm_at "u")
  (tm_at "s24"; tm_at "s25"; tm_at "v1"; tm_at "s25"; tm_at "v1"; tm_at "s25"; tm_at "s10"; tm_at "v2"; tm_at "v1")
  refine getD_b 2 c3 rfl hv ?_ (by tm_at "u")
  (tm_at "s25"; tm_at "v1"; tm_at "s25"; tm_at "v2"; tm_at "s26"; tm_at "s30")
  refine put_row c3 (rd.less (by decide)) o1 inj1 hv hu ne vu fun h3 tk3 d3 A3 S3 row3 hA3 o3 hr3 c4 => ?_
  (tm_at "v2"; tm_at "v1")
  refine put_b 0 c4 rfl hv (by omega) fun h4 tk4 c5 => ?_
  dsimp only [List.set] at c5
  obtain ⟨c6, ne3⟩ := c5.afterPut
  try dsimp only
  refine wpAny_execs_nil ?_
  refine k _ _ A3 S3 _ _ ⟨c6, o3, ?_, inj1.put ne3, sm, few, st, by rw [hA3]; exact dr1, tn⟩
  refine y.ins ne hr1 fun z => ?_
  rw [hr3, upd_ne _ _ ne.symm]
end
end Mine
end
section
open PySem PySem.W PySem.Calls PyProof.Rows
set_option maxRecDepth 100000
set_option maxHeartbeats 1000000
set_option linter.all false
namespace Mine
section
variable {S : ES} {ks : List Int} {R : Int → List Int}
def Tells (S : ES) (R : Int → List Int) (u : Int) (row : List Int) : Prop :=
  ((S.nbr u).getLast? = none ∧ R u = [] ∧ row = []) ∨ ∃ l p q, (S.nbr u).getLast? = some l ∧ R u = p ++ l :: q ∧ row = l :: (q ++ p)
theorem Ok.tells2 (o : Ok S ks R) {u : Int} (hu : u ∈ ks) : ∃ row, Tells S R u row ∧ Told S u row := by
  cases h : (S.nbr u).getLast? with
  | none =>
    have e := o.empty hu h
    exact ⟨[], .inl ⟨h, e, rfl⟩, o.told_nil hu e⟩
  | some l =>
    obtain ⟨p, q, e⟩ := split_at (o.last_mem hu h)
    exact ⟨_, .inr ⟨l, p, q, h, e, rfl⟩, o.told hu h e⟩
theorem Ok.rows2 (o : Ok S ks R) : ∃ row : Int → List Int, ∀ u ∈ ks, Tells S R u (row u) ∧ Told S u (row u) := by
  have h : ∀ u : Int, ∃ r : List Int, u ∈ ks → Tells S R u r ∧ Told S u r := fun u => by
    by_cases hu : u ∈ ks
    · obtain ⟨r, a, b⟩ := o.tells2 hu
      exact ⟨r, fun _ => ⟨a, b⟩⟩
    · exact ⟨[], fun z => absurd z hu⟩
  exact ⟨fun u => (h u).choose, fun u hu => (h u).choose_spec hu⟩
theorem Tells.mem {u : Int} {row : List Int} (h : Tells S R u row) : ∀ x, x ∈ row ↔ x ∈ R u := fun x => by
  rcases h with ⟨_, e, rfl⟩ | ⟨l, p, q, _, e, rfl⟩
  · rw [e]
  · rw [e]; simp only [List.mem_cons, List.mem_append]; constructor
    · rintro (h | h | h)
      · exact .inr (.inl h)
      · exact .inr (.inr h)
      · exact .inl h
    · rintro (h | h | h)
      · exact .inr (.inr h)
      · exact .inl h
      · exact .inr (.inl h)
theorem Tells.len {u : Int} {row : List Int} (h : Tells S R u row) : row.length = (R u).length := by
  rcases h with ⟨_, e, rfl⟩ | ⟨l, p, q, _, e, rfl⟩
  · rw [e]
  · rw [e]; simp; omega
theorem Ok.conn2 (o : Ok S ks R) {u v : Int} {row : List Int} (hu : u ∈ ks) (hv : v ∈ ks) (ne : v ≠ u) (uv : v ∉ R u) (t : Tells S R u row) : Ok (S.conn u v) ks (upd R u (v :: row)) := by
  rcases t with ⟨h, e, rfl⟩ | ⟨l, p, q, h, e, rfl⟩
  · unfold ES.conn; rw [h]; exact o.insFirst hu hv ne e
  · have o1 : Ok (S.conn u v) ks (upd R u (p ++ v :: l :: q)) := by unfold ES.conn; rw [h]; exact o.insCw hu hv ne uv e (o.last_mem hu h)
    have o2 := o1.rot (u := u) (p := p) (q := v :: l :: q) (by rw [upd_same])
    rw [upd_upd] at o2
    have e2 : v :: l :: q ++ p = v :: l :: (q ++ p) := rfl
    rw [e2] at o2
    exact o2
theorem Tells.congr {S' : ES} {R' : Int → List Int} {u : Int} {row : List Int} (h : Tells S R u row) (e1 : S'.nbr u = S.nbr u) (e2 : R' u = R u) : Tells S' R' u row := by
  unfold Tells; rw [e1, e2]; exact h
end
section
variable {w : World} {Ar : Around} {E : Value → Shared → Prop} {s : Shared} {g h h' : Heap} {L C I D : Addr} {m cm : Str → Option Value} {cs : List (Str × Addr)} {A : EA} {S S' : ES} {T : Tg → Prop} {env : Env} {Ps Qs Qs' Rs : List Ast} {x dx : Addr}
theorem wpAny_assign_Sub {M : Model} {o i : Expr} {pos : Pos} {v : Value} {Q : Unit → Shared → Prop}
    (h : wpAny M Ar (eval o env) (fun ov s₂ => wpAny M Ar (eval i env) (fun iv s₃ => wpAny M Ar (setItem ov iv v) Q E s₃) E s₂) E s) : wpAny M Ar (assign (.Subscript o i pos) env v) Q E s := fun Γ p hΓ => by
  simp only [assign_Subscript, Sem.wp_bind', Sem.wp_holding, Sem.wp_cmd_standAt, Sem.wp_release]
  exact Sem.wp_mono M Γ _ (fun ov p₂ s₂ h₂ => Sem.wp_mono M Γ _ (fun iv _ s₃ h₃ => h₃ Γ _ hΓ) (fun _ _ _ h' => h') _ _ (h₂ Γ p₂ hΓ)) (fun _ _ _ h' => h') _ _ (h Γ p hΓ)
theorem B.pick {P : Ast} (i : Nat) (c : B w g L cs m cm Ps h) (hi : Ps[i]? = some P) : B w g L cs m cm (P :: Ps.eraseIdx i) h := by
  have key : ∀ (l : List Ast) (i : Nat), l[i]? = some P → l.Perm (P :: l.eraseIdx i) := by
    intro l
    induction l with
    | nil => intro i e; cases i <;> cases e
    | cons x l ih =>
      intro i e
      cases i with
      | zero => cases e; exact .refl _
      | succ i => exact (List.Perm.cons x (ih i e)).trans (.swap _ _ _)
  exact c.perm (key _ _ hi)
theorem data_b {ks : List Int} {R row : Int → List Int} {Q : Value → Shared → Prop} (i : Nat) (c : B w g L cs m cm Ps s.heap) (hi : Ps[i]? = some (EmbA w A S)) (rd : Rm Ar 4) (hB : AllBare s.gens) (o : Ok S ks R) (hrow : ∀ u ∈ ks, Told S u (row u) ∧ (row u).length ≤ 100)
   (k : ∀ s' D la, B w g L cs m cm (DiA w D (refs ks la) :: RowsA ks la row :: Ps) s'.heap → AllBare s'.gens → s'.os = s.os → s'.drawn = s.drawn → Q (.ref D) s') : wpAny (model prog w) Ar (call (.ref 788) [.ref A.x]) Q E s := by
  refine callR (sum788 (row := row) (c.at i hi) c.gd rd.hd rd.depth hB (o.nn ▸ o.nd) (fun u hu => ?_) fun s2 D la2 hk2 hB2 ho2 hd2 hD hdict hrows => ⟨_, rfl, ?_⟩)
  · have hu' : u ∈ ks := o.nn ▸ hu
    exact ⟨o.ns ▸ hu', (hrow u hu').1, (hrow u hu').2⟩
  rw [o.nn] at hdict hrows
  refine k s2 D la2 ?_ hB2 ho2 hd2
  refine B.step (Qs := []) (Qs' := [DiA w D (refs ks la2), RowsA ks la2 row]) c ⟨⟨fun P hP => ?_, List.pairwise_cons.mpr ⟨fun Q hQ b hb hb' => ?_, List.pairwise_singleton ..⟩⟩, fun b o' _ e => hk2 b o' e, fun b ⟨P, hP, hb⟩ => .inr (Heap.get?_none_of_le ?_)⟩
  · rcases List.mem_cons.mp hP with rfl | hP
    · exact ⟨hdict, Nat.le_trans c.gd.size hD⟩
    · rw [List.mem_singleton.mp hP]; exact fun u hu => ⟨(hrows u hu).1, Nat.le_trans c.gd.size (hrows u hu).2.1⟩
  · rw [List.mem_singleton.mp hQ] at hb'
    obtain ⟨u, hu, e⟩ := hb'
    exact (hrows u hu).2.2 (e.trans hb)
  · rcases List.mem_cons.mp hP with rfl | hP
    · rw [show b = D from hb]; exact hD
    · rw [List.mem_singleton.mp hP] at hb
      obtain ⟨u, hu, rfl⟩ := hb
      exact (hrows u hu).2.1
local macro_rules | `(tactic| tm_at "k") => `(tactic| first | exact kk_915 _ | exact kk_922 _ | exact kk_929 _ | exact kk_936 _ | exact kk_941 _ | exact kk_825 _ | exact kk_802 _ | exact kk_853 _ | exact kk_788 _ | exact kk_816 _ | exact kk_614 _ | exact kk_809 _ | exact kk_860 _ | exact kk_867 _ | exact kk_839 _ | exact kk_846 _ | exact kk_261 _ | exact kk_268 _ | exact kk_275 _ | exact kk_282 _ | exact kk_289 _ | exact kk_296 _)
local macro_rules | `(tactic| tm_at "V") => `(tactic| first | assumption | exact C.v (by assumption) | exact C0.v (by assumption))
local macro_rules | `(tactic| tm_at "h") => `(tactic| first | assumption | with_unfolding_all assumption)
local macro_rules | `(tactic| tm_at "t") => `(tactic| first | assumption | (with_unfolding_all exact True.intro) | (with_unfolding_all exact fun q => Tg.noConfusion q))
local macro_rules | `(tactic| tm_at "M") => `(tactic| with_unfolding_all first | exact .head _ | exact .tail _ (.head _) | exact .tail _ (.tail _ (.head _)))
local macro_rules | `(tactic| tm_at "u") => `(tactic| with_unfolding_all rfl)
local macro_rules | `(tactic| tm_at "s1") => `(tactic| (with_reducible refine wpAny_execs_cons ?_))
local macro_rules | `(tactic| tm_at "s3") => `(tactic| (with_reducible refine wpAny_Assign_Name ?_ (by tm_at "u")))
local macro_rules | `(tactic| tm_at "s10") => `(tactic| (with_reducible refine Subscript_ ?_))
local macro_rules | `(tactic| tm_at "s18") => `(tactic| (with_reducible refine wpAny_Expr_any ?_ (by tm_at "u") (by tm_at "u")))
local macro_rules | `(tactic| tm_at "s21") => `(tactic| (with_reducible refine MethodCall_ ?_ (by tm_at "u")))
local macro_rules | `(tactic| tm_at "s24") => `(tactic| ((with_reducible show wpAny _ _ (callWith _ _ _ _ _) _ _ _); (try dsimp only); first
     | (with_reducible refine callWith_method1 ?_ (by tm_at "u") (by tm_at "u"))
     | (with_reducible refine callWith_method0 ?_)
     | (with_reducible refine callWith_K (B.kin (by assumption)) (by tm_at "k") ?_ (by tm_at "u") (by tm_at "u"))
     | (with_reducible refine callWith_K0 (B.kin (by assumption)) (by tm_at "k") ?_)
     | (with_reducible refine callWith_KW (B.kin (by assumption)) (by tm_at "k") (by tm_at "u") ?_ (by tm_at "u") (by tm_at "u"))
     | (with_reducible refine PyProof.Rows.callWith_type1 ?_ (by tm_at "u") (by tm_at "u"))))
local macro_rules | `(tactic| tm_at "s25") => `(tactic| (with_reducible refine spliced_more ?_ (by tm_at "u")))
local macro_rules | `(tactic| tm_at "s26") => `(tactic| ((with_reducible refine spliced_none ?_); try dsimp only [List.cons_append, List.nil_append]))
local macro_rules | `(tactic| tm_at "s30") => `(tactic| (with_reducible refine in_and (B.kin (by assumption)) ?_))
local macro_rules | `(tactic| tm_at "v0") => `(tactic| (with_reducible refine wpAny_BinOp ?_))
local macro_rules | `(tactic| tm_at "v1") => `(tactic| (with_unfolding_all refine ld_b (by assumption) (by first | rfl | assumption) ?_))
local macro_rules | `(tactic| tm_at "v2") => `(tactic| (with_unfolding_all refine lc_b (by assumption) (by first | rfl | assumption) (by rfl) ?_))
local macro_rules | `(tactic| tm_at "v3") => `(tactic| ((with_reducible refine st_b (by assumption) ?_ (by tm_at "u") (by tm_at "u") (by tm_at "u")); intro _ _; try dsimp only))
local macro_rules | `(tactic| tm_at "v12") => `(tactic| (with_reducible refine List_b ?_))
local macro_rules | `(tactic| tm_at "v13") => `(tactic| (with_reducible refine Tuple_b ?_))
theorem do_conn {a sa d : Addr} {ks : List Int} {la : Int → Addr} {R : Int → List Int} {xs : List Int} {u v : Int} {t1 t2 : Tok} {Q : Flow → Shared → Prop} (i : Inv w g L a sa xs A S d ks la R m cm s.heap) (rd : Rm Ar 8) (hB : AllBare s.gens)
   (hu : u ∈ ks) (hv : v ∈ ks) (ne : u ≠ v) (uv : v ∉ R u) (ca : cm (Str.ofString "a") = some (.int u t1)) (mb : m (Str.ofString "b") = some (.int v t2))
   (k : ∀ s' A' S' la' R' m', Inv w g L a sa xs A' S' d ks la' R' m' cm s'.heap → AllBare s'.gens → s'.os = s.os → s'.drawn = s.drawn → Q .next s') :
   wpAny (model prog w) Ar (execs (ifBody kind2) (callEnvC (fdOf (o946 w.params)) L 946)) Q E s := by
  obtain ⟨c, o, y, inj, sm, few, st, dr, tn⟩ := i
  obtain ⟨row, hrow⟩ := o.rows2
  have vu : u ∉ R v := fun z => uv (y v hv u z)
  refine wpAny_execs_cons ?_
  (tm_at "s3"; tm_at "s21"; tm_at "v1")
  refine m_get_data (c.V 1 rfl) ?_
  (tm_at "s24")
  refine data_b (row := row) 1 c rfl (rd.less (by decide)) hB o (fun z hz => ⟨(hrow z hz).2, by rw [(hrow z hz).1.len, (o.perm z hz).length_eq]; exact Nat.le_trans (o.len hz) (by decide)⟩) fun s2 D la2 c2 hB2 ho2 hd2 => ?_
  (tm_at "v3"; tm_at "s1"; tm_at "s18"; tm_at "s21"; tm_at "v1")
  rename_i h3 c3
  refine m_connect_components (c3.V 3 rfl) ?_
  (tm_at "s24"; tm_at "s25"; tm_at "v2"; tm_at "s25"; tm_at "v1"; tm_at "s26"; tm_at "s30")
  obtain ⟨p1, p2, p3, p4, p5, p6, p7⟩ := o.pre hu hv uv
  obtain ⟨_, _, q3, q4, q5, q6, q7⟩ := o.pre hv hu vu
  refine callR (sum867 (c3.at 3 rfl) c3.gd (rd.less (j := 3) (by decide)).depth rd.hd p1 p2 ne p3 p4 p5 p6 p7 q3 q4 q5 q6 q7 (fun z hz => (o.mem hu).mpr ((o.next hu ((o.mem hu).mp hz)).2)) (fun z hz => (o.mem hv).mpr ((o.next hv ((o.mem hv).mp hz)).2)) fun h4 tk4 A4 hA4 back => ⟨_, rfl, ?_⟩)
  have c4 := c3.step1 3 rfl back.step
  dsimp only [List.set] at c4
  have o1 := o.conn2 hu hv ne.symm uv (hrow u hu).1
  obtain ⟨e1, e2, e3, e4, e5, e6, e7⟩ := conn_keeps S ne
  have vu1 : u ∉ upd R u (v :: row u) v := by rw [upd_ne _ _ ne.symm]; exact vu
  have o2 := o1.conn2 hv hu ne vu1 ((hrow v hv).1.congr e4 (upd_ne _ _ ne.symm))
  clear c c2 c3 back
  have mbu : (row u).length ≤ 50 := by rw [(hrow u hu).1.len, (o.perm u hu).length_eq]; exact o.len hu
  have mbv : (row v).length ≤ 50 := by rw [(hrow v hv).1.len, (o.perm v hv).length_eq]; exact o.len hv
  (tm_at "s1")
  refine Assign_Tuple ?_ (by tm_at "u") (by tm_at "u")
  (tm_at "v13"; tm_at "s25"; tm_at "v0"; tm_at "v12"; tm_at "s25"; tm_at "v1"; tm_at "s26")
  refine list_fin c4 (.cons _ _ .nil) (by simp) fun h5 l5 c5 => ?_
  (tm_at "s10"; tm_at "v1"; tm_at "v2")
  refine getD_b 1 c5 rfl hu ?_ (by tm_at "u")
  refine add_b' c5 (c5.at 0 rfl).1 ((c5.at 2 rfl : (RowsA ks la2 row).ok h5) u hu).1 (by simp only [List.length_singleton]; omega) fun h6 l6 c6 => ?_
  (tm_at "s25"; tm_at "v0"; tm_at "v12"; tm_at "s25"; tm_at "v2"; tm_at "s26")
  refine list_fin c6 (.cons _ _ .nil) (by simp) fun h7 l7 c7 => ?_
  (tm_at "s10"; tm_at "v1"; tm_at "v1")
  refine getD_b 3 c7 rfl hv ?_ (by tm_at "u")
  refine add_b' c7 (c7.at 0 rfl).1 ((c7.at 4 rfl : (RowsA ks la2 row).ok h7) v hv).1 (by simp only [List.length_singleton]; omega) fun h8 l8 c8 => ?_
  (tm_at "s26")
  have c9 := c8.sub (Qs := [ILA l8 ([u] ++ row v), ILA l6 ([v] ++ row u), StA a sa xs, EmbA w A4 ((S.conn u v).conn v u), DiA w d (refs ks la), RowsA ks la R]) (.cons_cons _ (.cons _ (.cons_cons _ (.cons _ (.cons _ (.cons _ (.refl _)))))))
  refine tup_fin c9 (Nat.le_of_ble_eq_true rfl) fun h9 tt c10 htt kk9 hsz9 _ => ?_
  refine wpAny_assign_Tuple rd.hd htt (by rfl) (by rfl) fun h10 eb => ?_
  have c11 := c10.keeps fun b o q => eb b o (Nat.ne_of_lt (Heap.lt_size q)) q
  clear c4 c5 c6 c7 c8 c9 c10
  show wpAny _ _ (assignInOrder [assign (.Subscript _ _ _) _, assign (.Subscript _ _ _) _] [_, _]) _ _ _
  refine wpAny_assignInOrder_more (wpAny_assign_Sub ?_)
  (tm_at "v2"; tm_at "v2")
  refine put_b 4 c11 rfl hu (by omega) fun h12 tk12 c12 => ?_
  dsimp only [List.set] at c12
  refine wpAny_assignInOrder_more (wpAny_assign_Sub ?_)
  (tm_at "v2"; tm_at "v1")
  refine put_b 4 c12 rfl hv (by omega) fun h13 tk13 c13 => ?_
  dsimp only [List.set] at c13
  refine wpAny_assignInOrder_none ?_
  try dsimp only
  refine wpAny_execs_nil ?_
  have ne6 : ∀ x ∈ ks, la x ≠ l6 := c13.rowNe 1 5 rfl rfl (by decide) rfl
  have ne8 : ∀ x ∈ ks, la x ≠ l8 := c13.rowNe 0 5 rfl rfl (by decide) rfl
  have n86 : l8 ≠ l6 := sep_ne c13.psep 0 1 (by decide) rfl rfl rfl rfl
  have c14 := (c13.pick 5 rfl).pick 2 rfl
  dsimp only [List.eraseIdx] at c14
  have c15 := c14.putRow (u := u)
  have c16 := c15.pick 1 rfl
  dsimp only [List.eraseIdx] at c16
  have c17 := c16.putRow (u := v)
  have c18 := c17.perm (Qs := [StA a sa xs, EmbA w A4 ((S.conn u v).conn v u), DiA w d (refs ks (upd (upd la u l6) v l8)), RowsA ks (upd (upd la u l6) v l8) (upd (upd R u ([v] ++ row u)) v ([u] ++ row v))])
    (List.perm_append_comm (l₁ := [RowsA ks (upd (upd la u l6) v l8) (upd (upd R u ([v] ++ row u)) v ([u] ++ row v))]) (l₂ := [StA a sa xs, EmbA w A4 ((S.conn u v).conn v u), DiA w d (refs ks (upd (upd la u l6) v l8))]))
  have inj1 : Inj ks (upd la u l6) := inj.put fun x hx _ => ne6 x hx
  have inj2 : Inj ks (upd (upd la u l6) v l8) := inj1.put fun x hx _ => by
    by_cases q : x = u
    · subst q; rw [upd_same]; exact n86.symm
    · rw [upd_ne _ _ q]; exact ne8 x hx
  refine k _ A4 _ _ _ _ ⟨c18, o2, ?_, inj2, sm, few, by exact st, by rw [hA4]; exact dr, tn⟩ hB2 ho2 hd2
  refine y.ins ne (fun z => ?_) (fun z => ?_)
  · rw [List.mem_append, List.mem_singleton, (hrow u hu).1.mem]
  · rw [List.mem_append, List.mem_singleton, (hrow v hv).1.mem]
end
end Mine
end
section
open PySem PySem.W PySem.Calls PyProof.Rows
set_option maxRecDepth 100000
set_option maxHeartbeats 1000000
set_option linter.all false
namespace Mine
theorem ints_erase {vs : List Value} {ns : List Int} (h : IntsAre vs ns) : ∀ j : Nat, IntsAre (vs.eraseIdx j) (ns.eraseIdx j) := by
  induction h with
  | nil => intro j; exact .nil
  | cons k t h ih =>
    intro j
    cases j with
    | zero => exact h
    | succ j => exact .cons k t (ih j)
theorem erase_del {l : List Int} {x : Int} (nd : l.Nodup) : l.eraseIdx (l.idxOf x) = del l x := by
  unfold del
  rw [← List.erase_eq_eraseIdx_of_idxOf rfl]
  rw [List.Nodup.erase_eq_filter nd]
  refine List.filter_congr fun y _ => ?_
  by_cases q : y = x <;> simp [q]
section
variable {w : World} {Ar : Around} {E : Value → Shared → Prop} {s s₀ : Shared} {g h h' : Heap} {L C D I : Addr} {cs : List (Str × Addr)} {m cm m' : Str → Option Value} {env : Env} {Ps Qs Qs' Rs : List Ast}
theorem remove_b {l : Addr} {ns : List Int} {x : Int} {t : Tok} {Q : Value → Shared → Prop} (i : Nat) (c : B w g L cs m cm Ps s.heap) (hi : Ps[i]? = some (ILA l ns)) (few : ns.length ≤ 1000) (nd : ns.Nodup) (hx : x ∈ ns)
    (k : ∀ h', B w g L cs m cm (Ps.set i (ILA l (del ns x))) h' → Q .none { s with heap := h' }) : wpAny (model prog w) Ar (call (.builtin "list.remove") [.ref l, .int x t]) Q E s := by
  obtain ⟨⟨vs, hv, iv⟩, hh⟩ := c.at i hi
  obtain ⟨n, ho⟩ := id hv
  have hlen := iv.length
  have hj : ns.idxOf x < ns.length := List.idxOf_lt_length_iff.mpr hx
  refine call_meets PySem.F.slot_list_remove ⟨_, ho, rfl⟩ PySem.F.entry_list_remove (PySem.F.args_list_remove_2 _ _)
    (MeetsSeq.list_remove l vs.toArray n (.int x t) (isInt x) (fun y hy => eq_isInt x t iv y (by simpa using hy)) (ns.idxOf x) (by simpa [hlen] using hj) ?_ ?_ (by rw [List.size_toArray, hlen]; exact il_small few)) ⟨ho, ?_⟩
  · show isInt x vs[ns.idxOf x] = true
    rw [isInt_at x iv _ (by omega) hj]
    simp
  · intro j hjs hlt
    show isInt x vs[j] = false
    rw [isInt_at x iv j (by simpa using hjs) (by omega)]
    exact ne_of_lt_idxOf hlt _
  · refine k _ (c.step1 i hi (one_step (Heap.SameBut.update ..) rfl ⟨⟨vs.eraseIdx (ns.idxOf x), ?_, ?_⟩, hh⟩ fun _ z => z))
    · have e1 := Heap.get?_update_self (Obj.mapSeq fun xs => xs.eraseIdxIfInBounds (ns.idxOf x)) ho (by rfl)
      have e2 : vs.toArray.eraseIdxIfInBounds (ns.idxOf x) = (vs.eraseIdx (ns.idxOf x)).toArray := by
        unfold Array.eraseIdxIfInBounds
        rw [dif_pos (by rw [List.size_toArray, hlen]; exact hj)]
        simp
      have e3 : ∃ n', Obj.mapSeq (fun xs => xs.eraseIdxIfInBounds (ns.idxOf x)) { cls := Value.type "list", data := Data.seq vs.toArray n } = { cls := Value.type "list", data := Data.seq (vs.toArray.eraseIdxIfInBounds (ns.idxOf x)) n' } := ⟨_, rfl⟩
      obtain ⟨n', e3⟩ := e3
      rw [e3, e2] at e1
      exact ⟨n', e1⟩
    · rw [← erase_del nd]; exact ints_erase iv _
end
end Mine
end
section
open PySem PySem.W PySem.Calls PyProof.Rows
set_option maxRecDepth 100000
set_option maxHeartbeats 1000000
set_option linter.all false
namespace Mine
section
variable {w : World} {Ar : Around} {E : Value → Shared → Prop} {s : Shared} {g h h' : Heap} {L C I D : Addr} {m cm : Str → Option Value} {cs : List (Str × Addr)} {A : EA} {S S' : ES} {T : Tg → Prop} {env : Env} {Ps Qs Qs' Rs : List Ast} {x dx : Addr}
theorem rm_row {P1 P2 P3 : Ast} {ks : List Int} {la : Int → Addr} {R : Int → List Int} {u v : Int} {t : Tok} {Q : Value → Shared → Prop} (c : B w g L cs m cm [P1, P2, P3, RowsA ks la R] s.heap) (inj : Inj ks la) (hu : u ∈ ks) (few : (R u).length ≤ 1000) (nd : (R u).Nodup) (hv : v ∈ R u)
    (k : ∀ h', B w g L cs m cm [P1, P2, P3, RowsA ks la (upd R u (del (R u) v))] h' → Q .none { s with heap := h' }) : wpAny (model prog w) Ar (call (.builtin "list.remove") [.ref (la u), .int v t]) Q E s := by
  have c1 := c.pick 3 rfl
  dsimp only [List.eraseIdx] at c1
  refine remove_b 0 (c1.takeRow inj hu) rfl few nd hv fun h' c2 => k h' ?_
  dsimp only [List.set] at c2
  have c3 := c2.giveRow
  rw [upd_self] at c3
  exact c3.perm (List.perm_append_comm (l₁ := [RowsA ks la (upd R u (del (R u) v))]) (l₂ := [P1, P2, P3]))
local macro_rules | `(tactic| tm_at "k") => `(tactic| first | exact kk_915 _ | exact kk_922 _ | exact kk_929 _ | exact kk_936 _ | exact kk_941 _ | exact kk_825 _ | exact kk_802 _ | exact kk_853 _ | exact kk_788 _ | exact kk_816 _ | exact kk_614 _ | exact kk_809 _ | exact kk_860 _ | exact kk_867 _ | exact kk_839 _ | exact kk_846 _ | exact kk_261 _ | exact kk_268 _ | exact kk_275 _ | exact kk_282 _ | exact kk_289 _ | exact kk_296 _)
local macro_rules | `(tactic| tm_at "V") => `(tactic| first | assumption | exact C.v (by assumption) | exact C0.v (by assumption))
local macro_rules | `(tactic| tm_at "h") => `(tactic| first | assumption | with_unfolding_all assumption)
local macro_rules | `(tactic| tm_at "t") => `(tactic| first | assumption | (with_unfolding_all exact True.intro) | (with_unfolding_all exact fun q => Tg.noConfusion q))
local macro_rules | `(tactic| tm_at "M") => `(tactic| with_unfolding_all first | exact .head _ | exact .tail _ (.head _) | exact .tail _ (.tail _ (.head _)))
local macro_rules | `(tactic| tm_at "u") => `(tactic| with_unfolding_all rfl)
local macro_rules | `(tactic| tm_at "s1") => `(tactic| (with_reducible refine wpAny_execs_cons ?_))
local macro_rules | `(tactic| tm_at "s2") => `(tactic| (with_reducible refine wpAny_execs_nil ?_))
local macro_rules | `(tactic| tm_at "s7") => `(tactic| (with_reducible refine wpAny_If ?_))
local macro_rules | `(tactic| tm_at "s8") => `(tactic| (with_reducible refine wpAny_isTrue_Compare1 ?_ (by tm_at "u")))
local macro_rules | `(tactic| tm_at "s10") => `(tactic| (with_reducible refine Subscript_ ?_))
local macro_rules | `(tactic| tm_at "s15") => `(tactic| (with_reducible refine wpAny_Constant_int ?_))
local macro_rules | `(tactic| tm_at "s18") => `(tactic| (with_reducible refine wpAny_Expr_any ?_ (by tm_at "u") (by tm_at "u")))
local macro_rules | `(tactic| tm_at "s21") => `(tactic| (with_reducible refine MethodCall_ ?_ (by tm_at "u")))
local macro_rules | `(tactic| tm_at "s22") => `(tactic| (with_reducible refine Call_ ?_ (by tm_at "u")))
local macro_rules | `(tactic| tm_at "s24") => `(tactic| ((with_reducible show wpAny _ _ (callWith _ _ _ _ _) _ _ _); (try dsimp only); first
     | (with_reducible refine callWith_method1 ?_ (by tm_at "u") (by tm_at "u"))
     | (with_reducible refine callWith_method0 ?_)
     | (with_reducible refine callWith_K (B.kin (by assumption)) (by tm_at "k") ?_ (by tm_at "u") (by tm_at "u"))
     | (with_reducible refine callWith_K0 (B.kin (by assumption)) (by tm_at "k") ?_)
     | (with_reducible refine callWith_KW (B.kin (by assumption)) (by tm_at "k") (by tm_at "u") ?_ (by tm_at "u") (by tm_at "u"))
     | (with_reducible refine PyProof.Rows.callWith_type1 ?_ (by tm_at "u") (by tm_at "u"))))
local macro_rules | `(tactic| tm_at "s25") => `(tactic| (with_reducible refine spliced_more ?_ (by tm_at "u")))
local macro_rules | `(tactic| tm_at "s26") => `(tactic| ((with_reducible refine spliced_none ?_); try dsimp only [List.cons_append, List.nil_append]))
local macro_rules | `(tactic| tm_at "s30") => `(tactic| (with_reducible refine in_and (B.kin (by assumption)) ?_))
local macro_rules | `(tactic| tm_at "v1") => `(tactic| (with_unfolding_all refine ld_b (by assumption) (by first | rfl | assumption) ?_))
local macro_rules | `(tactic| tm_at "v2") => `(tactic| (with_unfolding_all refine lc_b (by assumption) (by first | rfl | assumption) (by rfl) ?_))
local macro_rules | `(tactic| tm_at "v9") => `(tactic| (with_reducible refine PySem.wpAny_truthy_bool ?_))
local macro_rules | `(tactic| tm_at "v12") => `(tactic| (with_reducible refine List_b ?_))
local macro_rules | `(tactic| tm_at "v13") => `(tactic| (with_reducible refine Tuple_b ?_))
local macro_rules | `(tactic| tm_at "v15") => `(tactic| (with_reducible refine PyProof.Rows.eq_int ?_))
theorem do_rm {a sa d : Addr} {ks : List Int} {la : Int → Addr} {R : Int → List Int} {xs : List Int} {u v : Int} {t1 t2 : Tok} {Q : Flow → Shared → Prop} (i : Inv w g L a sa xs A S d ks la R m cm s.heap) (rd : Rm Ar 8)
   (hu : u ∈ ks) (hv : v ∈ ks) (ne : u ≠ v) (uv : v ∈ R u) (ca : cm (Str.ofString "a") = some (.int u t1)) (mb : m (Str.ofString "b") = some (.int v t2))
   (k : ∀ h' tk S' R', Inv w g L a sa xs A S' d ks la R' m cm h' → Q .next { s with heap := h', toks := tk }) :
   wpAny (model prog w) Ar (execs (ifBody kind3) (callEnvC (fdOf (o946 w.params)) L 946)) Q E s := by
  obtain ⟨c, o, y, inj, sm, few, st, dr, tn⟩ := i
  have vu : u ∈ R v := y u hu v uv
  refine wpAny_execs_cons (wpAny_mono (Q := fun f s' => f = .next ∧ ∃ h' tk S', s' = { s with heap := h', toks := tk } ∧ B w g L (cellsFrom (L + 1) (fdOf (o946 w.params)).scope.names []) m cm [StA a sa xs, EmbA w A S', DiA w d (refs ks la), RowsA ks la R] h' ∧ Ok S' ks (upd (upd R u (del (R u) v)) v (del (R v) u))) ?_ (fun f s' hf => ?_) fun _ _ z => z)
  · (tm_at "s7"; tm_at "s8"; tm_at "s22")
    refine gl_b c (kg_next _) ?_ (by tm_at "u") (by tm_at "u") (by tm_at "u")
    (tm_at "s24"; tm_at "s25"; tm_at "v1"; tm_at "s25"; tm_at "s15"; tm_at "s26"; tm_at "s30")
    refine next_b 0 c rfl (rd.less (by decide)) (by decide) fun h1 tk1 y1 t3 y0 y2 c1 => ?_
    (tm_at "s15"; tm_at "v15"; tm_at "v9")
    clear c
    by_cases q : y1 = 0
    · rw [show (y1 == 0) = true from by simpa using q]
      simp only [if_true]
      (tm_at "s1"; tm_at "s18"; tm_at "s21"; tm_at "v1")
      refine m_remove_edge (c1.V 1 rfl) ?_
      (tm_at "s24"; tm_at "s25"; tm_at "v2"; tm_at "s25"; tm_at "v1"; tm_at "s26"; tm_at "s30")
      refine callR (sum853 (c1.at 1 rfl) c1.gd rd.room (o.ns ▸ hu) (o.ns ▸ hv) ((o.mem hu).mpr uv) ((o.mem hv).mpr vu) (o.np ▸ hu) (o.np ▸ hv) ((o.pnb u hu v).mpr ⟨hv, vu⟩) ((o.pnb v hv u).mpr ⟨hu, uv⟩) ne (o.for853 hu uv) (o.for853 hv vu) fun h2 tk2 back => ⟨_, rfl, ?_⟩)
      have c2 := c1.step1 1 rfl back.step
      dsimp only [List.set] at c2
      refine wpAny_execs_nil ?_
      exact ⟨rfl, _, _, _, rfl, c2, o.rmEdge hu hv ne uv vu⟩
    · rw [show (y1 == 0) = false from by simpa using q]
      simp only [Bool.false_eq_true, if_false]
      (tm_at "s1"; tm_at "s18"; tm_at "s21"; tm_at "v1")
      refine m_remove_edges_from (c1.V 1 rfl) ?_
      have c2 := c1.noTups 0
      dsimp only [List.take, List.drop, List.nil_append] at c2
      clear c1
      (tm_at "s24"; tm_at "s25"; tm_at "v12"; tm_at "s25"; tm_at "v13"; tm_at "s25"; tm_at "v2"; tm_at "s25"; tm_at "v1"; tm_at "s26")
      refine pair_fin 0 c2 rfl fun h3 d3 c3 => ?_
      dsimp only [List.set, List.nil_append] at c3
      (tm_at "s25"; tm_at "v13"; tm_at "s25"; tm_at "v1"; tm_at "s25"; tm_at "v2"; tm_at "s26")
      refine pair_fin 0 c3 rfl fun h4 d4 c4 => ?_
      dsimp only [List.set, List.nil_append, List.cons_append] at c4
      (tm_at "s26")
      refine list_finV c4 (Nat.le_of_ble_eq_true rfl) fun h5 l5 c5 => ?_
      (tm_at "s26"; tm_at "s30")
      have el : EL h5 l5 (Fp A S) [(u, v), (v, u)] := by
        obtain ⟨_, ht⟩ := (c5.at 1 rfl : (TupsA [d3, d4] [(u, v), (v, u)]).ok h5)
        have nt : ∀ b, b ∈ [d3, d4] → ¬ Fp A S b := fun b hb z => sep_ne c5.psep 1 3 (by decide) (P := TupsA [d3, d4] [(u, v), (v, u)]) (Q := EmbA w A S) (a := b) (b := b) rfl rfl hb z rfl
        refine ⟨[.ref d3, .ref d4], (c5.at 0 rfl).1, rfl, fun z => sep_ne c5.psep 0 3 (by decide) (P := LiA l5 [.ref d3, .ref d4]) (Q := EmbA w A S) (a := l5) (b := l5) rfl rfl rfl z rfl, fun i p q hi => ?_⟩
        match i, hi with
        | 0, hi =>
          obtain ⟨rfl, rfl⟩ := Prod.mk.inj (Option.some.inj hi)
          obtain ⟨⟨ta, tb, it⟩, _⟩ := ht 0 d3 _ rfl rfl
          exact ⟨d3, ta, tb, [], rfl, nt _ (.head _), it⟩
        | 1, hi =>
          obtain ⟨rfl, rfl⟩ := Prod.mk.inj (Option.some.inj hi)
          obtain ⟨⟨ta, tb, it⟩, _⟩ := ht 1 d4 _ rfl rfl
          exact ⟨d4, ta, tb, [], rfl, nt _ (.tail _ (.head _)), it⟩
        | i + 2, hi => simp at hi
      refine callR (sum860 (c5.at 3 rfl) c5.gd (rd.less (j := 3) (by decide)).depth rd.hd o y el fun h6 tk6 S6 o6 y6 back => ⟨_, rfl, ?_⟩)
      have c6 := c5.step1 3 rfl back.step
      dsimp only [List.set] at c6
      refine wpAny_execs_nil ?_
      have e6 : rmRows ks R [(u, v), (v, u)] = upd (upd R u (del (R u) v)) v (del (R v) u) := by
        show rmRow ks (rmRow ks R (u, v)) (v, u) = _
        have e1 : rmRow ks R (u, v) = upd (upd R u (del (R u) v)) v (del (R v) u) := by unfold rmRow; rw [if_pos ⟨hu, uv⟩]
        rw [e1]
        unfold rmRow
        rw [if_neg]
        rintro ⟨_, z⟩
        rw [show (v, u).1 = v from rfl, upd_same] at z
        exact (mem_del.mp z).2 rfl
      rw [e6] at o6
      exact ⟨rfl, _, _, _, rfl, c6.drop.drop, o6⟩
  obtain ⟨rfl, h', tk, S', rfl, c1, o1⟩ := hf
  (tm_at "s1"; tm_at "s18"; tm_at "s21"; tm_at "s10"; tm_at "v2"; tm_at "v2")
  refine getD_b 2 c1 rfl hu ?_ (by tm_at "u")
  refine meth_b' (((c1.at 3 rfl : (RowsA ks la R).ok h') u hu).1) PySem.F.slot_list_remove PySem.F.type_list_remove ?_
  (tm_at "s24"; tm_at "s25"; tm_at "v1"; tm_at "s26")
  have ru : (R u).length ≤ 1000 := by rw [(o.perm u hu).length_eq]; exact Nat.le_trans (o.len hu) (by decide)
  have rv : (R v).length ≤ 1000 := by rw [(o.perm v hv).length_eq]; exact Nat.le_trans (o.len hv) (by decide)
  refine rm_row c1 inj hu ru (o.rnd u hu) uv fun h2 c2 => ?_
  (tm_at "s1"; tm_at "s18"; tm_at "s21"; tm_at "s10"; tm_at "v2"; tm_at "v1")
  refine getD_b 2 c2 rfl hv ?_ (by tm_at "u")
  have ev : upd R u (del (R u) v) v = R v := upd_ne _ _ ne.symm
  refine meth_b' (((c2.at 3 rfl : (RowsA ks la (upd R u (del (R u) v))).ok h2) v hv).1) PySem.F.slot_list_remove PySem.F.type_list_remove ?_
  (tm_at "s24"; tm_at "s25"; tm_at "v2"; tm_at "s26")
  refine rm_row c2 inj hv (by rw [ev]; exact rv) (by rw [ev]; exact o.rnd v hv) (by rw [ev]; exact vu) fun h3 c3 => ?_
  rw [ev] at c3
  (tm_at "s2")
  exact k _ _ S' _ ⟨c3, o1, y.rmEdge ne, inj, sm, few, st, dr, tn⟩
end
end Mine
end
section
open PySem PySem.W PySem.Calls PyProof.Rows
set_option maxRecDepth 100000
set_option maxHeartbeats 1000000
set_option linter.all false
namespace Mine
section
variable {w : World} {Ar : Around} {E : Value → Shared → Prop} {s : Shared} {g h h' : Heap} {L C I D : Addr} {m cm : Str → Option Value} {cs : List (Str × Addr)} {A : EA} {S S' : ES} {T : Tg → Prop} {env : Env} {Ps Qs Qs' Rs : List Ast} {x dx : Addr}
theorem B.slots (c : B w g L cs m cm Ps h) (k : ∀ b o, b ≠ L → h.get? b = some o → h'.get? b = some o) (u : h.UpToSlots h') : B w g L cs m cm Ps h' := by
  obtain ⟨f1, f2, f3, f4, f5, f6, f7⟩ := c.fr
  have ns : h'.Ns L m := by
    obtain ⟨o, es, ep, ho, hd, r⟩ := f1
    obtain ⟨sl, h2⟩ := u L o ho (fun vs z => by rw [hd] at z; cases z)
    exact ⟨_, es, ep, h2, hd, r⟩
  have offL : ∀ P ∈ Ps, ∀ b, P.fp b → b ≠ L := fun P hP b hb z => (List.pairwise_cons.mp c.sep.dis).1 P hP L (.inl rfl) (z ▸ hb)
  refine c.stepAll ⟨⟨fun P hP => ?_, c.sep.dis⟩, fun b o n e => k b o (fun z => n ⟨_, .head _, .inl z⟩) e, fun b hb => .inl hb⟩
  rcases List.mem_cons.mp hP with rfl | hP
  · exact ⟨ns, fun p hp => (let ⟨o, ho, r⟩ := f2 p hp; ⟨o, k _ o (f5 p hp) ho, r⟩), f3, f4, f5, f6, f7⟩
  · exact P.loc (c.psep.ok P hP) fun b o hb e => k b o (offL P hP b hb) e
theorem below_at {outer : List Env} {env : Env} (c : B w g L cs m cm Ps h) (hf : Ar.frames = some [env]) (hk : env.scope.kind ≠ .module) (he : env.frame = some L) : Below Ar (hide h fun b => b = L) [env] h := by
  obtain ⟨o, es, ep, ho, hd, r⟩ := c.ns
  refine ⟨hf, fun b o e => ?_, hk, ⟨L, o, he, by rw [hide_get, if_pos rfl], ho, fun vs z => by rw [hd] at z; cases z⟩, trivial⟩
  rw [hide_get] at e
  split at e
  · cases e
  · exact e
theorem gd_at (c : B w g L cs m cm Ps h) : Gd w (hide h fun b => b = L) := gd_hideP c.gd fun b hb => by rw [hb]; exact c.fr.2.2.2.2.2.1
local macro_rules | `(tactic| tm_at "k") => `(tactic| first | exact kk_915 _ | exact kk_922 _ | exact kk_929 _ | exact kk_936 _ | exact kk_941 _ | exact kk_825 _ | exact kk_802 _ | exact kk_853 _ | exact kk_788 _ | exact kk_816 _ | exact kk_614 _ | exact kk_809 _ | exact kk_860 _ | exact kk_867 _ | exact kk_839 _ | exact kk_846 _ | exact kk_261 _ | exact kk_268 _ | exact kk_275 _ | exact kk_282 _ | exact kk_289 _ | exact kk_296 _)
local macro_rules | `(tactic| tm_at "V") => `(tactic| first | assumption | exact C.v (by assumption) | exact C0.v (by assumption))
local macro_rules | `(tactic| tm_at "h") => `(tactic| first | assumption | with_unfolding_all assumption)
local macro_rules | `(tactic| tm_at "t") => `(tactic| first | assumption | (with_unfolding_all exact True.intro) | (with_unfolding_all exact fun q => Tg.noConfusion q))
local macro_rules | `(tactic| tm_at "M") => `(tactic| with_unfolding_all first | exact .head _ | exact .tail _ (.head _) | exact .tail _ (.tail _ (.head _)))
local macro_rules | `(tactic| tm_at "u") => `(tactic| with_unfolding_all rfl)
local macro_rules | `(tactic| tm_at "s2") => `(tactic| (with_reducible refine wpAny_execs_nil ?_))
local macro_rules | `(tactic| tm_at "s7") => `(tactic| (with_reducible refine wpAny_If ?_))
local macro_rules | `(tactic| tm_at "s10") => `(tactic| (with_reducible refine Subscript_ ?_))
local macro_rules | `(tactic| tm_at "s15") => `(tactic| (with_reducible refine wpAny_Constant_int ?_))
local macro_rules | `(tactic| tm_at "s22") => `(tactic| (with_reducible refine Call_ ?_ (by tm_at "u")))
local macro_rules | `(tactic| tm_at "s24") => `(tactic| ((with_reducible show wpAny _ _ (callWith _ _ _ _ _) _ _ _); (try dsimp only); first
     | (with_reducible refine callWith_method1 ?_ (by tm_at "u") (by tm_at "u"))
     | (with_reducible refine callWith_method0 ?_)
     | (with_reducible refine callWith_K (B.kin (by assumption)) (by tm_at "k") ?_ (by tm_at "u") (by tm_at "u"))
     | (with_reducible refine callWith_K0 (B.kin (by assumption)) (by tm_at "k") ?_)
     | (with_reducible refine callWith_KW (B.kin (by assumption)) (by tm_at "k") (by tm_at "u") ?_ (by tm_at "u") (by tm_at "u"))
     | (with_reducible refine PyProof.Rows.callWith_type1 ?_ (by tm_at "u") (by tm_at "u"))))
local macro_rules | `(tactic| tm_at "s25") => `(tactic| (with_reducible refine spliced_more ?_ (by tm_at "u")))
local macro_rules | `(tactic| tm_at "s26") => `(tactic| ((with_reducible refine spliced_none ?_); try dsimp only [List.cons_append, List.nil_append]))
local macro_rules | `(tactic| tm_at "s30") => `(tactic| (with_reducible refine in_and (B.kin (by assumption)) ?_))
local macro_rules | `(tactic| tm_at "s32") => `(tactic| (with_reducible refine isTrue_not ?_))
local macro_rules | `(tactic| tm_at "s37") => `(tactic| (with_reducible refine isTrue_plain ?_ (by tm_at "u")))
local macro_rules | `(tactic| tm_at "v1") => `(tactic| (with_unfolding_all refine ld_b (by assumption) (by first | rfl | assumption) ?_))
local macro_rules | `(tactic| tm_at "v2") => `(tactic| (with_unfolding_all refine lc_b (by assumption) (by first | rfl | assumption) (by rfl) ?_))
local macro_rules | `(tactic| tm_at "v9") => `(tactic| (with_reducible refine PySem.wpAny_truthy_bool ?_))
theorem do_ref {a sa d : Addr} {ks : List Int} {la : Int → Addr} {R : Int → List Int} {xs : List Int} {u v : Int} {t1 t2 : Tok} {Q : Flow → Shared → Prop} (i : Inv w g L a sa xs A S d ks la R m cm s.heap) (rd : Rm Ar 8) (fr : Ar.frames = some [(callEnvC (fdOf (o946 w.params)) L 946)])
   (hu : u ∈ ks) (hv : v ∈ ks) (ne : u ≠ v) (uv : v ∉ R u) (ca : cm (Str.ofString "a") = some (.int u t1)) (mb : m (Str.ofString "b") = some (.int v t2))
   (k : ∀ h' tk, Inv w g L a sa xs A S d ks la R m cm h' → Q .next { s with heap := h', toks := tk }) :
   wpAny (model prog w) Ar (execs (ifElse kind4) (callEnvC (fdOf (o946 w.params)) L 946)) Q E s := by
  obtain ⟨c, o, y, inj, sm, few, st, dr, tn⟩ := i
  refine wpAny_execs_cons ?_
  (tm_at "s7"; tm_at "s32"; tm_at "s37"; tm_at "s22")
  refine gl_b c (kg_refused _) ?_ (by tm_at "u") (by tm_at "u") (by tm_at "u")
  (tm_at "s24"; tm_at "s25"; tm_at "s22")
  refine gl_b c (kg_next _) ?_ (by tm_at "u") (by tm_at "u") (by tm_at "u")
  (tm_at "s24"; tm_at "s25"; tm_at "v1"; tm_at "s25"; tm_at "s15"; tm_at "s26"; tm_at "s30")
  refine next_b 0 c rfl (rd.less (by decide)) (by decide) fun h1 tk1 y1 t3 y0 y2 c1 => ?_
  clear c
  (tm_at "s25"; tm_at "v1"; tm_at "s25"; tm_at "s10"; tm_at "v2"; tm_at "v2")
  refine getD_b 2 c1 rfl hu ?_ (by tm_at "u")
  (tm_at "s25"; tm_at "v2"; tm_at "s25"; tm_at "v1"; tm_at "s26"; tm_at "s30")
  refine callR (sum936 (c1.at 1 rfl) c1.gd (rd.less (by decide)) (below_at (outer := []) c1 fr (by show ScopeKind.function ≠ .module; decide) rfl) (gd_at c1) o hu hv ne.symm uv sm ((c1.at 3 rfl : (RowsA ks la R).ok h1) u hu).1 fun h2 tk2 sb us => ⟨_, rfl, ?_⟩)
  have c2 := c1.slots (fun b o n e => sb b o (by rw [hide_get, if_neg n]; exact e)) us
  (tm_at "v9")
  simp only [Bool.not_true, Bool.false_eq_true, if_false]
  (tm_at "s2"; tm_at "s2")
  exact k _ _ ⟨c2, o, y, inj, sm, few, st, dr, tn⟩
end
end Mine
end
section
open PySem PySem.W PySem.Calls PyProof.Rows
set_option maxRecDepth 100000
set_option maxHeartbeats 1000000
set_option linter.all false
namespace Mine
section
variable {w : World} {Ar : Around} {E : Value → Shared → Prop} {s : Shared} {g h h' : Heap} {L C I D : Addr} {m cm m' : Str → Option Value} {cs : List (Str × Addr)} {A : EA} {S S' : ES} {T : Tg → Prop} {env : Env} {Ps Qs Qs' Rs : List Ast} {x dx : Addr}
theorem newListI_b (c : B w g L cs m cm Ps s.heap) {Q' : Value → Shared → Prop} (k : ∀ h' D, B w g L cs m cm (ILA D [] :: Ps) h' → Q' (.ref D) { s with heap := h' }) : wpAny (model prog w) Ar (newList []) Q' E s :=
  wpAny_newObj_type (k _ _ (c.newInts (push_keeps _ _) ⟨[], ⟨_, Heap.get?_push_size _ rfl⟩, .nil⟩ (Nat.le_refl _)))
theorem ListCompI_b {elt iter : Expr} {target : Expr} {ifs : List Expr} {rest : List Comprehension} {scope : Scope} {cl : List (Str × Addr)} {pos : Pos} {Q : Value → Shared → Prop}
    (hclos : closureFor scope env = pure cl) (hkind : scope.kind = .function) (hnames : ∀ x ∈ scope.names, x.2 = .local → scope.names.lookup x.1 = some .local) (hcell : ∀ y ∈ scope.names, y.2 ≠ .cell)
    (h : wpAny (model prog w) Ar (eval iter env) (fun x s₁ => wpAny (model prog w) Ar (pyIter x) (fun it s₂ => ∃ Ps₂, B w g L cs m cm Ps₂ s₂.heap ∧ 
      ∀ C D h₁ tk, B w g C [] (fun _ => none) (fun _ => none) (FrA L cs m cm :: ILA D [] :: Ps₂) h₁ → 
        (∀ (Q' : Value → Shared → Prop) (E' : Value → Shared → Prop), Q' it { s₂ with heap := h₁, toks := tk } → wpAny (model prog w) Ar (pyIter it) Q' E' { s₂ with heap := h₁, toks := tk }) ∧
        codeAny (model prog w) Ar (.compLoop (.ListComp elt (⟨target, iter, ifs, 0⟩ :: rest) scope pos) 0 it (.ref D) (compEnvC scope cl C env)) (CompOut w g L cs m cm C D Q) { s₂ with heap := h₁, toks := tk }) E s₁) E s)
    (hs : ∀ x, foldedSetIterable iter env x = pure x := by intro _; rfl) :
    wpAny (model prog w) Ar (eval (.ListComp elt (⟨target, iter, ifs, 0⟩ :: rest) scope pos) env) Q E s := by
  rw [eval_ListComp]
  refine comp_b (w := w) (g := g) (L := L) (cs := cs) (m := m) (cm := cm) (P0 := fun D => ILA D []) rfl hs hclos hkind hnames hcell (fun s Ps Q' c k => newListI_b c k) (wpAny_mono h (fun x s₁ h₁ => wpAny_mono h₁ (fun it s₂ h₂ => ?_) fun _ _ z => z) fun _ _ z => z)
  obtain ⟨Ps₂, c₂, h₂⟩ := h₂
  refine ⟨Ps₂, c₂, fun C D h₁ tk c₁ => ?_⟩
  obtain ⟨hself, hl⟩ := h₂ C D h₁ tk c₁
  exact codeAny_compStart_list hl (hself _ _ hl)
theorem appI_b {ns : List Int} {k : Int} {t : Tok} {Q : Value → Shared → Prop} (i : Nat) (c : B w g L cs m cm Ps s.heap) (hi : Ps[i]? = some (ILA D ns)) (few : ns.length ≤ 1000)
    (q : ∀ h', B w g L cs m cm (Ps.set i (ILA D (ns ++ [k]))) h' → Q .none { s with heap := h' }) : wpAny (model prog w) Ar (call (.builtin "list.append") [.ref D, .int k t]) Q E s := by
  obtain ⟨⟨vs, hv, iv⟩, hh⟩ := c.at i hi
  refine wpAny_list_append_plain hv (fun h' hl' hs => q h' (c.step1 i hi (one_step hs rfl ⟨⟨vs ++ [.int k t], by rwa [List.push_toArray] at hl', iv.append (.cons k t .nil)⟩, hh⟩ fun _ z => z))) (by rw [List.size_toArray, iv.length]; exact il_small few)
theorem iterL_b {l : Addr} {ns : List Int} {Q : Value → Shared → Prop} (c : B w g L cs m cm Ps s.heap) (hl : IL s.heap l ns)
    (k : ∀ h' I, B w g L cs m cm (LItA I l 0 :: Ps) h' → Q (.ref I) { s with heap := h' }) : wpAny (model prog w) Ar (pyIter (.ref l)) Q E s := by
  obtain ⟨vs, hv, iv⟩ := hl
  refine wpAny_pyIter_list hv.isList (k _ _ ?_)
  exact c.more (fresh_step c.gd (push_keeps _ _) ⟨⟨_, Heap.get?_push_size _ rfl, rfl, rfl⟩, c.gd.size⟩ fun b hb => by rw [show b = s.heap.objs.size from hb]; exact Nat.le_refl _)
theorem selfL_b {l : Addr} {j : Nat} {Q : Value → Shared → Prop} (i : Nat) (c : B w g L cs m cm Ps s.heap) (hi : Ps[i]? = some (LItA I l j)) (k : Q (.ref I) s) : wpAny (model prog w) Ar (pyIter (.ref I)) Q E s :=
  wpAny_pyIter_listiter (c.at i hi).1 k
theorem nextL_b {l : Addr} {ns : List Int} {j : Nat} {u : Int} {Q : Option Value → Shared → Prop} (i : Nat) (c : B w g L cs m cm Ps s.heap) (hi : Ps[i]? = some (LItA I l j)) (hl : IL s.heap l ns) (hu : ns[j]? = some u)
    (k : ∀ h' t, B w g L cs m cm (Ps.set i (LItA I l (j + 1))) h' → Q (some (.int u t)) { s with heap := h' }) : wpAny (model prog w) Ar (pyNext (.ref I)) Q E s := by
  obtain ⟨vs, hv, iv⟩ := hl
  obtain ⟨t, e⟩ := ints_at iv hu
  exact wpAny_pyNext_list_item (c.at i hi).1 hv.isList (by simpa using e) fun h' it hs => k h' t (c.step1 i hi (one_step hs rfl ⟨it, (c.at i hi).2⟩ fun _ z => z))
theorem endL_b {l : Addr} {ns : List Int} {j : Nat} {Q : Option Value → Shared → Prop} (i : Nat) (c : B w g L cs m cm Ps s.heap) (hh : Ar.handled = none) (hi : Ps[i]? = some (LItA I l j)) (hl : IL s.heap l ns) (hj : ns.length ≤ j)
    (k : ∀ h', B w g L cs m cm (Ps.eraseIdx i) h' → Q none { s with heap := h' }) : wpAny (model prog w) Ar (pyNext (.ref I)) Q E s := by
  obtain ⟨vs, hv, iv⟩ := hl
  exact wpAny_pyNext_list_end hh (c.at i hi).1 hv.isList (by simpa using (iv.length ▸ hj)) fun h' eb => k h' (c.lose i hi rfl fun b o n e => eb b o n e)
end
end Mine
end
section
open PySem PySem.W PySem.Calls PyProof.Rows
set_option maxRecDepth 100000
set_option maxHeartbeats 1000000
set_option linter.all false
namespace Mine
section
variable {w : World} {Ar : Around} {E : Value → Shared → Prop} {s : Shared} {g h h' : Heap} {L C I D : Addr} {m cm m' : Str → Option Value} {cs : List (Str × Addr)} {A : EA} {S S' : ES} {T : Tg → Prop} {env : Env} {Ps Qs Qs' Rs : List Ast} {x dx : Addr}
local macro_rules | `(tactic| tm_at "k") => `(tactic| first | exact kk_915 _ | exact kk_922 _ | exact kk_929 _ | exact kk_936 _ | exact kk_941 _ | exact kk_825 _ | exact kk_802 _ | exact kk_853 _ | exact kk_788 _ | exact kk_816 _ | exact kk_614 _ | exact kk_809 _ | exact kk_860 _ | exact kk_867 _ | exact kk_839 _ | exact kk_846 _ | exact kk_261 _ | exact kk_268 _ | exact kk_275 _ | exact kk_282 _ | exact kk_289 _ | exact kk_296 _)
local macro_rules | `(tactic| tm_at "V") => `(tactic| first | assumption | exact C.v (by assumption) | exact C0.v (by assumption))
local macro_rules | `(tactic| tm_at "h") => `(tactic| first | assumption | with_unfolding_all assumption)
local macro_rules | `(tactic| tm_at "t") => `(tactic| first | assumption | (with_unfolding_all exact True.intro) | (with_unfolding_all exact fun q => Tg.noConfusion q))
local macro_rules | `(tactic| tm_at "M") => `(tactic| with_unfolding_all first | exact .head _ | exact .tail _ (.head _) | exact .tail _ (.tail _ (.head _)))
local macro_rules | `(tactic| tm_at "u") => `(tactic| with_unfolding_all rfl)
local macro_rules | `(tactic| tm_at "s1") => `(tactic| (with_reducible refine wpAny_execs_cons ?_))
local macro_rules | `(tactic| tm_at "s2") => `(tactic| (with_reducible refine wpAny_execs_nil ?_))
local macro_rules | `(tactic| tm_at "s7") => `(tactic| (with_reducible refine wpAny_If ?_))
local macro_rules | `(tactic| tm_at "s8") => `(tactic| (with_reducible refine wpAny_isTrue_Compare1 ?_ (by tm_at "u")))
local macro_rules | `(tactic| tm_at "s15") => `(tactic| (with_reducible refine wpAny_Constant_int ?_))
local macro_rules | `(tactic| tm_at "s18") => `(tactic| (with_reducible refine wpAny_Expr_any ?_ (by tm_at "u") (by tm_at "u")))
local macro_rules | `(tactic| tm_at "s21") => `(tactic| (with_reducible refine MethodCall_ ?_ (by tm_at "u")))
local macro_rules | `(tactic| tm_at "s22") => `(tactic| (with_reducible refine Call_ ?_ (by tm_at "u")))
local macro_rules | `(tactic| tm_at "s24") => `(tactic| ((with_reducible show wpAny _ _ (callWith _ _ _ _ _) _ _ _); (try dsimp only); first
     | (with_reducible refine callWith_method1 ?_ (by tm_at "u") (by tm_at "u"))
     | (with_reducible refine callWith_method0 ?_)
     | (with_reducible refine callWith_K (B.kin (by assumption)) (by tm_at "k") ?_ (by tm_at "u") (by tm_at "u"))
     | (with_reducible refine callWith_K0 (B.kin (by assumption)) (by tm_at "k") ?_)
     | (with_reducible refine callWith_KW (B.kin (by assumption)) (by tm_at "k") (by tm_at "u") ?_ (by tm_at "u") (by tm_at "u"))
     | (with_reducible refine PyProof.Rows.callWith_type1 ?_ (by tm_at "u") (by tm_at "u"))))
local macro_rules | `(tactic| tm_at "s25") => `(tactic| (with_reducible refine spliced_more ?_ (by tm_at "u")))
local macro_rules | `(tactic| tm_at "s26") => `(tactic| ((with_reducible refine spliced_none ?_); try dsimp only [List.cons_append, List.nil_append]))
local macro_rules | `(tactic| tm_at "s30") => `(tactic| (with_reducible refine in_and (B.kin (by assumption)) ?_))
local macro_rules | `(tactic| tm_at "v1") => `(tactic| (with_unfolding_all refine ld_b (by assumption) (by first | rfl | assumption) ?_))
local macro_rules | `(tactic| tm_at "v2") => `(tactic| (with_unfolding_all refine lc_b (by assumption) (by first | rfl | assumption) (by rfl) ?_))
local macro_rules | `(tactic| tm_at "v9") => `(tactic| (with_reducible refine PySem.wpAny_truthy_bool ?_))
local macro_rules | `(tactic| tm_at "v12") => `(tactic| (with_reducible refine List_b ?_))
local macro_rules | `(tactic| tm_at "v15") => `(tactic| (with_reducible refine PyProof.Rows.eq_int ?_))
theorem node_a {a sa d : Addr} {ks : List Int} {la : Int → Addr} {R : Int → List Int} {xs : List Int} {u : Int} {t1 : Tok} {Q : Flow → Shared → Prop} (i : Inv w g L a sa xs A S d ks la R m cm s.heap) (rd : Rm Ar 8)
   (hu : u ∈ ks) (ca : cm (Str.ofString "a") = some (.int u t1))
   (k : ∀ h' tk S', B w g L (cellsFrom (L + 1) (fdOf (o946 w.params)).scope.names []) m cm [StA a sa xs, EmbA w A S', DiA w d (refs ks la), RowsA ks la R] h' → Ok S' (del ks u) (fun x => del (R x) u) → Q .next { s with heap := h', toks := tk }) :
   wpAny (model prog w) Ar (execs (List.take 1 (ifBody kind4)) (callEnvC (fdOf (o946 w.params)) L 946)) Q E s := by
  obtain ⟨c, o, y, inj, sm, few, st, dr, tn⟩ := i
  refine wpAny_execs_cons ?_
  (tm_at "s7"; tm_at "s8"; tm_at "s22")
  refine gl_b c (kg_next _) ?_ (by tm_at "u") (by tm_at "u") (by tm_at "u")
  (tm_at "s24"; tm_at "s25"; tm_at "v1"; tm_at "s25"; tm_at "s15"; tm_at "s26"; tm_at "s30")
  refine next_b 0 c rfl (rd.less (by decide)) (by decide) fun h1 tk1 y1 t3 y0 y2 c1 => ?_
  (tm_at "s15"; tm_at "v15"; tm_at "v9")
  clear c
  by_cases q : y1 = 0
  · rw [show (y1 == 0) = true from by simpa using q]
    simp only [if_true]
    (tm_at "s1"; tm_at "s18"; tm_at "s21"; tm_at "v1")
    refine m_remove_node (c1.V 1 rfl) ?_
    (tm_at "s24"; tm_at "s25"; tm_at "v2"; tm_at "s26"; tm_at "s30")
    refine callR (sum802 (c1.at 1 rfl) c1.gd rd.room rd.hd (o.nn ▸ hu) (o.ns ▸ hu) (o.np ▸ hu) (o.pnd u hu) (fun z hz => by obtain ⟨e1, e2, e3, e4, e5, e6⟩ := o.for802 hu z hz; exact ⟨e1, e2, e3, e4 y, e5, e6⟩) fun h2 tk2 back => ⟨_, rfl, ?_⟩)
    have c2 := c1.step1 1 rfl back.step
    dsimp only [List.set] at c2
    (tm_at "s2")
    try dsimp only
    refine wpAny_execs_nil ?_
    exact k _ _ _ c2 (o.rmNode y hu)
  · rw [show (y1 == 0) = false from by simpa using q]
    simp only [Bool.false_eq_true, if_false]
    (tm_at "s1"; tm_at "s18"; tm_at "s21"; tm_at "v1")
    refine m_remove_nodes_from (c1.V 1 rfl) ?_
    (tm_at "s24"; tm_at "s25"; tm_at "v12"; tm_at "s25"; tm_at "s15"; tm_at "s25"; tm_at "v2"; tm_at "s26")
    refine list_fin c1 (.cons _ _ (.cons _ _ .nil)) (by simp) fun h3 l3 c3 => ?_
    (tm_at "s26"; tm_at "s30")
    have hlf : ∀ t, S.live t → A.at t ≠ l3 := fun t lt e => sep_ne c3.psep 0 2 (by decide) (P := ILA l3 [5, u]) (Q := EmbA w A S) (a := l3) (b := l3) rfl rfl rfl ⟨t, lt, e⟩ rfl
    refine callR (sum809 (c3.at 2 rfl) c3.gd (rd.less (j := 3) (by decide)).depth rd.hd o y (c3.at 0 rfl).1 hlf fun h4 tk4 S4 o4 y4 back => ⟨_, rfl, ?_⟩)
    have c4 := c3.step1 2 rfl back.step
    dsimp only [List.set] at c4
    have n5 : ∀ x ∈ ks, x ≠ 5 := fun x hx z => by have := (sm x hx).2; omega
    have e1 : (ks.filter fun a => decide (a ∉ [5, u])) = del ks u := List.filter_congr fun x hx => by
      have := n5 x hx
      simp [this]
    have e2 : ∀ x ∈ del ks u, del (R x) u = (R x).filter fun b => decide (b ∉ [5, u]) := fun x hx => List.filter_congr fun b hb => by
      have := n5 b (o.sub x (mem_del.mp hx).1 b hb).1
      simp [this]
    rw [e1] at o4
    (tm_at "s2")
    try dsimp only
    refine wpAny_execs_nil ?_
    exact k _ _ _ c4.drop (o4.congr e2)
end
end Mine
end
section
open PySem PySem.W PySem.Calls PyProof.Rows
set_option maxRecDepth 100000
set_option maxHeartbeats 1000000
set_option linter.all false
namespace Mine
theorem del_snoc_same {l : List Int} {u : Int} : del (l ++ [u]) u = del l u := by unfold del; rw [List.filter_append]; simp
theorem del_snoc {l : List Int} {u x : Int} (h : x ≠ u) : del (l ++ [x]) u = del l u ++ [x] := by unfold del; rw [List.filter_append]; simp [h]
section
variable {w : World} {Ar : Around} {E : Value → Shared → Prop} {s : Shared} {g h h' : Heap} {L C I D : Addr} {m cm m' : Str → Option Value} {cs : List (Str × Addr)} {A : EA} {S S' : ES} {T : Tg → Prop} {env : Env} {Ps Qs Qs' Rs : List Ast} {x dx : Addr}
local macro_rules | `(tactic| tm_at "k") => `(tactic| first | exact kk_915 _ | exact kk_922 _ | exact kk_929 _ | exact kk_936 _ | exact kk_941 _ | exact kk_825 _ | exact kk_802 _ | exact kk_853 _ | exact kk_788 _ | exact kk_816 _ | exact kk_614 _ | exact kk_809 _ | exact kk_860 _ | exact kk_867 _ | exact kk_839 _ | exact kk_846 _ | exact kk_261 _ | exact kk_268 _ | exact kk_275 _ | exact kk_282 _ | exact kk_289 _ | exact kk_296 _)
local macro_rules | `(tactic| tm_at "V") => `(tactic| first | assumption | exact C.v (by assumption) | exact C0.v (by assumption))
local macro_rules | `(tactic| tm_at "h") => `(tactic| first | assumption | with_unfolding_all assumption)
local macro_rules | `(tactic| tm_at "t") => `(tactic| first | assumption | (with_unfolding_all exact True.intro) | (with_unfolding_all exact fun q => Tg.noConfusion q))
local macro_rules | `(tactic| tm_at "M") => `(tactic| with_unfolding_all first | exact .head _ | exact .tail _ (.head _) | exact .tail _ (.tail _ (.head _)))
local macro_rules | `(tactic| tm_at "u") => `(tactic| with_unfolding_all rfl)
local macro_rules | `(tactic| tm_at "s3") => `(tactic| (with_reducible refine wpAny_Assign_Name ?_ (by tm_at "u")))
local macro_rules | `(tactic| tm_at "s8") => `(tactic| (with_reducible refine wpAny_isTrue_Compare1 ?_ (by tm_at "u")))
local macro_rules | `(tactic| tm_at "s10") => `(tactic| (with_reducible refine Subscript_ ?_))
local macro_rules | `(tactic| tm_at "v1") => `(tactic| (with_unfolding_all refine ld_b (by assumption) (by first | rfl | assumption) ?_))
local macro_rules | `(tactic| tm_at "v2") => `(tactic| (with_unfolding_all refine lc_b (by assumption) (by first | rfl | assumption) (by rfl) ?_))
local macro_rules | `(tactic| tm_at "v3") => `(tactic| ((with_reducible refine st_b (by assumption) ?_ (by tm_at "u") (by tm_at "u") (by tm_at "u")); intro _ _; try dsimp only))
local macro_rules | `(tactic| tm_at "v4") => `(tactic| ((with_reducible refine sc_b (by assumption) (by tm_at "u") ?_ (by tm_at "u") (by tm_at "u") (by tm_at "u")); intro _ _; try dsimp only))
local macro_rules | `(tactic| tm_at "v9") => `(tactic| (with_reducible refine PySem.wpAny_truthy_bool ?_))
theorem node_b {a sa d : Addr} {ks : List Int} {la : Int → Addr} {R : Int → List Int} {xs : List Int} {u : Int} {t1 : Tok} {Q : Flow → Shared → Prop} (c : B w g L (cellsFrom (L + 1) (fdOf (o946 w.params)).scope.names []) m cm [StA a sa xs, EmbA w A S, DiA w d (refs ks la), RowsA ks la R] s.heap) (rd : Rm Ar 8)
   (nd : ks.Nodup) (few : ks.length ≤ 5) (rl : ∀ v ∈ ks, (R v).length ≤ 50) (ca : cm (Str.ofString "a") = some (.int u t1)) (tn : cm (Str.ofString "turns") = some (.ref d))
   (k : ∀ h' tk d' la', Inj (del ks u) la' → B w g L (cellsFrom (L + 1) (fdOf (o946 w.params)).scope.names []) m (fun y => if y = Str.ofString "turns" then some (.ref d') else cm y) [StA a sa xs, EmbA w A S, DiA w d' (refs (del ks u) la'), RowsA (del ks u) la' fun x => del (R x) u] h' → Q .next { s with heap := h', toks := tk }) :
   wpAny (model prog w) Ar (execs (List.take 1 (List.drop 1 (ifBody kind4))) (callEnvC (fdOf (o946 w.params)) L 946)) Q E s := by
  refine wpAny_execs_cons ?_
  (tm_at "s3")
  refine DictComp_b (g := g) (L := L) (cs := (cellsFrom (L + 1) (fdOf (o946 w.params)).scope.names [])) (m := m) (cm := cm) (by tm_at "u") (by rfl) (by decide) (by decide) ?_
  (tm_at "v2")
  refine iterD_b 2 c rfl fun h2 I ep c2 => ⟨_, c2, fun C acc h3 tk3 c3 => ⟨fun Q' E' q => selfK_b 2 c3 rfl q, ?_⟩⟩
  refine compD_upto ks.length (fun i s' => ∃ m' la', Inj (del (ks.take i) u) la' ∧ B w g C [] m' (fun _ => none) [FrA L (cellsFrom (L + 1) (fdOf (o946 w.params)).scope.names []) m cm, DiA w acc (refs (del (ks.take i) u) la'), KItA I d (refs ks la).length ep i, RowsA (del (ks.take i) u) la' (fun x => del (R x) u), StA a sa xs, EmbA w A S, DtA w d (refs ks la) ep, RowsA ks la R] s'.heap ∧ s'.gens = s.gens ∧ s'.drawn = s.drawn ∧ s'.os = s.os) ?_ ?_ ⟨_, fun _ => 0, (fun v hv => absurd hv List.not_mem_nil), c3.noRowsAt (fun _ => 0) (fun x => del (R x) u) 3, rfl, rfl, rfl⟩
  · rintro i s' hlt ⟨m', la', inj, c', f1, f2, f3⟩
    have hx : ks[i]? = some ks[i] := List.getElem?_eq_getElem hlt
    generalize ks[i] = x at hx
    have mx : x ∈ ks := List.mem_of_getElem? hx
    have nx : x ∉ ks.take i := not_mem_take nd hx
    have tk1 : ks.take (i + 1) = ks.take i ++ [x] := by rw [List.take_add_one, hx]; rfl
    refine nextK_b 2 6 c' rfl rfl hx fun h4 t4 c4 => ⟨_, rfl, ?_⟩
    refine wpAny_assign_Name ?_
    (tm_at "v3")
    rename_i h5 c5
    refine wpAny_tests_one ?_
    (tm_at "s8"; tm_at "v1")
    refine lk_b 0 c5 rfl (by tm_at "u") (by tm_at "M") ca ?_ (by tm_at "u") (by tm_at "u")
    refine ne_int ?_
    (tm_at "v9")
    by_cases q : x = u
    · rw [show (x != u) = false from by simpa using q]
      simp only [Bool.false_eq_true, if_false]
      have e1 : del (ks.take (i + 1)) u = del (ks.take i) u := by rw [tk1, q, del_snoc_same]
      rw [← e1] at inj c5
      exact ⟨_, la', inj, c5, f1, f2, f3⟩
    · rw [show (x != u) = true from by simpa using q]
      simp only [if_true]
      (tm_at "v1")
      obtain ⟨m5, hm5, mn⟩ : ∃ m5, B w g C [] m5 (fun _ => none) [FrA L (cellsFrom (L + 1) (fdOf (o946 w.params)).scope.names []) m cm, DiA w acc (refs (del (ks.take i) u) la'), KItA I d (refs ks la).length ep (i + 1), RowsA (del (ks.take i) u) la' (fun x => del (R x) u), StA a sa xs, EmbA w A S, DtA w d (refs ks la) ep, RowsA ks la R] h5 ∧ m5 (Str.ofString "node") = some (.int x t4) := ⟨_, c5, rfl⟩
      clear c5 c4 c'
      refine ListCompI_b (g := g) (L := C) (cs := []) (m := m5) (cm := fun _ => none) (by tm_at "u") (by rfl) (by decide) (by decide) ?_
      (tm_at "s10")
      refine lk_b 0 hm5 rfl (by tm_at "u") (by tm_at "M") tn ?_ (by tm_at "u") (by tm_at "u")
      (tm_at "v1")
      refine getDt_b 6 hm5 rfl mx ?_ (by tm_at "u")
      refine iterL_b hm5 ((hm5.at 7 rfl : (RowsA ks la R).ok h5) x mx).1 fun h6 I2 c6 => ⟨_, c6, fun C2 D2 h7 tk7 c7 => ⟨fun Q' E' q => selfL_b 2 c7 rfl q, ?_⟩⟩
      refine comp_upto (R x).length (fun j s2 => ∃ m2, B w g C2 [] m2 (fun _ => none) [FrA C [] m5 (fun _ => none), ILA D2 (del ((R x).take j) u), LItA I2 (la x) j, FrA L (cellsFrom (L + 1) (fdOf (o946 w.params)).scope.names []) m cm, DiA w acc (refs (del (ks.take i) u) la'), KItA I d (refs ks la).length ep (i + 1), RowsA (del (ks.take i) u) la' (fun x => del (R x) u), StA a sa xs, EmbA w A S, DtA w d (refs ks la) ep, RowsA ks la R] s2.heap ∧ s2.gens = s.gens ∧ s2.drawn = s.drawn ∧ s2.os = s.os) ?_ ?_ ⟨_, c7, f1, f2, f3⟩
      · clear c7 c6 hm5 f1 f2 f3
        rintro j s2 hlt2 ⟨m2, c', f1, f2, f3⟩
        have hy : (R x)[j]? = some (R x)[j] := List.getElem?_eq_getElem hlt2
        generalize (R x)[j] = b at hy
        have tk2 : (R x).take (j + 1) = (R x).take j ++ [b] := by rw [List.take_add_one, hy]; rfl
        refine nextL_b 2 c' rfl ((c'.at 10 rfl : (RowsA ks la R).ok s2.heap) x mx).1 hy fun h8 t8 c8 => ⟨_, rfl, ?_⟩
        refine wpAny_assign_Name ?_
        (tm_at "v3")
        rename_i h9 c9
        refine wpAny_tests_one ?_
        (tm_at "s8"; tm_at "v1")
        refine lk_b 3 c9 rfl (by tm_at "u") (by tm_at "M") ca ?_ (by tm_at "u") (by tm_at "u")
        refine ne_int ?_
        (tm_at "v9")
        by_cases q2 : b = u
        · rw [show (b != u) = false from by simpa using q2]
          simp only [Bool.false_eq_true, if_false]
          have e1 : del ((R x).take (j + 1)) u = del ((R x).take j) u := by rw [tk2, q2, del_snoc_same]
          rw [← e1] at c9
          exact ⟨_, c9, f1, f2, f3⟩
        · rw [show (b != u) = true from by simpa using q2]
          simp only [if_true]
          (tm_at "v1")
          have lb : (del ((R x).take j) u).length ≤ 1000 := by
            refine Nat.le_trans (del_length_le _ _) ?_
            have := rl x mx
            rw [List.length_take]; omega
          refine appI_b 1 c9 rfl lb fun h10 c10 => ?_
          rw [← del_snoc q2, ← tk2] at c10
          exact ⟨_, c10, f1, f2, f3⟩
      · clear c7 c6 hm5 f1 f2 f3
        rintro s2 ⟨m2, c', f1, f2, f3⟩
        refine endL_b 2 c' rd.hd rfl ((c'.at 10 rfl : (RowsA ks la R).ok s2.heap) x mx).1 (Nat.le_refl _) fun h8 c8 => ⟨rfl, CompOut.intro c8 fun h9 c9 => ?_⟩
        rw [List.take_length] at c9
        have nx' : x ∉ del (ks.take i) u := fun z => nx (mem_del.mp z).1
        have ne9 : ∀ v ∈ del (ks.take i) u, la' v ≠ D2 := c9.rowNe 0 4 rfl rfl (by decide) rfl
        have c10 := B.mergeAt (R := fun x => del (R x) u) 3 c9 rfl nx'
        have e1 : del (ks.take (i + 1)) u = del (ks.take i) u ++ [x] := by rw [tk1, del_snoc q]
        refine dset_b 1 c10 rfl nx' (Nat.le_trans (del_length_le _ _) (by rw [List.length_take]; omega)) fun h11 tk11 c11 => ?_
        dsimp only [List.set] at c11
        have inj' : Inj (del (ks.take (i + 1)) u) (upd la' x D2) := by rw [e1]; exact inj.snoc nx' ne9
        rw [← e1] at c11
        exact ⟨_, _, inj', c11, f1, f2, f3⟩
  · rintro s' ⟨m', la', inj, c', f1, f2, f3⟩
    refine endK_b 2 6 c' rd.hd rfl rfl (by rw [refs_length]; exact Nat.le_refl _) fun h4 c4 => ⟨rfl, CompOut.intro c4 fun h5 c5 => ?_⟩
    rw [List.take_length] at c5 inj
    (tm_at "v4")
    rename_i h6 c6
    refine wpAny_execs_nil ?_
    have c7 := c6.sub (Qs := [DiA w acc (refs (del ks u) la'), RowsA (del ks u) la' (fun x => del (R x) u), StA a sa xs, EmbA w A S]) (.cons_cons _ (.cons_cons _ (.cons_cons _ (.cons_cons _ (.cons _ (.cons _ .slnil))))))
    have c8 := c7.perm (List.perm_append_comm (l₁ := [DiA w acc (refs (del ks u) la'), RowsA (del ks u) la' (fun x => del (R x) u)]) (l₂ := [StA a sa xs, EmbA w A S]))
    have := k _ s'.toks acc la' inj c8
    rw [← f1, ← f2, ← f3] at this
    exact this
end
end Mine
end
section
open PySem PySem.W PySem.Calls PyProof.Rows
set_option maxRecDepth 100000
set_option maxHeartbeats 1000000
set_option linter.all false
namespace Mine
def InvE (w : World) (g : Heap) (L a sa : Addr) (xs : List Int) (h : Heap) : Prop := ∃ A S d ks la R m cm, Inv w g L a sa xs A S d ks la R m cm h
section
variable {w : World} {Ar : Around} {E : Value → Shared → Prop} {s : Shared} {g h h' : Heap} {L C I D : Addr} {m cm m' : Str → Option Value} {cs : List (Str × Addr)} {A : EA} {S S' : ES} {T : Tg → Prop} {env : Env} {Ps Qs Qs' Rs : List Ast} {x dx : Addr}
local macro_rules | `(tactic| tm_at "k") => `(tactic| first | exact kk_915 _ | exact kk_922 _ | exact kk_929 _ | exact kk_936 _ | exact kk_941 _ | exact kk_825 _ | exact kk_802 _ | exact kk_853 _ | exact kk_788 _ | exact kk_816 _ | exact kk_614 _ | exact kk_809 _ | exact kk_860 _ | exact kk_867 _ | exact kk_839 _ | exact kk_846 _ | exact kk_261 _ | exact kk_268 _ | exact kk_275 _ | exact kk_282 _ | exact kk_289 _ | exact kk_296 _)
local macro_rules | `(tactic| tm_at "V") => `(tactic| first | assumption | exact C.v (by assumption) | exact C0.v (by assumption))
local macro_rules | `(tactic| tm_at "h") => `(tactic| first | assumption | with_unfolding_all assumption)
local macro_rules | `(tactic| tm_at "t") => `(tactic| first | assumption | (with_unfolding_all exact True.intro) | (with_unfolding_all exact fun q => Tg.noConfusion q))
local macro_rules | `(tactic| tm_at "M") => `(tactic| with_unfolding_all first | exact .head _ | exact .tail _ (.head _) | exact .tail _ (.tail _ (.head _)))
local macro_rules | `(tactic| tm_at "u") => `(tactic| with_unfolding_all rfl)
local macro_rules | `(tactic| tm_at "s7") => `(tactic| (with_reducible refine wpAny_If ?_))
local macro_rules | `(tactic| tm_at "s8") => `(tactic| (with_reducible refine wpAny_isTrue_Compare1 ?_ (by tm_at "u")))
local macro_rules | `(tactic| tm_at "s15") => `(tactic| (with_reducible refine wpAny_Constant_int ?_))
local macro_rules | `(tactic| tm_at "v1") => `(tactic| (with_unfolding_all refine ld_b (by assumption) (by first | rfl | assumption) ?_))
local macro_rules | `(tactic| tm_at "v8") => `(tactic| (with_reducible refine wpAny_lt_int ?_))
local macro_rules | `(tactic| tm_at "v9") => `(tactic| (with_reducible refine PySem.wpAny_truthy_bool ?_))
local macro_rules | `(tactic| tm_at "v15") => `(tactic| (with_reducible refine PyProof.Rows.eq_int ?_))
theorem do_node {a sa d : Addr} {ks : List Int} {la : Int → Addr} {R : Int → List Int} {xs : List Int} {u : Int} {t1 : Tok} {Q : Flow → Shared → Prop} (i : Inv w g L a sa xs A S d ks la R m cm s.heap) (rd : Rm Ar 8)
   (hu : u ∈ ks) (ca : cm (Str.ofString "a") = some (.int u t1))
   (k : ∀ h' tk, InvE w g L a sa xs h' → Q .next { s with heap := h', toks := tk }) :
   wpAny (model prog w) Ar (execs (ifBody kind4) (callEnvC (fdOf (o946 w.params)) L 946)) Q E s := by
  have e : ifBody kind4 = List.take 1 (ifBody kind4) ++ List.take 1 (List.drop 1 (ifBody kind4)) := by rfl
  rw [e]
  have i' := i
  obtain ⟨c, o, y, inj, sm, few, st, dr, tn⟩ := i'
  refine execs_app _ _ (node_a i rd hu ca fun h1 tk1 S1 c1 o1 => ?_)
  refine node_b c1 rd o.nd few (fun v hv => by rw [(o.perm v hv).length_eq]; exact o.len hv) ca tn fun h2 tk2 d2 la2 inj2 c2 => ?_
  exact k _ _ ⟨A, S1, d2, del ks u, la2, _, m, _, c2, o1, y.rmNode, inj2, fun v hv => sm v (mem_del.mp hv).1, Nat.le_trans (del_length_le _ _) few, st, dr, by rfl⟩
theorem kinds {a sa d : Addr} {ks : List Int} {la : Int → Addr} {R : Int → List Int} {xs : List Int} {u v kd : Int} {jn : Bool} {t0 t1 t2 : Tok} {Q : Flow → Shared → Prop} (i : Inv w g L a sa xs A S d ks la R m cm s.heap) (rd : Rm Ar 8) (fr : Ar.frames = some [(callEnvC (fdOf (o946 w.params)) L 946)]) (hB : AllBare s.gens)
   (hu : u ∈ ks) (hv : v ∈ ks) (ne : u ≠ v) (uv : v ∈ R u ↔ jn = true) (hj : jn = true ↔ kd = 6 ∨ kd = 7) (ca : cm (Str.ofString "a") = some (.int u t1)) (mb : m (Str.ofString "b") = some (.int v t2)) (mk : m (Str.ofString "kind") = some (.int kd t0))
   (k : ∀ s', InvE w g L a sa xs s'.heap → AllBare s'.gens → s'.os = s.os → s'.drawn = s.drawn → Q .next s') :
   wpAny (model prog w) Ar (execs (List.drop 1 lawIf) (callEnvC (fdOf (o946 w.params)) L 946)) Q E s := by
  have c := i.b
  refine wpAny_execs_cons ?_
  (tm_at "s7"; tm_at "s8"; tm_at "v1"; tm_at "s15"; tm_at "v8"; tm_at "v9")
  by_cases q5 : kd < 5
  · rw [decide_eq_true q5]
    simp only [if_true]
    have nuv : v ∉ R u := fun z => by
      rcases hj.mp (uv.mp z) with z | z <;> omega
    refine do_put i rd hu hv ne nuv ca mb fun h1 tk1 A1 S1 la1 R1 i1 => ?_
    (try dsimp only); (repeat (refine wpAny_execs_nil ?_; try dsimp only))
    exact k _ ⟨_, _, _, _, _, _, _, _, i1⟩ hB rfl rfl
  rw [decide_eq_false q5]
  simp only [Bool.false_eq_true, if_false]
  refine wpAny_execs_cons ?_
  (tm_at "s7"; tm_at "s8"; tm_at "v1"; tm_at "s15"; tm_at "v15"; tm_at "v9")
  by_cases q6 : kd = 5
  · rw [show (kd == 5) = true from by simpa using q6]
    simp only [if_true]
    have nuv : v ∉ R u := fun z => by
      rcases hj.mp (uv.mp z) with z | z <;> omega
    refine do_conn i rd hB hu hv ne nuv ca mb fun s1 A1 S1 la1 R1 m1 i1 hB1 ho1 hd1 => ?_
    (try dsimp only); (repeat (refine wpAny_execs_nil ?_; try dsimp only))
    exact k _ ⟨_, _, _, _, _, _, _, _, i1⟩ hB1 ho1 hd1
  rw [show (kd == 5) = false from by simpa using q6]
  simp only [Bool.false_eq_true, if_false]
  refine wpAny_execs_cons ?_
  (tm_at "s7"; tm_at "s8"; tm_at "v1"; tm_at "s15"; tm_at "v15"; tm_at "v9")
  by_cases q7 : kd = 6
  · rw [show (kd == 6) = true from by simpa using q7]
    simp only [if_true]
    refine do_rm i rd hu hv ne (uv.mpr (hj.mpr (.inl q7))) ca mb fun h1 tk1 S1 R1 i1 => ?_
    (try dsimp only); (repeat (refine wpAny_execs_nil ?_; try dsimp only))
    exact k _ ⟨_, _, _, _, _, _, _, _, i1⟩ hB rfl rfl
  rw [show (kd == 6) = false from by simpa using q7]
  simp only [Bool.false_eq_true, if_false]
  refine wpAny_execs_cons ?_
  (tm_at "s7"; tm_at "s8"; tm_at "v1"; tm_at "s15"; tm_at "v15"; tm_at "v9")
  by_cases q8 : kd = 7
  · rw [show (kd == 7) = true from by simpa using q8]
    simp only [if_true]
    refine do_node i rd hu ca fun h1 tk1 i1 => ?_
    (try dsimp only); (repeat (refine wpAny_execs_nil ?_; try dsimp only))
    exact k _ i1 hB rfl rfl
  rw [show (kd == 7) = false from by simpa using q8]
  simp only [Bool.false_eq_true, if_false]
  have nuv : v ∉ R u := fun z => by
    rcases hj.mp (uv.mp z) with z | z
    · exact q7 z
    · exact q8 z
  refine do_ref i rd fr hu hv ne nuv ca mb fun h1 tk1 i1 => ?_
  (try dsimp only); (repeat (refine wpAny_execs_nil ?_; try dsimp only))
  exact k _ ⟨_, _, _, _, _, _, _, _, i1⟩ hB rfl rfl
end
end Mine
end
section
open PySem PySem.W PySem.Calls PyProof.Rows
set_option maxRecDepth 100000
set_option maxHeartbeats 1000000
set_option linter.all false
namespace Mine
section
variable {w : World} {Ar : Around} {E : Value → Shared → Prop} {s : Shared} {g h h' : Heap} {L C I D : Addr} {m cm m' : Str → Option Value} {cs : List (Str × Addr)} {A : EA} {S S' : ES} {T : Tg → Prop} {env : Env} {Ps Qs Qs' Rs : List Ast} {x dx : Addr}
local macro_rules | `(tactic| tm_at "k") => `(tactic| first | exact kk_915 _ | exact kk_922 _ | exact kk_929 _ | exact kk_936 _ | exact kk_941 _ | exact kk_825 _ | exact kk_802 _ | exact kk_853 _ | exact kk_788 _ | exact kk_816 _ | exact kk_614 _ | exact kk_809 _ | exact kk_860 _ | exact kk_867 _ | exact kk_839 _ | exact kk_846 _ | exact kk_261 _ | exact kk_268 _ | exact kk_275 _ | exact kk_282 _ | exact kk_289 _ | exact kk_296 _)
local macro_rules | `(tactic| tm_at "V") => `(tactic| first | assumption | exact C.v (by assumption) | exact C0.v (by assumption))
local macro_rules | `(tactic| tm_at "h") => `(tactic| first | assumption | with_unfolding_all assumption)
local macro_rules | `(tactic| tm_at "t") => `(tactic| first | assumption | (with_unfolding_all exact True.intro) | (with_unfolding_all exact fun q => Tg.noConfusion q))
local macro_rules | `(tactic| tm_at "M") => `(tactic| with_unfolding_all first | exact .head _ | exact .tail _ (.head _) | exact .tail _ (.tail _ (.head _)))
local macro_rules | `(tactic| tm_at "u") => `(tactic| with_unfolding_all rfl)
local macro_rules | `(tactic| tm_at "s7") => `(tactic| (with_reducible refine wpAny_If ?_))
local macro_rules | `(tactic| tm_at "s8") => `(tactic| (with_reducible refine wpAny_isTrue_Compare1 ?_ (by tm_at "u")))
local macro_rules | `(tactic| tm_at "s10") => `(tactic| (with_reducible refine Subscript_ ?_))
local macro_rules | `(tactic| tm_at "s22") => `(tactic| (with_reducible refine Call_ ?_ (by tm_at "u")))
local macro_rules | `(tactic| tm_at "s24") => `(tactic| ((with_reducible show wpAny _ _ (callWith _ _ _ _ _) _ _ _); (try dsimp only); first
     | (with_reducible refine callWith_method1 ?_ (by tm_at "u") (by tm_at "u"))
     | (with_reducible refine callWith_method0 ?_)
     | (with_reducible refine callWith_K (B.kin (by assumption)) (by tm_at "k") ?_ (by tm_at "u") (by tm_at "u"))
     | (with_reducible refine callWith_K0 (B.kin (by assumption)) (by tm_at "k") ?_)
     | (with_reducible refine callWith_KW (B.kin (by assumption)) (by tm_at "k") (by tm_at "u") ?_ (by tm_at "u") (by tm_at "u"))
     | (with_reducible refine PyProof.Rows.callWith_type1 ?_ (by tm_at "u") (by tm_at "u"))))
local macro_rules | `(tactic| tm_at "s25") => `(tactic| (with_reducible refine spliced_more ?_ (by tm_at "u")))
local macro_rules | `(tactic| tm_at "s26") => `(tactic| ((with_reducible refine spliced_none ?_); try dsimp only [List.cons_append, List.nil_append]))
local macro_rules | `(tactic| tm_at "s30") => `(tactic| (with_reducible refine in_and (B.kin (by assumption)) ?_))
local macro_rules | `(tactic| tm_at "v1") => `(tactic| (with_unfolding_all refine ld_b (by assumption) (by first | rfl | assumption) ?_))
local macro_rules | `(tactic| tm_at "v3") => `(tactic| ((with_reducible refine st_b (by assumption) ?_ (by tm_at "u") (by tm_at "u") (by tm_at "u")); intro _ _; try dsimp only))
local macro_rules | `(tactic| tm_at "v4") => `(tactic| ((with_reducible refine sc_b (by assumption) (by tm_at "u") ?_ (by tm_at "u") (by tm_at "u") (by tm_at "u")); intro _ _; try dsimp only))
local macro_rules | `(tactic| tm_at "v9") => `(tactic| (with_reducible refine PySem.wpAny_truthy_bool ?_))
local macro_rules | `(tactic| tm_at "v12") => `(tactic| (with_reducible refine List_b ?_))
theorem loop_b {a sa d P : Addr} {as : List Addr} {ps : List (Int × Int)} {ks : List Int} {la : Int → Addr} {R : Int → List Int} {xs : List Int} {kd : Int} {jn : Bool} {t0 : Tok} {Q : Flow → Shared → Prop} (c : B w g L (cellsFrom (L + 1) (fdOf (o946 w.params)).scope.names []) m cm [LiA P (as.map Value.ref), TupsA as ps, StA a sa xs, EmbA w A S, DiA w d (refs ks la), RowsA ks la R] s.heap)
   (o : Ok S ks R) (y : Sym ks R) (inj : Inj ks la) (sm : ∀ u ∈ ks, 0 ≤ u ∧ u < 5) (few : ks.length ≤ 5) (st : m (Str.ofString "state") = some (.ref a)) (dr : m (Str.ofString "drawing") = some (.ref A.x)) (tn : cm (Str.ofString "turns") = some (.ref d))
   (rd : Rm Ar 8) (fr : Ar.frames = some [(callEnvC (fdOf (o946 w.params)) L 946)]) (hB : AllBare s.gens) (hps : ∀ p ∈ ps, p.1 ∈ ks ∧ p.2 ∈ ks ∧ p.1 ≠ p.2 ∧ (p.2 ∈ R p.1 ↔ jn = true)) (lp : ps.length ≤ 25) (hj : jn = true ↔ kd = 6 ∨ kd = 7) (mk : m (Str.ofString "kind") = some (.int kd t0)) (mp : m (Str.ofString "pairs") = some (.ref P))
   (k : ∀ s', InvE w g L a sa xs s'.heap → AllBare s'.gens → s'.os = s.os → s'.drawn = s.drawn → Q .next s') :
   wpAny (model prog w) Ar (execs (List.take 1 (List.drop 3 lawLoop)) (callEnvC (fdOf (o946 w.params)) L 946)) Q E s := by
  refine wpAny_execs_cons ?_
  (tm_at "s7"; tm_at "s8"; tm_at "v1"; tm_at "v12"; tm_at "s26")
  refine list_fin c .nil (by decide) fun h1 l1 c1 => ?_
  refine nePairs (c1.at 1 rfl : (LiA P (as.map Value.ref)).ok h1).1 (c1.at 2 rfl) (c1.at 0 rfl).1 rd.eq ?_
  (tm_at "v9")
  by_cases q : ps = []
  · rw [decide_eq_true q]
    simp only [Bool.not_true, Bool.false_eq_true, if_false]
    (try dsimp only); (repeat (refine wpAny_execs_nil ?_; try dsimp only))
    have c2 := c1.drop.drop.drop
    exact k _ ⟨A, S, d, ks, la, R, m, cm, c2, o, y, inj, sm, few, st, dr, tn⟩ hB rfl rfl
  · rw [decide_eq_false q]
    simp only [Bool.not_false, if_true]
    refine wpAny_execs_cons ?_
    refine Assign_Tuple ?_ (by tm_at "u") (by tm_at "u")
    (tm_at "s10"; tm_at "v1"; tm_at "s22")
    refine gl_b c1 (kg_next _) ?_ (by tm_at "u") (by tm_at "u") (by tm_at "u")
    (tm_at "s24"; tm_at "s25"; tm_at "v1"; tm_at "s25"; tm_at "s22")
    refine bi_b c1 (kn_len _) boot_len (by decide +kernel) ?_ (by tm_at "u") (by tm_at "u") (by tm_at "u") (by tm_at "u")
    (tm_at "s24"; tm_at "s25"; tm_at "v1"; tm_at "s26")
    have la1 : as.length = ps.length := (c1.at 2 rfl : (TupsA as ps).ok h1).1
    have pos : 0 < ps.length := List.length_pos_iff.mpr q
    have sz : (as.map Value.ref).toArray.size = ps.length := by rw [List.size_toArray, List.length_map, la1]
    refine call_len_list (c1.at 1 rfl : (LiA P (as.map Value.ref)).ok h1).1 (by rw [sz]; omega) ?_
    rw [sz]
    (tm_at "s26"; tm_at "s30")
    refine next_b 3 c1 rfl (rd.less (by decide)) (by omega) fun h2 tk2 z t3 z0 z1 c2 => ?_
    skip
    have zl : z.toNat < ps.length := by omega
    have ha : as[z.toNat]? = some (as[z.toNat]'(la1 ▸ zl)) := List.getElem?_eq_getElem _
    have hp : ps[z.toNat]? = some ps[z.toNat] := List.getElem?_eq_getElem zl
    generalize as[z.toNat]'(la1 ▸ zl) = e at ha
    generalize ps[z.toNat] = p at hp
    obtain ⟨pu, pv⟩ := p
    obtain ⟨mu, mv, ne, huv⟩ := hps _ (List.mem_of_getElem? hp)
    refine item_b 1 c2 rfl z0 (by omega) (by rw [List.getElem?_map, ha]; rfl) ?_ (by tm_at "u")
    obtain ⟨⟨ta, tb, tup⟩, _⟩ := (c2.at 2 rfl : (TupsA as ps).ok h2).2 _ _ _ ha hp
    refine wpAny_assign_Tuple rd.hd (by exact tup) (by rfl) (by rfl) fun h3 eb => ?_
    have c3 := c2.keeps fun b o q => eb b o (Nat.ne_of_lt (Heap.lt_size q)) q
    clear c c1 c2
    show wpAny _ _ (assignInOrder [assign (.Name _ _) _, assign (.Name _ _) _] [_, _]) _ _ _
    refine wpAny_assignInOrder_more (wpAny_assign_Name ?_)
    (tm_at "v4")
    rename_i h4 c4
    refine wpAny_assignInOrder_more (wpAny_assign_Name ?_)
    (tm_at "v3")
    rename_i h5 c5
    refine wpAny_assignInOrder_none ?_
    have c6 := c5.drop.drop.drop
    try dsimp only
    refine kinds (u := pu) (v := pv) ⟨c6, o, y, inj, sm, few, by exact st, by exact dr, by exact tn⟩ rd fr hB mu mv ne huv hj (by rfl) (by rfl) (by exact mk) fun s1 i1 hB1 ho1 hd1 => ?_
    (try dsimp only); (repeat (refine wpAny_execs_nil ?_; try dsimp only))
    exact k _ i1 hB1 ho1 hd1
end
end Mine
end
section
open PySem PySem.W PySem.Calls PyProof.Rows
set_option maxRecDepth 100000
set_option maxHeartbeats 1000000
set_option linter.all false
namespace Mine
section
variable {w : World} {Ar : Around} {E : Value → Shared → Prop} {s : Shared} {g h h' : Heap} {L C I D : Addr} {m cm m' : Str → Option Value} {cs : List (Str × Addr)} {A : EA} {S S' : ES} {T : Tg → Prop} {env : Env} {Ps Qs Qs' Rs : List Ast} {x dx : Addr}
theorem B.rebase {P : Ast} (c : B w g L cs m cm (P :: Ps) h) : B w (hide h (Fps (FrA L cs m cm :: Ps))) L cs m cm Ps h :=
  ⟨c.drop.sep, fun b o e => by
    rw [hide_get] at e
    split at e
    · cases e
    · exact e, fun b hb => by rw [hide_get, if_pos hb], gd_fps c.gd c.drop.sep⟩
theorem B.unbase {P : Ast} {Ps' : List Ast} {m' cm' : Str → Option Value} (c : B w g L cs m cm (P :: Ps) h) (c' : B w (hide h (Fps (FrA L cs m cm :: Ps))) L cs m' cm' Ps' h') : B w g L cs m' cm' (P :: Ps') h' := by
  have off : ∀ b, P.fp b → ¬ Fps (FrA L cs m cm :: Ps) b := fun b hb z => by
    rcases Fps_cons.mp z with z | z
    · exact (List.pairwise_cons.mp c.sep.dis).1 P (.head _) b z hb
    · obtain ⟨Q, hQ, hb'⟩ := z
      exact (List.pairwise_cons.mp c.psep.dis).1 Q hQ b hb hb'
  have kp : ∀ b o, ¬ Fps (FrA L cs m cm :: Ps) b → h.get? b = some o → h'.get? b = some o := fun b o n e => c'.keep b o (by rw [hide_get, if_neg n]; exact e)
  have pk : P.ok h := c.sep.ok P (.tail _ (.head _))
  have dj : ∀ b, P.fp b → ¬ Fps (FrA L cs m' cm' :: Ps') b := fun b hb z => by
    have := c'.out b z
    obtain ⟨o, ho⟩ := P.live pk b hb
    rw [hide_get, if_neg (off b hb), ho] at this
    cases this
  refine ⟨⟨fun Q hQ => ?_, ?_⟩, fun b o e => ?_, fun b hb => ?_, c.gnd⟩
  · rcases List.mem_cons.mp hQ with rfl | hQ
    · exact c'.fr
    · rcases List.mem_cons.mp hQ with rfl | hQ
      · exact Q.loc pk fun b o hb e => kp b o (off b hb) e
      · exact c'.psep.ok Q hQ
  · refine List.pairwise_cons.mpr ⟨fun Q hQ b hb hb' => ?_, List.pairwise_cons.mpr ⟨fun Q hQ b hb hb' => ?_, c'.psep.dis⟩⟩
    · rcases List.mem_cons.mp hQ with rfl | hQ
      · exact dj b hb' ⟨_, .head _, hb⟩
      · exact (List.pairwise_cons.mp c'.sep.dis).1 Q hQ b hb hb'
    · exact dj b hb ⟨Q, .tail _ hQ, hb'⟩
  · refine kp b o (fun z => ?_) (c.keep b o e)
    have := c.out b (by
      rcases Fps_cons.mp z with z | z
      · exact ⟨_, .head _, z⟩
      · obtain ⟨Q, hQ, hb⟩ := z; exact ⟨Q, .tail _ (.tail _ hQ), hb⟩)
    rw [e] at this; cases this
  · have inP : P.fp b → g.get? b = none := fun z => c.out b ⟨P, .tail _ (.head _), z⟩
    have inC : Fps (FrA L cs m' cm' :: Ps') b → g.get? b = none := fun z => by
      have := c'.out b z
      rw [hide_get] at this
      split at this
      · rename_i z'
        exact c.out b (by
          rcases Fps_cons.mp z' with z | z
          · exact ⟨_, .head _, z⟩
          · obtain ⟨Q, hQ, hb⟩ := z; exact ⟨Q, .tail _ (.tail _ hQ), hb⟩)
      · cases e : g.get? b with
        | none => rfl
        | some o => have := c.keep b o e; rename_i q _ ; simp_all
    obtain ⟨Q, hQ, hb⟩ := hb
    rcases List.mem_cons.mp hQ with rfl | hQ
    · exact inC ⟨_, .head _, hb⟩
    · rcases List.mem_cons.mp hQ with rfl | hQ
      · exact inP hb
      · exact inC ⟨Q, .tail _ hQ, hb⟩
local macro_rules | `(tactic| tm_at "k") => `(tactic| first | exact kk_915 _ | exact kk_922 _ | exact kk_929 _ | exact kk_936 _ | exact kk_941 _ | exact kk_825 _ | exact kk_802 _ | exact kk_853 _ | exact kk_788 _ | exact kk_816 _ | exact kk_614 _ | exact kk_809 _ | exact kk_860 _ | exact kk_867 _ | exact kk_839 _ | exact kk_846 _ | exact kk_261 _ | exact kk_268 _ | exact kk_275 _ | exact kk_282 _ | exact kk_289 _ | exact kk_296 _)
local macro_rules | `(tactic| tm_at "V") => `(tactic| first | assumption | exact C.v (by assumption) | exact C0.v (by assumption))
local macro_rules | `(tactic| tm_at "h") => `(tactic| first | assumption | with_unfolding_all assumption)
local macro_rules | `(tactic| tm_at "t") => `(tactic| first | assumption | (with_unfolding_all exact True.intro) | (with_unfolding_all exact fun q => Tg.noConfusion q))
local macro_rules | `(tactic| tm_at "M") => `(tactic| with_unfolding_all first | exact .head _ | exact .tail _ (.head _) | exact .tail _ (.tail _ (.head _)))
local macro_rules | `(tactic| tm_at "u") => `(tactic| with_unfolding_all rfl)
local macro_rules | `(tactic| tm_at "s7") => `(tactic| (with_reducible refine wpAny_If ?_))
local macro_rules | `(tactic| tm_at "s22") => `(tactic| (with_reducible refine Call_ ?_ (by tm_at "u")))
local macro_rules | `(tactic| tm_at "s24") => `(tactic| ((with_reducible show wpAny _ _ (callWith _ _ _ _ _) _ _ _); (try dsimp only); first
     | (with_reducible refine callWith_method1 ?_ (by tm_at "u") (by tm_at "u"))
     | (with_reducible refine callWith_method0 ?_)
     | (with_reducible refine callWith_K (B.kin (by assumption)) (by tm_at "k") ?_ (by tm_at "u") (by tm_at "u"))
     | (with_reducible refine callWith_K0 (B.kin (by assumption)) (by tm_at "k") ?_)
     | (with_reducible refine callWith_KW (B.kin (by assumption)) (by tm_at "k") (by tm_at "u") ?_ (by tm_at "u") (by tm_at "u"))
     | (with_reducible refine PyProof.Rows.callWith_type1 ?_ (by tm_at "u") (by tm_at "u"))))
local macro_rules | `(tactic| tm_at "s25") => `(tactic| (with_reducible refine spliced_more ?_ (by tm_at "u")))
local macro_rules | `(tactic| tm_at "s26") => `(tactic| ((with_reducible refine spliced_none ?_); try dsimp only [List.cons_append, List.nil_append]))
local macro_rules | `(tactic| tm_at "s30") => `(tactic| (with_reducible refine in_and (B.kin (by assumption)) ?_))
local macro_rules | `(tactic| tm_at "s32") => `(tactic| (with_reducible refine isTrue_not ?_))
local macro_rules | `(tactic| tm_at "s37") => `(tactic| (with_reducible refine isTrue_plain ?_ (by tm_at "u")))
local macro_rules | `(tactic| tm_at "v1") => `(tactic| (with_unfolding_all refine ld_b (by assumption) (by first | rfl | assumption) ?_))
local macro_rules | `(tactic| tm_at "v2") => `(tactic| (with_unfolding_all refine lc_b (by assumption) (by first | rfl | assumption) (by rfl) ?_))
local macro_rules | `(tactic| tm_at "v9") => `(tactic| (with_reducible refine PySem.wpAny_truthy_bool ?_))
theorem loop_c {a sa : Addr} {xs : List Int} {Q : Flow → Shared → Prop} (i : InvE w g L a sa xs s.heap) (rd : Rm Ar 8) (hB : AllBare s.gens)
   (k : ∀ s', InvE w g L a sa xs s'.heap → AllBare s'.gens → s'.os = s.os → s'.drawn = s.drawn → Q .next s') :
   wpAny (model prog w) Ar (execs (List.take 1 (List.drop 4 lawLoop)) (callEnvC (fdOf (o946 w.params)) L 946)) Q E s := by
  obtain ⟨A, S, d, ks, la, R, m, cm, c, o, y, inj, sm, few, st, dr, tn⟩ := i
  refine wpAny_execs_cons ?_
  (tm_at "s7"; tm_at "s32"; tm_at "s37"; tm_at "s22")
  refine gl_b c (kg_told _) ?_ (by tm_at "u") (by tm_at "u") (by tm_at "u")
  (tm_at "s24"; tm_at "s25"; tm_at "v1"; tm_at "s25"; tm_at "v2"; tm_at "s26"; tm_at "s30")
  have c1 := c.perm (Qs := [EmbA w A S, DiA w d (refs ks la), RowsA ks la R] ++ [StA a sa xs]) (List.perm_append_comm (l₁ := [StA a sa xs]) (l₂ := [EmbA w A S, DiA w d (refs ks la), RowsA ks la R]))
  refine callR (sum941 c.gd (rd.less (by decide)) hB c1.psep.left o fun s' sp hB' ho hd => ⟨_, rfl, ?_⟩)
  have c2 := (c1.step sp).perm (List.perm_append_comm (l₁ := [EmbA w A S, DiA w d (refs ks la), RowsA ks la R]) (l₂ := [StA a sa xs]))
  (tm_at "v9")
  simp only [Bool.not_true, Bool.false_eq_true, if_false]
  (try dsimp only); (repeat (refine wpAny_execs_nil ?_; try dsimp only))
  exact k _ ⟨A, S, d, ks, la, R, m, cm, c2, o, y, inj, sm, few, st, dr, tn⟩ hB' ho hd
theorem round {a sa : Addr} {xs : List Int} {Q : Flow → Shared → Prop} (i : InvE w g L a sa xs s.heap) (rd : Rm Ar 8) (fr : Ar.frames = some [(callEnvC (fdOf (o946 w.params)) L 946)]) (hB : AllBare s.gens)
   (k : ∀ s', InvE w g L a sa xs s'.heap → AllBare s'.gens → s'.os = s.os → s'.drawn = s.drawn → Q .next s') :
   wpAny (model prog w) Ar (execs lawLoop (callEnvC (fdOf (o946 w.params)) L 946)) Q E s := by
  have e : lawLoop = List.take 3 lawLoop ++ (List.take 1 (List.drop 3 lawLoop) ++ List.take 1 (List.drop 4 lawLoop)) := by rfl
  rw [e]
  obtain ⟨A, S, d, ks, la, R, m, cm, c, o, y, inj, sm, few, st, dr, tn⟩ := i
  refine execs_app _ _ (loop_a c rd few (fun u hu => by rw [(o.perm u hu).length_eq]; exact o.len hu) st tn fun h1 tk1 kd t jn P as ps m1 cm1 k0 k9 hj hps lp st1 dr1 mk mp tn1 c1 => ?_)
  try dsimp only
  refine execs_app _ _ (loop_b c1 o y inj sm few st1 (by rw [dr1]; exact dr) tn1 rd fr hB hps lp hj mk mp fun s2 i2 hB2 ho2 hd2 => ?_)
  try dsimp only
  exact loop_c i2 rd hB2 fun s3 i3 hB3 ho3 hd3 => k s3 i3 hB3 (ho3.trans ho2) (hd3.trans hd2)
end
end Mine
end
section
open PySem PySem.W PySem.Calls PyProof.Rows
set_option maxRecDepth 100000
set_option maxHeartbeats 1000000
set_option linter.all false
namespace Mine
section
variable {w : World} {Ar : Around} {E : Value → Shared → Prop} {s : Shared} {g h h' : Heap} {L C I D : Addr} {m cm m' : Str → Option Value} {cs : List (Str × Addr)} {A : EA} {S S' : ES} {T : Tg → Prop} {env : Env} {Ps Qs Qs' Rs : List Ast} {x dx : Addr}
local macro_rules | `(tactic| tm_at "k") => `(tactic| first | exact kk_915 _ | exact kk_922 _ | exact kk_929 _ | exact kk_936 _ | exact kk_941 _ | exact kk_825 _ | exact kk_802 _ | exact kk_853 _ | exact kk_788 _ | exact kk_816 _ | exact kk_614 _ | exact kk_809 _ | exact kk_860 _ | exact kk_867 _ | exact kk_839 _ | exact kk_846 _ | exact kk_261 _ | exact kk_268 _ | exact kk_275 _ | exact kk_282 _ | exact kk_289 _ | exact kk_296 _)
local macro_rules | `(tactic| tm_at "V") => `(tactic| first | assumption | exact C.v (by assumption) | exact C0.v (by assumption))
local macro_rules | `(tactic| tm_at "h") => `(tactic| first | assumption | with_unfolding_all assumption)
local macro_rules | `(tactic| tm_at "t") => `(tactic| first | assumption | (with_unfolding_all exact True.intro) | (with_unfolding_all exact fun q => Tg.noConfusion q))
local macro_rules | `(tactic| tm_at "M") => `(tactic| with_unfolding_all first | exact .head _ | exact .tail _ (.head _) | exact .tail _ (.tail _ (.head _)))
local macro_rules | `(tactic| tm_at "u") => `(tactic| with_unfolding_all rfl)
local macro_rules | `(tactic| tm_at "s15") => `(tactic| (with_reducible refine wpAny_Constant_int ?_))
local macro_rules | `(tactic| tm_at "s16") => `(tactic| (with_reducible refine wpAny_Constant_bool ?_))
local macro_rules | `(tactic| tm_at "s19") => `(tactic| (with_reducible refine wpAny_Return_some ?_))
local macro_rules | `(tactic| tm_at "s22") => `(tactic| (with_reducible refine Call_ ?_ (by tm_at "u")))
local macro_rules | `(tactic| tm_at "s24") => `(tactic| ((with_reducible show wpAny _ _ (callWith _ _ _ _ _) _ _ _); (try dsimp only); first
     | (with_reducible refine callWith_method1 ?_ (by tm_at "u") (by tm_at "u"))
     | (with_reducible refine callWith_method0 ?_)
     | (with_reducible refine callWith_K (B.kin (by assumption)) (by tm_at "k") ?_ (by tm_at "u") (by tm_at "u"))
     | (with_reducible refine callWith_K0 (B.kin (by assumption)) (by tm_at "k") ?_)
     | (with_reducible refine callWith_KW (B.kin (by assumption)) (by tm_at "k") (by tm_at "u") ?_ (by tm_at "u") (by tm_at "u"))
     | (with_reducible refine PyProof.Rows.callWith_type1 ?_ (by tm_at "u") (by tm_at "u"))))
local macro_rules | `(tactic| tm_at "s25") => `(tactic| (with_reducible refine spliced_more ?_ (by tm_at "u")))
local macro_rules | `(tactic| tm_at "s26") => `(tactic| ((with_reducible refine spliced_none ?_); try dsimp only [List.cons_append, List.nil_append]))
local macro_rules | `(tactic| tm_at "s30") => `(tactic| (with_reducible refine in_and (B.kin (by assumption)) ?_))
local macro_rules | `(tactic| tm_at "v0") => `(tactic| (with_reducible refine wpAny_BinOp ?_))
local macro_rules | `(tactic| tm_at "v1") => `(tactic| (with_unfolding_all refine ld_b (by assumption) (by first | rfl | assumption) ?_))
local macro_rules | `(tactic| tm_at "v6") => `(tactic| (with_reducible refine P.add_int ?_))
theorem law_d {a sa : Addr} {xs : List Int} {Q : Flow → Shared → Prop} (i : InvE w g L a sa xs s.heap) (rd : Rm Ar 8) (fr : Ar.frames = some [(callEnvC (fdOf (o946 w.params)) L 946)]) (hB : AllBare s.gens)
   (k : ∀ s', InvE w g L a sa xs s'.heap → AllBare s'.gens → s'.os = s.os → s'.drawn = s.drawn → Q (.ret (.bool true)) s') :
   wpAny (model prog w) Ar (execs (List.drop 4 (fbody (topSt 23))) (callEnvC (fdOf (o946 w.params)) L 946)) Q E s := by
  obtain ⟨A, S, d, ks, la, R, m, cm, c, o, y, inj, sm, few, st, dr, tn⟩ := i
  refine wpAny_execs_cons (wpAny_For ?_ (by intro _; rfl))
  (tm_at "s22")
  refine bi_b c (kn_range _) boot_range (by decide +kernel) ?_ (by tm_at "u") (by tm_at "u") (by tm_at "u") (by tm_at "u")
  (tm_at "s24"; tm_at "s25"; tm_at "v0"; tm_at "s15"; tm_at "s22")
  refine gl_b c (kg_next _) ?_ (by tm_at "u") (by tm_at "u") (by tm_at "u")
  (tm_at "s24"; tm_at "s25"; tm_at "v1"; tm_at "s25"; tm_at "s15"; tm_at "s26"; tm_at "s30")
  refine next_b 0 c rfl (rd.less (by decide)) (by decide) fun h1 tk1 z t1 z0 z8 c1 => ?_
  (tm_at "v6"; tm_at "s26")
  obtain ⟨n, hn⟩ : ∃ n : Nat, 1 + z = (n : Int) := ⟨(1 + z).toNat, by omega⟩
  rw [hn]
  refine iterR_b c1 (by omega) (by omega) fun h2 tk2 I c2 => ?_
  refine for_upto n (fun j s' => ∃ A S d ks la R m cm, B w g L (cellsFrom (L + 1) (fdOf (o946 w.params)).scope.names []) m cm [RItA I j ((n : Int) - j), StA a sa xs, EmbA w A S, DiA w d (refs ks la), RowsA ks la R] s'.heap ∧ Ok S ks R ∧ Sym ks R ∧ Inj ks la ∧ (∀ u ∈ ks, 0 ≤ u ∧ u < 5) ∧ ks.length ≤ 5 ∧ m (Str.ofString "state") = some (.ref a) ∧ m (Str.ofString "drawing") = some (.ref A.x) ∧ cm (Str.ofString "turns") = some (.ref d) ∧ AllBare s'.gens ∧ s'.os = s.os ∧ s'.drawn = s.drawn) ?_ ?_ ⟨A, S, d, ks, la, R, m, cm, by rw [show ((n : Int) - ((0 : Nat) : Int)) = n from by simp]; exact c2, o, y, inj, sm, few, st, dr, tn, hB, rfl, rfl⟩ (by intro _; rfl)
  · clear c c1 c2 o y inj sm few st dr tn hB
    rintro j s1 hj ⟨A, S, d, ks, la, R, m, cm, c, o, y, inj, sm, few, st, dr, tn, hB, ho, hd⟩
    refine nextR_b 0 c rfl (by omega) fun h3 t3 tk3 c3 => ⟨_, rfl, ?_⟩
    dsimp only [List.set] at c3
    rw [show (n : Int) - j - 1 = ((n : Int) - ((j + 1 : Nat) : Int)) from by omega, show (j : Int) + 1 = ((j + 1 : Nat) : Int) from by omega] at c3
    refine wpAny_assign_Name (st_b c3 (fun h4 c4 => ?_) (by tm_at "u") (by tm_at "u") (by tm_at "u"))
    have i4 : InvE w _ L a sa xs h4 := ⟨A, S, d, ks, la, R, _, cm, c4.rebase, o, y, inj, sm, few, by exact st, by exact dr, tn⟩
    refine round (s := { s1 with heap := h4, toks := tk3 + 1 }) i4 rd fr hB fun s5 i5 hB5 ho5 hd5 => ?_
    obtain ⟨A', S', d', ks', la', R', m', cm', c5, o5, y5, inj5, sm5, few5, st5, dr5, tn5⟩ := i5
    exact ⟨A', S', d', ks', la', R', m', cm', c4.unbase c5, o5, y5, inj5, sm5, few5, st5, dr5, tn5, hB5, ho5.trans ho, hd5.trans hd⟩
  · clear c c1 c2 o y inj sm few st dr tn hB
    rintro s1 ⟨A, S, d, ks, la, R, m, cm, c, o, y, inj, sm, few, st, dr, tn, hB, ho, hd⟩
    refine endR_b 0 c rd.hd rfl (by omega) fun h3 c3 => ⟨rfl, ?_⟩
    dsimp only [List.eraseIdx] at c3
    refine wpAny_execs_nil ?_
    try dsimp only
    refine wpAny_execs_cons ?_
    (tm_at "s19"; tm_at "s16")
    exact k _ ⟨A, S, d, ks, la, R, m, cm, c3, o, y, inj, sm, few, st, dr, tn⟩ hB ho hd
theorem sum946 {R : Result → Shared → Prop} {l : Addr} {xs : List Int} (G : Gd w s.heap) (rm : Rm Ar 9) (fr : Ar.frames = some []) (hB : AllBare s.gens) (hl : ILw s.heap l xs) (few : xs.length ≤ sizeLine)
   (k : ∀ s', (∀ b o, s.heap.get? b = some o → s'.heap.get? b = some o) → AllBare s'.gens → s'.os = s.os → s'.drawn = s.drawn → R (.ok (.ret (.bool true))) s') :
   codeAny (model prog w) Ar (.call (.ref 946) ⟨[.ref l], []⟩) R s := by
  refine enterBC (Ps := []) (o := o946 w.params) (fd := fdOf (o946 w.params)) (body := fbody (topSt 23)) (binds := [("script", .ref l)]) G (Sep.nil _) rm.room (by rfl) (by rfl) (by kernel_rfl!) (by rfl) (by rfl) (by rfl) ?_ ?_ fun L h₁ tk hL c => ?_
  · intro n x hx
    left
    rw [List.mem_singleton.mp hx]; rfl
  · intro n
    show List.Pairwise (fun x y : Str × Addr => x.1 ≠ y.1) [(Str.ofString "a", n + 2), (Str.ofString "joined", n + 1), (Str.ofString "turns", n)]
    simp [List.pairwise_cons]
    decide
  have rd : Rm (Ar.deeper (callEnvC (fdOf (o946 w.params)) L 946)) 8 := rm.deeper
  have fr' : (Ar.deeper (callEnvC (fdOf (o946 w.params)) L 946)).frames = some [callEnvC (fdOf (o946 w.params)) L 946] := Around.frames_deeper fr
  have up : ∀ {m cm : Str → Option Value} {cs : List (Str × Addr)} {L : Addr} {Ps : List Ast} {h : Heap}, B w (hide s.heap (Fps [])) L cs m cm Ps h → ∀ b o, s.heap.get? b = some o → h.get? b = some o := fun c b o e => c.keep b o (by rw [hide_get, if_neg (Fps_nil b)]; exact e)
  have e : fbody (topSt 23) = List.take 1 (fbody (topSt 23)) ++ (List.take 1 (List.drop 1 (fbody (topSt 23))) ++ (List.take 2 (List.drop 2 (fbody (topSt 23))) ++ List.drop 4 (fbody (topSt 23)))) := by rfl
  rw [e]
  refine execs_app _ _ (law_a c rd (hl.keeps (up c)) few (by rfl) fun h2 tk2 a sa m2 st c2 => ?_)
  try dsimp only
  refine execs_app _ _ (law_b c2 rd st fun h3 tk3 d n la cm3 n3 n5 tn inj c3 => ?_)
  try dsimp only
  refine execs_app _ _ (law_c c3 rd n5 tn fun h4 tk4 A S m4 dr st4 o c4 => ?_)
  try dsimp only
  refine law_d ⟨A, S, d, upI n, la, fun _ => [], m4, cm3, c4, o, (fun u hu v hv => absurd hv List.not_mem_nil), inj, fun u hu => ?_, by rw [upI_length]; exact n5, st4.trans st, dr, tn⟩ rd fr' hB fun s5 i5 hB5 ho5 hd5 => ?_
  · have := mem_upI.mp hu; omega
  · obtain ⟨_, _, _, _, _, _, _, _, c5, _⟩ := i5
    exact k s5 (up c5) hB5 ho5 hd5
end
end Mine
end
section
open PySem PySem.W PySem.Calls PyProof.Rows
namespace Mine
theorem ints_of_readsW {R : WRecords} {cl : Str → Option Addr} {h : Heap} : ∀ {ns : List Int} {vs : List Value} {as : List Addr}, ReadsAllW R cl h vs (ns.map WData.int) as → IntsAre vs ns
  | [], _, _, r => by rw [(readsAllW_nil_inv r).1]; exact .nil
  | n :: ns, vs, as, r => by
    obtain ⟨v, vs, as1, as2, rfl, rfl, r1, r2⟩ := readsAllW_cons_inv r
    obtain ⟨t, rfl, _⟩ := readsW_int_inv r1
    exact .cons _ _ (ints_of_readsW r2)
theorem law_args {l : OpenLaw} {n : Nat} (hm : l.most = some n) {args : List WData} (hpre : l.row.toRowW.claim.pre args = true) {R : WRecords} {cl : Str → Option Addr} {h : Heap} {vals : List Value} {as : List Addr} (hrd : ReadsAllW R cl h vals args as) :
    ∃ a vs xs, vals = [.ref a] ∧ h.IsList a vs.toArray ∧ IntsAre vs xs ∧ xs.length ≤ n := by
  obtain ⟨hh, hp⟩ := pre_splitW (r := l.row.toRowW) hpre
  obtain ⟨d, r, rfl, hd, hr⟩ := hasAllW_cons hh
  cases hasAllW_nil hr
  obtain ⟨xs, rfl, hx⟩ := hasW_list hd
  obtain ⟨ns, rfl⟩ := items_int hx
  obtain ⟨v, vs, as1, as2, rfl, rfl, r1, r2⟩ := readsAllW_cons_inv hrd
  obtain ⟨rfl, _⟩ := readsAllW_nil_inv r2
  obtain ⟨a, its, as', rfl, hl, r3, _⟩ := readsW_list_inv r1
  refine ⟨a, its.toList, ns, rfl, by rw [Array.toArray_toList]; exact hl, ints_of_readsW r3, ?_⟩
  have hp' : WTm.holds l.row.toRowW.records l.pre { args := [WData.list (ns.map WData.int)] } = true := hp
  unfold OpenLaw.pre at hp'
  rw [hm] at hp'
  by_cases q : ns.length ≤ n
  · exact q
  · exfalso
    revert hp'
    simp [WTm.holds, WTm.value]
    have e : PySem.W.less? (WData.int (n : Int)) (WData.int (ns.length : Int)) = some true := by
      rw [PySem.W.less?, Num.less?, decide_eq_true (by omega)]
    rw [e]
    rfl
theorem law_post (l : OpenLaw) (args ds : List WData) : l.row.toRowW.claim.post args (.bool true) ds = true := by
  have h1 : ∀ R : WRecords, WShape.has R (.bool true) .bool = true := fun R => by simp [WShape.has, WShape.arms]
  have h2 : ∀ (R : WRecords) (c : WCtx), c.res = some (.bool true) → WTm.holds R (.eq .res (.lit (.bool true))) c = true := fun R c e => by
    simp [WTm.holds, WTm.value, e, same]
  exact Bool.and_eq_true_iff.mpr ⟨h1 [], h2 _ _ rfl⟩
end Mine
end
section
open PySem PySem.W PySem.Calls PyProof.Rows
set_option maxRecDepth 100000
set_option maxHeartbeats 0
namespace Mine
theorem kg_law (P : Params) : nsIn (frag P) mainGlobals (Str.ofString "law") = some (some (.ref 946)) := by kernel_rfl!
theorem called : Called := by
  intro w s₀ s₁ mg mb G Y a hmg hg args vals as hpre hrd
  have gd : Gd w s₁.heap := ⟨Y, G.T.nolimit, mg, mb, G.T.g, G.T.b, G.T.builtins⟩
  have ea : a = 946 := by
    have := mg_of Y G.T.g (kg_law w.params)
    rw [this] at hmg
    injection hmg with h2
    injection h2 with h2
    exact h2.symm
  subst ea
  obtain ⟨l, vs, xs, rfl, hl, hi, few⟩ := law_args (l := PySem.Challenge.rw_ci0027_04) (n := 63) rfl hpre hrd
  refine callR (sum946 gd ⟨by decide +kernel, by decide +kernel, rfl⟩ rfl (by rw [hg]; exact .of_eq rfl) ⟨vs, hl, hi⟩ (Nat.le_trans few (by decide +kernel)) fun s' kp hB hos _ => ?_)
  refine ⟨_, rfl, ⟨.inl ⟨_, .bool true, [], rfl, fun cls => rfl, .bool true, ?_, fun _ => ⟨.nil, nofun⟩⟩, .of_keep kp, hos, hB⟩⟩
  exact law_post _ _ _
theorem top4 : PySem.Challenge.rw_ci0027_04.Holds := top_of called
end Mine
end
open PySem PySem.W PySem.Calls PyProof.Rows
theorem PySem.Challenge.cw_ci0027_04_holds : PySem.Challenge.rw_ci0027_04.Holds :=
  Mine.top4
