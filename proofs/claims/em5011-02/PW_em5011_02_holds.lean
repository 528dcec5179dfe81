import PyProof.Rows.All
import Wide.All
import OpenK.AllK
import Wide.FinOn
import PySem.Challenge.RW_em5011_02
open PySem PySem.W PyProof.Rows
set_option Elab.async false
set_option linter.unusedVariables false
set_option maxRecDepth 100000
set_option maxHeartbeats 8000000
open PySem.Calls
namespace Mine

/-! the head in one run over a tree of objects -/

theorem left_of_run {p q : Program} {loose : List Str} {Xt : Shared → Bool} {α : Type} {Yf : Shared → α} {Ya : World → α} {N : Nat} {g0 : Bool} {H₀ : Params → Heap} {gs₀ : Array GenState} {d₀ : Drawn} {k₀ : Nat} {m₀ : Nat} {ann : Option Value} {M : Nat}
    (open_ : ∀ w : World, (fencedOpening treeTable p w N).map (fun s => (s.heap, s.gens, s.drawn, s.toks)) = some (H₀ w.params, gs₀, d₀, k₀))
    (size : ∀ w : World, ((H₀ w.params).isNs mainGlobals && gs₀.size == 0, (H₀ w.params).objs.size, (H₀ w.params).nsMap mainGlobals "__annotations__") = (true, m₀, ann)) (le : Nat.ble M N = true)
    (run : ∀ (w : World) (os : OsState), ∃ r : Shared, topRun treeTable p w m₀ ann M ⟨H₀ w.params, gs₀, d₀, k₀, os⟩ (topStub p) = some r ∧
      (staticsOk (importedModules p.main.body) (H₀ w.params) r.heap && namesBound p r.heap && gensDone r && laidKept (H₀ w.params) r.heap) = true ∧ openSeen q loose (importedModules p.main.body) Xt g0 r = openGood q loose ∧ Yf r = Ya w) :
    LeftO p q loose Xt Yf Ya N g0 := fun w => by
  obtain ⟨⟨h, gs, d, k, os⟩, e, e'⟩ := Option.map_eq_some_iff.mp (open_ w)
  obtain ⟨rfl, rfl, rfl, rfl⟩ : h = H₀ w.params ∧ gs = gs₀ ∧ d = d₀ ∧ k = k₀ := by simpa using e'
  obtain ⟨z1, z2, z3⟩ : _ ∧ _ ∧ _ := by simpa only [Prod.mk.injEq] using size w
  obtain ⟨r, r0, l1, l2, l3⟩ := run w os
  have r1 := topRun_mono (N - M) _ _ _ _ r0
  rw [show M + (N - M) = N by have := Nat.le_of_ble_eq_true le; omega] at r1
  have t : topFrom treeTable p w N ⟨H₀ w.params, gs, d, k, os⟩ = some r := by
    unfold topFrom
    dsimp only
    rw [z1, z2, z3, r1]
    show (match staticsOk (importedModules p.main.body) (H₀ w.params) r.heap && namesBound p r.heap && gensDone r && laidKept (H₀ w.params) r.heap with | true => _ | false => _) = _
    rw [l1]
  unfold openEnds
  rw [e]
  show (topFrom treeTable p w N _).map _ = _
  rw [t]
  exact congrArg some (Prod.ext l2 l3)

def hEnv (p : Program) : Env := { scope := p.main.scope, locals := mainNs, globals := mainNs, cells := [], code := .ref 13, frame := some 14 }
def hCode (p : Program) : Code := .body (behindTheImports p) (hEnv p)
abbrev pos0 : Pos := ⟨0, 0, 0, 0⟩
noncomputable def hTree (P : Params) : BT :=
  ((((((((((((((BT.nil.ins 0 (boot_o_0 P)).ins 1 (boot_o_1 P)).ins 2 (boot_o_2 P)).ins 3 (boot_o_3 P)).ins 4 (boot_o_4 P)).ins 5 (boot_o_5 P)).ins 6 (boot_o_6 P)).ins 7 (boot_o_7 P)).ins 8 (boot_o_8 P)).ins 9 (boot_o_9 P)).ins 10 (boot_o_10 P)).ins 11
    { cls := .type "tuple", data := .seq #[] }).ins 12 { cls := .none, data := .fields #[] }).ins 13 { cls := .type "code", data := .fields #[.str (Str.ofString "<module>") 182, .str (Str.ofString "<module>") 183, .str (Str.ofString "/claim/cut.py") 184, .int 1 0, .int 0 0, .int 0 0, .int 0 0, .int 0 0, .ref 11, .bool false, .int 181 0, .ref 12, .none, .none, .none, .none, .int 185 0, .int 1 0, .str (Str.ofString "/claim/cut.py") 186] }).ins 14 { cls := .type "frame", slots := #[some (.ref 13), some (.ref 3), some (.ref 3), none, some (.str (Str.ofString "__main__") 164), none, some (.ref 0)] }
noncomputable def hS (P : Params) (os : OsState) : SharedT := ⟨hTree P, 15, {}, ⟨[]⟩, boot_drawn, 187, os⟩

theorem fin_done {tb : String → Option Builtin} {p : Program} {w : World} {m₀ : Nat} {ann : Option Value} {s : Shared} {c : Code} {pos : Pos} : topRun tb p w m₀ ann 2 s ⟨doneF .next, c, pos, [topFrame pos0]⟩ = some s := by
  obtain ⟨heap, gens, drawn, toks, os⟩ := s
  rfl

def tget (T : BT) (n : Nat) (a : Nat) : Option Obj := match Nat.blt a n with
  | true => match T.get a with
    | some o => alive o
    | none => none
  | false => none
theorem tget_abs {T : BT} {n : Nat} {life : Life} {a : Nat} {o : Obj} (h : tget T n a = some o) : (absHeap T n life).get? a = some o := by
  unfold tget at h
  cases hb : Nat.blt a n with
  | false => rw [hb] at h; cases h
  | true =>
    rw [hb] at h
    cases hg : T.get a with
    | none => rw [hg] at h; cases h
    | some o' =>
      rw [hg] at h
      have hlt : a < n := by
        have : Nat.ble (a + 1) n = true := hb
        exact Nat.le_of_ble_eq_true this
      rw [abs_get hlt hg]; exact h
theorem tgets_abs {T : BT} {n : Nat} {life : Life} : ∀ (as : List Nat) (vs : List (Option Obj)), (∀ v ∈ vs, v.isSome = true) → as.map (tget T n) = vs → as.map (absHeap T n life).get? = vs
  | [], vs, _, h => by subst h; rfl
  | a :: as, vs, hv, h => by
    subst h
    have h1 := hv (tget T n a) (by simp)
    obtain ⟨o, ho⟩ := Option.isSome_iff_exists.mp h1
    rw [List.map_cons, List.map_cons, ho, tget_abs ho, tgets_abs as _ (fun v hm => hv v (by rw [List.map_cons]; exact List.mem_cons_of_mem _ hm)) rfl]

/-- the run of the text over the tree, and what is looked at behind it -/
def PieceP (p q : Program) (loose : List Str) (Xt : Shared → Bool) (K : Params → Frag) (as ts : List Addr) (n : Nat) (g0 : Bool) (posK : Pos) (ann : Option Value) (w : World) : Prop :=
  (fun os => (segRunT treeTable p w 11 ann 1 n (hS w.params os) (piecesOf (behindTheImports p) (hEnv p) (hCode p) pos0 [topFrame pos0])).map fun r =>
      (r.1, r.2.2, (staticsOk (importedModules p.main.body) (boot_heap w.params) r.2.1.abs.heap && namesBound p r.2.1.abs.heap && gensDone r.2.1.abs && laidKept (boot_heap w.params) r.2.1.abs.heap), openSeen q loose (importedModules p.main.body) Xt g0 r.2.1.abs,
        as.map (tget r.2.1.tree r.2.1.n), ts.map (tget r.2.1.tree r.2.1.n))) =
    fun os => some (.next, (hCode p, posK), true, openGood q loose, (K w.params).map (fun p => some p.2), ts.map fun _ => some (tabObj #[]))

theorem left_of_tree {p q : Program} {loose : List Str} {Xt : Shared → Bool} {K : Params → Frag} {as : List Addr} {e : ∀ P, as = (K P).map (·.1)} {ts : List Addr} {N n : Nat} {g0 : Bool} {posK : Pos} {ann : Option Value}
    (open_ : ∀ w : World, (fencedOpening treeTable p w N).map (fun s => (s.heap, s.gens, s.drawn, s.toks)) = some (boot_heap w.params, ⟨[]⟩, boot_drawn, boot_toks))
    (size : ∀ w : World, ((boot_heap w.params).isNs mainGlobals && (⟨[]⟩ : Array GenState).size == 0, (boot_heap w.params).objs.size, (boot_heap w.params).nsMap mainGlobals "__annotations__") = (true, 11, ann)) (le : Nat.ble (12 + (1 + (n + 2))) N = true)
    (pre : ∀ (w : World), (fun os => topGo treeTable p w 11 ann 12 ⟨boot_heap w.params, ⟨[]⟩, boot_drawn, boot_toks, os⟩ (topStub p)) = fun os => some ((hS w.params os).abs, ⟨denote treeTable (hCode p), hCode p, pos0, [topFrame pos0]⟩))
    (block : ∀ (w : World), (fun os => segRun treeTable p w 11 ann 1 1 (hS w.params os).abs (blockOf (behindTheImports p) (hEnv p) (hCode p) pos0 [topFrame pos0])) = fun os => some (.next, (hS w.params os).abs, hCode p, pos0))
    (piece : ∀ (w : World), PieceP p q loose Xt K as ts n g0 posK ann w) : LeftO p q loose Xt (kmHook K as e ts).obs (kmHook K as e ts).val N g0 := by
  refine left_of_run open_ size le fun w os => ?_
  have e := congrFun (piece w) os
  obtain ⟨⟨f, s', c', p'⟩, e1, e2⟩ := Option.map_eq_some_iff.mp e
  simp only [Prod.mk.injEq] at e2
  obtain ⟨rfl, ⟨rfl, rfl⟩, l1, l2, l3, l4⟩ := e2
  refine ⟨s'.abs, ?_, l1, l2, ?_⟩
  · have h1 := segRun_of e1
    have h2 := piece_nil (tb := treeTable) (p := p) (w := w) (n₀ := 11) (ann := ann) (env := hEnv p) (q := pos0) (fin_done (tb := treeTable) (p := p) (w := w) (m₀ := 11) (ann := ann) (s := s'.abs) (c := hCode p) (pos := p'))
    have h3 := piece_app (rest := []) h1 h2
    rw [List.append_nil] at h3
    have h4 := piece_block (congrFun (block w) os) h3
    exact go_top (congrFun (pre w) os) h4
  · show (as.map s'.abs.heap.get?, ts.map s'.abs.heap.get?) = ((K w.params).map fun p => some p.2, ts.map fun _ => some (tabObj #[]))
    have g1 : as.map s'.abs.heap.get? = (K w.params).map fun p => some p.2 := tgets_abs (life := s'.life) as _ (fun v hv => by obtain ⟨x, _, rfl⟩ := List.mem_map.mp hv; rfl) l3
    have g2 : ts.map s'.abs.heap.get? = ts.map fun _ => some (tabObj #[]) := tgets_abs (life := s'.life) ts _ (fun v hv => by obtain ⟨x, _, rfl⟩ := List.mem_map.mp hv; rfl) l4
    rw [g1, g2]
end Mine
namespace Mine
/-! the run in three parts, with the states between written out -/
def hPick (d : Obj) : Frag → Nat → Obj
  | [], _ => d
  | (b, o) :: r, a => match Nat.beq b a with
    | true => o
    | false => hPick d r a
def RunP (p : Program) (ann : Option Value) (n : Nat) (S S' : Params → OsState → SharedT) (l : List Stmt) (pos pos' : Pos) (w : World) : Prop :=
  (fun os => segRunT treeTable p w 11 ann 1 n (S w.params os) (piecesOf l (hEnv p) (hCode p) pos [topFrame pos0])) = fun os => some (.next, S' w.params os, hCode p, pos')
def EndP (p q : Program) (loose : List Str) (Xt : Shared → Bool) (K : Params → Frag) (as ts : List Addr) (n : Nat) (g0 : Bool) (posK : Pos) (ann : Option Value) (S : Params → OsState → SharedT) (l : List Stmt) (pos : Pos) (w : World) : Prop :=
  (fun os => (segRunT treeTable p w 11 ann 1 n (S w.params os) (piecesOf l (hEnv p) (hCode p) pos [topFrame pos0])).map fun r =>
      (r.1, r.2.2, (staticsOk (importedModules p.main.body) (boot_heap w.params) r.2.1.abs.heap && namesBound p r.2.1.abs.heap && gensDone r.2.1.abs && laidKept (boot_heap w.params) r.2.1.abs.heap), openSeen q loose (importedModules p.main.body) Xt g0 r.2.1.abs,
        as.map (tget r.2.1.tree r.2.1.n), ts.map (tget r.2.1.tree r.2.1.n))) =
    fun os => some (.next, (hCode p, posK), true, openGood q loose, (K w.params).map (fun p => some p.2), ts.map fun _ => some (tabObj #[]))
theorem left_of_three {p q : Program} {loose : List Str} {Xt : Shared → Bool} {K : Params → Frag} {as : List Addr} {e : ∀ P, as = (K P).map (·.1)} {ts : List Addr} {N nA nB nC : Nat} {g0 : Bool} {posK pos1 pos2 : Pos} {ann : Option Value} {S1 S2 : Params → OsState → SharedT} (i j : Nat)
    (open_ : ∀ w : World, (fencedOpening treeTable p w N).map (fun s => (s.heap, s.gens, s.drawn, s.toks)) = some (boot_heap w.params, ⟨[]⟩, boot_drawn, boot_toks))
    (size : ∀ w : World, ((boot_heap w.params).isNs mainGlobals && (⟨[]⟩ : Array GenState).size == 0, (boot_heap w.params).objs.size, (boot_heap w.params).nsMap mainGlobals "__annotations__") = (true, 11, ann)) (le : Nat.ble (12 + (1 + (nA + (nB + (nC + 2))))) N = true)
    (pre : ∀ (w : World), (fun os => topGo treeTable p w 11 ann 12 ⟨boot_heap w.params, ⟨[]⟩, boot_drawn, boot_toks, os⟩ (topStub p)) = fun os => some ((hS w.params os).abs, ⟨denote treeTable (hCode p), hCode p, pos0, [topFrame pos0]⟩))
    (block : ∀ (w : World), (fun os => segRun treeTable p w 11 ann 1 1 (hS w.params os).abs (blockOf (behindTheImports p) (hEnv p) (hCode p) pos0 [topFrame pos0])) = fun os => some (.next, (hS w.params os).abs, hCode p, pos0))
    (pieceA : ∀ (w : World), RunP p ann nA hS S1 ((behindTheImports p).take i) pos0 pos1 w)
    (pieceB : ∀ (w : World), RunP p ann nB S1 S2 (((behindTheImports p).drop i).take j) pos1 pos2 w)
    (pieceC : ∀ (w : World), EndP p q loose Xt K as ts nC g0 posK ann S2 (((behindTheImports p).drop i).drop j) pos2 w) : LeftO p q loose Xt (kmHook K as e ts).obs (kmHook K as e ts).val N g0 := by
  refine left_of_run open_ size le fun w os => ?_
  have e := congrFun (pieceC w) os
  obtain ⟨⟨f, s', c', p'⟩, e1, e2⟩ := Option.map_eq_some_iff.mp e
  simp only [Prod.mk.injEq] at e2
  obtain ⟨rfl, ⟨rfl, rfl⟩, l1, l2, l3, l4⟩ := e2
  refine ⟨s'.abs, ?_, l1, l2, ?_⟩
  · have hA := segRun_of (congrFun (pieceA w) os)
    have hB := segRun_of (congrFun (pieceB w) os)
    have h1 := segRun_of e1
    have h2 := piece_nil (tb := treeTable) (p := p) (w := w) (n₀ := 11) (ann := ann) (env := hEnv p) (q := pos0) (fin_done (tb := treeTable) (p := p) (w := w) (m₀ := 11) (ann := ann) (s := s'.abs) (c := hCode p) (pos := p'))
    have h3 := piece_app (rest := []) h1 h2
    rw [List.append_nil] at h3
    have h3 := piece_app hB h3
    rw [List.take_append_drop] at h3
    have h3 := piece_app hA h3
    rw [List.take_append_drop] at h3
    have h4 := piece_block (congrFun (block w) os) h3
    exact go_top (congrFun (pre w) os) h4
  · show (as.map s'.abs.heap.get?, ts.map s'.abs.heap.get?) = ((K w.params).map fun p => some p.2, ts.map fun _ => some (tabObj #[]))
    have g1 : as.map s'.abs.heap.get? = (K w.params).map fun p => some p.2 := tgets_abs (life := s'.life) as _ (fun v hv => by obtain ⟨x, _, rfl⟩ := List.mem_map.mp hv; rfl) l3
    have g2 : ts.map s'.abs.heap.get? = ts.map fun _ => some (tabObj #[]) := tgets_abs (life := s'.life) ts _ (fun v hv => by obtain ⟨x, _, rfl⟩ := List.mem_map.mp hv; rfl) l4
    rw [g1, g2]
end Mine
namespace Mine
section
local macro_rules
  | `(tactic| refine $f:ident $args*) => do
    if f.getId == `PySem.W.holds_open then `(tactic| exact ($(Lean.mkIdent `no)).elim) else Lean.Macro.throwUnsupported
/-- says nothing: it is there for the view and the written heap that it leaves behind -/
theorem mk (no : False) : PySem.Challenge.rw_em5011_02.Holds := by
  w_on
  o_law
  k_head
end
abbrev hLoose : List Str := [Str.ofString "mappingproxy", Str.ofString "_MEMBERS_VIEW", Str.ofString "EnumType", Str.ofString "Enum", Str.ofString "ParserState", Str.ofString "PY_TYPES"]
abbrev hAs : List Addr := [2, 3, 15, 17, 18, 20, 21, 22, 24, 25, 27, 28, 29, 31, 32, 34, 35, 36, 38, 39, 41, 42, 43, 45, 46, 48, 49, 50, 52, 53, 55, 56, 57, 59, 60, 62, 63, 64, 66, 67, 69, 70, 71, 79, 80, 82, 83, 85, 86, 87, 89, 90, 92, 93, 94, 96, 97, 99, 100, 101, 103, 104, 106, 107, 108, 110, 111, 113, 114, 115, 117, 118, 120, 121, 122, 124, 125, 127, 128, 129, 131, 132, 134, 135, 136, 138, 139, 141, 142, 143, 145, 146, 148, 149, 150, 152, 153, 155, 156, 157, 159, 160, 162, 163, 164, 166, 167, 169, 170, 171, 173, 174, 176, 177, 178, 180, 181, 183, 184, 185, 187, 188, 190, 191, 192, 194, 195, 197, 198, 199, 201, 202, 204, 205, 206, 208, 209, 211, 212, 213, 214, 216, 217, 219, 220, 221, 223, 224, 226, 227, 228, 230, 231, 233, 234, 235, 237, 238, 240, 241, 242, 244, 245, 247, 248, 249, 251, 252, 253, 254, 257, 260, 265, 266, 268, 269, 271, 272, 273, 275, 276, 278, 279, 280, 282, 283, 285, 286, 287, 289, 290, 292, 293, 294, 296, 297, 299, 300, 301, 303, 304, 306, 307, 308, 310, 311, 313, 314, 315, 317, 318, 320, 321, 322, 324, 325, 327, 328, 329, 331, 332, 334, 335, 336, 338, 339, 341, 342, 343, 345, 346, 348, 349, 350, 352, 353, 355, 356, 357, 359, 360, 362, 363, 364, 366, 367, 369, 370, 371, 373, 374, 376, 377, 378, 380, 381, 383, 384, 385, 387, 388, 390, 391, 392, 394, 395, 397, 398, 399, 401, 402, 404, 405, 406, 408, 409, 411, 412, 413, 415, 416, 418, 419, 420, 421, 423, 424, 426, 427, 428, 430, 431, 433, 434, 435, 436, 438, 439, 441, 442, 443, 444, 446, 447, 449, 450, 451, 452, 454, 455, 457, 458, 459, 461, 462, 464, 465, 466, 467, 468, 469, 479, 481, 482, 484, 485, 486, 487, 489, 490, 492, 493, 494, 496, 497, 499, 500, 501, 503, 504, 506, 507, 508, 509, 510, 511, 512, 522, 523, 524, 525, 526, 527, 528, 529, 531, 532, 534, 535, 536, 538, 539, 541, 542, 543, 544, 545, 546, 548, 549, 551, 552, 553, 555, 556, 558, 559, 560, 562, 563, 565, 566, 567, 569, 570, 572, 573, 574, 576, 577, 579, 580, 581, 583, 584, 586, 587, 588, 590, 591, 593, 594, 595, 597, 598, 600, 601, 602, 604, 605, 607, 608, 609, 611, 612, 614, 615, 616, 618, 619, 621, 622, 623, 624, 626, 627, 629, 633, 634, 635, 636, 637, 644, 651, 652, 656, 657, 681, 682, 683, 684, 685, 686, 687, 688, 701, 705, 709, 713, 715, 716, 718, 719, 720, 722, 723, 725, 726, 727, 729, 730, 732, 733, 734, 736, 737, 739, 740, 741, 744, 745, 746, 749, 750, 751, 752, 754, 755, 757, 758, 759, 760, 763, 764, 765, 768, 769, 770, 773, 774, 775, 778, 779]
abbrev hPos : Pos := ⟨495, 0, 507, 91⟩
noncomputable def hOb (P : Params) (a : Nat) : Obj := hPick (boot_o_0 P) (mk.heap_39 P) a
noncomputable def hFd (P : Params) (a : Nat) : FuncData := match (hOb P a).data with
  | .func f => f
  | _ => default
noncomputable def hMo0o3 (P : Params) : Obj := (PySem.Obj.mk (PySem.Value.type "dict") .none (PySem.Data.dict #[(PySem.DictEntry.mk (PySem.PyData.keyHash P (PySem.Str.ofString "__name__")) (PySem.Value.str (PySem.Str.ofString "__name__") 165) (PySem.Value.str (PySem.Str.ofString "enum") 249)), (PySem.DictEntry.mk (PySem.PyData.keyHash P (PySem.Str.ofString "__doc__")) (PySem.Value.str (PySem.Str.ofString "__doc__") 166) PySem.Value.none), (PySem.DictEntry.mk (PySem.PyData.keyHash P (PySem.Str.ofString "__package__")) (PySem.Value.str (PySem.Str.ofString "__package__") 167) PySem.Value.none), (PySem.DictEntry.mk (PySem.PyData.keyHash P (PySem.Str.ofString "__loader__")) (PySem.Value.str (PySem.Str.ofString "__loader__") 168) (PySem.Value.builtin "__main__.__loader__#opaque")), (PySem.DictEntry.mk (PySem.PyData.keyHash P (PySem.Str.ofString "__spec__")) (PySem.Value.str (PySem.Str.ofString "__spec__") 169) PySem.Value.none), (PySem.DictEntry.mk (PySem.PyData.keyHash P (PySem.Str.ofString "__annotations__")) (PySem.Value.str (PySem.Str.ofString "__annotations__") 170) (PySem.Value.ref 6)), (PySem.DictEntry.mk (PySem.PyData.keyHash P (PySem.Str.ofString "__builtins__")) (PySem.Value.str (PySem.Str.ofString "__builtins__") 171) (PySem.Value.ref 4)), (PySem.DictEntry.mk (PySem.PyData.keyHash P (PySem.Str.ofString "__file__")) (PySem.Value.str (PySem.Str.ofString "__file__") 173) (PySem.Value.str (PySem.Str.ofString "/claim/cut.py") 172)), (PySem.DictEntry.mk (PySem.PyData.keyHash P (PySem.Str.ofString "__cached__")) (PySem.Value.str (PySem.Str.ofString "__cached__") 174) PySem.Value.none), (PySem.DictEntry.mk (PySem.PyData.keyHash P (PySem.Str.ofString "_wall")) (PySem.Value.str (PySem.Str.ofString "_wall") 193) (PySem.Value.ref 21)), (PySem.DictEntry.mk (PySem.PyData.keyHash P (PySem.Str.ofString "bool_out")) (PySem.Value.str (PySem.Str.ofString "bool_out") 202) (PySem.Value.ref 28)), (PySem.DictEntry.mk (PySem.PyData.keyHash P (PySem.Str.ofString "bytes_out")) (PySem.Value.str (PySem.Str.ofString "bytes_out") 209) (PySem.Value.ref 35)), (PySem.DictEntry.mk (PySem.PyData.keyHash P (PySem.Str.ofString "int_in")) (PySem.Value.str (PySem.Str.ofString "int_in") 216) (PySem.Value.ref 42)), (PySem.DictEntry.mk (PySem.PyData.keyHash P (PySem.Str.ofString "int_out")) (PySem.Value.str (PySem.Str.ofString "int_out") 223) (PySem.Value.ref 49)), (PySem.DictEntry.mk (PySem.PyData.keyHash P (PySem.Str.ofString "null_out")) (PySem.Value.str (PySem.Str.ofString "null_out") 230) (PySem.Value.ref 56)), (PySem.DictEntry.mk (PySem.PyData.keyHash P (PySem.Str.ofString "range_out")) (PySem.Value.str (PySem.Str.ofString "range_out") 241) (PySem.Value.ref 63)), (PySem.DictEntry.mk (PySem.PyData.keyHash P (PySem.Str.ofString "string_out")) (PySem.Value.str (PySem.Str.ofString "string_out") 248) (PySem.Value.ref 70)), (PySem.DictEntry.mk (PySem.PyData.keyHash P (PySem.Str.ofString "_OWN_NAMES")) (PySem.Value.str (PySem.Str.ofString "_OWN_NAMES") 256) (PySem.Value.ref 71)), (PySem.DictEntry.mk (PySem.PyData.keyHash P (PySem.Str.ofString "mappingproxy")) (PySem.Value.str (PySem.Str.ofString "mappingproxy") 464) (PySem.Value.ref 252)), (PySem.DictEntry.mk (PySem.PyData.keyHash P (PySem.Str.ofString "_MEMBERS_VIEW")) (PySem.Value.str (PySem.Str.ofString "_MEMBERS_VIEW") 465) (PySem.Value.ref 252)), (PySem.DictEntry.mk (PySem.PyData.keyHash P (PySem.Str.ofString "EnumType")) (PySem.Value.str (PySem.Str.ofString "EnumType") 725) (PySem.Value.ref 468))] 21) #[])
noncomputable def hMo0o11 (P : Params) : Obj := (PySem.Obj.mk (PySem.Value.type "tuple") .none (PySem.Data.seq #[] 0) #[])
noncomputable def hMo0o12 (P : Params) : Obj := (PySem.Obj.mk PySem.Value.none .none (PySem.Data.fields #[(PySem.Value.int (1 : Int) 0), (PySem.Value.int (0 : Int) 0), (PySem.Value.ref 20), (PySem.Value.int (5 : Int) 0), (PySem.Value.int (0 : Int) 0), (PySem.Value.ref 27), (PySem.Value.int (7 : Int) 0), (PySem.Value.int (0 : Int) 0), (PySem.Value.ref 34), (PySem.Value.int (9 : Int) 0), (PySem.Value.int (0 : Int) 0), (PySem.Value.ref 41), (PySem.Value.int (11 : Int) 0), (PySem.Value.int (0 : Int) 0), (PySem.Value.ref 48), (PySem.Value.int (13 : Int) 0), (PySem.Value.int (0 : Int) 0), (PySem.Value.ref 55), (PySem.Value.int (15 : Int) 0), (PySem.Value.int (0 : Int) 0), (PySem.Value.ref 62), (PySem.Value.int (24 : Int) 0), (PySem.Value.int (0 : Int) 0), (PySem.Value.ref 69), (PySem.Value.int (28 : Int) 0), (PySem.Value.int (0 : Int) 0), (PySem.Value.ref 77), (PySem.Value.int (110 : Int) 0), (PySem.Value.int (0 : Int) 0), (PySem.Value.ref 263)]) #[])
noncomputable def hMo0o13 (P : Params) : Obj := (PySem.Obj.mk (PySem.Value.type "code") .none (PySem.Data.fields #[(PySem.Value.str (PySem.Str.ofString "<module>") 182), (PySem.Value.str (PySem.Str.ofString "<module>") 183), (PySem.Value.str (PySem.Str.ofString "/claim/cut.py") 184), (PySem.Value.int (1 : Int) 0), (PySem.Value.int (0 : Int) 0), (PySem.Value.int (0 : Int) 0), (PySem.Value.int (0 : Int) 0), (PySem.Value.int (0 : Int) 0), (PySem.Value.ref 11), (PySem.Value.bool Bool.false), (PySem.Value.int (181 : Int) 0), (PySem.Value.ref 12), PySem.Value.none, PySem.Value.none, PySem.Value.none, PySem.Value.none, (PySem.Value.int (185 : Int) 0), (PySem.Value.int (1 : Int) 0), (PySem.Value.str (PySem.Str.ofString "/claim/cut.py") 186)]) #[])
noncomputable def hMo0o14 (P : Params) : Obj := (PySem.Obj.mk (PySem.Value.type "frame") .none PySem.Data.plain #[(.some (PySem.Value.ref 13)), (.some (PySem.Value.ref 3)), (.some (PySem.Value.ref 3)), .none, (.some (PySem.Value.str (PySem.Str.ofString "__main__") 164)), .none, (.some (PySem.Value.ref 0))])
noncomputable def hMo0o16 (P : Params) : Obj := (PySem.Obj.mk PySem.Value.none .none (PySem.Data.fields #[]) #[])
noncomputable def hMo0o19 (P : Params) : Obj := (PySem.Obj.mk PySem.Value.none .none (PySem.Data.func (PySem.FuncData.mk (PySem.Str.ofString "_wall") (PySem.Str.ofString "_wall") (hFd P 21).params (hFd P 21).body (hFd P 21).scope 0 [] PySem.Value.none PySem.Value.none PySem.Value.none PySem.Value.none .none PySem.Value.none PySem.Value.none 0)) #[])
noncomputable def hMo0o23 (P : Params) : Obj := (PySem.Obj.mk PySem.Value.none .none (PySem.Data.fields #[]) #[])
noncomputable def hMo0o26 (P : Params) : Obj := (PySem.Obj.mk PySem.Value.none .none (PySem.Data.func (PySem.FuncData.mk (PySem.Str.ofString "bool_out") (PySem.Str.ofString "bool_out") (hFd P 28).params (hFd P 28).body (hFd P 28).scope 0 [] PySem.Value.none PySem.Value.none PySem.Value.none PySem.Value.none .none PySem.Value.none PySem.Value.none 0)) #[])
noncomputable def hMo0o30 (P : Params) : Obj := (PySem.Obj.mk PySem.Value.none .none (PySem.Data.fields #[]) #[])
noncomputable def hMo0o33 (P : Params) : Obj := (PySem.Obj.mk PySem.Value.none .none (PySem.Data.func (PySem.FuncData.mk (PySem.Str.ofString "bytes_out") (PySem.Str.ofString "bytes_out") (hFd P 35).params (hFd P 35).body (hFd P 35).scope 0 [] PySem.Value.none PySem.Value.none PySem.Value.none PySem.Value.none .none PySem.Value.none PySem.Value.none 0)) #[])
noncomputable def hMo0o37 (P : Params) : Obj := (PySem.Obj.mk PySem.Value.none .none (PySem.Data.fields #[]) #[])
noncomputable def hMo0o40 (P : Params) : Obj := (PySem.Obj.mk PySem.Value.none .none (PySem.Data.func (PySem.FuncData.mk (PySem.Str.ofString "int_in") (PySem.Str.ofString "int_in") (hFd P 42).params (hFd P 42).body (hFd P 42).scope 0 [] PySem.Value.none PySem.Value.none PySem.Value.none PySem.Value.none .none PySem.Value.none PySem.Value.none 0)) #[])
noncomputable def hMo0o44 (P : Params) : Obj := (PySem.Obj.mk PySem.Value.none .none (PySem.Data.fields #[]) #[])
noncomputable def hMo0o47 (P : Params) : Obj := (PySem.Obj.mk PySem.Value.none .none (PySem.Data.func (PySem.FuncData.mk (PySem.Str.ofString "int_out") (PySem.Str.ofString "int_out") (hFd P 49).params (hFd P 49).body (hFd P 49).scope 0 [] PySem.Value.none PySem.Value.none PySem.Value.none PySem.Value.none .none PySem.Value.none PySem.Value.none 0)) #[])
noncomputable def hMo0o51 (P : Params) : Obj := (PySem.Obj.mk PySem.Value.none .none (PySem.Data.fields #[]) #[])
noncomputable def hMo0o54 (P : Params) : Obj := (PySem.Obj.mk PySem.Value.none .none (PySem.Data.func (PySem.FuncData.mk (PySem.Str.ofString "null_out") (PySem.Str.ofString "null_out") (hFd P 56).params (hFd P 56).body (hFd P 56).scope 0 [] PySem.Value.none PySem.Value.none PySem.Value.none PySem.Value.none .none PySem.Value.none PySem.Value.none 0)) #[])
noncomputable def hMo0o58 (P : Params) : Obj := (PySem.Obj.mk PySem.Value.none .none (PySem.Data.fields #[]) #[])
noncomputable def hMo0o61 (P : Params) : Obj := (PySem.Obj.mk PySem.Value.none .none (PySem.Data.func (PySem.FuncData.mk (PySem.Str.ofString "range_out") (PySem.Str.ofString "range_out") (hFd P 63).params (hFd P 63).body (hFd P 63).scope 0 [] PySem.Value.none PySem.Value.none PySem.Value.none PySem.Value.none .none PySem.Value.none PySem.Value.none 0)) #[])
noncomputable def hMo0o65 (P : Params) : Obj := (PySem.Obj.mk PySem.Value.none .none (PySem.Data.fields #[]) #[])
noncomputable def hMo0o68 (P : Params) : Obj := (PySem.Obj.mk PySem.Value.none .none (PySem.Data.func (PySem.FuncData.mk (PySem.Str.ofString "string_out") (PySem.Str.ofString "string_out") (hFd P 70).params (hFd P 70).body (hFd P 70).scope 0 [] PySem.Value.none PySem.Value.none PySem.Value.none PySem.Value.none .none PySem.Value.none PySem.Value.none 0)) #[])
noncomputable def hMo0o72 (P : Params) : Obj := (PySem.Obj.mk (PySem.Value.type "tuple") .none (PySem.Data.seq #[] 0) #[])
noncomputable def hMo0o73 (P : Params) : Obj := (PySem.Obj.mk (PySem.Value.type "builtin_function_or_method") .none (PySem.Data.fields #[(PySem.Value.builtin "type.__prepare__"), (PySem.Value.type "type")]) #[])
noncomputable def hMo0o74 (P : Params) : Obj := (PySem.Obj.mk (PySem.Value.type "dict") .none (PySem.Data.dict #[(PySem.DictEntry.mk (PySem.PyData.keyHash P (PySem.Str.ofString "__module__")) (PySem.Value.str (PySem.Str.ofString "__module__") 264) (PySem.Value.str (PySem.Str.ofString "builtins") 269)), (PySem.DictEntry.mk (PySem.PyData.keyHash P (PySem.Str.ofString "__qualname__")) (PySem.Value.str (PySem.Str.ofString "__qualname__") 266) (PySem.Value.str (PySem.Str.ofString "mappingproxy") 265)), (PySem.DictEntry.mk (PySem.PyData.keyHash P (PySem.Str.ofString "__firstlineno__")) (PySem.Value.str (PySem.Str.ofString "__firstlineno__") 268) (PySem.Value.int (28 : Int) 267)), (PySem.DictEntry.mk (PySem.PyData.keyHash P (PySem.Str.ofString "__slots__")) (PySem.Value.str (PySem.Str.ofString "__slots__") 272) (PySem.Value.ref 79)), (PySem.DictEntry.mk (PySem.PyData.keyHash P (PySem.Str.ofString "__new__")) (PySem.Value.str (PySem.Str.ofString "__new__") 281) (PySem.Value.ref 86)), (PySem.DictEntry.mk (PySem.PyData.keyHash P (PySem.Str.ofString "__reduce_ex__")) (PySem.Value.str (PySem.Str.ofString "__reduce_ex__") 289) (PySem.Value.ref 93)), (PySem.DictEntry.mk (PySem.PyData.keyHash P (PySem.Str.ofString "__getitem__")) (PySem.Value.str (PySem.Str.ofString "__getitem__") 297) (PySem.Value.ref 100)), (PySem.DictEntry.mk (PySem.PyData.keyHash P (PySem.Str.ofString "__len__")) (PySem.Value.str (PySem.Str.ofString "__len__") 304) (PySem.Value.ref 107)), (PySem.DictEntry.mk (PySem.PyData.keyHash P (PySem.Str.ofString "__iter__")) (PySem.Value.str (PySem.Str.ofString "__iter__") 311) (PySem.Value.ref 114)), (PySem.DictEntry.mk (PySem.PyData.keyHash P (PySem.Str.ofString "__reversed__")) (PySem.Value.str (PySem.Str.ofString "__reversed__") 318) (PySem.Value.ref 121)), (PySem.DictEntry.mk (PySem.PyData.keyHash P (PySem.Str.ofString "__contains__")) (PySem.Value.str (PySem.Str.ofString "__contains__") 326) (PySem.Value.ref 128)), (PySem.DictEntry.mk (PySem.PyData.keyHash P (PySem.Str.ofString "__repr__")) (PySem.Value.str (PySem.Str.ofString "__repr__") 333) (PySem.Value.ref 135)), (PySem.DictEntry.mk (PySem.PyData.keyHash P (PySem.Str.ofString "__str__")) (PySem.Value.str (PySem.Str.ofString "__str__") 340) (PySem.Value.ref 142)), (PySem.DictEntry.mk (PySem.PyData.keyHash P (PySem.Str.ofString "__eq__")) (PySem.Value.str (PySem.Str.ofString "__eq__") 348) (PySem.Value.ref 149)), (PySem.DictEntry.mk (PySem.PyData.keyHash P (PySem.Str.ofString "__ne__")) (PySem.Value.str (PySem.Str.ofString "__ne__") 356) (PySem.Value.ref 156)), (PySem.DictEntry.mk (PySem.PyData.keyHash P (PySem.Str.ofString "__lt__")) (PySem.Value.str (PySem.Str.ofString "__lt__") 364) (PySem.Value.ref 163)), (PySem.DictEntry.mk (PySem.PyData.keyHash P (PySem.Str.ofString "__le__")) (PySem.Value.str (PySem.Str.ofString "__le__") 372) (PySem.Value.ref 170)), (PySem.DictEntry.mk (PySem.PyData.keyHash P (PySem.Str.ofString "__gt__")) (PySem.Value.str (PySem.Str.ofString "__gt__") 380) (PySem.Value.ref 177)), (PySem.DictEntry.mk (PySem.PyData.keyHash P (PySem.Str.ofString "__ge__")) (PySem.Value.str (PySem.Str.ofString "__ge__") 388) (PySem.Value.ref 184)), (PySem.DictEntry.mk (PySem.PyData.keyHash P (PySem.Str.ofString "__hash__")) (PySem.Value.str (PySem.Str.ofString "__hash__") 395) (PySem.Value.ref 191)), (PySem.DictEntry.mk (PySem.PyData.keyHash P (PySem.Str.ofString "__or__")) (PySem.Value.str (PySem.Str.ofString "__or__") 403) (PySem.Value.ref 198)), (PySem.DictEntry.mk (PySem.PyData.keyHash P (PySem.Str.ofString "__ror__")) (PySem.Value.str (PySem.Str.ofString "__ror__") 411) (PySem.Value.ref 205)), (PySem.DictEntry.mk (PySem.PyData.keyHash P (PySem.Str.ofString "__ior__")) (PySem.Value.str (PySem.Str.ofString "__ior__") 419) (PySem.Value.ref 212)), (PySem.DictEntry.mk (PySem.PyData.keyHash P (PySem.Str.ofString "get")) (PySem.Value.str (PySem.Str.ofString "get") 428) (PySem.Value.ref 220)), (PySem.DictEntry.mk (PySem.PyData.keyHash P (PySem.Str.ofString "keys")) (PySem.Value.str (PySem.Str.ofString "keys") 435) (PySem.Value.ref 227)), (PySem.DictEntry.mk (PySem.PyData.keyHash P (PySem.Str.ofString "values")) (PySem.Value.str (PySem.Str.ofString "values") 442) (PySem.Value.ref 234)), (PySem.DictEntry.mk (PySem.PyData.keyHash P (PySem.Str.ofString "items")) (PySem.Value.str (PySem.Str.ofString "items") 449) (PySem.Value.ref 241)), (PySem.DictEntry.mk (PySem.PyData.keyHash P (PySem.Str.ofString "copy")) (PySem.Value.str (PySem.Str.ofString "copy") 456) (PySem.Value.ref 248)), (PySem.DictEntry.mk (PySem.PyData.keyHash P (PySem.Str.ofString "__static_attributes__")) (PySem.Value.str (PySem.Str.ofString "__static_attributes__") 458) (PySem.Value.ref 249))] 29) #[])
noncomputable def hMo0o75 (P : Params) : Obj := (PySem.Obj.mk (PySem.Value.type "tuple") .none (PySem.Data.seq #[] 0) #[])
noncomputable def hMo0o76 (P : Params) : Obj := (PySem.Obj.mk PySem.Value.none .none (PySem.Data.fields #[(PySem.Value.int (32 : Int) 0), (PySem.Value.int (4 : Int) 0), (PySem.Value.ref 85), (PySem.Value.int (39 : Int) 0), (PySem.Value.int (4 : Int) 0), (PySem.Value.ref 92), (PySem.Value.int (42 : Int) 0), (PySem.Value.int (4 : Int) 0), (PySem.Value.ref 99), (PySem.Value.int (45 : Int) 0), (PySem.Value.int (4 : Int) 0), (PySem.Value.ref 106), (PySem.Value.int (48 : Int) 0), (PySem.Value.int (4 : Int) 0), (PySem.Value.ref 113), (PySem.Value.int (51 : Int) 0), (PySem.Value.int (4 : Int) 0), (PySem.Value.ref 120), (PySem.Value.int (54 : Int) 0), (PySem.Value.int (4 : Int) 0), (PySem.Value.ref 127), (PySem.Value.int (57 : Int) 0), (PySem.Value.int (4 : Int) 0), (PySem.Value.ref 134), (PySem.Value.int (60 : Int) 0), (PySem.Value.int (4 : Int) 0), (PySem.Value.ref 141), (PySem.Value.int (63 : Int) 0), (PySem.Value.int (4 : Int) 0), (PySem.Value.ref 148), (PySem.Value.int (66 : Int) 0), (PySem.Value.int (4 : Int) 0), (PySem.Value.ref 155), (PySem.Value.int (69 : Int) 0), (PySem.Value.int (4 : Int) 0), (PySem.Value.ref 162), (PySem.Value.int (72 : Int) 0), (PySem.Value.int (4 : Int) 0), (PySem.Value.ref 169), (PySem.Value.int (75 : Int) 0), (PySem.Value.int (4 : Int) 0), (PySem.Value.ref 176), (PySem.Value.int (78 : Int) 0), (PySem.Value.int (4 : Int) 0), (PySem.Value.ref 183), (PySem.Value.int (81 : Int) 0), (PySem.Value.int (4 : Int) 0), (PySem.Value.ref 190), (PySem.Value.int (84 : Int) 0), (PySem.Value.int (4 : Int) 0), (PySem.Value.ref 197), (PySem.Value.int (89 : Int) 0), (PySem.Value.int (4 : Int) 0), (PySem.Value.ref 204), (PySem.Value.int (92 : Int) 0), (PySem.Value.int (4 : Int) 0), (PySem.Value.ref 211), (PySem.Value.int (95 : Int) 0), (PySem.Value.int (4 : Int) 0), (PySem.Value.ref 219), (PySem.Value.int (98 : Int) 0), (PySem.Value.int (4 : Int) 0), (PySem.Value.ref 226), (PySem.Value.int (101 : Int) 0), (PySem.Value.int (4 : Int) 0), (PySem.Value.ref 233), (PySem.Value.int (104 : Int) 0), (PySem.Value.int (4 : Int) 0), (PySem.Value.ref 240), (PySem.Value.int (107 : Int) 0), (PySem.Value.int (4 : Int) 0), (PySem.Value.ref 247)]) #[])
noncomputable def hMo0o77 (P : Params) : Obj := (PySem.Obj.mk (PySem.Value.type "code") .none (PySem.Data.fields #[(PySem.Value.str (PySem.Str.ofString "mappingproxy") 259), (PySem.Value.str (PySem.Str.ofString "mappingproxy") 260), (PySem.Value.str (PySem.Str.ofString "/claim/cut.py") 261), (PySem.Value.int (28 : Int) 0), (PySem.Value.int (0 : Int) 0), (PySem.Value.int (0 : Int) 0), (PySem.Value.int (0 : Int) 0), (PySem.Value.int (0 : Int) 0), (PySem.Value.ref 75), (PySem.Value.bool Bool.false), (PySem.Value.int (181 : Int) 0), (PySem.Value.ref 76), PySem.Value.none, PySem.Value.none, PySem.Value.none, PySem.Value.none, (PySem.Value.int (262 : Int) 0), (PySem.Value.int (28 : Int) 0), (PySem.Value.str (PySem.Str.ofString "/claim/cut.py") 263)]) #[])
noncomputable def hMo0o78 (P : Params) : Obj := (PySem.Obj.mk (PySem.Value.type "frame") .none PySem.Data.plain #[(.some (PySem.Value.ref 77)), (.some (PySem.Value.ref 3)), (.some (PySem.Value.ref 74)), .none, (.some (PySem.Value.str (PySem.Str.ofString "enum") 249)), .none, (.some (PySem.Value.ref 0))])
noncomputable def hMo0o81 (P : Params) : Obj := (PySem.Obj.mk PySem.Value.none .none (PySem.Data.fields #[]) #[])
noncomputable def hMo0o84 (P : Params) : Obj := (PySem.Obj.mk PySem.Value.none .none (PySem.Data.func (PySem.FuncData.mk (PySem.Str.ofString "__new__") (PySem.Str.ofString "mappingproxy.__new__") (hFd P 86).params (hFd P 86).body (hFd P 86).scope 0 [] PySem.Value.none PySem.Value.none PySem.Value.none PySem.Value.none .none PySem.Value.none PySem.Value.none 0)) #[])
noncomputable def hMo0o88 (P : Params) : Obj := (PySem.Obj.mk PySem.Value.none .none (PySem.Data.fields #[]) #[])
noncomputable def hMo0o91 (P : Params) : Obj := (PySem.Obj.mk PySem.Value.none .none (PySem.Data.func (PySem.FuncData.mk (PySem.Str.ofString "__reduce_ex__") (PySem.Str.ofString "mappingproxy.__reduce_ex__") (hFd P 93).params (hFd P 93).body (hFd P 93).scope 0 [] PySem.Value.none PySem.Value.none PySem.Value.none PySem.Value.none .none PySem.Value.none PySem.Value.none 0)) #[])
noncomputable def hMo0o95 (P : Params) : Obj := (PySem.Obj.mk PySem.Value.none .none (PySem.Data.fields #[]) #[])
noncomputable def hMo0o98 (P : Params) : Obj := (PySem.Obj.mk PySem.Value.none .none (PySem.Data.func (PySem.FuncData.mk (PySem.Str.ofString "__getitem__") (PySem.Str.ofString "mappingproxy.__getitem__") (hFd P 100).params (hFd P 100).body (hFd P 100).scope 0 [] PySem.Value.none PySem.Value.none PySem.Value.none PySem.Value.none .none PySem.Value.none PySem.Value.none 0)) #[])
noncomputable def hMo0o102 (P : Params) : Obj := (PySem.Obj.mk PySem.Value.none .none (PySem.Data.fields #[]) #[])
noncomputable def hMo0o105 (P : Params) : Obj := (PySem.Obj.mk PySem.Value.none .none (PySem.Data.func (PySem.FuncData.mk (PySem.Str.ofString "__len__") (PySem.Str.ofString "mappingproxy.__len__") (hFd P 107).params (hFd P 107).body (hFd P 107).scope 0 [] PySem.Value.none PySem.Value.none PySem.Value.none PySem.Value.none .none PySem.Value.none PySem.Value.none 0)) #[])
noncomputable def hMo0o109 (P : Params) : Obj := (PySem.Obj.mk PySem.Value.none .none (PySem.Data.fields #[]) #[])
noncomputable def hMo0o112 (P : Params) : Obj := (PySem.Obj.mk PySem.Value.none .none (PySem.Data.func (PySem.FuncData.mk (PySem.Str.ofString "__iter__") (PySem.Str.ofString "mappingproxy.__iter__") (hFd P 114).params (hFd P 114).body (hFd P 114).scope 0 [] PySem.Value.none PySem.Value.none PySem.Value.none PySem.Value.none .none PySem.Value.none PySem.Value.none 0)) #[])
noncomputable def hMo0o116 (P : Params) : Obj := (PySem.Obj.mk PySem.Value.none .none (PySem.Data.fields #[]) #[])
noncomputable def hMo0o119 (P : Params) : Obj := (PySem.Obj.mk PySem.Value.none .none (PySem.Data.func (PySem.FuncData.mk (PySem.Str.ofString "__reversed__") (PySem.Str.ofString "mappingproxy.__reversed__") (hFd P 121).params (hFd P 121).body (hFd P 121).scope 0 [] PySem.Value.none PySem.Value.none PySem.Value.none PySem.Value.none .none PySem.Value.none PySem.Value.none 0)) #[])
noncomputable def hMo0o123 (P : Params) : Obj := (PySem.Obj.mk PySem.Value.none .none (PySem.Data.fields #[]) #[])
noncomputable def hMo0o126 (P : Params) : Obj := (PySem.Obj.mk PySem.Value.none .none (PySem.Data.func (PySem.FuncData.mk (PySem.Str.ofString "__contains__") (PySem.Str.ofString "mappingproxy.__contains__") (hFd P 128).params (hFd P 128).body (hFd P 128).scope 0 [] PySem.Value.none PySem.Value.none PySem.Value.none PySem.Value.none .none PySem.Value.none PySem.Value.none 0)) #[])
noncomputable def hMo0o130 (P : Params) : Obj := (PySem.Obj.mk PySem.Value.none .none (PySem.Data.fields #[]) #[])
noncomputable def hMo0o133 (P : Params) : Obj := (PySem.Obj.mk PySem.Value.none .none (PySem.Data.func (PySem.FuncData.mk (PySem.Str.ofString "__repr__") (PySem.Str.ofString "mappingproxy.__repr__") (hFd P 135).params (hFd P 135).body (hFd P 135).scope 0 [] PySem.Value.none PySem.Value.none PySem.Value.none PySem.Value.none .none PySem.Value.none PySem.Value.none 0)) #[])
noncomputable def hMo0o137 (P : Params) : Obj := (PySem.Obj.mk PySem.Value.none .none (PySem.Data.fields #[]) #[])
noncomputable def hMo0o140 (P : Params) : Obj := (PySem.Obj.mk PySem.Value.none .none (PySem.Data.func (PySem.FuncData.mk (PySem.Str.ofString "__str__") (PySem.Str.ofString "mappingproxy.__str__") (hFd P 142).params (hFd P 142).body (hFd P 142).scope 0 [] PySem.Value.none PySem.Value.none PySem.Value.none PySem.Value.none .none PySem.Value.none PySem.Value.none 0)) #[])
noncomputable def hMo0o144 (P : Params) : Obj := (PySem.Obj.mk PySem.Value.none .none (PySem.Data.fields #[]) #[])
noncomputable def hMo0o147 (P : Params) : Obj := (PySem.Obj.mk PySem.Value.none .none (PySem.Data.func (PySem.FuncData.mk (PySem.Str.ofString "__eq__") (PySem.Str.ofString "mappingproxy.__eq__") (hFd P 149).params (hFd P 149).body (hFd P 149).scope 0 [] PySem.Value.none PySem.Value.none PySem.Value.none PySem.Value.none .none PySem.Value.none PySem.Value.none 0)) #[])
noncomputable def hMo0o151 (P : Params) : Obj := (PySem.Obj.mk PySem.Value.none .none (PySem.Data.fields #[]) #[])
noncomputable def hMo0o154 (P : Params) : Obj := (PySem.Obj.mk PySem.Value.none .none (PySem.Data.func (PySem.FuncData.mk (PySem.Str.ofString "__ne__") (PySem.Str.ofString "mappingproxy.__ne__") (hFd P 156).params (hFd P 156).body (hFd P 156).scope 0 [] PySem.Value.none PySem.Value.none PySem.Value.none PySem.Value.none .none PySem.Value.none PySem.Value.none 0)) #[])
noncomputable def hMo0o158 (P : Params) : Obj := (PySem.Obj.mk PySem.Value.none .none (PySem.Data.fields #[]) #[])
noncomputable def hMo0o161 (P : Params) : Obj := (PySem.Obj.mk PySem.Value.none .none (PySem.Data.func (PySem.FuncData.mk (PySem.Str.ofString "__lt__") (PySem.Str.ofString "mappingproxy.__lt__") (hFd P 163).params (hFd P 163).body (hFd P 163).scope 0 [] PySem.Value.none PySem.Value.none PySem.Value.none PySem.Value.none .none PySem.Value.none PySem.Value.none 0)) #[])
noncomputable def hMo0o165 (P : Params) : Obj := (PySem.Obj.mk PySem.Value.none .none (PySem.Data.fields #[]) #[])
noncomputable def hMo0o168 (P : Params) : Obj := (PySem.Obj.mk PySem.Value.none .none (PySem.Data.func (PySem.FuncData.mk (PySem.Str.ofString "__le__") (PySem.Str.ofString "mappingproxy.__le__") (hFd P 170).params (hFd P 170).body (hFd P 170).scope 0 [] PySem.Value.none PySem.Value.none PySem.Value.none PySem.Value.none .none PySem.Value.none PySem.Value.none 0)) #[])
noncomputable def hMo0o172 (P : Params) : Obj := (PySem.Obj.mk PySem.Value.none .none (PySem.Data.fields #[]) #[])
noncomputable def hMo0o175 (P : Params) : Obj := (PySem.Obj.mk PySem.Value.none .none (PySem.Data.func (PySem.FuncData.mk (PySem.Str.ofString "__gt__") (PySem.Str.ofString "mappingproxy.__gt__") (hFd P 177).params (hFd P 177).body (hFd P 177).scope 0 [] PySem.Value.none PySem.Value.none PySem.Value.none PySem.Value.none .none PySem.Value.none PySem.Value.none 0)) #[])
noncomputable def hMo0o179 (P : Params) : Obj := (PySem.Obj.mk PySem.Value.none .none (PySem.Data.fields #[]) #[])
noncomputable def hMo0o182 (P : Params) : Obj := (PySem.Obj.mk PySem.Value.none .none (PySem.Data.func (PySem.FuncData.mk (PySem.Str.ofString "__ge__") (PySem.Str.ofString "mappingproxy.__ge__") (hFd P 184).params (hFd P 184).body (hFd P 184).scope 0 [] PySem.Value.none PySem.Value.none PySem.Value.none PySem.Value.none .none PySem.Value.none PySem.Value.none 0)) #[])
noncomputable def hMo0o186 (P : Params) : Obj := (PySem.Obj.mk PySem.Value.none .none (PySem.Data.fields #[]) #[])
noncomputable def hMo0o189 (P : Params) : Obj := (PySem.Obj.mk PySem.Value.none .none (PySem.Data.func (PySem.FuncData.mk (PySem.Str.ofString "__hash__") (PySem.Str.ofString "mappingproxy.__hash__") (hFd P 191).params (hFd P 191).body (hFd P 191).scope 0 [] PySem.Value.none PySem.Value.none PySem.Value.none PySem.Value.none .none PySem.Value.none PySem.Value.none 0)) #[])
noncomputable def hMo0o193 (P : Params) : Obj := (PySem.Obj.mk PySem.Value.none .none (PySem.Data.fields #[]) #[])
noncomputable def hMo0o196 (P : Params) : Obj := (PySem.Obj.mk PySem.Value.none .none (PySem.Data.func (PySem.FuncData.mk (PySem.Str.ofString "__or__") (PySem.Str.ofString "mappingproxy.__or__") (hFd P 198).params (hFd P 198).body (hFd P 198).scope 0 [] PySem.Value.none PySem.Value.none PySem.Value.none PySem.Value.none .none PySem.Value.none PySem.Value.none 0)) #[])
noncomputable def hMo0o200 (P : Params) : Obj := (PySem.Obj.mk PySem.Value.none .none (PySem.Data.fields #[]) #[])
noncomputable def hMo0o203 (P : Params) : Obj := (PySem.Obj.mk PySem.Value.none .none (PySem.Data.func (PySem.FuncData.mk (PySem.Str.ofString "__ror__") (PySem.Str.ofString "mappingproxy.__ror__") (hFd P 205).params (hFd P 205).body (hFd P 205).scope 0 [] PySem.Value.none PySem.Value.none PySem.Value.none PySem.Value.none .none PySem.Value.none PySem.Value.none 0)) #[])
noncomputable def hMo0o207 (P : Params) : Obj := (PySem.Obj.mk PySem.Value.none .none (PySem.Data.fields #[]) #[])
noncomputable def hMo0o210 (P : Params) : Obj := (PySem.Obj.mk PySem.Value.none .none (PySem.Data.func (PySem.FuncData.mk (PySem.Str.ofString "__ior__") (PySem.Str.ofString "mappingproxy.__ior__") (hFd P 212).params (hFd P 212).body (hFd P 212).scope 0 [] PySem.Value.none PySem.Value.none PySem.Value.none PySem.Value.none .none PySem.Value.none PySem.Value.none 0)) #[])
noncomputable def hMo0o215 (P : Params) : Obj := (PySem.Obj.mk PySem.Value.none .none (PySem.Data.fields #[]) #[])
noncomputable def hMo0o218 (P : Params) : Obj := (PySem.Obj.mk PySem.Value.none .none (PySem.Data.func (PySem.FuncData.mk (PySem.Str.ofString "get") (PySem.Str.ofString "mappingproxy.get") (hFd P 220).params (hFd P 220).body (hFd P 220).scope 0 [] PySem.Value.none PySem.Value.none PySem.Value.none PySem.Value.none .none PySem.Value.none PySem.Value.none 0)) #[])
noncomputable def hMo0o222 (P : Params) : Obj := (PySem.Obj.mk PySem.Value.none .none (PySem.Data.fields #[]) #[])
noncomputable def hMo0o225 (P : Params) : Obj := (PySem.Obj.mk PySem.Value.none .none (PySem.Data.func (PySem.FuncData.mk (PySem.Str.ofString "keys") (PySem.Str.ofString "mappingproxy.keys") (hFd P 227).params (hFd P 227).body (hFd P 227).scope 0 [] PySem.Value.none PySem.Value.none PySem.Value.none PySem.Value.none .none PySem.Value.none PySem.Value.none 0)) #[])
noncomputable def hMo0o229 (P : Params) : Obj := (PySem.Obj.mk PySem.Value.none .none (PySem.Data.fields #[]) #[])
noncomputable def hMo0o232 (P : Params) : Obj := (PySem.Obj.mk PySem.Value.none .none (PySem.Data.func (PySem.FuncData.mk (PySem.Str.ofString "values") (PySem.Str.ofString "mappingproxy.values") (hFd P 234).params (hFd P 234).body (hFd P 234).scope 0 [] PySem.Value.none PySem.Value.none PySem.Value.none PySem.Value.none .none PySem.Value.none PySem.Value.none 0)) #[])
noncomputable def hMo0o236 (P : Params) : Obj := (PySem.Obj.mk PySem.Value.none .none (PySem.Data.fields #[]) #[])
noncomputable def hMo0o239 (P : Params) : Obj := (PySem.Obj.mk PySem.Value.none .none (PySem.Data.func (PySem.FuncData.mk (PySem.Str.ofString "items") (PySem.Str.ofString "mappingproxy.items") (hFd P 241).params (hFd P 241).body (hFd P 241).scope 0 [] PySem.Value.none PySem.Value.none PySem.Value.none PySem.Value.none .none PySem.Value.none PySem.Value.none 0)) #[])
noncomputable def hMo0o243 (P : Params) : Obj := (PySem.Obj.mk PySem.Value.none .none (PySem.Data.fields #[]) #[])
noncomputable def hMo0o246 (P : Params) : Obj := (PySem.Obj.mk PySem.Value.none .none (PySem.Data.func (PySem.FuncData.mk (PySem.Str.ofString "copy") (PySem.Str.ofString "mappingproxy.copy") (hFd P 248).params (hFd P 248).body (hFd P 248).scope 0 [] PySem.Value.none PySem.Value.none PySem.Value.none PySem.Value.none .none PySem.Value.none PySem.Value.none 0)) #[])
noncomputable def hMo0o250 (P : Params) : Obj := (PySem.Obj.mk (PySem.Value.type "list") .none (PySem.Data.seq #[(PySem.Value.str (PySem.Str.ofString "_mapping") 271)] 1) #[])
noncomputable def hMo0o255 (P : Params) : Obj := (PySem.Obj.mk (PySem.Value.type "super") .none (PySem.Data.fields #[(PySem.Value.ref 252), (PySem.Value.ref 252), (PySem.Value.ref 252)]) #[])
noncomputable def hMo0o256 (P : Params) : Obj := (PySem.Obj.mk (PySem.Value.type "builtin_function_or_method") .none (PySem.Data.fields #[(PySem.Value.builtin "object.__init_subclass__"), (PySem.Value.ref 252)]) #[])
noncomputable def hMo0o258 (P : Params) : Obj := (PySem.Obj.mk (PySem.Value.type "builtin_function_or_method") .none (PySem.Data.fields #[(PySem.Value.builtin "type.__prepare__"), (PySem.Value.type "type")]) #[])
noncomputable def hMo0o259 (P : Params) : Obj := (PySem.Obj.mk (PySem.Value.type "dict") .none (PySem.Data.dict #[(PySem.DictEntry.mk (PySem.PyData.keyHash P (PySem.Str.ofString "__module__")) (PySem.Value.str (PySem.Str.ofString "__module__") 473) (PySem.Value.str (PySem.Str.ofString "enum") 478)), (PySem.DictEntry.mk (PySem.PyData.keyHash P (PySem.Str.ofString "__qualname__")) (PySem.Value.str (PySem.Str.ofString "__qualname__") 475) (PySem.Value.str (PySem.Str.ofString "EnumType") 474)), (PySem.DictEntry.mk (PySem.PyData.keyHash P (PySem.Str.ofString "__firstlineno__")) (PySem.Value.str (PySem.Str.ofString "__firstlineno__") 477) (PySem.Value.int (110 : Int) 476)), (PySem.DictEntry.mk (PySem.PyData.keyHash P (PySem.Str.ofString "_written_out_")) (PySem.Value.str (PySem.Str.ofString "_written_out_") 481) (PySem.Value.int (0 : Int) 480)), (PySem.DictEntry.mk (PySem.PyData.keyHash P (PySem.Str.ofString "__new__")) (PySem.Value.str (PySem.Str.ofString "__new__") 494) (PySem.Value.ref 272)), (PySem.DictEntry.mk (PySem.PyData.keyHash P (PySem.Str.ofString "_planted_")) (PySem.Value.str (PySem.Str.ofString "_planted_") 503) (PySem.Value.ref 279)), (PySem.DictEntry.mk (PySem.PyData.keyHash P (PySem.Str.ofString "_planted_at_")) (PySem.Value.str (PySem.Str.ofString "_planted_at_") 510) (PySem.Value.ref 286)), (PySem.DictEntry.mk (PySem.PyData.keyHash P (PySem.Str.ofString "_held_value_")) (PySem.Value.str (PySem.Str.ofString "_held_value_") 520) (PySem.Value.ref 293)), (PySem.DictEntry.mk (PySem.PyData.keyHash P (PySem.Str.ofString "_canonical_")) (PySem.Value.str (PySem.Str.ofString "_canonical_") 530) (PySem.Value.ref 300)), (PySem.DictEntry.mk (PySem.PyData.keyHash P (PySem.Str.ofString "_book_value_")) (PySem.Value.str (PySem.Str.ofString "_book_value_") 540) (PySem.Value.ref 307)), (PySem.DictEntry.mk (PySem.PyData.keyHash P (PySem.Str.ofString "_mixed_")) (PySem.Value.str (PySem.Str.ofString "_mixed_") 548) (PySem.Value.ref 314)), (PySem.DictEntry.mk (PySem.PyData.keyHash P (PySem.Str.ofString "_held_def_")) (PySem.Value.str (PySem.Str.ofString "_held_def_") 557) (PySem.Value.ref 321)), (PySem.DictEntry.mk (PySem.PyData.keyHash P (PySem.Str.ofString "_closed_")) (PySem.Value.str (PySem.Str.ofString "_closed_") 564) (PySem.Value.ref 328)), (PySem.DictEntry.mk (PySem.PyData.keyHash P (PySem.Str.ofString "_held_auto_")) (PySem.Value.str (PySem.Str.ofString "_held_auto_") 573) (PySem.Value.ref 335)), (PySem.DictEntry.mk (PySem.PyData.keyHash P (PySem.Str.ofString "_unique_")) (PySem.Value.str (PySem.Str.ofString "_unique_") 580) (PySem.Value.ref 342)), (PySem.DictEntry.mk (PySem.PyData.keyHash P (PySem.Str.ofString "_close_")) (PySem.Value.str (PySem.Str.ofString "_close_") 587) (PySem.Value.ref 349)), (PySem.DictEntry.mk (PySem.PyData.keyHash P (PySem.Str.ofString "_expect_")) (PySem.Value.str (PySem.Str.ofString "_expect_") 595) (PySem.Value.ref 356)), (PySem.DictEntry.mk (PySem.PyData.keyHash P (PySem.Str.ofString "_value_of_")) (PySem.Value.str (PySem.Str.ofString "_value_of_") 604) (PySem.Value.ref 363)), (PySem.DictEntry.mk (PySem.PyData.keyHash P (PySem.Str.ofString "_args_of_")) (PySem.Value.str (PySem.Str.ofString "_args_of_") 612) (PySem.Value.ref 370)), (PySem.DictEntry.mk (PySem.PyData.keyHash P (PySem.Str.ofString "__bool__")) (PySem.Value.str (PySem.Str.ofString "__bool__") 619) (PySem.Value.ref 377)), (PySem.DictEntry.mk (PySem.PyData.keyHash P (PySem.Str.ofString "__call__")) (PySem.Value.str (PySem.Str.ofString "__call__") 628) (PySem.Value.ref 384)), (PySem.DictEntry.mk (PySem.PyData.keyHash P (PySem.Str.ofString "__contains__")) (PySem.Value.str (PySem.Str.ofString "__contains__") 637) (PySem.Value.ref 391)), (PySem.DictEntry.mk (PySem.PyData.keyHash P (PySem.Str.ofString "__getitem__")) (PySem.Value.str (PySem.Str.ofString "__getitem__") 645) (PySem.Value.ref 398)), (PySem.DictEntry.mk (PySem.PyData.keyHash P (PySem.Str.ofString "__iter__")) (PySem.Value.str (PySem.Str.ofString "__iter__") 653) (PySem.Value.ref 405)), (PySem.DictEntry.mk (PySem.PyData.keyHash P (PySem.Str.ofString "__len__")) (PySem.Value.str (PySem.Str.ofString "__len__") 660) (PySem.Value.ref 412)), (PySem.DictEntry.mk (PySem.PyData.keyHash P (PySem.Str.ofString "__members__")) (PySem.Value.str (PySem.Str.ofString "__members__") 668) (PySem.Value.ref 420)), (PySem.DictEntry.mk (PySem.PyData.keyHash P (PySem.Str.ofString "__repr__")) (PySem.Value.str (PySem.Str.ofString "__repr__") 675) (PySem.Value.ref 427)), (PySem.DictEntry.mk (PySem.PyData.keyHash P (PySem.Str.ofString "__reversed__")) (PySem.Value.str (PySem.Str.ofString "__reversed__") 683) (PySem.Value.ref 434)), (PySem.DictEntry.mk (PySem.PyData.keyHash P (PySem.Str.ofString "__setattr__")) (PySem.Value.str (PySem.Str.ofString "__setattr__") 693) (PySem.Value.ref 442)), (PySem.DictEntry.mk (PySem.PyData.keyHash P (PySem.Str.ofString "__delattr__")) (PySem.Value.str (PySem.Str.ofString "__delattr__") 702) (PySem.Value.ref 450)), (PySem.DictEntry.mk (PySem.PyData.keyHash P (PySem.Str.ofString "_store_")) (PySem.Value.str (PySem.Str.ofString "_store_") 712) (PySem.Value.ref 458)), (PySem.DictEntry.mk (PySem.PyData.keyHash P (PySem.Str.ofString "__dir__")) (PySem.Value.str (PySem.Str.ofString "__dir__") 719) (PySem.Value.ref 465)), (PySem.DictEntry.mk (PySem.PyData.keyHash P (PySem.Str.ofString "__static_attributes__")) (PySem.Value.str (PySem.Str.ofString "__static_attributes__") 720) (PySem.Value.ref 466)), (PySem.DictEntry.mk (PySem.PyData.keyHash P (PySem.Str.ofString "__classcell__")) (PySem.Value.str (PySem.Str.ofString "__classcell__") 721) (PySem.Value.ref 260))] 34) #[])
noncomputable def hMo0o261 (P : Params) : Obj := (PySem.Obj.mk (PySem.Value.type "tuple") .none (PySem.Data.seq #[] 0) #[])
noncomputable def hMo0o262 (P : Params) : Obj := (PySem.Obj.mk PySem.Value.none .none (PySem.Data.fields #[(PySem.Value.int (114 : Int) 0), (PySem.Value.int (4 : Int) 0), (PySem.Value.ref 271), (PySem.Value.int (123 : Int) 0), (PySem.Value.int (4 : Int) 0), (PySem.Value.ref 278), (PySem.Value.int (135 : Int) 0), (PySem.Value.int (4 : Int) 0), (PySem.Value.ref 285), (PySem.Value.int (138 : Int) 0), (PySem.Value.int (4 : Int) 0), (PySem.Value.ref 292), (PySem.Value.int (141 : Int) 0), (PySem.Value.int (4 : Int) 0), (PySem.Value.ref 299), (PySem.Value.int (144 : Int) 0), (PySem.Value.int (4 : Int) 0), (PySem.Value.ref 306), (PySem.Value.int (147 : Int) 0), (PySem.Value.int (4 : Int) 0), (PySem.Value.ref 313), (PySem.Value.int (150 : Int) 0), (PySem.Value.int (4 : Int) 0), (PySem.Value.ref 320), (PySem.Value.int (153 : Int) 0), (PySem.Value.int (4 : Int) 0), (PySem.Value.ref 327), (PySem.Value.int (156 : Int) 0), (PySem.Value.int (4 : Int) 0), (PySem.Value.ref 334), (PySem.Value.int (159 : Int) 0), (PySem.Value.int (4 : Int) 0), (PySem.Value.ref 341), (PySem.Value.int (162 : Int) 0), (PySem.Value.int (4 : Int) 0), (PySem.Value.ref 348), (PySem.Value.int (165 : Int) 0), (PySem.Value.int (4 : Int) 0), (PySem.Value.ref 355), (PySem.Value.int (168 : Int) 0), (PySem.Value.int (4 : Int) 0), (PySem.Value.ref 362), (PySem.Value.int (171 : Int) 0), (PySem.Value.int (4 : Int) 0), (PySem.Value.ref 369), (PySem.Value.int (174 : Int) 0), (PySem.Value.int (4 : Int) 0), (PySem.Value.ref 376), (PySem.Value.int (177 : Int) 0), (PySem.Value.int (4 : Int) 0), (PySem.Value.ref 383), (PySem.Value.int (190 : Int) 0), (PySem.Value.int (4 : Int) 0), (PySem.Value.ref 390), (PySem.Value.int (201 : Int) 0), (PySem.Value.int (4 : Int) 0), (PySem.Value.ref 397), (PySem.Value.int (204 : Int) 0), (PySem.Value.int (4 : Int) 0), (PySem.Value.ref 404), (PySem.Value.int (207 : Int) 0), (PySem.Value.int (4 : Int) 0), (PySem.Value.ref 411), (PySem.Value.int (211 : Int) 0), (PySem.Value.int (4 : Int) 0), (PySem.Value.ref 418), (PySem.Value.int (214 : Int) 0), (PySem.Value.int (4 : Int) 0), (PySem.Value.ref 426), (PySem.Value.int (220 : Int) 0), (PySem.Value.int (4 : Int) 0), (PySem.Value.ref 433), (PySem.Value.int (223 : Int) 0), (PySem.Value.int (4 : Int) 0), (PySem.Value.ref 441), (PySem.Value.int (230 : Int) 0), (PySem.Value.int (4 : Int) 0), (PySem.Value.ref 449), (PySem.Value.int (235 : Int) 0), (PySem.Value.int (4 : Int) 0), (PySem.Value.ref 457), (PySem.Value.int (238 : Int) 0), (PySem.Value.int (4 : Int) 0), (PySem.Value.ref 464)]) #[])
noncomputable def hMo0o263 (P : Params) : Obj := (PySem.Obj.mk (PySem.Value.type "code") .none (PySem.Data.fields #[(PySem.Value.str (PySem.Str.ofString "EnumType") 468), (PySem.Value.str (PySem.Str.ofString "EnumType") 469), (PySem.Value.str (PySem.Str.ofString "/claim/cut.py") 470), (PySem.Value.int (110 : Int) 0), (PySem.Value.int (0 : Int) 0), (PySem.Value.int (0 : Int) 0), (PySem.Value.int (0 : Int) 0), (PySem.Value.int (0 : Int) 0), (PySem.Value.ref 261), (PySem.Value.bool Bool.false), (PySem.Value.int (181 : Int) 0), (PySem.Value.ref 262), PySem.Value.none, PySem.Value.none, PySem.Value.none, PySem.Value.none, (PySem.Value.int (471 : Int) 0), (PySem.Value.int (110 : Int) 0), (PySem.Value.str (PySem.Str.ofString "/claim/cut.py") 472)]) #[])
noncomputable def hMo0o264 (P : Params) : Obj := (PySem.Obj.mk (PySem.Value.type "frame") .none PySem.Data.plain #[(.some (PySem.Value.ref 263)), (.some (PySem.Value.ref 3)), (.some (PySem.Value.ref 259)), .none, (.some (PySem.Value.str (PySem.Str.ofString "enum") 249)), .none, (.some (PySem.Value.ref 0))])
noncomputable def hMo0o267 (P : Params) : Obj := (PySem.Obj.mk PySem.Value.none .none (PySem.Data.fields #[]) #[])
noncomputable def hMo0o270 (P : Params) : Obj := (PySem.Obj.mk PySem.Value.none .none (PySem.Data.func (PySem.FuncData.mk (PySem.Str.ofString "__new__") (PySem.Str.ofString "EnumType.__new__") (hFd P 272).params (hFd P 272).body (hFd P 272).scope 0 [] PySem.Value.none PySem.Value.none PySem.Value.none PySem.Value.none .none PySem.Value.none PySem.Value.none 0)) #[])
noncomputable def hMo0o274 (P : Params) : Obj := (PySem.Obj.mk PySem.Value.none .none (PySem.Data.fields #[]) #[])
noncomputable def hMo0o277 (P : Params) : Obj := (PySem.Obj.mk PySem.Value.none .none (PySem.Data.func (PySem.FuncData.mk (PySem.Str.ofString "_planted_") (PySem.Str.ofString "EnumType._planted_") (hFd P 279).params (hFd P 279).body (hFd P 279).scope 0 [] PySem.Value.none PySem.Value.none PySem.Value.none PySem.Value.none .none PySem.Value.none PySem.Value.none 0)) #[])
noncomputable def hMo0o281 (P : Params) : Obj := (PySem.Obj.mk PySem.Value.none .none (PySem.Data.fields #[]) #[])
noncomputable def hMo0o284 (P : Params) : Obj := (PySem.Obj.mk PySem.Value.none .none (PySem.Data.func (PySem.FuncData.mk (PySem.Str.ofString "_planted_at_") (PySem.Str.ofString "EnumType._planted_at_") (hFd P 286).params (hFd P 286).body (hFd P 286).scope 0 [] PySem.Value.none PySem.Value.none PySem.Value.none PySem.Value.none .none PySem.Value.none PySem.Value.none 0)) #[])
noncomputable def hMo0o288 (P : Params) : Obj := (PySem.Obj.mk PySem.Value.none .none (PySem.Data.fields #[]) #[])
noncomputable def hMo0o291 (P : Params) : Obj := (PySem.Obj.mk PySem.Value.none .none (PySem.Data.func (PySem.FuncData.mk (PySem.Str.ofString "_held_value_") (PySem.Str.ofString "EnumType._held_value_") (hFd P 293).params (hFd P 293).body (hFd P 293).scope 0 [] PySem.Value.none PySem.Value.none PySem.Value.none PySem.Value.none .none PySem.Value.none PySem.Value.none 0)) #[])
noncomputable def hMo0o295 (P : Params) : Obj := (PySem.Obj.mk PySem.Value.none .none (PySem.Data.fields #[]) #[])
noncomputable def hMo0o298 (P : Params) : Obj := (PySem.Obj.mk PySem.Value.none .none (PySem.Data.func (PySem.FuncData.mk (PySem.Str.ofString "_canonical_") (PySem.Str.ofString "EnumType._canonical_") (hFd P 300).params (hFd P 300).body (hFd P 300).scope 0 [] PySem.Value.none PySem.Value.none PySem.Value.none PySem.Value.none .none PySem.Value.none PySem.Value.none 0)) #[])
noncomputable def hMo0o302 (P : Params) : Obj := (PySem.Obj.mk PySem.Value.none .none (PySem.Data.fields #[]) #[])
noncomputable def hMo0o305 (P : Params) : Obj := (PySem.Obj.mk PySem.Value.none .none (PySem.Data.func (PySem.FuncData.mk (PySem.Str.ofString "_book_value_") (PySem.Str.ofString "EnumType._book_value_") (hFd P 307).params (hFd P 307).body (hFd P 307).scope 0 [] PySem.Value.none PySem.Value.none PySem.Value.none PySem.Value.none .none PySem.Value.none PySem.Value.none 0)) #[])
noncomputable def hMo0o309 (P : Params) : Obj := (PySem.Obj.mk PySem.Value.none .none (PySem.Data.fields #[]) #[])
noncomputable def hMo0o312 (P : Params) : Obj := (PySem.Obj.mk PySem.Value.none .none (PySem.Data.func (PySem.FuncData.mk (PySem.Str.ofString "_mixed_") (PySem.Str.ofString "EnumType._mixed_") (hFd P 314).params (hFd P 314).body (hFd P 314).scope 0 [] PySem.Value.none PySem.Value.none PySem.Value.none PySem.Value.none .none PySem.Value.none PySem.Value.none 0)) #[])
noncomputable def hMo0o316 (P : Params) : Obj := (PySem.Obj.mk PySem.Value.none .none (PySem.Data.fields #[]) #[])
noncomputable def hMo0o319 (P : Params) : Obj := (PySem.Obj.mk PySem.Value.none .none (PySem.Data.func (PySem.FuncData.mk (PySem.Str.ofString "_held_def_") (PySem.Str.ofString "EnumType._held_def_") (hFd P 321).params (hFd P 321).body (hFd P 321).scope 0 [] PySem.Value.none PySem.Value.none PySem.Value.none PySem.Value.none .none PySem.Value.none PySem.Value.none 0)) #[])
noncomputable def hMo0o323 (P : Params) : Obj := (PySem.Obj.mk PySem.Value.none .none (PySem.Data.fields #[]) #[])
noncomputable def hMo0o326 (P : Params) : Obj := (PySem.Obj.mk PySem.Value.none .none (PySem.Data.func (PySem.FuncData.mk (PySem.Str.ofString "_closed_") (PySem.Str.ofString "EnumType._closed_") (hFd P 328).params (hFd P 328).body (hFd P 328).scope 0 [] PySem.Value.none PySem.Value.none PySem.Value.none PySem.Value.none .none PySem.Value.none PySem.Value.none 0)) #[])
noncomputable def hMo0o330 (P : Params) : Obj := (PySem.Obj.mk PySem.Value.none .none (PySem.Data.fields #[]) #[])
noncomputable def hMo0o333 (P : Params) : Obj := (PySem.Obj.mk PySem.Value.none .none (PySem.Data.func (PySem.FuncData.mk (PySem.Str.ofString "_held_auto_") (PySem.Str.ofString "EnumType._held_auto_") (hFd P 335).params (hFd P 335).body (hFd P 335).scope 0 [] PySem.Value.none PySem.Value.none PySem.Value.none PySem.Value.none .none PySem.Value.none PySem.Value.none 0)) #[])
noncomputable def hMo0o337 (P : Params) : Obj := (PySem.Obj.mk PySem.Value.none .none (PySem.Data.fields #[]) #[])
noncomputable def hMo0o340 (P : Params) : Obj := (PySem.Obj.mk PySem.Value.none .none (PySem.Data.func (PySem.FuncData.mk (PySem.Str.ofString "_unique_") (PySem.Str.ofString "EnumType._unique_") (hFd P 342).params (hFd P 342).body (hFd P 342).scope 0 [] PySem.Value.none PySem.Value.none PySem.Value.none PySem.Value.none .none PySem.Value.none PySem.Value.none 0)) #[])
noncomputable def hMo0o344 (P : Params) : Obj := (PySem.Obj.mk PySem.Value.none .none (PySem.Data.fields #[]) #[])
noncomputable def hMo0o347 (P : Params) : Obj := (PySem.Obj.mk PySem.Value.none .none (PySem.Data.func (PySem.FuncData.mk (PySem.Str.ofString "_close_") (PySem.Str.ofString "EnumType._close_") (hFd P 349).params (hFd P 349).body (hFd P 349).scope 0 [] PySem.Value.none PySem.Value.none PySem.Value.none PySem.Value.none .none PySem.Value.none PySem.Value.none 0)) #[])
noncomputable def hMo0o351 (P : Params) : Obj := (PySem.Obj.mk PySem.Value.none .none (PySem.Data.fields #[]) #[])
noncomputable def hMo0o354 (P : Params) : Obj := (PySem.Obj.mk PySem.Value.none .none (PySem.Data.func (PySem.FuncData.mk (PySem.Str.ofString "_expect_") (PySem.Str.ofString "EnumType._expect_") (hFd P 356).params (hFd P 356).body (hFd P 356).scope 0 [] PySem.Value.none PySem.Value.none PySem.Value.none PySem.Value.none .none PySem.Value.none PySem.Value.none 0)) #[])
noncomputable def hMo0o358 (P : Params) : Obj := (PySem.Obj.mk PySem.Value.none .none (PySem.Data.fields #[]) #[])
noncomputable def hMo0o361 (P : Params) : Obj := (PySem.Obj.mk PySem.Value.none .none (PySem.Data.func (PySem.FuncData.mk (PySem.Str.ofString "_value_of_") (PySem.Str.ofString "EnumType._value_of_") (hFd P 363).params (hFd P 363).body (hFd P 363).scope 0 [] PySem.Value.none PySem.Value.none PySem.Value.none PySem.Value.none .none PySem.Value.none PySem.Value.none 0)) #[])
noncomputable def hMo0o365 (P : Params) : Obj := (PySem.Obj.mk PySem.Value.none .none (PySem.Data.fields #[]) #[])
noncomputable def hMo0o368 (P : Params) : Obj := (PySem.Obj.mk PySem.Value.none .none (PySem.Data.func (PySem.FuncData.mk (PySem.Str.ofString "_args_of_") (PySem.Str.ofString "EnumType._args_of_") (hFd P 370).params (hFd P 370).body (hFd P 370).scope 0 [] PySem.Value.none PySem.Value.none PySem.Value.none PySem.Value.none .none PySem.Value.none PySem.Value.none 0)) #[])
noncomputable def hMo0o372 (P : Params) : Obj := (PySem.Obj.mk PySem.Value.none .none (PySem.Data.fields #[]) #[])
noncomputable def hMo0o375 (P : Params) : Obj := (PySem.Obj.mk PySem.Value.none .none (PySem.Data.func (PySem.FuncData.mk (PySem.Str.ofString "__bool__") (PySem.Str.ofString "EnumType.__bool__") (hFd P 377).params (hFd P 377).body (hFd P 377).scope 0 [] PySem.Value.none PySem.Value.none PySem.Value.none PySem.Value.none .none PySem.Value.none PySem.Value.none 0)) #[])
noncomputable def hMo0o379 (P : Params) : Obj := (PySem.Obj.mk PySem.Value.none .none (PySem.Data.fields #[]) #[])
noncomputable def hMo0o382 (P : Params) : Obj := (PySem.Obj.mk PySem.Value.none .none (PySem.Data.func (PySem.FuncData.mk (PySem.Str.ofString "__call__") (PySem.Str.ofString "EnumType.__call__") (hFd P 384).params (hFd P 384).body (hFd P 384).scope 0 [] PySem.Value.none PySem.Value.none PySem.Value.none PySem.Value.none .none PySem.Value.none PySem.Value.none 0)) #[])
noncomputable def hMo0o386 (P : Params) : Obj := (PySem.Obj.mk PySem.Value.none .none (PySem.Data.fields #[]) #[])
noncomputable def hMo0o389 (P : Params) : Obj := (PySem.Obj.mk PySem.Value.none .none (PySem.Data.func (PySem.FuncData.mk (PySem.Str.ofString "__contains__") (PySem.Str.ofString "EnumType.__contains__") (hFd P 391).params (hFd P 391).body (hFd P 391).scope 0 [] PySem.Value.none PySem.Value.none PySem.Value.none PySem.Value.none .none PySem.Value.none PySem.Value.none 0)) #[])
noncomputable def hMo0o393 (P : Params) : Obj := (PySem.Obj.mk PySem.Value.none .none (PySem.Data.fields #[]) #[])
noncomputable def hMo0o396 (P : Params) : Obj := (PySem.Obj.mk PySem.Value.none .none (PySem.Data.func (PySem.FuncData.mk (PySem.Str.ofString "__getitem__") (PySem.Str.ofString "EnumType.__getitem__") (hFd P 398).params (hFd P 398).body (hFd P 398).scope 0 [] PySem.Value.none PySem.Value.none PySem.Value.none PySem.Value.none .none PySem.Value.none PySem.Value.none 0)) #[])
noncomputable def hMo0o400 (P : Params) : Obj := (PySem.Obj.mk PySem.Value.none .none (PySem.Data.fields #[]) #[])
noncomputable def hMo0o403 (P : Params) : Obj := (PySem.Obj.mk PySem.Value.none .none (PySem.Data.func (PySem.FuncData.mk (PySem.Str.ofString "__iter__") (PySem.Str.ofString "EnumType.__iter__") (hFd P 405).params (hFd P 405).body (hFd P 405).scope 0 [] PySem.Value.none PySem.Value.none PySem.Value.none PySem.Value.none .none PySem.Value.none PySem.Value.none 0)) #[])
noncomputable def hMo0o407 (P : Params) : Obj := (PySem.Obj.mk PySem.Value.none .none (PySem.Data.fields #[]) #[])
noncomputable def hMo0o410 (P : Params) : Obj := (PySem.Obj.mk PySem.Value.none .none (PySem.Data.func (PySem.FuncData.mk (PySem.Str.ofString "__len__") (PySem.Str.ofString "EnumType.__len__") (hFd P 412).params (hFd P 412).body (hFd P 412).scope 0 [] PySem.Value.none PySem.Value.none PySem.Value.none PySem.Value.none .none PySem.Value.none PySem.Value.none 0)) #[])
noncomputable def hMo0o414 (P : Params) : Obj := (PySem.Obj.mk PySem.Value.none .none (PySem.Data.fields #[]) #[])
noncomputable def hMo0o417 (P : Params) : Obj := (PySem.Obj.mk PySem.Value.none .none (PySem.Data.func (PySem.FuncData.mk (PySem.Str.ofString "__members__") (PySem.Str.ofString "EnumType.__members__") (hFd P 419).params (hFd P 419).body (hFd P 419).scope 0 [] PySem.Value.none PySem.Value.none PySem.Value.none PySem.Value.none .none PySem.Value.none PySem.Value.none 0)) #[])
noncomputable def hMo0o422 (P : Params) : Obj := (PySem.Obj.mk PySem.Value.none .none (PySem.Data.fields #[]) #[])
noncomputable def hMo0o425 (P : Params) : Obj := (PySem.Obj.mk PySem.Value.none .none (PySem.Data.func (PySem.FuncData.mk (PySem.Str.ofString "__repr__") (PySem.Str.ofString "EnumType.__repr__") (hFd P 427).params (hFd P 427).body (hFd P 427).scope 0 [] PySem.Value.none PySem.Value.none PySem.Value.none PySem.Value.none .none PySem.Value.none PySem.Value.none 0)) #[])
noncomputable def hMo0o429 (P : Params) : Obj := (PySem.Obj.mk PySem.Value.none .none (PySem.Data.fields #[]) #[])
noncomputable def hMo0o432 (P : Params) : Obj := (PySem.Obj.mk PySem.Value.none .none (PySem.Data.func (PySem.FuncData.mk (PySem.Str.ofString "__reversed__") (PySem.Str.ofString "EnumType.__reversed__") (hFd P 434).params (hFd P 434).body (hFd P 434).scope 0 [] PySem.Value.none PySem.Value.none PySem.Value.none PySem.Value.none .none PySem.Value.none PySem.Value.none 0)) #[])
noncomputable def hMo0o437 (P : Params) : Obj := (PySem.Obj.mk PySem.Value.none .none (PySem.Data.fields #[]) #[])
noncomputable def hMo0o440 (P : Params) : Obj := (PySem.Obj.mk PySem.Value.none .none (PySem.Data.func (PySem.FuncData.mk (PySem.Str.ofString "__setattr__") (PySem.Str.ofString "EnumType.__setattr__") (hFd P 442).params (hFd P 442).body (hFd P 442).scope 0 [] PySem.Value.none PySem.Value.none PySem.Value.none PySem.Value.none .none PySem.Value.none PySem.Value.none 0)) #[])
noncomputable def hMo0o445 (P : Params) : Obj := (PySem.Obj.mk PySem.Value.none .none (PySem.Data.fields #[]) #[])
noncomputable def hMo0o448 (P : Params) : Obj := (PySem.Obj.mk PySem.Value.none .none (PySem.Data.func (PySem.FuncData.mk (PySem.Str.ofString "__delattr__") (PySem.Str.ofString "EnumType.__delattr__") (hFd P 450).params (hFd P 450).body (hFd P 450).scope 0 [] PySem.Value.none PySem.Value.none PySem.Value.none PySem.Value.none .none PySem.Value.none PySem.Value.none 0)) #[])
noncomputable def hMo0o453 (P : Params) : Obj := (PySem.Obj.mk PySem.Value.none .none (PySem.Data.fields #[]) #[])
noncomputable def hMo0o456 (P : Params) : Obj := (PySem.Obj.mk PySem.Value.none .none (PySem.Data.func (PySem.FuncData.mk (PySem.Str.ofString "_store_") (PySem.Str.ofString "EnumType._store_") (hFd P 458).params (hFd P 458).body (hFd P 458).scope 0 [] PySem.Value.none PySem.Value.none PySem.Value.none PySem.Value.none .none PySem.Value.none PySem.Value.none 0)) #[])
noncomputable def hMo0o460 (P : Params) : Obj := (PySem.Obj.mk PySem.Value.none .none (PySem.Data.fields #[]) #[])
noncomputable def hMo0o463 (P : Params) : Obj := (PySem.Obj.mk PySem.Value.none .none (PySem.Data.func (PySem.FuncData.mk (PySem.Str.ofString "__dir__") (PySem.Str.ofString "EnumType.__dir__") (hFd P 465).params (hFd P 465).body (hFd P 465).scope 0 [] PySem.Value.none PySem.Value.none PySem.Value.none PySem.Value.none .none PySem.Value.none PySem.Value.none 0)) #[])
noncomputable def hMo0o470 (P : Params) : Obj := (PySem.Obj.mk (PySem.Value.type "super") .none (PySem.Data.fields #[(PySem.Value.ref 468), (PySem.Value.ref 468), (PySem.Value.ref 468)]) #[])
noncomputable def hMo0o471 (P : Params) : Obj := (PySem.Obj.mk (PySem.Value.type "builtin_function_or_method") .none (PySem.Data.fields #[(PySem.Value.builtin "object.__init_subclass__"), (PySem.Value.ref 468)]) #[])
noncomputable def hMidT0 (P : Params) : BT := (.node (boot_o_0 P) (.node (boot_o_1 P) (.node (hMo0o3 P) (.node (boot_o_7 P) (.node (hOb P 15) (.node (hOb P 31) (.node (hOb P 63) (.node (hOb P 127) (.node (hMo0o255 P) .nil .nil) (.node (hOb P 383) .nil .nil)) (.node (hOb P 191) (.node (hMo0o319 P) .nil .nil) (.node (hOb P 447) .nil .nil))) (.node (hMo0o95 P) (.node (hOb P 159) (.node (hOb P 287) .nil .nil) (.node (hOb P 415) .nil .nil)) (.node (hOb P 223) (.node (hMo0o351 P) .nil .nil) .nil))) (.node (hMo0o47 P) (.node (hOb P 79) (.node (hOb P 143) (.node (hOb P 271) .nil .nil) (.node (hOb P 399) .nil .nil)) (.node (hMo0o207 P) (.node (hOb P 335) .nil .nil) (.node (hMo0o463 P) .nil .nil))) (.node (hOb P 111) (.node (hMo0o175 P) (.node (hOb P 303) .nil .nil) (.node (hOb P 431) .nil .nil)) (.node (hMo0o239 P) (.node (hOb P 367) .nil .nil) .nil)))) (.node (hMo0o23 P) (.node (hOb P 39) (.node (hOb P 71) (.node (hOb P 135) (.node (hMo0o263 P) .nil .nil) (.node (hOb P 391) .nil .nil)) (.node (hOb P 199) (.node (hOb P 327) .nil .nil) (.node (hOb P 455) .nil .nil))) (.node (hOb P 103) (.node (hOb P 167) (.node (hMo0o295 P) .nil .nil) (.node (hOb P 423) .nil .nil)) (.node (hOb P 231) (.node (hOb P 359) .nil .nil) .nil))) (.node (hOb P 55) (.node (hOb P 87) (.node (hMo0o151 P) (.node (hOb P 279) .nil .nil) (.node (hMo0o407 P) .nil .nil)) (.node (hMo0o215 P) (.node (hOb P 343) .nil .nil) (.node (hMo0o471 P) .nil .nil))) (.node (hMo0o119 P) (.node (hOb P 183) (.node (hOb P 311) .nil .nil) (.node (hOb P 439) .nil .nil)) (.node (hOb P 247) (.node (hMo0o375 P) .nil .nil) .nil))))) (.node (hMo0o11 P) (.node (hMo0o19 P) (.node (hOb P 35) (.node (hOb P 67) (.node (hOb P 131) (.node (hMo0o259 P) .nil .nil) (.node (hOb P 387) .nil .nil)) (.node (hOb P 195) (.node (hMo0o323 P) .nil .nil) (.node (hOb P 451) .nil .nil))) (.node (hOb P 99) (.node (hOb P 163) (.node (hMo0o291 P) .nil .nil) (.node (hOb P 419) .nil .nil)) (.node (hOb P 227) (.node (hOb P 355) .nil .nil) .nil))) (.node (hMo0o51 P) (.node (hOb P 83) (.node (hMo0o147 P) (.node (hOb P 275) .nil .nil) (.node (hMo0o403 P) .nil .nil)) (.node (hOb P 211) (.node (hOb P 339) .nil .nil) (.node (hOb P 467) .nil .nil))) (.node (hOb P 115) (.node (hMo0o179 P) (.node (hOb P 307) .nil .nil) (.node (hOb P 435) .nil .nil)) (.node (hMo0o243 P) (.node (hOb P 371) .nil .nil) .nil)))) (.node (hOb P 27) (.node (hOb P 43) (.node (hMo0o75 P) (.node (hOb P 139) (.node (hMo0o267 P) .nil .nil) (.node (hOb P 395) .nil .nil)) (.node (hMo0o203 P) (.node (hOb P 331) .nil .nil) (.node (hOb P 459) .nil .nil))) (.node (hOb P 107) (.node (hOb P 171) (.node (hOb P 299) .nil .nil) (.node (hOb P 427) .nil .nil)) (.node (hOb P 235) (.node (hOb P 363) .nil .nil) .nil))) (.node (hOb P 59) (.node (hMo0o91 P) (.node (hOb P 155) (.node (hOb P 283) .nil .nil) (.node (hOb P 411) .nil .nil)) (.node (hOb P 219) (.node (hMo0o347 P) .nil .nil) .nil)) (.node (hMo0o123 P) (.node (hOb P 187) (.node (hOb P 315) .nil .nil) (.node (hOb P 443) .nil .nil)) (.node (hOb P 251) (.node (hMo0o379 P) .nil .nil) .nil)))))) (.node (boot_o_5 P) (.node (boot_o_9 P) (.node (hOb P 17) (.node (hMo0o33 P) (.node (hMo0o65 P) (.node (hOb P 129) (.node (hOb P 257) .nil .nil) (.node (hOb P 385) .nil .nil)) (.node (hMo0o193 P) (.node (hOb P 321) .nil .nil) (.node (hOb P 449) .nil .nil))) (.node (hOb P 97) (.node (hMo0o161 P) (.node (hOb P 289) .nil .nil) (.node (hMo0o417 P) .nil .nil)) (.node (hMo0o225 P) (.node (hOb P 353) .nil .nil) .nil))) (.node (hOb P 49) (.node (hMo0o81 P) (.node (hOb P 145) (.node (hOb P 273) .nil .nil) (.node (hOb P 401) .nil .nil)) (.node (hOb P 209) (.node (hMo0o337 P) .nil .nil) (.node (hOb P 465) .nil .nil))) (.node (hOb P 113) (.node (hOb P 177) (.node (hMo0o305 P) .nil .nil) (.node (hOb P 433) .nil .nil)) (.node (hOb P 241) (.node (hOb P 369) .nil .nil) .nil)))) (.node (hOb P 25) (.node (hOb P 41) (.node (hMo0o73 P) (.node (hMo0o137 P) (.node (hOb P 265) .nil .nil) (.node (hMo0o393 P) .nil .nil)) (.node (hOb P 201) (.node (hOb P 329) .nil .nil) (.node (hOb P 457) .nil .nil))) (.node (hMo0o105 P) (.node (hOb P 169) (.node (hOb P 297) .nil .nil) (.node (hMo0o425 P) .nil .nil)) (.node (hOb P 233) (.node (hMo0o361 P) .nil .nil) .nil))) (.node (hOb P 57) (.node (hOb P 89) (.node (hOb P 153) (.node (hMo0o281 P) .nil .nil) (.node (hOb P 409) .nil .nil)) (.node (hOb P 217) (.node (hOb P 345) .nil .nil) .nil)) (.node (hOb P 121) (.node (hOb P 185) (.node (hOb P 313) .nil .nil) (.node (hOb P 441) .nil .nil)) (.node (hOb P 249) (.node (hOb P 377) .nil .nil) .nil))))) (.node (hMo0o13 P) (.node (hOb P 21) (.node (hMo0o37 P) (.node (hOb P 69) (.node (hMo0o133 P) (.node (hMo0o261 P) .nil .nil) (.node (hMo0o389 P) .nil .nil)) (.node (hOb P 197) (.node (hOb P 325) .nil .nil) (.node (hMo0o453 P) .nil .nil))) (.node (hOb P 101) (.node (hMo0o165 P) (.node (hOb P 293) .nil .nil) (.node (hOb P 421) .nil .nil)) (.node (hMo0o229 P) (.node (hOb P 357) .nil .nil) .nil))) (.node (hOb P 53) (.node (hOb P 85) (.node (hOb P 149) (.node (hMo0o277 P) .nil .nil) (.node (hOb P 405) .nil .nil)) (.node (hOb P 213) (.node (hOb P 341) .nil .nil) (.node (hOb P 469) .nil .nil))) (.node (hOb P 117) (.node (hOb P 181) (.node (hMo0o309 P) .nil .nil) (.node (hMo0o437 P) .nil .nil)) (.node (hOb P 245) (.node (hOb P 373) .nil .nil) .nil)))) (.node (hOb P 29) (.node (hOb P 45) (.node (hMo0o77 P) (.node (hOb P 141) (.node (hOb P 269) .nil .nil) (.node (hOb P 397) .nil .nil)) (.node (hOb P 205) (.node (hMo0o333 P) .nil .nil) (.node (hOb P 461) .nil .nil))) (.node (hMo0o109 P) (.node (hOb P 173) (.node (hOb P 301) .nil .nil) (.node (hMo0o429 P) .nil .nil)) (.node (hOb P 237) (.node (hMo0o365 P) .nil .nil) .nil))) (.node (hMo0o61 P) (.node (hOb P 93) (.node (hOb P 157) (.node (hOb P 285) .nil .nil) (.node (hOb P 413) .nil .nil)) (.node (hOb P 221) (.node (hOb P 349) .nil .nil) .nil)) (.node (hOb P 125) (.node (hMo0o189 P) (.node (hOb P 317) .nil .nil) (.node (hMo0o445 P) .nil .nil)) (.node (hOb P 253) (.node (hOb P 381) .nil .nil) .nil))))))) (.node (hOb P 2) (.node (boot_o_4 P) (.node (boot_o_8 P) (.node (hMo0o16 P) (.node (hOb P 32) (.node (hOb P 64) (.node (hOb P 128) (.node (hMo0o256 P) .nil .nil) (.node (hOb P 384) .nil .nil)) (.node (hOb P 192) (.node (hOb P 320) .nil .nil) (.node (hMo0o448 P) .nil .nil))) (.node (hOb P 96) (.node (hOb P 160) (.node (hMo0o288 P) .nil .nil) (.node (hOb P 416) .nil .nil)) (.node (hOb P 224) (.node (hOb P 352) .nil .nil) .nil))) (.node (hOb P 48) (.node (hOb P 80) (.node (hMo0o144 P) (.node (hOb P 272) .nil .nil) (.node (hMo0o400 P) .nil .nil)) (.node (hOb P 208) (.node (hOb P 336) .nil .nil) (.node (hOb P 464) .nil .nil))) (.node (hMo0o112 P) (.node (hOb P 176) (.node (hOb P 304) .nil .nil) (.node (hMo0o432 P) .nil .nil)) (.node (hOb P 240) (.node (hMo0o368 P) .nil .nil) .nil)))) (.node (hOb P 24) (.node (hMo0o40 P) (.node (hMo0o72 P) (.node (hOb P 136) (.node (hMo0o264 P) .nil .nil) (.node (hOb P 392) .nil .nil)) (.node (hMo0o200 P) (.node (hOb P 328) .nil .nil) (.node (hMo0o456 P) .nil .nil))) (.node (hOb P 104) (.node (hMo0o168 P) (.node (hOb P 296) .nil .nil) (.node (hOb P 424) .nil .nil)) (.node (hMo0o232 P) (.node (hOb P 360) .nil .nil) .nil))) (.node (hOb P 56) (.node (hMo0o88 P) (.node (hOb P 152) (.node (hOb P 280) .nil .nil) (.node (hOb P 408) .nil .nil)) (.node (hOb P 216) (.node (hMo0o344 P) .nil .nil) .nil)) (.node (hOb P 120) (.node (hOb P 184) (.node (hMo0o312 P) .nil .nil) (.node (hMo0o440 P) .nil .nil)) (.node (hOb P 248) (.node (hOb P 376) .nil .nil) .nil))))) (.node (hMo0o12 P) (.node (hOb P 20) (.node (hOb P 36) (.node (hMo0o68 P) (.node (hOb P 132) (.node (hOb P 260) .nil .nil) (.node (hOb P 388) .nil .nil)) (.node (hMo0o196 P) (.node (hOb P 324) .nil .nil) (.node (hOb P 452) .nil .nil))) (.node (hOb P 100) (.node (hOb P 164) (.node (hOb P 292) .nil .nil) (.node (hOb P 420) .nil .nil)) (.node (hOb P 228) (.node (hOb P 356) .nil .nil) .nil))) (.node (hOb P 52) (.node (hMo0o84 P) (.node (hOb P 148) (.node (hOb P 276) .nil .nil) (.node (hOb P 404) .nil .nil)) (.node (hOb P 212) (.node (hMo0o340 P) .nil .nil) (.node (hOb P 468) .nil .nil))) (.node (hMo0o116 P) (.node (hOb P 180) (.node (hOb P 308) .nil .nil) (.node (hOb P 436) .nil .nil)) (.node (hOb P 244) (.node (hMo0o372 P) .nil .nil) .nil)))) (.node (hOb P 28) (.node (hMo0o44 P) (.node (hMo0o76 P) (.node (hMo0o140 P) (.node (hOb P 268) .nil .nil) (.node (hMo0o396 P) .nil .nil)) (.node (hOb P 204) (.node (hOb P 332) .nil .nil) (.node (hMo0o460 P) .nil .nil))) (.node (hOb P 108) (.node (hMo0o172 P) (.node (hOb P 300) .nil .nil) (.node (hOb P 428) .nil .nil)) (.node (hMo0o236 P) (.node (hOb P 364) .nil .nil) .nil))) (.node (hOb P 60) (.node (hOb P 92) (.node (hOb P 156) (.node (hMo0o284 P) .nil .nil) (.node (hOb P 412) .nil .nil)) (.node (hOb P 220) (.node (hOb P 348) .nil .nil) .nil)) (.node (hOb P 124) (.node (hOb P 188) (.node (hMo0o316 P) .nil .nil) (.node (hOb P 444) .nil .nil)) (.node (hOb P 252) (.node (hOb P 380) .nil .nil) .nil)))))) (.node (boot_o_6 P) (.node (boot_o_10 P) (.node (hOb P 18) (.node (hOb P 34) (.node (hOb P 66) (.node (hMo0o130 P) (.node (hMo0o258 P) .nil .nil) (.node (hMo0o386 P) .nil .nil)) (.node (hOb P 194) (.node (hOb P 322) .nil .nil) (.node (hOb P 450) .nil .nil))) (.node (hMo0o98 P) (.node (hOb P 162) (.node (hOb P 290) .nil .nil) (.node (hOb P 418) .nil .nil)) (.node (hOb P 226) (.node (hMo0o354 P) .nil .nil) .nil))) (.node (hOb P 50) (.node (hOb P 82) (.node (hOb P 146) (.node (hMo0o274 P) .nil .nil) (.node (hOb P 402) .nil .nil)) (.node (hMo0o210 P) (.node (hOb P 338) .nil .nil) (.node (hOb P 466) .nil .nil))) (.node (hOb P 114) (.node (hOb P 178) (.node (hOb P 306) .nil .nil) (.node (hOb P 434) .nil .nil)) (.node (hOb P 242) (.node (hOb P 370) .nil .nil) .nil)))) (.node (hMo0o26 P) (.node (hOb P 42) (.node (hMo0o74 P) (.node (hOb P 138) (.node (hOb P 266) .nil .nil) (.node (hOb P 394) .nil .nil)) (.node (hOb P 202) (.node (hMo0o330 P) .nil .nil) (.node (hOb P 458) .nil .nil))) (.node (hOb P 106) (.node (hOb P 170) (.node (hMo0o298 P) .nil .nil) (.node (hOb P 426) .nil .nil)) (.node (hOb P 234) (.node (hOb P 362) .nil .nil) .nil))) (.node (hMo0o58 P) (.node (hOb P 90) (.node (hMo0o154 P) (.node (hOb P 282) .nil .nil) (.node (hMo0o410 P) .nil .nil)) (.node (hMo0o218 P) (.node (hOb P 346) .nil .nil) .nil)) (.node (hOb P 122) (.node (hMo0o186 P) (.node (hOb P 314) .nil .nil) (.node (hOb P 442) .nil .nil)) (.node (hMo0o250 P) (.node (hOb P 378) .nil .nil) .nil))))) (.node (hMo0o14 P) (.node (hOb P 22) (.node (hOb P 38) (.node (hOb P 70) (.node (hOb P 134) (.node (hMo0o262 P) .nil .nil) (.node (hOb P 390) .nil .nil)) (.node (hOb P 198) (.node (hMo0o326 P) .nil .nil) (.node (hOb P 454) .nil .nil))) (.node (hMo0o102 P) (.node (hOb P 166) (.node (hOb P 294) .nil .nil) (.node (hMo0o422 P) .nil .nil)) (.node (hOb P 230) (.node (hMo0o358 P) .nil .nil) .nil))) (.node (hMo0o54 P) (.node (hOb P 86) (.node (hOb P 150) (.node (hOb P 278) .nil .nil) (.node (hOb P 406) .nil .nil)) (.node (hOb P 214) (.node (hOb P 342) .nil .nil) (.node (hMo0o470 P) .nil .nil))) (.node (hOb P 118) (.node (hMo0o182 P) (.node (hOb P 310) .nil .nil) (.node (hOb P 438) .nil .nil)) (.node (hMo0o246 P) (.node (hOb P 374) .nil .nil) .nil)))) (.node (hMo0o30 P) (.node (hOb P 46) (.node (hMo0o78 P) (.node (hOb P 142) (.node (hMo0o270 P) .nil .nil) (.node (hOb P 398) .nil .nil)) (.node (hOb P 206) (.node (hOb P 334) .nil .nil) (.node (hOb P 462) .nil .nil))) (.node (hOb P 110) (.node (hOb P 174) (.node (hMo0o302 P) .nil .nil) (.node (hOb P 430) .nil .nil)) (.node (hOb P 238) (.node (hOb P 366) .nil .nil) .nil))) (.node (hOb P 62) (.node (hOb P 94) (.node (hMo0o158 P) (.node (hOb P 286) .nil .nil) (.node (hMo0o414 P) .nil .nil)) (.node (hMo0o222 P) (.node (hOb P 350) .nil .nil) .nil)) (.node (hMo0o126 P) (.node (hOb P 190) (.node (hOb P 318) .nil .nil) (.node (hOb P 446) .nil .nil)) (.node (hOb P 254) (.node (hMo0o382 P) .nil .nil) .nil))))))))
abbrev hPosM0 : Pos := ⟨110, 0, 239, 17⟩
noncomputable def hMidS0 (P : Params) (os : OsState) : SharedT := ⟨hMidT0 P, 472, {}, ⟨[]⟩, boot_drawn, 726, os⟩
noncomputable def hMo1o3 (P : Params) : Obj := (PySem.Obj.mk (PySem.Value.type "dict") .none (PySem.Data.dict #[(PySem.DictEntry.mk (PySem.PyData.keyHash P (PySem.Str.ofString "__name__")) (PySem.Value.str (PySem.Str.ofString "__name__") 165) (PySem.Value.str (PySem.Str.ofString "pg8000.converters") 968)), (PySem.DictEntry.mk (PySem.PyData.keyHash P (PySem.Str.ofString "__doc__")) (PySem.Value.str (PySem.Str.ofString "__doc__") 166) PySem.Value.none), (PySem.DictEntry.mk (PySem.PyData.keyHash P (PySem.Str.ofString "__package__")) (PySem.Value.str (PySem.Str.ofString "__package__") 167) PySem.Value.none), (PySem.DictEntry.mk (PySem.PyData.keyHash P (PySem.Str.ofString "__loader__")) (PySem.Value.str (PySem.Str.ofString "__loader__") 168) (PySem.Value.builtin "__main__.__loader__#opaque")), (PySem.DictEntry.mk (PySem.PyData.keyHash P (PySem.Str.ofString "__spec__")) (PySem.Value.str (PySem.Str.ofString "__spec__") 169) PySem.Value.none), (PySem.DictEntry.mk (PySem.PyData.keyHash P (PySem.Str.ofString "__annotations__")) (PySem.Value.str (PySem.Str.ofString "__annotations__") 170) (PySem.Value.ref 6)), (PySem.DictEntry.mk (PySem.PyData.keyHash P (PySem.Str.ofString "__builtins__")) (PySem.Value.str (PySem.Str.ofString "__builtins__") 171) (PySem.Value.ref 4)), (PySem.DictEntry.mk (PySem.PyData.keyHash P (PySem.Str.ofString "__file__")) (PySem.Value.str (PySem.Str.ofString "__file__") 173) (PySem.Value.str (PySem.Str.ofString "/claim/cut.py") 172)), (PySem.DictEntry.mk (PySem.PyData.keyHash P (PySem.Str.ofString "__cached__")) (PySem.Value.str (PySem.Str.ofString "__cached__") 174) PySem.Value.none), (PySem.DictEntry.mk (PySem.PyData.keyHash P (PySem.Str.ofString "_wall")) (PySem.Value.str (PySem.Str.ofString "_wall") 193) (PySem.Value.ref 21)), (PySem.DictEntry.mk (PySem.PyData.keyHash P (PySem.Str.ofString "bool_out")) (PySem.Value.str (PySem.Str.ofString "bool_out") 202) (PySem.Value.ref 28)), (PySem.DictEntry.mk (PySem.PyData.keyHash P (PySem.Str.ofString "bytes_out")) (PySem.Value.str (PySem.Str.ofString "bytes_out") 209) (PySem.Value.ref 35)), (PySem.DictEntry.mk (PySem.PyData.keyHash P (PySem.Str.ofString "int_in")) (PySem.Value.str (PySem.Str.ofString "int_in") 216) (PySem.Value.ref 42)), (PySem.DictEntry.mk (PySem.PyData.keyHash P (PySem.Str.ofString "int_out")) (PySem.Value.str (PySem.Str.ofString "int_out") 223) (PySem.Value.ref 49)), (PySem.DictEntry.mk (PySem.PyData.keyHash P (PySem.Str.ofString "null_out")) (PySem.Value.str (PySem.Str.ofString "null_out") 230) (PySem.Value.ref 56)), (PySem.DictEntry.mk (PySem.PyData.keyHash P (PySem.Str.ofString "range_out")) (PySem.Value.str (PySem.Str.ofString "range_out") 241) (PySem.Value.ref 63)), (PySem.DictEntry.mk (PySem.PyData.keyHash P (PySem.Str.ofString "string_out")) (PySem.Value.str (PySem.Str.ofString "string_out") 248) (PySem.Value.ref 70)), (PySem.DictEntry.mk (PySem.PyData.keyHash P (PySem.Str.ofString "_OWN_NAMES")) (PySem.Value.str (PySem.Str.ofString "_OWN_NAMES") 256) (PySem.Value.ref 71)), (PySem.DictEntry.mk (PySem.PyData.keyHash P (PySem.Str.ofString "mappingproxy")) (PySem.Value.str (PySem.Str.ofString "mappingproxy") 464) (PySem.Value.ref 252)), (PySem.DictEntry.mk (PySem.PyData.keyHash P (PySem.Str.ofString "_MEMBERS_VIEW")) (PySem.Value.str (PySem.Str.ofString "_MEMBERS_VIEW") 465) (PySem.Value.ref 252)), (PySem.DictEntry.mk (PySem.PyData.keyHash P (PySem.Str.ofString "EnumType")) (PySem.Value.str (PySem.Str.ofString "EnumType") 725) (PySem.Value.ref 468)), (PySem.DictEntry.mk (PySem.PyData.keyHash P (PySem.Str.ofString "_EnumField")) (PySem.Value.str (PySem.Str.ofString "_EnumField") 780) (PySem.Value.ref 510)), (PySem.DictEntry.mk (PySem.PyData.keyHash P (PySem.Str.ofString "Enum")) (PySem.Value.str (PySem.Str.ofString "Enum") 967) (PySem.Value.ref 634)), (PySem.DictEntry.mk (PySem.PyData.keyHash P (PySem.Str.ofString "ParserState")) (PySem.Value.str (PySem.Str.ofString "ParserState") 1014) (PySem.Value.ref 657))] 24) #[])
noncomputable def hMo1o12 (P : Params) : Obj := (PySem.Obj.mk PySem.Value.none .none (PySem.Data.fields #[(PySem.Value.int (1 : Int) 0), (PySem.Value.int (0 : Int) 0), (PySem.Value.ref 20), (PySem.Value.int (5 : Int) 0), (PySem.Value.int (0 : Int) 0), (PySem.Value.ref 27), (PySem.Value.int (7 : Int) 0), (PySem.Value.int (0 : Int) 0), (PySem.Value.ref 34), (PySem.Value.int (9 : Int) 0), (PySem.Value.int (0 : Int) 0), (PySem.Value.ref 41), (PySem.Value.int (11 : Int) 0), (PySem.Value.int (0 : Int) 0), (PySem.Value.ref 48), (PySem.Value.int (13 : Int) 0), (PySem.Value.int (0 : Int) 0), (PySem.Value.ref 55), (PySem.Value.int (15 : Int) 0), (PySem.Value.int (0 : Int) 0), (PySem.Value.ref 62), (PySem.Value.int (24 : Int) 0), (PySem.Value.int (0 : Int) 0), (PySem.Value.ref 69), (PySem.Value.int (28 : Int) 0), (PySem.Value.int (0 : Int) 0), (PySem.Value.ref 77), (PySem.Value.int (110 : Int) 0), (PySem.Value.int (0 : Int) 0), (PySem.Value.ref 263), (PySem.Value.int (240 : Int) 0), (PySem.Value.int (0 : Int) 0), (PySem.Value.ref 477), (PySem.Value.int (257 : Int) 0), (PySem.Value.int (0 : Int) 0), (PySem.Value.ref 520), (PySem.Value.int (351 : Int) 0), (PySem.Value.int (0 : Int) 0), (PySem.Value.ref 649)]) #[])
noncomputable def hMo1o472 (P : Params) : Obj := (PySem.Obj.mk (PySem.Value.type "tuple") .none (PySem.Data.seq #[] 0) #[])
noncomputable def hMo1o473 (P : Params) : Obj := (PySem.Obj.mk (PySem.Value.type "builtin_function_or_method") .none (PySem.Data.fields #[(PySem.Value.builtin "type.__prepare__"), (PySem.Value.type "type")]) #[])
noncomputable def hMo1o474 (P : Params) : Obj := (PySem.Obj.mk (PySem.Value.type "dict") .none (PySem.Data.dict #[(PySem.DictEntry.mk (PySem.PyData.keyHash P (PySem.Str.ofString "__module__")) (PySem.Value.str (PySem.Str.ofString "__module__") 733) (PySem.Value.str (PySem.Str.ofString "enum") 249)), (PySem.DictEntry.mk (PySem.PyData.keyHash P (PySem.Str.ofString "__qualname__")) (PySem.Value.str (PySem.Str.ofString "__qualname__") 735) (PySem.Value.str (PySem.Str.ofString "_EnumField") 734)), (PySem.DictEntry.mk (PySem.PyData.keyHash P (PySem.Str.ofString "__firstlineno__")) (PySem.Value.str (PySem.Str.ofString "__firstlineno__") 737) (PySem.Value.int (240 : Int) 736)), (PySem.DictEntry.mk (PySem.PyData.keyHash P (PySem.Str.ofString "__init__")) (PySem.Value.str (PySem.Str.ofString "__init__") 745) (PySem.Value.ref 485)), (PySem.DictEntry.mk (PySem.PyData.keyHash P (PySem.Str.ofString "__get__")) (PySem.Value.str (PySem.Str.ofString "__get__") 754) (PySem.Value.ref 493)), (PySem.DictEntry.mk (PySem.PyData.keyHash P (PySem.Str.ofString "__set__")) (PySem.Value.str (PySem.Str.ofString "__set__") 763) (PySem.Value.ref 500)), (PySem.DictEntry.mk (PySem.PyData.keyHash P (PySem.Str.ofString "__delete__")) (PySem.Value.str (PySem.Str.ofString "__delete__") 771) (PySem.Value.ref 507)), (PySem.DictEntry.mk (PySem.PyData.keyHash P (PySem.Str.ofString "__static_attributes__")) (PySem.Value.str (PySem.Str.ofString "__static_attributes__") 773) (PySem.Value.ref 508))] 8) #[])
noncomputable def hMo1o475 (P : Params) : Obj := (PySem.Obj.mk (PySem.Value.type "tuple") .none (PySem.Data.seq #[] 0) #[])
noncomputable def hMo1o476 (P : Params) : Obj := (PySem.Obj.mk PySem.Value.none .none (PySem.Data.fields #[(PySem.Value.int (242 : Int) 0), (PySem.Value.int (4 : Int) 0), (PySem.Value.ref 484), (PySem.Value.int (245 : Int) 0), (PySem.Value.int (4 : Int) 0), (PySem.Value.ref 492), (PySem.Value.int (252 : Int) 0), (PySem.Value.int (4 : Int) 0), (PySem.Value.ref 499), (PySem.Value.int (255 : Int) 0), (PySem.Value.int (4 : Int) 0), (PySem.Value.ref 506)]) #[])
noncomputable def hMo1o477 (P : Params) : Obj := (PySem.Obj.mk (PySem.Value.type "code") .none (PySem.Data.fields #[(PySem.Value.str (PySem.Str.ofString "_EnumField") 728), (PySem.Value.str (PySem.Str.ofString "_EnumField") 729), (PySem.Value.str (PySem.Str.ofString "/claim/cut.py") 730), (PySem.Value.int (240 : Int) 0), (PySem.Value.int (0 : Int) 0), (PySem.Value.int (0 : Int) 0), (PySem.Value.int (0 : Int) 0), (PySem.Value.int (0 : Int) 0), (PySem.Value.ref 475), (PySem.Value.bool Bool.false), (PySem.Value.int (181 : Int) 0), (PySem.Value.ref 476), PySem.Value.none, PySem.Value.none, PySem.Value.none, PySem.Value.none, (PySem.Value.int (731 : Int) 0), (PySem.Value.int (240 : Int) 0), (PySem.Value.str (PySem.Str.ofString "/claim/cut.py") 732)]) #[])
noncomputable def hMo1o478 (P : Params) : Obj := (PySem.Obj.mk (PySem.Value.type "frame") .none PySem.Data.plain #[(.some (PySem.Value.ref 477)), (.some (PySem.Value.ref 3)), (.some (PySem.Value.ref 474)), .none, (.some (PySem.Value.str (PySem.Str.ofString "enum") 249)), .none, (.some (PySem.Value.ref 0))])
noncomputable def hMo1o480 (P : Params) : Obj := (PySem.Obj.mk PySem.Value.none .none (PySem.Data.fields #[]) #[])
noncomputable def hMo1o483 (P : Params) : Obj := (PySem.Obj.mk PySem.Value.none .none (PySem.Data.func (PySem.FuncData.mk (PySem.Str.ofString "__init__") (PySem.Str.ofString "_EnumField.__init__") (hFd P 485).params (hFd P 485).body (hFd P 485).scope 0 [] PySem.Value.none PySem.Value.none PySem.Value.none PySem.Value.none .none PySem.Value.none PySem.Value.none 0)) #[])
noncomputable def hMo1o488 (P : Params) : Obj := (PySem.Obj.mk PySem.Value.none .none (PySem.Data.fields #[]) #[])
noncomputable def hMo1o491 (P : Params) : Obj := (PySem.Obj.mk PySem.Value.none .none (PySem.Data.func (PySem.FuncData.mk (PySem.Str.ofString "__get__") (PySem.Str.ofString "_EnumField.__get__") (hFd P 493).params (hFd P 493).body (hFd P 493).scope 0 [] PySem.Value.none PySem.Value.none PySem.Value.none PySem.Value.none .none PySem.Value.none PySem.Value.none 0)) #[])
noncomputable def hMo1o495 (P : Params) : Obj := (PySem.Obj.mk PySem.Value.none .none (PySem.Data.fields #[]) #[])
noncomputable def hMo1o498 (P : Params) : Obj := (PySem.Obj.mk PySem.Value.none .none (PySem.Data.func (PySem.FuncData.mk (PySem.Str.ofString "__set__") (PySem.Str.ofString "_EnumField.__set__") (hFd P 500).params (hFd P 500).body (hFd P 500).scope 0 [] PySem.Value.none PySem.Value.none PySem.Value.none PySem.Value.none .none PySem.Value.none PySem.Value.none 0)) #[])
noncomputable def hMo1o502 (P : Params) : Obj := (PySem.Obj.mk PySem.Value.none .none (PySem.Data.fields #[]) #[])
noncomputable def hMo1o505 (P : Params) : Obj := (PySem.Obj.mk PySem.Value.none .none (PySem.Data.func (PySem.FuncData.mk (PySem.Str.ofString "__delete__") (PySem.Str.ofString "_EnumField.__delete__") (hFd P 507).params (hFd P 507).body (hFd P 507).scope 0 [] PySem.Value.none PySem.Value.none PySem.Value.none PySem.Value.none .none PySem.Value.none PySem.Value.none 0)) #[])
noncomputable def hMo1o513 (P : Params) : Obj := (PySem.Obj.mk (PySem.Value.type "super") .none (PySem.Data.fields #[(PySem.Value.ref 510), (PySem.Value.ref 510), (PySem.Value.ref 510)]) #[])
noncomputable def hMo1o514 (P : Params) : Obj := (PySem.Obj.mk (PySem.Value.type "builtin_function_or_method") .none (PySem.Data.fields #[(PySem.Value.builtin "object.__init_subclass__"), (PySem.Value.ref 510)]) #[])
noncomputable def hMo1o515 (P : Params) : Obj := (PySem.Obj.mk (PySem.Value.type "tuple") .none (PySem.Data.seq #[] 0) #[])
noncomputable def hMo1o516 (P : Params) : Obj := (PySem.Obj.mk (PySem.Value.type "builtin_function_or_method") .none (PySem.Data.fields #[(PySem.Value.builtin "type.__prepare__"), (PySem.Value.ref 468)]) #[])
noncomputable def hMo1o517 (P : Params) : Obj := (PySem.Obj.mk (PySem.Value.type "dict") .none (PySem.Data.dict #[(PySem.DictEntry.mk (PySem.PyData.keyHash P (PySem.Str.ofString "__module__")) (PySem.Value.str (PySem.Str.ofString "__module__") 788) (PySem.Value.str (PySem.Str.ofString "enum") 793)), (PySem.DictEntry.mk (PySem.PyData.keyHash P (PySem.Str.ofString "__qualname__")) (PySem.Value.str (PySem.Str.ofString "__qualname__") 790) (PySem.Value.str (PySem.Str.ofString "Enum") 789)), (PySem.DictEntry.mk (PySem.PyData.keyHash P (PySem.Str.ofString "__firstlineno__")) (PySem.Value.str (PySem.Str.ofString "__firstlineno__") 792) (PySem.Value.int (257 : Int) 791)), (PySem.DictEntry.mk (PySem.PyData.keyHash P (PySem.Str.ofString "_written_out_")) (PySem.Value.str (PySem.Str.ofString "_written_out_") 796) (PySem.Value.int (4 : Int) 795)), (PySem.DictEntry.mk (PySem.PyData.keyHash P (PySem.Str.ofString "_member_names_")) (PySem.Value.str (PySem.Str.ofString "_member_names_") 797) (PySem.Value.ref 522)), (PySem.DictEntry.mk (PySem.PyData.keyHash P (PySem.Str.ofString "_member_map_")) (PySem.Value.str (PySem.Str.ofString "_member_map_") 798) (PySem.Value.ref 523)), (PySem.DictEntry.mk (PySem.PyData.keyHash P (PySem.Str.ofString "_value2member_map_")) (PySem.Value.str (PySem.Str.ofString "_value2member_map_") 799) (PySem.Value.ref 524)), (PySem.DictEntry.mk (PySem.PyData.keyHash P (PySem.Str.ofString "_hashable_values_")) (PySem.Value.str (PySem.Str.ofString "_hashable_values_") 800) (PySem.Value.ref 525)), (PySem.DictEntry.mk (PySem.PyData.keyHash P (PySem.Str.ofString "_unhashable_values_")) (PySem.Value.str (PySem.Str.ofString "_unhashable_values_") 801) (PySem.Value.ref 526)), (PySem.DictEntry.mk (PySem.PyData.keyHash P (PySem.Str.ofString "_unhashable_values_map_")) (PySem.Value.str (PySem.Str.ofString "_unhashable_values_map_") 802) (PySem.Value.ref 527)), (PySem.DictEntry.mk (PySem.PyData.keyHash P (PySem.Str.ofString "_members_")) (PySem.Value.str (PySem.Str.ofString "_members_") 803) (PySem.Value.ref 528)), (PySem.DictEntry.mk (PySem.PyData.keyHash P (PySem.Str.ofString "_value_repr_")) (PySem.Value.str (PySem.Str.ofString "_value_repr_") 804) PySem.Value.none), (PySem.DictEntry.mk (PySem.PyData.keyHash P (PySem.Str.ofString "_is_flag_")) (PySem.Value.str (PySem.Str.ofString "_is_flag_") 805) (PySem.Value.bool Bool.false)), (PySem.DictEntry.mk (PySem.PyData.keyHash P (PySem.Str.ofString "_making_")) (PySem.Value.str (PySem.Str.ofString "_making_") 806) (PySem.Value.bool Bool.false)), (PySem.DictEntry.mk (PySem.PyData.keyHash P (PySem.Str.ofString "__new__")) (PySem.Value.str (PySem.Str.ofString "__new__") 821) (PySem.Value.ref 535)), (PySem.DictEntry.mk (PySem.PyData.keyHash P (PySem.Str.ofString "_missing_")) (PySem.Value.str (PySem.Str.ofString "_missing_") 841) (PySem.Value.ref 544)), (PySem.DictEntry.mk (PySem.PyData.keyHash P (PySem.Str.ofString "__init__")) (PySem.Value.str (PySem.Str.ofString "__init__") 850) (PySem.Value.ref 552)), (PySem.DictEntry.mk (PySem.PyData.keyHash P (PySem.Str.ofString "__repr__")) (PySem.Value.str (PySem.Str.ofString "__repr__") 858) (PySem.Value.ref 559)), (PySem.DictEntry.mk (PySem.PyData.keyHash P (PySem.Str.ofString "__str__")) (PySem.Value.str (PySem.Str.ofString "__str__") 865) (PySem.Value.ref 566)), (PySem.DictEntry.mk (PySem.PyData.keyHash P (PySem.Str.ofString "__format__")) (PySem.Value.str (PySem.Str.ofString "__format__") 873) (PySem.Value.ref 573)), (PySem.DictEntry.mk (PySem.PyData.keyHash P (PySem.Str.ofString "__hash__")) (PySem.Value.str (PySem.Str.ofString "__hash__") 880) (PySem.Value.ref 580)), (PySem.DictEntry.mk (PySem.PyData.keyHash P (PySem.Str.ofString "__reduce_ex__")) (PySem.Value.str (PySem.Str.ofString "__reduce_ex__") 888) (PySem.Value.ref 587)), (PySem.DictEntry.mk (PySem.PyData.keyHash P (PySem.Str.ofString "__deepcopy__")) (PySem.Value.str (PySem.Str.ofString "__deepcopy__") 896) (PySem.Value.ref 594)), (PySem.DictEntry.mk (PySem.PyData.keyHash P (PySem.Str.ofString "__copy__")) (PySem.Value.str (PySem.Str.ofString "__copy__") 903) (PySem.Value.ref 601)), (PySem.DictEntry.mk (PySem.PyData.keyHash P (PySem.Str.ofString "__dir__")) (PySem.Value.str (PySem.Str.ofString "__dir__") 910) (PySem.Value.ref 608)), (PySem.DictEntry.mk (PySem.PyData.keyHash P (PySem.Str.ofString "_add_alias_")) (PySem.Value.str (PySem.Str.ofString "_add_alias_") 918) (PySem.Value.ref 615)), (PySem.DictEntry.mk (PySem.PyData.keyHash P (PySem.Str.ofString "_add_value_alias_")) (PySem.Value.str (PySem.Str.ofString "_add_value_alias_") 926) (PySem.Value.ref 622)), (PySem.DictEntry.mk (PySem.PyData.keyHash P (PySem.Str.ofString "name")) (PySem.Value.str (PySem.Str.ofString "name") 932) (PySem.Value.ref 624)), (PySem.DictEntry.mk (PySem.PyData.keyHash P (PySem.Str.ofString "value")) (PySem.Value.str (PySem.Str.ofString "value") 938) (PySem.Value.ref 627)), (PySem.DictEntry.mk (PySem.PyData.keyHash P (PySem.Str.ofString "__static_attributes__")) (PySem.Value.str (PySem.Str.ofString "__static_attributes__") 939) (PySem.Value.ref 629))] 30) #[])
noncomputable def hMo1o518 (P : Params) : Obj := (PySem.Obj.mk (PySem.Value.type "tuple") .none (PySem.Data.seq #[] 0) #[])
noncomputable def hMo1o519 (P : Params) : Obj := (PySem.Obj.mk PySem.Value.none .none (PySem.Data.fields #[(PySem.Value.int (271 : Int) 0), (PySem.Value.int (4 : Int) 0), (PySem.Value.ref 534), (PySem.Value.int (312 : Int) 0), (PySem.Value.int (4 : Int) 0), (PySem.Value.ref 541), (PySem.Value.int (315 : Int) 0), (PySem.Value.int (4 : Int) 0), (PySem.Value.ref 551), (PySem.Value.int (318 : Int) 0), (PySem.Value.int (4 : Int) 0), (PySem.Value.ref 558), (PySem.Value.int (322 : Int) 0), (PySem.Value.int (4 : Int) 0), (PySem.Value.ref 565), (PySem.Value.int (325 : Int) 0), (PySem.Value.int (4 : Int) 0), (PySem.Value.ref 572), (PySem.Value.int (328 : Int) 0), (PySem.Value.int (4 : Int) 0), (PySem.Value.ref 579), (PySem.Value.int (331 : Int) 0), (PySem.Value.int (4 : Int) 0), (PySem.Value.ref 586), (PySem.Value.int (334 : Int) 0), (PySem.Value.int (4 : Int) 0), (PySem.Value.ref 593), (PySem.Value.int (337 : Int) 0), (PySem.Value.int (4 : Int) 0), (PySem.Value.ref 600), (PySem.Value.int (340 : Int) 0), (PySem.Value.int (4 : Int) 0), (PySem.Value.ref 607), (PySem.Value.int (343 : Int) 0), (PySem.Value.int (4 : Int) 0), (PySem.Value.ref 614), (PySem.Value.int (346 : Int) 0), (PySem.Value.int (4 : Int) 0), (PySem.Value.ref 621)]) #[])
noncomputable def hMo1o520 (P : Params) : Obj := (PySem.Obj.mk (PySem.Value.type "code") .none (PySem.Data.fields #[(PySem.Value.str (PySem.Str.ofString "Enum") 783), (PySem.Value.str (PySem.Str.ofString "Enum") 784), (PySem.Value.str (PySem.Str.ofString "/claim/cut.py") 785), (PySem.Value.int (257 : Int) 0), (PySem.Value.int (0 : Int) 0), (PySem.Value.int (0 : Int) 0), (PySem.Value.int (0 : Int) 0), (PySem.Value.int (0 : Int) 0), (PySem.Value.ref 518), (PySem.Value.bool Bool.false), (PySem.Value.int (181 : Int) 0), (PySem.Value.ref 519), PySem.Value.none, PySem.Value.none, PySem.Value.none, PySem.Value.none, (PySem.Value.int (786 : Int) 0), (PySem.Value.int (257 : Int) 0), (PySem.Value.str (PySem.Str.ofString "/claim/cut.py") 787)]) #[])
noncomputable def hMo1o521 (P : Params) : Obj := (PySem.Obj.mk (PySem.Value.type "frame") .none PySem.Data.plain #[(.some (PySem.Value.ref 520)), (.some (PySem.Value.ref 3)), (.some (PySem.Value.ref 517)), .none, (.some (PySem.Value.str (PySem.Str.ofString "enum") 249)), .none, (.some (PySem.Value.ref 0))])
noncomputable def hMo1o530 (P : Params) : Obj := (PySem.Obj.mk PySem.Value.none .none (PySem.Data.fields #[]) #[])
noncomputable def hMo1o533 (P : Params) : Obj := (PySem.Obj.mk PySem.Value.none .none (PySem.Data.func (PySem.FuncData.mk (PySem.Str.ofString "__new__") (PySem.Str.ofString "Enum.__new__") (hFd P 535).params (hFd P 535).body (hFd P 535).scope 0 [] PySem.Value.none PySem.Value.none PySem.Value.none PySem.Value.none .none PySem.Value.none PySem.Value.none 0)) #[])
noncomputable def hMo1o537 (P : Params) : Obj := (PySem.Obj.mk PySem.Value.none .none (PySem.Data.fields #[]) #[])
noncomputable def hMo1o540 (P : Params) : Obj := (PySem.Obj.mk PySem.Value.none .none (PySem.Data.func (PySem.FuncData.mk (PySem.Str.ofString "_missing_") (PySem.Str.ofString "Enum._missing_") (hFd P 542).params (hFd P 542).body (hFd P 542).scope 0 [] PySem.Value.none PySem.Value.none PySem.Value.none PySem.Value.none .none PySem.Value.none PySem.Value.none 0)) #[])
noncomputable def hMo1o547 (P : Params) : Obj := (PySem.Obj.mk PySem.Value.none .none (PySem.Data.fields #[]) #[])
noncomputable def hMo1o550 (P : Params) : Obj := (PySem.Obj.mk PySem.Value.none .none (PySem.Data.func (PySem.FuncData.mk (PySem.Str.ofString "__init__") (PySem.Str.ofString "Enum.__init__") (hFd P 552).params (hFd P 552).body (hFd P 552).scope 0 [] PySem.Value.none PySem.Value.none PySem.Value.none PySem.Value.none .none PySem.Value.none PySem.Value.none 0)) #[])
noncomputable def hMo1o554 (P : Params) : Obj := (PySem.Obj.mk PySem.Value.none .none (PySem.Data.fields #[]) #[])
noncomputable def hMo1o557 (P : Params) : Obj := (PySem.Obj.mk PySem.Value.none .none (PySem.Data.func (PySem.FuncData.mk (PySem.Str.ofString "__repr__") (PySem.Str.ofString "Enum.__repr__") (hFd P 559).params (hFd P 559).body (hFd P 559).scope 0 [] PySem.Value.none PySem.Value.none PySem.Value.none PySem.Value.none .none PySem.Value.none PySem.Value.none 0)) #[])
noncomputable def hMo1o561 (P : Params) : Obj := (PySem.Obj.mk PySem.Value.none .none (PySem.Data.fields #[]) #[])
noncomputable def hMo1o564 (P : Params) : Obj := (PySem.Obj.mk PySem.Value.none .none (PySem.Data.func (PySem.FuncData.mk (PySem.Str.ofString "__str__") (PySem.Str.ofString "Enum.__str__") (hFd P 566).params (hFd P 566).body (hFd P 566).scope 0 [] PySem.Value.none PySem.Value.none PySem.Value.none PySem.Value.none .none PySem.Value.none PySem.Value.none 0)) #[])
noncomputable def hMo1o568 (P : Params) : Obj := (PySem.Obj.mk PySem.Value.none .none (PySem.Data.fields #[]) #[])
noncomputable def hMo1o571 (P : Params) : Obj := (PySem.Obj.mk PySem.Value.none .none (PySem.Data.func (PySem.FuncData.mk (PySem.Str.ofString "__format__") (PySem.Str.ofString "Enum.__format__") (hFd P 573).params (hFd P 573).body (hFd P 573).scope 0 [] PySem.Value.none PySem.Value.none PySem.Value.none PySem.Value.none .none PySem.Value.none PySem.Value.none 0)) #[])
noncomputable def hMo1o575 (P : Params) : Obj := (PySem.Obj.mk PySem.Value.none .none (PySem.Data.fields #[]) #[])
noncomputable def hMo1o578 (P : Params) : Obj := (PySem.Obj.mk PySem.Value.none .none (PySem.Data.func (PySem.FuncData.mk (PySem.Str.ofString "__hash__") (PySem.Str.ofString "Enum.__hash__") (hFd P 580).params (hFd P 580).body (hFd P 580).scope 0 [] PySem.Value.none PySem.Value.none PySem.Value.none PySem.Value.none .none PySem.Value.none PySem.Value.none 0)) #[])
noncomputable def hMo1o582 (P : Params) : Obj := (PySem.Obj.mk PySem.Value.none .none (PySem.Data.fields #[]) #[])
noncomputable def hMo1o585 (P : Params) : Obj := (PySem.Obj.mk PySem.Value.none .none (PySem.Data.func (PySem.FuncData.mk (PySem.Str.ofString "__reduce_ex__") (PySem.Str.ofString "Enum.__reduce_ex__") (hFd P 587).params (hFd P 587).body (hFd P 587).scope 0 [] PySem.Value.none PySem.Value.none PySem.Value.none PySem.Value.none .none PySem.Value.none PySem.Value.none 0)) #[])
noncomputable def hMo1o589 (P : Params) : Obj := (PySem.Obj.mk PySem.Value.none .none (PySem.Data.fields #[]) #[])
noncomputable def hMo1o592 (P : Params) : Obj := (PySem.Obj.mk PySem.Value.none .none (PySem.Data.func (PySem.FuncData.mk (PySem.Str.ofString "__deepcopy__") (PySem.Str.ofString "Enum.__deepcopy__") (hFd P 594).params (hFd P 594).body (hFd P 594).scope 0 [] PySem.Value.none PySem.Value.none PySem.Value.none PySem.Value.none .none PySem.Value.none PySem.Value.none 0)) #[])
noncomputable def hMo1o596 (P : Params) : Obj := (PySem.Obj.mk PySem.Value.none .none (PySem.Data.fields #[]) #[])
noncomputable def hMo1o599 (P : Params) : Obj := (PySem.Obj.mk PySem.Value.none .none (PySem.Data.func (PySem.FuncData.mk (PySem.Str.ofString "__copy__") (PySem.Str.ofString "Enum.__copy__") (hFd P 601).params (hFd P 601).body (hFd P 601).scope 0 [] PySem.Value.none PySem.Value.none PySem.Value.none PySem.Value.none .none PySem.Value.none PySem.Value.none 0)) #[])
noncomputable def hMo1o603 (P : Params) : Obj := (PySem.Obj.mk PySem.Value.none .none (PySem.Data.fields #[]) #[])
noncomputable def hMo1o606 (P : Params) : Obj := (PySem.Obj.mk PySem.Value.none .none (PySem.Data.func (PySem.FuncData.mk (PySem.Str.ofString "__dir__") (PySem.Str.ofString "Enum.__dir__") (hFd P 608).params (hFd P 608).body (hFd P 608).scope 0 [] PySem.Value.none PySem.Value.none PySem.Value.none PySem.Value.none .none PySem.Value.none PySem.Value.none 0)) #[])
noncomputable def hMo1o610 (P : Params) : Obj := (PySem.Obj.mk PySem.Value.none .none (PySem.Data.fields #[]) #[])
noncomputable def hMo1o613 (P : Params) : Obj := (PySem.Obj.mk PySem.Value.none .none (PySem.Data.func (PySem.FuncData.mk (PySem.Str.ofString "_add_alias_") (PySem.Str.ofString "Enum._add_alias_") (hFd P 615).params (hFd P 615).body (hFd P 615).scope 0 [] PySem.Value.none PySem.Value.none PySem.Value.none PySem.Value.none .none PySem.Value.none PySem.Value.none 0)) #[])
noncomputable def hMo1o617 (P : Params) : Obj := (PySem.Obj.mk PySem.Value.none .none (PySem.Data.fields #[]) #[])
noncomputable def hMo1o620 (P : Params) : Obj := (PySem.Obj.mk PySem.Value.none .none (PySem.Data.func (PySem.FuncData.mk (PySem.Str.ofString "_add_value_alias_") (PySem.Str.ofString "Enum._add_value_alias_") (hFd P 622).params (hFd P 622).body (hFd P 622).scope 0 [] PySem.Value.none PySem.Value.none PySem.Value.none PySem.Value.none .none PySem.Value.none PySem.Value.none 0)) #[])
noncomputable def hMo1o625 (P : Params) : Obj := (PySem.Obj.mk (PySem.Value.type "frame") .none (PySem.Data.dict #[(PySem.DictEntry.mk (PySem.PyData.keyHash P (PySem.Str.ofString "self")) (PySem.Value.str (PySem.Str.ofString "self") 928) (PySem.Value.ref 624)), (PySem.DictEntry.mk (PySem.PyData.keyHash P (PySem.Str.ofString "name")) (PySem.Value.str (PySem.Str.ofString "name") 929) (PySem.Value.str (PySem.Str.ofString "name") 927))] 2) #[])
noncomputable def hMo1o628 (P : Params) : Obj := (PySem.Obj.mk (PySem.Value.type "frame") .none (PySem.Data.dict #[(PySem.DictEntry.mk (PySem.PyData.keyHash P (PySem.Str.ofString "self")) (PySem.Value.str (PySem.Str.ofString "self") 934) (PySem.Value.ref 627)), (PySem.DictEntry.mk (PySem.PyData.keyHash P (PySem.Str.ofString "name")) (PySem.Value.str (PySem.Str.ofString "name") 935) (PySem.Value.str (PySem.Str.ofString "value") 933))] 2) #[])
noncomputable def hMo1o630 (P : Params) : Obj := (PySem.Obj.mk (PySem.Value.type "dict") .none (PySem.Data.dict #[] 0) #[])
noncomputable def hMo1o631 (P : Params) : Obj := (PySem.Obj.mk (PySem.Value.type "frame") .none (PySem.Data.dict #[(PySem.DictEntry.mk (PySem.PyData.keyHash P (PySem.Str.ofString "metacls")) (PySem.Value.str (PySem.Str.ofString "metacls") 941) (PySem.Value.ref 468)), (PySem.DictEntry.mk (PySem.PyData.keyHash P (PySem.Str.ofString "cls")) (PySem.Value.str (PySem.Str.ofString "cls") 942) (PySem.Value.str (PySem.Str.ofString "Enum") 781)), (PySem.DictEntry.mk (PySem.PyData.keyHash P (PySem.Str.ofString "bases")) (PySem.Value.str (PySem.Str.ofString "bases") 943) (PySem.Value.ref 515)), (PySem.DictEntry.mk (PySem.PyData.keyHash P (PySem.Str.ofString "classdict")) (PySem.Value.str (PySem.Str.ofString "classdict") 944) (PySem.Value.ref 517)), (PySem.DictEntry.mk (PySem.PyData.keyHash P (PySem.Str.ofString "kwds")) (PySem.Value.str (PySem.Str.ofString "kwds") 945) (PySem.Value.ref 630)), (PySem.DictEntry.mk (PySem.PyData.keyHash P (PySem.Str.ofString "made")) (PySem.Value.str (PySem.Str.ofString "made") 956) (PySem.Value.ref 634))] 6) #[])
noncomputable def hMo1o632 (P : Params) : Obj := (PySem.Obj.mk (PySem.Value.type "super") .none (PySem.Data.fields #[(PySem.Value.ref 468), (PySem.Value.ref 468), (PySem.Value.ref 468)]) #[])
noncomputable def hMo1o638 (P : Params) : Obj := (PySem.Obj.mk (PySem.Value.type "super") .none (PySem.Data.fields #[(PySem.Value.ref 634), (PySem.Value.ref 634), (PySem.Value.ref 634)]) #[])
noncomputable def hMo1o639 (P : Params) : Obj := (PySem.Obj.mk (PySem.Value.type "builtin_function_or_method") .none (PySem.Data.fields #[(PySem.Value.builtin "object.__init_subclass__"), (PySem.Value.ref 634)]) #[])
noncomputable def hMo1o640 (P : Params) : Obj := (PySem.Obj.mk (PySem.Value.type "method") .none (PySem.Data.fields #[(PySem.Value.ref 458), (PySem.Value.ref 634)]) #[])
noncomputable def hMo1o641 (P : Params) : Obj := (PySem.Obj.mk (PySem.Value.type "frame") .none (PySem.Data.dict #[(PySem.DictEntry.mk (PySem.PyData.keyHash P (PySem.Str.ofString "cls")) (PySem.Value.str (PySem.Str.ofString "cls") 962) (PySem.Value.ref 634)), (PySem.DictEntry.mk (PySem.PyData.keyHash P (PySem.Str.ofString "name")) (PySem.Value.str (PySem.Str.ofString "name") 963) (PySem.Value.str (PySem.Str.ofString "_written_out_") 960)), (PySem.DictEntry.mk (PySem.PyData.keyHash P (PySem.Str.ofString "value")) (PySem.Value.str (PySem.Str.ofString "value") 964) (PySem.Value.int (0 : Int) 961))] 3) #[])
noncomputable def hMo1o642 (P : Params) : Obj := (PySem.Obj.mk (PySem.Value.type "super") .none (PySem.Data.fields #[(PySem.Value.ref 468), (PySem.Value.ref 634), (PySem.Value.ref 468)]) #[])
noncomputable def hMo1o643 (P : Params) : Obj := (PySem.Obj.mk (PySem.Value.type "method-wrapper") .none (PySem.Data.fields #[(PySem.Value.builtin "type.__setattr__"), (PySem.Value.ref 634)]) #[])
noncomputable def hMo1o645 (P : Params) : Obj := (PySem.Obj.mk (PySem.Value.type "builtin_function_or_method") .none (PySem.Data.fields #[(PySem.Value.builtin "type.__prepare__"), (PySem.Value.ref 468)]) #[])
noncomputable def hMo1o646 (P : Params) : Obj := (PySem.Obj.mk (PySem.Value.type "dict") .none (PySem.Data.dict #[(PySem.DictEntry.mk (PySem.PyData.keyHash P (PySem.Str.ofString "__module__")) (PySem.Value.str (PySem.Str.ofString "__module__") 977) (PySem.Value.str (PySem.Str.ofString "pg8000.converters") 968)), (PySem.DictEntry.mk (PySem.PyData.keyHash P (PySem.Str.ofString "__qualname__")) (PySem.Value.str (PySem.Str.ofString "__qualname__") 979) (PySem.Value.str (PySem.Str.ofString "ParserState") 978)), (PySem.DictEntry.mk (PySem.PyData.keyHash P (PySem.Str.ofString "__firstlineno__")) (PySem.Value.str (PySem.Str.ofString "__firstlineno__") 981) (PySem.Value.int (351 : Int) 980)), (PySem.DictEntry.mk (PySem.PyData.keyHash P (PySem.Str.ofString "_written_out_")) (PySem.Value.str (PySem.Str.ofString "_written_out_") 983) (PySem.Value.int (4 : Int) 982)), (PySem.DictEntry.mk (PySem.PyData.keyHash P (PySem.Str.ofString "_member_names_")) (PySem.Value.str (PySem.Str.ofString "_member_names_") 988) (PySem.Value.ref 651)), (PySem.DictEntry.mk (PySem.PyData.keyHash P (PySem.Str.ofString "_value_repr_")) (PySem.Value.str (PySem.Str.ofString "_value_repr_") 990) PySem.Value.none), (PySem.DictEntry.mk (PySem.PyData.keyHash P (PySem.Str.ofString "__static_attributes__")) (PySem.Value.str (PySem.Str.ofString "__static_attributes__") 991) (PySem.Value.ref 652))] 7) #[])
noncomputable def hMo1o647 (P : Params) : Obj := (PySem.Obj.mk (PySem.Value.type "tuple") .none (PySem.Data.seq #[] 0) #[])
noncomputable def hMo1o648 (P : Params) : Obj := (PySem.Obj.mk PySem.Value.none .none (PySem.Data.fields #[]) #[])
noncomputable def hMo1o649 (P : Params) : Obj := (PySem.Obj.mk (PySem.Value.type "code") .none (PySem.Data.fields #[(PySem.Value.str (PySem.Str.ofString "ParserState") 972), (PySem.Value.str (PySem.Str.ofString "ParserState") 973), (PySem.Value.str (PySem.Str.ofString "/claim/cut.py") 974), (PySem.Value.int (351 : Int) 0), (PySem.Value.int (0 : Int) 0), (PySem.Value.int (0 : Int) 0), (PySem.Value.int (0 : Int) 0), (PySem.Value.int (0 : Int) 0), (PySem.Value.ref 647), (PySem.Value.bool Bool.false), (PySem.Value.int (181 : Int) 0), (PySem.Value.ref 648), PySem.Value.none, PySem.Value.none, PySem.Value.none, PySem.Value.none, (PySem.Value.int (975 : Int) 0), (PySem.Value.int (351 : Int) 0), (PySem.Value.str (PySem.Str.ofString "/claim/cut.py") 976)]) #[])
noncomputable def hMo1o650 (P : Params) : Obj := (PySem.Obj.mk (PySem.Value.type "frame") .none PySem.Data.plain #[(.some (PySem.Value.ref 649)), (.some (PySem.Value.ref 3)), (.some (PySem.Value.ref 646)), .none, (.some (PySem.Value.str (PySem.Str.ofString "pg8000.converters") 968)), .none, (.some (PySem.Value.ref 0))])
noncomputable def hMo1o653 (P : Params) : Obj := (PySem.Obj.mk (PySem.Value.type "dict") .none (PySem.Data.dict #[] 0) #[])
noncomputable def hMo1o654 (P : Params) : Obj := (PySem.Obj.mk (PySem.Value.type "frame") .none (PySem.Data.dict #[(PySem.DictEntry.mk (PySem.PyData.keyHash P (PySem.Str.ofString "metacls")) (PySem.Value.str (PySem.Str.ofString "metacls") 993) (PySem.Value.ref 468)), (PySem.DictEntry.mk (PySem.PyData.keyHash P (PySem.Str.ofString "cls")) (PySem.Value.str (PySem.Str.ofString "cls") 994) (PySem.Value.str (PySem.Str.ofString "ParserState") 970)), (PySem.DictEntry.mk (PySem.PyData.keyHash P (PySem.Str.ofString "bases")) (PySem.Value.str (PySem.Str.ofString "bases") 995) (PySem.Value.ref 644)), (PySem.DictEntry.mk (PySem.PyData.keyHash P (PySem.Str.ofString "classdict")) (PySem.Value.str (PySem.Str.ofString "classdict") 996) (PySem.Value.ref 646)), (PySem.DictEntry.mk (PySem.PyData.keyHash P (PySem.Str.ofString "kwds")) (PySem.Value.str (PySem.Str.ofString "kwds") 997) (PySem.Value.ref 653)), (PySem.DictEntry.mk (PySem.PyData.keyHash P (PySem.Str.ofString "made")) (PySem.Value.str (PySem.Str.ofString "made") 1003) (PySem.Value.ref 657))] 6) #[])
noncomputable def hMo1o655 (P : Params) : Obj := (PySem.Obj.mk (PySem.Value.type "super") .none (PySem.Data.fields #[(PySem.Value.ref 468), (PySem.Value.ref 468), (PySem.Value.ref 468)]) #[])
noncomputable def hMo1o656 (P : Params) : Obj := (PySem.Obj.mk (PySem.Value.type "dict") .none (PySem.Data.dict #[(PySem.DictEntry.mk (PySem.PyData.keyHash P (PySem.Str.ofString "__module__")) (PySem.Value.str (PySem.Str.ofString "__module__") 977) (PySem.Value.str (PySem.Str.ofString "pg8000.converters") 968)), (PySem.DictEntry.mk (PySem.PyData.keyHash P (PySem.Str.ofString "__firstlineno__")) (PySem.Value.str (PySem.Str.ofString "__firstlineno__") 981) (PySem.Value.int (351 : Int) 980)), (PySem.DictEntry.mk (PySem.PyData.keyHash P (PySem.Str.ofString "_written_out_")) (PySem.Value.str (PySem.Str.ofString "_written_out_") 983) (PySem.Value.int (0 : Int) 1008)), (PySem.DictEntry.mk (PySem.PyData.keyHash P (PySem.Str.ofString "_member_names_")) (PySem.Value.str (PySem.Str.ofString "_member_names_") 988) (PySem.Value.ref 651)), (PySem.DictEntry.mk (PySem.PyData.keyHash P (PySem.Str.ofString "_value_repr_")) (PySem.Value.str (PySem.Str.ofString "_value_repr_") 990) PySem.Value.none), (PySem.DictEntry.mk (PySem.PyData.keyHash P (PySem.Str.ofString "__static_attributes__")) (PySem.Value.str (PySem.Str.ofString "__static_attributes__") 991) (PySem.Value.ref 652)), (PySem.DictEntry.mk (PySem.PyData.keyHash P (PySem.Str.ofString "__doc__")) (PySem.Value.str (PySem.Str.ofString "__doc__") 1001) PySem.Value.none)] 2) #[])
noncomputable def hMo1o658 (P : Params) : Obj := (PySem.Obj.mk (PySem.Value.type "super") .none (PySem.Data.fields #[(PySem.Value.ref 657), (PySem.Value.ref 657), (PySem.Value.ref 657)]) #[])
noncomputable def hMo1o659 (P : Params) : Obj := (PySem.Obj.mk (PySem.Value.type "builtin_function_or_method") .none (PySem.Data.fields #[(PySem.Value.builtin "object.__init_subclass__"), (PySem.Value.ref 657)]) #[])
noncomputable def hMo1o660 (P : Params) : Obj := (PySem.Obj.mk (PySem.Value.type "method") .none (PySem.Data.fields #[(PySem.Value.ref 458), (PySem.Value.ref 657)]) #[])
noncomputable def hMo1o661 (P : Params) : Obj := (PySem.Obj.mk (PySem.Value.type "frame") .none (PySem.Data.dict #[(PySem.DictEntry.mk (PySem.PyData.keyHash P (PySem.Str.ofString "cls")) (PySem.Value.str (PySem.Str.ofString "cls") 1009) (PySem.Value.ref 657)), (PySem.DictEntry.mk (PySem.PyData.keyHash P (PySem.Str.ofString "name")) (PySem.Value.str (PySem.Str.ofString "name") 1010) (PySem.Value.str (PySem.Str.ofString "_written_out_") 1007)), (PySem.DictEntry.mk (PySem.PyData.keyHash P (PySem.Str.ofString "value")) (PySem.Value.str (PySem.Str.ofString "value") 1011) (PySem.Value.int (0 : Int) 1008))] 3) #[])
noncomputable def hMo1o662 (P : Params) : Obj := (PySem.Obj.mk (PySem.Value.type "super") .none (PySem.Data.fields #[(PySem.Value.ref 468), (PySem.Value.ref 657), (PySem.Value.ref 468)]) #[])
noncomputable def hMo1o663 (P : Params) : Obj := (PySem.Obj.mk (PySem.Value.type "method-wrapper") .none (PySem.Data.fields #[(PySem.Value.builtin "type.__setattr__"), (PySem.Value.ref 657)]) #[])
noncomputable def hMidT1 (P : Params) : BT := (.node (boot_o_0 P) (.node (boot_o_1 P) (.node (hMo1o3 P) (.node (boot_o_7 P) (.node (hOb P 15) (.node (hOb P 31) (.node (hOb P 63) (.node (hOb P 127) (.node (hMo0o255 P) (.node (hOb P 511) .nil .nil) .nil) (.node (hOb P 383) (.node (hMo1o639 P) .nil .nil) .nil)) (.node (hOb P 191) (.node (hMo0o319 P) (.node (hMo1o575 P) .nil .nil) .nil) (.node (hOb P 447) .nil .nil))) (.node (hMo0o95 P) (.node (hOb P 159) (.node (hOb P 287) (.node (hOb P 543) .nil .nil) .nil) (.node (hOb P 415) .nil .nil)) (.node (hOb P 223) (.node (hMo0o351 P) (.node (hOb P 607) .nil .nil) .nil) (.node (hOb P 479) .nil .nil)))) (.node (hMo0o47 P) (.node (hOb P 79) (.node (hOb P 143) (.node (hOb P 271) (.node (hOb P 527) .nil .nil) .nil) (.node (hOb P 399) (.node (hMo1o655 P) .nil .nil) .nil)) (.node (hMo0o207 P) (.node (hOb P 335) (.node (hOb P 591) .nil .nil) .nil) (.node (hMo0o463 P) .nil .nil))) (.node (hOb P 111) (.node (hMo0o175 P) (.node (hOb P 303) (.node (hOb P 559) .nil .nil) .nil) (.node (hOb P 431) .nil .nil)) (.node (hMo0o239 P) (.node (hOb P 367) (.node (hOb P 623) .nil .nil) .nil) (.node (hMo1o495 P) .nil .nil))))) (.node (hMo0o23 P) (.node (hOb P 39) (.node (hOb P 71) (.node (hOb P 135) (.node (hMo0o263 P) (.node (hMo1o519 P) .nil .nil) .nil) (.node (hOb P 391) (.node (hMo1o647 P) .nil .nil) .nil)) (.node (hOb P 199) (.node (hOb P 327) (.node (hOb P 583) .nil .nil) .nil) (.node (hOb P 455) .nil .nil))) (.node (hOb P 103) (.node (hOb P 167) (.node (hMo0o295 P) (.node (hOb P 551) .nil .nil) .nil) (.node (hOb P 423) .nil .nil)) (.node (hOb P 231) (.node (hOb P 359) (.node (hOb P 615) .nil .nil) .nil) (.node (hOb P 487) .nil .nil)))) (.node (hOb P 55) (.node (hOb P 87) (.node (hMo0o151 P) (.node (hOb P 279) (.node (hOb P 535) .nil .nil) .nil) (.node (hMo0o407 P) (.node (hMo1o663 P) .nil .nil) .nil)) (.node (hMo0o215 P) (.node (hOb P 343) (.node (hMo1o599 P) .nil .nil) .nil) (.node (hMo0o471 P) .nil .nil))) (.node (hMo0o119 P) (.node (hOb P 183) (.node (hOb P 311) (.node (hOb P 567) .nil .nil) .nil) (.node (hOb P 439) .nil .nil)) (.node (hOb P 247) (.node (hMo0o375 P) (.node (hMo1o631 P) .nil .nil) .nil) (.node (hOb P 503) .nil .nil)))))) (.node (hMo0o11 P) (.node (hMo0o19 P) (.node (hOb P 35) (.node (hOb P 67) (.node (hOb P 131) (.node (hMo0o259 P) (.node (hMo1o515 P) .nil .nil) .nil) (.node (hOb P 387) (.node (hMo1o643 P) .nil .nil) .nil)) (.node (hOb P 195) (.node (hMo0o323 P) (.node (hOb P 579) .nil .nil) .nil) (.node (hOb P 451) .nil .nil))) (.node (hOb P 99) (.node (hOb P 163) (.node (hMo0o291 P) (.node (hMo1o547 P) .nil .nil) .nil) (.node (hOb P 419) .nil .nil)) (.node (hOb P 227) (.node (hOb P 355) (.node (hOb P 611) .nil .nil) .nil) (.node (hMo1o483 P) .nil .nil)))) (.node (hMo0o51 P) (.node (hOb P 83) (.node (hMo0o147 P) (.node (hOb P 275) (.node (hOb P 531) .nil .nil) .nil) (.node (hMo0o403 P) (.node (hMo1o659 P) .nil .nil) .nil)) (.node (hOb P 211) (.node (hOb P 339) (.node (hOb P 595) .nil .nil) .nil) (.node (hOb P 467) .nil .nil))) (.node (hOb P 115) (.node (hMo0o179 P) (.node (hOb P 307) (.node (hOb P 563) .nil .nil) .nil) (.node (hOb P 435) .nil .nil)) (.node (hMo0o243 P) (.node (hOb P 371) (.node (hOb P 627) .nil .nil) .nil) (.node (hOb P 499) .nil .nil))))) (.node (hOb P 27) (.node (hOb P 43) (.node (hMo0o75 P) (.node (hOb P 139) (.node (hMo0o267 P) (.node (hOb P 523) .nil .nil) .nil) (.node (hOb P 395) (.node (hOb P 651) .nil .nil) .nil)) (.node (hMo0o203 P) (.node (hOb P 331) (.node (hOb P 587) .nil .nil) .nil) (.node (hOb P 459) .nil .nil))) (.node (hOb P 107) (.node (hOb P 171) (.node (hOb P 299) (.node (hOb P 555) .nil .nil) .nil) (.node (hOb P 427) .nil .nil)) (.node (hOb P 235) (.node (hOb P 363) (.node (hOb P 619) .nil .nil) .nil) (.node (hMo1o491 P) .nil .nil)))) (.node (hOb P 59) (.node (hMo0o91 P) (.node (hOb P 155) (.node (hOb P 283) (.node (hOb P 539) .nil .nil) .nil) (.node (hOb P 411) .nil .nil)) (.node (hOb P 219) (.node (hMo0o347 P) (.node (hMo1o603 P) .nil .nil) .nil) (.node (hMo1o475 P) .nil .nil))) (.node (hMo0o123 P) (.node (hOb P 187) (.node (hOb P 315) (.node (hMo1o571 P) .nil .nil) .nil) (.node (hOb P 443) .nil .nil)) (.node (hOb P 251) (.node (hMo0o379 P) (.node (hOb P 635) .nil .nil) .nil) (.node (hOb P 507) .nil .nil))))))) (.node (boot_o_5 P) (.node (boot_o_9 P) (.node (hOb P 17) (.node (hMo0o33 P) (.node (hMo0o65 P) (.node (hOb P 129) (.node (hOb P 257) (.node (hMo1o513 P) .nil .nil) .nil) (.node (hOb P 385) (.node (hMo1o641 P) .nil .nil) .nil)) (.node (hMo0o193 P) (.node (hOb P 321) (.node (hOb P 577) .nil .nil) .nil) (.node (hOb P 449) .nil .nil))) (.node (hOb P 97) (.node (hMo0o161 P) (.node (hOb P 289) (.node (hOb P 545) .nil .nil) .nil) (.node (hMo0o417 P) .nil .nil)) (.node (hMo0o225 P) (.node (hOb P 353) (.node (hOb P 609) .nil .nil) .nil) (.node (hOb P 481) .nil .nil)))) (.node (hOb P 49) (.node (hMo0o81 P) (.node (hOb P 145) (.node (hOb P 273) (.node (hOb P 529) .nil .nil) .nil) (.node (hOb P 401) (.node (hOb P 657) .nil .nil) .nil)) (.node (hOb P 209) (.node (hMo0o337 P) (.node (hOb P 593) .nil .nil) .nil) (.node (hOb P 465) .nil .nil))) (.node (hOb P 113) (.node (hOb P 177) (.node (hMo0o305 P) (.node (hMo1o561 P) .nil .nil) .nil) (.node (hOb P 433) .nil .nil)) (.node (hOb P 241) (.node (hOb P 369) (.node (hMo1o625 P) .nil .nil) .nil) (.node (hOb P 497) .nil .nil))))) (.node (hOb P 25) (.node (hOb P 41) (.node (hMo0o73 P) (.node (hMo0o137 P) (.node (hOb P 265) (.node (hMo1o521 P) .nil .nil) .nil) (.node (hMo0o393 P) (.node (hMo1o649 P) .nil .nil) .nil)) (.node (hOb P 201) (.node (hOb P 329) (.node (hMo1o585 P) .nil .nil) .nil) (.node (hOb P 457) .nil .nil))) (.node (hMo0o105 P) (.node (hOb P 169) (.node (hOb P 297) (.node (hOb P 553) .nil .nil) .nil) (.node (hMo0o425 P) .nil .nil)) (.node (hOb P 233) (.node (hMo0o361 P) (.node (hMo1o617 P) .nil .nil) .nil) (.node (hOb P 489) .nil .nil)))) (.node (hOb P 57) (.node (hOb P 89) (.node (hOb P 153) (.node (hMo0o281 P) (.node (hMo1o537 P) .nil .nil) .nil) (.node (hOb P 409) .nil .nil)) (.node (hOb P 217) (.node (hOb P 345) (.node (hOb P 601) .nil .nil) .nil) (.node (hMo1o473 P) .nil .nil))) (.node (hOb P 121) (.node (hOb P 185) (.node (hOb P 313) (.node (hOb P 569) .nil .nil) .nil) (.node (hOb P 441) .nil .nil)) (.node (hOb P 249) (.node (hOb P 377) (.node (hOb P 633) .nil .nil) .nil) (.node (hMo1o505 P) .nil .nil)))))) (.node (hMo0o13 P) (.node (hOb P 21) (.node (hMo0o37 P) (.node (hOb P 69) (.node (hMo0o133 P) (.node (hMo0o261 P) (.node (hMo1o517 P) .nil .nil) .nil) (.node (hMo0o389 P) (.node (hMo1o645 P) .nil .nil) .nil)) (.node (hOb P 197) (.node (hOb P 325) (.node (hOb P 581) .nil .nil) .nil) (.node (hMo0o453 P) .nil .nil))) (.node (hOb P 101) (.node (hMo0o165 P) (.node (hOb P 293) (.node (hOb P 549) .nil .nil) .nil) (.node (hOb P 421) .nil .nil)) (.node (hMo0o229 P) (.node (hOb P 357) (.node (hMo1o613 P) .nil .nil) .nil) (.node (hOb P 485) .nil .nil)))) (.node (hOb P 53) (.node (hOb P 85) (.node (hOb P 149) (.node (hMo0o277 P) (.node (hMo1o533 P) .nil .nil) .nil) (.node (hOb P 405) (.node (hMo1o661 P) .nil .nil) .nil)) (.node (hOb P 213) (.node (hOb P 341) (.node (hOb P 597) .nil .nil) .nil) (.node (hOb P 469) .nil .nil))) (.node (hOb P 117) (.node (hOb P 181) (.node (hMo0o309 P) (.node (hOb P 565) .nil .nil) .nil) (.node (hMo0o437 P) .nil .nil)) (.node (hOb P 245) (.node (hOb P 373) (.node (hOb P 629) .nil .nil) .nil) (.node (hOb P 501) .nil .nil))))) (.node (hOb P 29) (.node (hOb P 45) (.node (hMo0o77 P) (.node (hOb P 141) (.node (hOb P 269) (.node (hOb P 525) .nil .nil) .nil) (.node (hOb P 397) (.node (hMo1o653 P) .nil .nil) .nil)) (.node (hOb P 205) (.node (hMo0o333 P) (.node (hMo1o589 P) .nil .nil) .nil) (.node (hOb P 461) .nil .nil))) (.node (hMo0o109 P) (.node (hOb P 173) (.node (hOb P 301) (.node (hMo1o557 P) .nil .nil) .nil) (.node (hMo0o429 P) .nil .nil)) (.node (hOb P 237) (.node (hMo0o365 P) (.node (hOb P 621) .nil .nil) .nil) (.node (hOb P 493) .nil .nil)))) (.node (hMo0o61 P) (.node (hOb P 93) (.node (hOb P 157) (.node (hOb P 285) (.node (hOb P 541) .nil .nil) .nil) (.node (hOb P 413) .nil .nil)) (.node (hOb P 221) (.node (hOb P 349) (.node (hOb P 605) .nil .nil) .nil) (.node (hMo1o477 P) .nil .nil))) (.node (hOb P 125) (.node (hMo0o189 P) (.node (hOb P 317) (.node (hOb P 573) .nil .nil) .nil) (.node (hMo0o445 P) .nil .nil)) (.node (hOb P 253) (.node (hOb P 381) (.node (hOb P 637) .nil .nil) .nil) (.node (hOb P 509) .nil .nil)))))))) (.node (hOb P 2) (.node (boot_o_4 P) (.node (boot_o_8 P) (.node (hMo0o16 P) (.node (hOb P 32) (.node (hOb P 64) (.node (hOb P 128) (.node (hMo0o256 P) (.node (hOb P 512) .nil .nil) .nil) (.node (hOb P 384) (.node (hMo1o640 P) .nil .nil) .nil)) (.node (hOb P 192) (.node (hOb P 320) (.node (hOb P 576) .nil .nil) .nil) (.node (hMo0o448 P) .nil .nil))) (.node (hOb P 96) (.node (hOb P 160) (.node (hMo0o288 P) (.node (hOb P 544) .nil .nil) .nil) (.node (hOb P 416) .nil .nil)) (.node (hOb P 224) (.node (hOb P 352) (.node (hOb P 608) .nil .nil) .nil) (.node (hMo1o480 P) .nil .nil)))) (.node (hOb P 48) (.node (hOb P 80) (.node (hMo0o144 P) (.node (hOb P 272) (.node (hOb P 528) .nil .nil) .nil) (.node (hMo0o400 P) (.node (hMo1o656 P) .nil .nil) .nil)) (.node (hOb P 208) (.node (hOb P 336) (.node (hMo1o592 P) .nil .nil) .nil) (.node (hOb P 464) .nil .nil))) (.node (hMo0o112 P) (.node (hOb P 176) (.node (hOb P 304) (.node (hOb P 560) .nil .nil) .nil) (.node (hMo0o432 P) .nil .nil)) (.node (hOb P 240) (.node (hMo0o368 P) (.node (hOb P 624) .nil .nil) .nil) (.node (hOb P 496) .nil .nil))))) (.node (hOb P 24) (.node (hMo0o40 P) (.node (hMo0o72 P) (.node (hOb P 136) (.node (hMo0o264 P) (.node (hMo1o520 P) .nil .nil) .nil) (.node (hOb P 392) (.node (hMo1o648 P) .nil .nil) .nil)) (.node (hMo0o200 P) (.node (hOb P 328) (.node (hOb P 584) .nil .nil) .nil) (.node (hMo0o456 P) .nil .nil))) (.node (hOb P 104) (.node (hMo0o168 P) (.node (hOb P 296) (.node (hOb P 552) .nil .nil) .nil) (.node (hOb P 424) .nil .nil)) (.node (hMo0o232 P) (.node (hOb P 360) (.node (hOb P 616) .nil .nil) .nil) (.node (hMo1o488 P) .nil .nil)))) (.node (hOb P 56) (.node (hMo0o88 P) (.node (hOb P 152) (.node (hOb P 280) (.node (hOb P 536) .nil .nil) .nil) (.node (hOb P 408) .nil .nil)) (.node (hOb P 216) (.node (hMo0o344 P) (.node (hOb P 600) .nil .nil) .nil) (.node (hMo1o472 P) .nil .nil))) (.node (hOb P 120) (.node (hOb P 184) (.node (hMo0o312 P) (.node (hMo1o568 P) .nil .nil) .nil) (.node (hMo0o440 P) .nil .nil)) (.node (hOb P 248) (.node (hOb P 376) (.node (hMo1o632 P) .nil .nil) .nil) (.node (hOb P 504) .nil .nil)))))) (.node (hMo1o12 P) (.node (hOb P 20) (.node (hOb P 36) (.node (hMo0o68 P) (.node (hOb P 132) (.node (hOb P 260) (.node (hMo1o516 P) .nil .nil) .nil) (.node (hOb P 388) (.node (hOb P 644) .nil .nil) .nil)) (.node (hMo0o196 P) (.node (hOb P 324) (.node (hOb P 580) .nil .nil) .nil) (.node (hOb P 452) .nil .nil))) (.node (hOb P 100) (.node (hOb P 164) (.node (hOb P 292) (.node (hOb P 548) .nil .nil) .nil) (.node (hOb P 420) .nil .nil)) (.node (hOb P 228) (.node (hOb P 356) (.node (hOb P 612) .nil .nil) .nil) (.node (hOb P 484) .nil .nil)))) (.node (hOb P 52) (.node (hMo0o84 P) (.node (hOb P 148) (.node (hOb P 276) (.node (hOb P 532) .nil .nil) .nil) (.node (hOb P 404) (.node (hMo1o660 P) .nil .nil) .nil)) (.node (hOb P 212) (.node (hMo0o340 P) (.node (hMo1o596 P) .nil .nil) .nil) (.node (hOb P 468) .nil .nil))) (.node (hMo0o116 P) (.node (hOb P 180) (.node (hOb P 308) (.node (hMo1o564 P) .nil .nil) .nil) (.node (hOb P 436) .nil .nil)) (.node (hOb P 244) (.node (hMo0o372 P) (.node (hMo1o628 P) .nil .nil) .nil) (.node (hOb P 500) .nil .nil))))) (.node (hOb P 28) (.node (hMo0o44 P) (.node (hMo0o76 P) (.node (hMo0o140 P) (.node (hOb P 268) (.node (hOb P 524) .nil .nil) .nil) (.node (hMo0o396 P) (.node (hOb P 652) .nil .nil) .nil)) (.node (hOb P 204) (.node (hOb P 332) (.node (hOb P 588) .nil .nil) .nil) (.node (hMo0o460 P) .nil .nil))) (.node (hOb P 108) (.node (hMo0o172 P) (.node (hOb P 300) (.node (hOb P 556) .nil .nil) .nil) (.node (hOb P 428) .nil .nil)) (.node (hMo0o236 P) (.node (hOb P 364) (.node (hMo1o620 P) .nil .nil) .nil) (.node (hOb P 492) .nil .nil)))) (.node (hOb P 60) (.node (hOb P 92) (.node (hOb P 156) (.node (hMo0o284 P) (.node (hMo1o540 P) .nil .nil) .nil) (.node (hOb P 412) .nil .nil)) (.node (hOb P 220) (.node (hOb P 348) (.node (hOb P 604) .nil .nil) .nil) (.node (hMo1o476 P) .nil .nil))) (.node (hOb P 124) (.node (hOb P 188) (.node (hMo0o316 P) (.node (hOb P 572) .nil .nil) .nil) (.node (hOb P 444) .nil .nil)) (.node (hOb P 252) (.node (hOb P 380) (.node (hOb P 636) .nil .nil) .nil) (.node (hOb P 508) .nil .nil))))))) (.node (boot_o_6 P) (.node (boot_o_10 P) (.node (hOb P 18) (.node (hOb P 34) (.node (hOb P 66) (.node (hMo0o130 P) (.node (hMo0o258 P) (.node (hMo1o514 P) .nil .nil) .nil) (.node (hMo0o386 P) (.node (hMo1o642 P) .nil .nil) .nil)) (.node (hOb P 194) (.node (hOb P 322) (.node (hMo1o578 P) .nil .nil) .nil) (.node (hOb P 450) .nil .nil))) (.node (hMo0o98 P) (.node (hOb P 162) (.node (hOb P 290) (.node (hOb P 546) .nil .nil) .nil) (.node (hOb P 418) .nil .nil)) (.node (hOb P 226) (.node (hMo0o354 P) (.node (hMo1o610 P) .nil .nil) .nil) (.node (hOb P 482) .nil .nil)))) (.node (hOb P 50) (.node (hOb P 82) (.node (hOb P 146) (.node (hMo0o274 P) (.node (hMo1o530 P) .nil .nil) .nil) (.node (hOb P 402) (.node (hMo1o658 P) .nil .nil) .nil)) (.node (hMo0o210 P) (.node (hOb P 338) (.node (hOb P 594) .nil .nil) .nil) (.node (hOb P 466) .nil .nil))) (.node (hOb P 114) (.node (hOb P 178) (.node (hOb P 306) (.node (hOb P 562) .nil .nil) .nil) (.node (hOb P 434) .nil .nil)) (.node (hOb P 242) (.node (hOb P 370) (.node (hOb P 626) .nil .nil) .nil) (.node (hMo1o498 P) .nil .nil))))) (.node (hMo0o26 P) (.node (hOb P 42) (.node (hMo0o74 P) (.node (hOb P 138) (.node (hOb P 266) (.node (hOb P 522) .nil .nil) .nil) (.node (hOb P 394) (.node (hMo1o650 P) .nil .nil) .nil)) (.node (hOb P 202) (.node (hMo0o330 P) (.node (hOb P 586) .nil .nil) .nil) (.node (hOb P 458) .nil .nil))) (.node (hOb P 106) (.node (hOb P 170) (.node (hMo0o298 P) (.node (hMo1o554 P) .nil .nil) .nil) (.node (hOb P 426) .nil .nil)) (.node (hOb P 234) (.node (hOb P 362) (.node (hOb P 618) .nil .nil) .nil) (.node (hOb P 490) .nil .nil)))) (.node (hMo0o58 P) (.node (hOb P 90) (.node (hMo0o154 P) (.node (hOb P 282) (.node (hOb P 538) .nil .nil) .nil) (.node (hMo0o410 P) .nil .nil)) (.node (hMo0o218 P) (.node (hOb P 346) (.node (hOb P 602) .nil .nil) .nil) (.node (hMo1o474 P) .nil .nil))) (.node (hOb P 122) (.node (hMo0o186 P) (.node (hOb P 314) (.node (hOb P 570) .nil .nil) .nil) (.node (hOb P 442) .nil .nil)) (.node (hMo0o250 P) (.node (hOb P 378) (.node (hOb P 634) .nil .nil) .nil) (.node (hOb P 506) .nil .nil)))))) (.node (hMo0o14 P) (.node (hOb P 22) (.node (hOb P 38) (.node (hOb P 70) (.node (hOb P 134) (.node (hMo0o262 P) (.node (hMo1o518 P) .nil .nil) .nil) (.node (hOb P 390) (.node (hMo1o646 P) .nil .nil) .nil)) (.node (hOb P 198) (.node (hMo0o326 P) (.node (hMo1o582 P) .nil .nil) .nil) (.node (hOb P 454) .nil .nil))) (.node (hMo0o102 P) (.node (hOb P 166) (.node (hOb P 294) (.node (hMo1o550 P) .nil .nil) .nil) (.node (hMo0o422 P) .nil .nil)) (.node (hOb P 230) (.node (hMo0o358 P) (.node (hOb P 614) .nil .nil) .nil) (.node (hOb P 486) .nil .nil)))) (.node (hMo0o54 P) (.node (hOb P 86) (.node (hOb P 150) (.node (hOb P 278) (.node (hOb P 534) .nil .nil) .nil) (.node (hOb P 406) (.node (hMo1o662 P) .nil .nil) .nil)) (.node (hOb P 214) (.node (hOb P 342) (.node (hOb P 598) .nil .nil) .nil) (.node (hMo0o470 P) .nil .nil))) (.node (hOb P 118) (.node (hMo0o182 P) (.node (hOb P 310) (.node (hOb P 566) .nil .nil) .nil) (.node (hOb P 438) .nil .nil)) (.node (hMo0o246 P) (.node (hOb P 374) (.node (hMo1o630 P) .nil .nil) .nil) (.node (hMo1o502 P) .nil .nil))))) (.node (hMo0o30 P) (.node (hOb P 46) (.node (hMo0o78 P) (.node (hOb P 142) (.node (hMo0o270 P) (.node (hOb P 526) .nil .nil) .nil) (.node (hOb P 398) (.node (hMo1o654 P) .nil .nil) .nil)) (.node (hOb P 206) (.node (hOb P 334) (.node (hOb P 590) .nil .nil) .nil) (.node (hOb P 462) .nil .nil))) (.node (hOb P 110) (.node (hOb P 174) (.node (hMo0o302 P) (.node (hOb P 558) .nil .nil) .nil) (.node (hOb P 430) .nil .nil)) (.node (hOb P 238) (.node (hOb P 366) (.node (hOb P 622) .nil .nil) .nil) (.node (hOb P 494) .nil .nil)))) (.node (hOb P 62) (.node (hOb P 94) (.node (hMo0o158 P) (.node (hOb P 286) (.node (hOb P 542) .nil .nil) .nil) (.node (hMo0o414 P) .nil .nil)) (.node (hMo0o222 P) (.node (hOb P 350) (.node (hMo1o606 P) .nil .nil) .nil) (.node (hMo1o478 P) .nil .nil))) (.node (hMo0o126 P) (.node (hOb P 190) (.node (hOb P 318) (.node (hOb P 574) .nil .nil) .nil) (.node (hOb P 446) .nil .nil)) (.node (hOb P 254) (.node (hMo0o382 P) (.node (hMo1o638 P) .nil .nil) .nil) (.node (hOb P 510) .nil .nil)))))))))
abbrev hPosM1 : Pos := ⟨351, 0, 354, 36⟩
noncomputable def hMidS1 (P : Params) (os : OsState) : SharedT := ⟨hMidT1 P, 664, {}, ⟨[]⟩, boot_drawn, 1015, os⟩
theorem pieceA (w : World) : RunP PySem.Challenge.pw_em5011_02 (some (.ref 6)) 2600 hS hMidS0 ((behindTheImports PySem.Challenge.pw_em5011_02).take 14) pos0 hPosM0 w := by
  delta RunP hEnv hCode hS hMidS0 piecesOf
  rewrite [PySem.W.Fast.te10187648547935407739]
  kernel_rfl
theorem pieceBf (w : World) : RunP PySem.Challenge.pw_em5011_02 (some (.ref 6)) 2600 hMidS0 hMidS1 (((behindTheImports PySem.Challenge.pw_em5011_02).drop 14).take 4) hPosM0 hPosM1 (w.withFollow "special-get-raises" false) := by
  delta RunP hEnv hCode hMidS0 hMidS1 piecesOf
  rewrite [PySem.W.Fast.te10187648547935407739]
  kernel_rfl
theorem pieceBt (w : World) : RunP PySem.Challenge.pw_em5011_02 (some (.ref 6)) 2600 hMidS0 hMidS1 (((behindTheImports PySem.Challenge.pw_em5011_02).drop 14).take 4) hPosM0 hPosM1 (w.withFollow "special-get-raises" true) := by
  delta RunP hEnv hCode hMidS0 hMidS1 piecesOf
  rewrite [PySem.W.Fast.te10187648547935407739]
  kernel_rfl
theorem pieceCf (w : World) : EndP PySem.Challenge.pw_em5011_02 mk.view_39 hLoose (fun s => xlAt mk.view_39 [] s && recOk (OpenLaw.row PySem.Challenge.rw_em5011_02).toRowW.records s) mk.heap_39 hAs [721] 3600 true hPos (some (.ref 6)) hMidS1 (((behindTheImports PySem.Challenge.pw_em5011_02).drop 14).drop 4) hPosM1 (w.withFollow "special-get-raises" false) := by
  delta EndP hEnv hCode hMidS1 piecesOf
  rewrite [PySem.W.Fast.te10187648547935407739, PySem.W.Fast.te5923862056798008813, PySem.W.Fast.te4187177175401517315, PySem.W.Fast.te10110043849684766642, PySem.W.Fast.te14364793385576792824, PySem.W.Fast.te12563942051412417395]
  kernel_rfl
theorem pieceCt (w : World) : EndP PySem.Challenge.pw_em5011_02 mk.view_39 hLoose (fun s => xlAt mk.view_39 [] s && recOk (OpenLaw.row PySem.Challenge.rw_em5011_02).toRowW.records s) mk.heap_39 hAs [721] 3600 true hPos (some (.ref 6)) hMidS1 (((behindTheImports PySem.Challenge.pw_em5011_02).drop 14).drop 4) hPosM1 (w.withFollow "special-get-raises" true) := by
  delta EndP hEnv hCode hMidS1 piecesOf
  rewrite [PySem.W.Fast.te10187648547935407739, PySem.W.Fast.te5923862056798008813, PySem.W.Fast.te4187177175401517315, PySem.W.Fast.te10110043849684766642, PySem.W.Fast.te14364793385576792824, PySem.W.Fast.te12563942051412417395]
  kernel_rfl
section
set_option hygiene false in
local macro_rules
  | `(tactic| refine $f:ident $args*) => do
    if f.getId == `PySem.W.holds_open then `(tactic| (refine' $f $args*; (case hl =>
      refine' left_of_three (p := PySem.Challenge.pw_em5011_02) (nA := 2600) (nB := 2600) (nC := 3600) (S1 := hMidS0) (S2 := hMidS1) (pos1 := hPosM0) (pos2 := hPosM1) (posK := hPos) 14 4 (ann := some (.ref 6)) (boot_open ?o1 ?o2 ?o3) ?size ?le ?pre ?block pieceA ?pieceB ?pieceC
      case o1 => kernel_rfl
      case o2 => kernel_rfl
      case o3 => (intro s; kernel_rfl)
      case size => (intro w; kernel_rfl)
      case le => kernel_rfl
      case pre => (intro w; kernel_rfl)
      case block => (intro w; kernel_rfl)
      case pieceB => exact byRow2 "special-get-raises" pieceBf pieceBt
      case pieceC =>
        have hv : Mine.hd.view_39 = Mine.mk.view_39 := by kernel_rfl
        have hh : Mine.hd.heap_39 = Mine.mk.heap_39 := by kernel_rfl
        rewrite [hv, hh]
        exact byRow2 "special-get-raises" pieceCf pieceCt))) else Lean.Macro.throwUnsupported
open_top hd for PySem.Challenge.rw_em5011_02
end
end Mine
namespace Mine
theorem fillAll : Mine.hd.heap_39 = Mine.hd.heap_39 ∧ PySem.Challenge.rw_em5011_02 = PySem.Challenge.rw_em5011_02 := by k_fill; exact ⟨rfl, rfl⟩
end Mine
namespace Mine

abbrev View := Addr → Option Obj

inductive D where
  | none
  | bool (b : Bool)
  | int (i : Int)
  | str (s : Str)
  | list (l : List D)
  | tup (l : List D)
  | raw (v : Value)

def VLe (H H' : View) : Prop := ∀ b o, H b = some o → H' b = some o
theorem VLe.refl (H : View) : VLe H H := fun _ _ e => e
theorem VLe.trans {H₁ H₂ H₃ : View} (x : VLe H₁ H₂) (y : VLe H₂ H₃) : VLe H₁ H₃ := fun b o e => y b o (x b o e)

abbrev lstO (vs : Array Value) (n : Nat) : Obj := { cls := .type "list", dict := none, data := .seq vs n, slots := #[] }
abbrev tupO (vs : Array Value) (n : Nat) : Obj := { cls := .type "tuple", dict := none, data := .seq vs n, slots := #[] }

mutual
inductive Rel (H : View) : Value → D → Prop
  | none : Rel H .none .none
  | bool (b : Bool) : Rel H (.bool b) (.bool b)
  | int (i : Int) (t : Tok) : Rel H (.int i t) (.int i)
  | str (s : Str) (t : Tok) : Rel H (.str s t) (.str s)
  | list {a : Addr} {vs : Array Value} {n : Nat} {ds : List D} : H a = some (lstO vs n) → RelL H vs.toList ds → Rel H (.ref a) (.list ds)
  | tup {a : Addr} {vs : Array Value} {n : Nat} {ds : List D} : H a = some (tupO vs n) → RelL H vs.toList ds → Rel H (.ref a) (.tup ds)
  | raw (v : Value) : Rel H v (.raw v)
inductive RelL (H : View) : List Value → List D → Prop
  | nil : RelL H [] []
  | cons {v : Value} {d : D} {vs : List Value} {ds : List D} : Rel H v d → RelL H vs ds → RelL H (v :: vs) (d :: ds)
end

mutual
theorem Rel.mono {H H' : View} (k : VLe H H') {v : Value} {d : D} (h : Rel H v d) : Rel H' v d := by
  cases h with
  | none => exact .none
  | bool b => exact .bool b
  | int i t => exact .int i t
  | str s t => exact .str s t
  | list h1 h2 => exact .list (k _ _ h1) (RelL.mono k h2)
  | tup h1 h2 => exact .tup (k _ _ h1) (RelL.mono k h2)
  | raw v => exact .raw v
theorem RelL.mono {H H' : View} (k : VLe H H') {vs : List Value} {ds : List D} (h : RelL H vs ds) : RelL H' vs ds := by
  cases h with
  | nil => exact .nil
  | cons h1 h2 => exact .cons (Rel.mono k h1) (RelL.mono k h2)
end

theorem RelL.length {H : View} : ∀ {vs : List Value} {ds : List D}, RelL H vs ds → vs.length = ds.length
  | _, _, .nil => rfl
  | _, _, .cons _ t => by simp [t.length]
theorem RelL.append {H : View} : ∀ {vs vs' : List Value} {ds ds' : List D}, RelL H vs ds → RelL H vs' ds' → RelL H (vs ++ vs') (ds ++ ds')
  | _, _, _, _, .nil, h => h
  | _, _, _, _, .cons h t, h' => .cons h (t.append h')
theorem RelL.get {H : View} : ∀ {vs : List Value} {ds : List D}, RelL H vs ds → ∀ {i : Nat} {v : Value}, vs[i]? = some v → ∃ d, ds[i]? = some d ∧ Rel H v d
  | _, _, .nil, i, v, e => by simp at e
  | _, _, .cons h t, 0, v, e => by simp at e; subst e; exact ⟨_, rfl, h⟩
  | _, _, .cons h t, i + 1, v, e => by simp at e; simpa using t.get e
theorem RelL.get' {H : View} : ∀ {vs : List Value} {ds : List D}, RelL H vs ds → ∀ {i : Nat} {d : D}, ds[i]? = some d → ∃ v, vs[i]? = some v ∧ Rel H v d
  | _, _, .nil, i, v, e => by simp at e
  | _, _, .cons h t, 0, v, e => by simp at e; subst e; exact ⟨_, rfl, h⟩
  | _, _, .cons h t, i + 1, v, e => by simp at e; simpa using t.get' e
theorem RelL.take {H : View} : ∀ {vs : List Value} {ds : List D}, RelL H vs ds → ∀ (i : Nat), RelL H (vs.take i) (ds.take i)
  | _, _, .nil, i => by simp; exact .nil
  | _, _, .cons h t, 0 => .nil
  | _, _, .cons h t, i + 1 => .cons h (t.take i)
theorem RelL.drop {H : View} : ∀ {vs : List Value} {ds : List D}, RelL H vs ds → ∀ (i : Nat), RelL H (vs.drop i) (ds.drop i)
  | _, _, .nil, i => by simp; exact .nil
  | _, _, .cons h t, 0 => .cons h t
  | _, _, .cons h t, i + 1 => t.drop i

def View.add (H : View) (a : Addr) (o : Obj) : View := fun b => if b = a then some o else H b

structure Cfg where
  prog : Program
  w : World
  K : Frag
  P : Addr
  cc : Addr
  tl : Int
  tc : Int
  tq : Str
  h₀ : Heap
  mg : Str → Option Value
  mb : Str → Option Value
  k : K.In h₀
  g : h₀.Ns mainGlobals mg
  b : h₀.Ns builtinsNs mb
  nolimit : h₀.NoLimit
  bt : ∀ x : Str, x ≠ "__name__" → mb x = bootBuiltins x
  nodig : ∃ mc, h₀.Ns cStatics mc ∧ mc "sys.int_max_str_digits" = none
  bmain : ∃ bm ob, mg "__builtins__" = some (.ref bm) ∧ bm ≠ builtinsNs ∧ h₀.get? bm = some ob ∧ ob.cls = .type "module" ∧ ob.dict = some builtinsNs ∧ ob.data = .plain
  chd : CodeHd h₀ cc P
  noP : h₀.get? P = none

/-- the table of the maker's code: empty, or it holds the code of its one inner def -/
def Cfg.Tb (c : Cfg) (H : View) (o : Obj) : Prop :=
  o = tabObj #[] ∨ ∃ c' o' vs t, o = tabObj #[rawInt c.tl, rawInt c.tc, .ref c'] ∧ H c' = some o' ∧ o'.data = .fields vs ∧ vs[1]? = some (.str c.tq t)
theorem Cfg.tbm (c : Cfg) (H H' : View) (o : Obj) (k : VLe H H') (h : c.Tb H o) : c.Tb H' o := by
  rcases h with h | ⟨c', o', vs, t, h1, h2, h3⟩
  · exact .inl h
  · exact .inr ⟨c', o', vs, t, h1, k _ _ h2, h3⟩

structure Inv (c : Cfg) (H : View) (h : Heap) : Prop where
  le : ∀ b o, H b = some o → h.get? b = some o
  base : ∀ b o, c.h₀.get? b = some o → H b = some o
  noP : H c.P = none
  tb : ∃ o, h.get? c.P = some o ∧ c.Tb H o

theorem Inv.keep {c : Cfg} {H : View} {h : Heap} (I : Inv c H h) : ∀ b o, c.h₀.get? b = some o → h.get? b = some o := fun b o e => I.le b o (I.base b o e)

structure HStep (c : Cfg) (H : View) (h : Heap) (H' : View) (h' : Heap) : Prop where
  up : VLe H H'
  fresh : ∀ b o, H' b = some o → H b = some o ∨ h.get? b = none
  ext : ∀ b o, b ≠ c.P → h.get? b = some o → h'.get? b = some o
  inv : Inv c H' h'

section
variable {c : Cfg} {H H' H₁ H₂ H₃ : View} {h h' h₁ h₂ h₃ : Heap} {a : Addr} {o : Obj}

theorem HStep.refl (I : Inv c H h) : HStep c H h H h := ⟨.refl H, fun _ _ e => .inl e, fun _ _ _ e => e, I⟩
theorem HStep.alive (x : HStep c H h H' h') (I : Inv c H h) {b : Addr} (e : h'.get? b = none) : h.get? b = none := by
  cases q : h.get? b with
  | none => rfl
  | some ob =>
    by_cases hb : b = c.P
    · obtain ⟨o', h1, _⟩ := x.inv.tb
      rw [hb, h1] at e; cases e
    · rw [x.ext b ob hb q] at e; cases e
theorem HStep.trans (x : HStep c H₁ h₁ H₂ h₂) (y : HStep c H₂ h₂ H₃ h₃) (I : Inv c H₁ h₁) : HStep c H₁ h₁ H₃ h₃ :=
  ⟨x.up.trans y.up, fun b ob e => (y.fresh b ob e).elim (x.fresh b ob) fun q => .inr (x.alive I q), fun b ob hb e => y.ext b ob hb (x.ext b ob hb e), y.inv⟩
theorem HStep.grow (I : Inv c H h) (k : ∀ b o, h.get? b = some o → h'.get? b = some o) : HStep c H h H h' :=
  ⟨.refl H, fun _ _ e => .inl e, fun b ob _ e => k b ob e, ⟨fun b ob e => k b ob (I.le b ob e), I.base, I.noP, let ⟨ob, h1, h2⟩ := I.tb; ⟨ob, k _ _ h1, h2⟩⟩⟩
theorem View.le_add (hn : H a = none) : VLe H (H.add a o) := fun b ob e => by
  unfold View.add
  by_cases hb : b = a
  · rw [hb, hn] at e; cases e
  · rw [if_neg hb]; exact e
theorem Inv.none_of (I : Inv c H h) (e : h.get? a = none) : H a = none := by
  cases q : H a with
  | none => rfl
  | some ob => rw [I.le a ob q] at e; cases e
theorem HStep.add (I : Inv c H h) (k : ∀ b o, h.get? b = some o → h'.get? b = some o) (hn : h.get? a = none) (ho : h'.get? a = some o) : HStep c H h (H.add a o) h' := by
  have hle := View.le_add (o := o) (I.none_of hn)
  refine ⟨hle, fun b ob e => ?_, fun b ob _ e => k b ob e, ⟨fun b ob e => ?_, fun b ob e => hle b ob (I.base b ob e), ?_, ?_⟩⟩
  · by_cases hb : b = a
    · exact .inr (hb ▸ hn)
    · unfold View.add at e; rw [if_neg hb] at e; exact .inl e
  · by_cases hb : b = a
    · unfold View.add at e; rw [if_pos hb] at e; cases e; rw [hb]; exact ho
    · unfold View.add at e; rw [if_neg hb] at e; exact k b ob (I.le b ob e)
  · obtain ⟨ob, h1, _⟩ := I.tb
    unfold View.add
    rw [if_neg (fun q => by rw [q, hn] at h1; cases h1)]
    exact I.noP
  · obtain ⟨ob, h1, h2⟩ := I.tb
    exact ⟨ob, k _ _ h1, c.tbm _ _ _ hle h2⟩
/-- an object that stands already, outside the view and not the table, is frozen -/
theorem HStep.freeze {h₀ : Heap} {H₀ : View} (x : HStep c H₀ h₀ H h) (hn : h₀.get? a = none) (hnH : H a = none) (hP : a ≠ c.P) (ho : h.get? a = some o) : HStep c H₀ h₀ (H.add a o) h := by
  have hle := View.le_add (o := o) hnH
  refine ⟨x.up.trans hle, fun b ob e => ?_, x.ext, ⟨fun b ob e => ?_, fun b ob e => hle b ob (x.inv.base b ob e), ?_, ?_⟩⟩
  · by_cases hb : b = a
    · exact .inr (hb ▸ hn)
    · unfold View.add at e; rw [if_neg hb] at e; exact x.fresh b ob e
  · by_cases hb : b = a
    · unfold View.add at e; rw [if_pos hb] at e; cases e; rw [hb]; exact ho
    · unfold View.add at e; rw [if_neg hb] at e; exact x.inv.le b ob e
  · unfold View.add
    rw [if_neg (Ne.symm hP)]
    exact x.inv.noP
  · obtain ⟨ob, h1, h2⟩ := x.inv.tb
    exact ⟨ob, h1, c.tbm _ _ _ hle h2⟩
theorem View.add_self : (H.add a o) a = some o := by unfold View.add; rw [if_pos rfl]
theorem HStep.miss (x : HStep c H h H' h') (ha : h.get? a = some o) (hn : H a = none) : H' a = none := by
  cases q : H' a with
  | none => rfl
  | some ob =>
    rcases x.fresh a ob q with e | e
    · rw [hn] at e; cases e
    · rw [ha] at e; cases e
end

/-- room: frames and C units -/
structure Ok (A : Around) (n : Nat) : Prop where
  hh : A.handled = none
  dep : A.depth + n < recursionLimit
  un : A.units + 8 * n + 100 < cLine

theorem Ok.le {A : Around} {n m : Nat} (x : Ok A n) (h : m ≤ n) : Ok A m := ⟨x.hh, by have := x.dep; omega, by have := x.un; omega⟩
theorem Ok.deeper {A : Around} {n : Nat} {env : Env} (x : Ok A (n + 1)) : Ok (A.deeper env) n :=
  ⟨x.hh, by have := x.dep; show A.depth + 1 + n < _; omega, by have := x.un; show A.units + 3 + 8 * n + 100 < _; omega⟩

/-- the names of a frame: its locals and cells -/
structure Frm (c : Cfg) (env : Env) (ρ : Str → Option Value) (h : Heap) : Prop where
  kind : env.scope.kind = .function
  gl : env.globals = mainGlobals
  bl : env.builtins = builtinsNs
  apL : env.locals ≠ c.P
  apC : ∀ x a, env.cells.lookup x = some a → a ≠ c.P
  loc : ∃ m, h.Ns env.locals m ∧ ∀ x v, ρ x = some v → env.kindOf x = some .local → m x = some v
  cell : ∀ x a, env.cells.lookup x = some a → ∃ v, h.IsCell a v
  cel : ∀ x v, ρ x = some v → (env.kindOf x = some .cell ∨ env.kindOf x = some .free) → ∃ a, env.cells.lookup x = some a ∧ h.IsCell a (some v)

theorem Frm.ext {c : Cfg} {env : Env} {ρ : Str → Option Value} {h h' : Heap} (F : Frm c env ρ h) (k : ∀ b o, b ≠ c.P → h.get? b = some o → h'.get? b = some o) : Frm c env ρ h' :=
  ⟨F.kind, F.gl, F.bl, F.apL, F.apC, let ⟨m, h1, h2⟩ := F.loc; ⟨m, h1.at' fun o e => k _ o F.apL e, h2⟩,
    fun x a e => let ⟨v, o, h2, h3⟩ := F.cell x a e; ⟨v, o, k a o (F.apC x a e) h2, h3⟩,
    fun x v e q => let ⟨a, h1, o, h2, h3⟩ := F.cel x v e q; ⟨a, h1, o, k a o (F.apC x a h1) h2, h3⟩⟩
theorem Frm.step {c : Cfg} {env : Env} {ρ : Str → Option Value} {H H' : View} {h h' : Heap} (F : Frm c env ρ h) (x : HStep c H h H' h') : Frm c env ρ h' := F.ext x.ext

/-- what an expression is, in any state that extends the view H -/
structure PE (c : Cfg) (n : Nat) (env : Env) (ρ : Str → Option Value) (H : View) (e : Expr) (d : D) : Prop where
  run : ∀ (A : Around), Ok A n → ∀ (s : Shared) (H₁ : View), VLe H H₁ → Inv c H₁ s.heap → Frm c env ρ s.heap → ∀ (Q : Value → Shared → Prop) (E : Value → Shared → Prop),
    (∀ v H' h' tk', HStep c H₁ s.heap H' h' → Rel H' v d → Q v { s with heap := h', toks := tk' }) → wpAny (model c.prog c.w) A (eval e env) Q E s

/-- the same of a list of expressions -/
inductive PEs (c : Cfg) (n : Nat) (env : Env) (ρ : Str → Option Value) (H : View) : List Expr → List D → Prop
  | nil : PEs c n env ρ H [] []
  | cons {e : Expr} {d : D} {es : List Expr} {ds : List D} : (∀ env, starEach (e :: es) env = (false, eval e env) :: starEach es env) → PE c n env ρ H e d → PEs c n env ρ H es ds → PEs c n env ρ H (e :: es) (d :: ds)

/-- what a call of a value is -/
structure Fun (c : Cfg) (n : Nat) (f : Value) (H : View) (ds : List D) (d : D) : Prop where
  run : ∀ (A : Around), Ok A n → ∀ (s : Shared) (H₁ : View) (vs : List Value), VLe H H₁ → Inv c H₁ s.heap → RelL H₁ vs ds → ∀ (Q : Value → Shared → Prop) (E : Value → Shared → Prop),
    (∀ v H' h' tk', HStep c H₁ s.heap H' h' → Rel H' v d → Q v { s with heap := h', toks := tk' }) → wpAny (model c.prog c.w) A (call f vs) Q E s

section
variable {c : Cfg} {n m : Nat} {env : Env} {ρ : Str → Option Value} {H H' : View} {e : Expr} {d : D}
theorem PE.mono (x : PE c n env ρ H e d) (hn : n ≤ m) (hH : VLe H H') : PE c m env ρ H' e d := ⟨fun A ok s H₁ k I F Q E q => x.run A (ok.le hn) s H₁ (hH.trans k) I F Q E q⟩
theorem Fun.mono {f : Value} {ds : List D} (x : Fun c n f H ds d) (hn : n ≤ m) (hH : VLe H H') : Fun c m f H' ds d := ⟨fun A ok s H₁ vs k I R Q E q => x.run A (ok.le hn) s H₁ vs (hH.trans k) I R Q E q⟩

theorem ldFrm {x : Str} {v : Value} {A : Around} {E : Value → Shared → Prop} {s : Shared} {Q : Value → Shared → Prop} (F : Frm c env ρ s.heap) (hv : ρ x = some v)
    (hx : env.kindOf x = some .local ∨ env.kindOf x = some .cell ∨ env.kindOf x = some .free) (hc : (x == ("__classdict__" : Str)) = false) (h : Q v s) :
    wpAny (model c.prog c.w) A (loadName env x) Q E s := by
  rcases hx with hx | hx | hx
  · obtain ⟨mm, h1, h2⟩ := F.loc
    exact wpAny_loadName_local F.kind hx h1 (h2 x v hv hx) h
  · obtain ⟨a, h1, h2⟩ := F.cel x v hv (.inl hx)
    exact wpAny_loadName_cell F.kind hx h1 h2 h
  · obtain ⟨a, h1, h2⟩ := F.cel x v hv (.inr hx)
    exact wpAny_loadName_free F.kind hx h1 h2 h hc

theorem PE.name {x : Str} {pos : Pos} {v : Value} (hv : ρ x = some v) (r : Rel H v d)
    (hx : env.kindOf x = some .local ∨ env.kindOf x = some .cell ∨ env.kindOf x = some .free) (hc : (x == ("__classdict__" : Str)) = false := by decide) (hd : (x == ("__debug__" : Str)) = false := by decide) :
    PE c n env ρ H (.Name x pos) d := ⟨fun A _ s H₁ k I F Q E q =>
  wpAny_Name (ldFrm F hv hx hc (q v H₁ s.heap s.toks (.refl I) (r.mono k))) hd⟩

theorem PE.constInt {i : Int} {k : Nat} {pos : Pos} : PE c n env ρ H (.Constant (.int i) k pos) (.int i) := ⟨fun A _ s H₁ _ I F Q E q =>
  wpAny_Constant_int (q _ H₁ s.heap (s.toks + 1) (.refl I) (.int _ _))⟩
theorem PE.constStr {i : Str} {k : Nat} {pos : Pos} : PE c n env ρ H (.Constant (.str i) k pos) (.str i) := ⟨fun A _ s H₁ _ I F Q E q =>
  Constant_str (q _ H₁ s.heap (s.toks + 1) (.refl I) (.str _ _))⟩
theorem PE.constBool {b : Bool} {k : Nat} {pos : Pos} : PE c n env ρ H (.Constant (.bool b) k pos) (.bool b) := ⟨fun A _ s H₁ _ I F Q E q =>
  wpAny_Constant_bool (q _ H₁ s.heap s.toks (.refl I) (.bool _))⟩
theorem PE.constNone {k : Nat} {pos : Pos} : PE c n env ρ H (.Constant .none k pos) .none := ⟨fun A _ s H₁ _ I F Q E q =>
  wpAny_Constant_none (q _ H₁ s.heap s.toks (.refl I) .none)⟩

/-- a binary operation upon data -/
structure BinR (c : Cfg) (op : Operator) (a b d : D) : Prop where
  run : ∀ (A : Around), Ok A 0 → ∀ (s : Shared) (H₁ : View) (x y : Value), Inv c H₁ s.heap → Rel H₁ x a → Rel H₁ y b → ∀ (Q : Value → Shared → Prop) (E : Value → Shared → Prop),
    (∀ v H' h' tk', HStep c H₁ s.heap H' h' → Rel H' v d → Q v { s with heap := h', toks := tk' }) → wpAny (model c.prog c.w) A (binaryOp op x y) Q E s
structure CmpR (c : Cfg) (op : CmpOp) (a b d : D) : Prop where
  run : ∀ (A : Around), Ok A 0 → ∀ (s : Shared) (H₁ : View) (x y : Value), Inv c H₁ s.heap → Rel H₁ x a → Rel H₁ y b → ∀ (Q : Value → Shared → Prop) (E : Value → Shared → Prop),
    (∀ v H' h' tk', HStep c H₁ s.heap H' h' → Rel H' v d → Q v { s with heap := h', toks := tk' }) → wpAny (model c.prog c.w) A (compareOp op x y) Q E s

theorem PE.bin {op : Operator} {l r : Expr} {pos : Pos} {a b : D} (hl : PE c n env ρ H l a) (hr : PE c n env ρ H r b) (ho : BinR c op a b d) : PE c n env ρ H (.BinOp l op r pos) d :=
  ⟨fun A ok s H₁ k I F Q E q => wpAny_BinOp (hl.run A ok s H₁ k I F _ _ fun x H₂ h₂ t₂ S₂ R₂ => hr.run A ok _ H₂ (k.trans S₂.up) S₂.inv (F.step S₂) _ _ fun y H₃ h₃ t₃ S₃ R₃ =>
    ho.run A (ok.le (Nat.zero_le _)) _ H₃ x y S₃.inv (R₂.mono S₃.up) R₃ _ _ fun v H' h' t' S' R' => q v H' h' t' ((S₂.trans S₃ I).trans S' I) R')⟩
theorem PE.cmp {op : CmpOp} {l r : Expr} {pos : Pos} {a b : D} (hl : PE c n env ρ H l a) (hr : PE c n env ρ H r b) (ho : CmpR c op a b d) (hm : behindInMarks op r = false := by rfl) : PE c n env ρ H (.Compare l [op] [r] pos) d :=
  ⟨fun A ok s H₁ k I F Q E q => wpAny_Compare1 (hl.run A ok s H₁ k I F _ _ fun x H₂ h₂ t₂ S₂ R₂ => hr.run A ok _ H₂ (k.trans S₂.up) S₂.inv (F.step S₂) _ _ fun y H₃ h₃ t₃ S₃ R₃ =>
    ho.run A (ok.le (Nat.zero_le _)) _ H₃ x y S₃.inv (R₂.mono S₃.up) R₃ _ _ fun v H' h' t' S' R' => q v H' h' t' ((S₂.trans S₃ I).trans S' I) R') hm⟩
end

end Mine
namespace Mine

def GlobV (c : Cfg) (x : Str) (v : Value) : Prop :=
  nsIn c.K mainGlobals x = some (some v) ∨ (nsIn c.K mainGlobals x = some none ∧ bootBuiltins x = some v ∧ x ≠ ("__name__" : Str))

section
variable {c : Cfg} {n m : Nat} {env : Env} {ρ : Str → Option Value} {H H' : View} {e : Expr} {d : D}

theorem ldGlob {x : Str} {pos : Pos} {v : Value} {A : Around} {E : Value → Shared → Prop} {s : Shared} {Q : Value → Shared → Prop} (I : Inv c H s.heap) (F : Frm c env ρ s.heap)
    (hx : env.kindOf x = some .globalImplicit) (g : GlobV c x v) (hd : (x == ("__debug__" : Str)) = false) (h : Q v s) : wpAny (model c.prog c.w) A (eval (.Name x pos) env) Q E s := by
  have hg : s.heap.Ns env.globals c.mg := by rw [F.gl]; exact c.g.keeps I.keep
  rcases g with g | ⟨g, hb, hn⟩
  · exact Name_function_global F.kind hx (loadGlobal_global hg (mg_of c.k c.g g) h) hd
  · exact Name_function_global F.kind hx (loadGlobal_builtin hg (mg_none_of c.k c.g g) (by rw [F.bl]; exact c.b.keeps I.keep) ((c.bt x hn).trans hb) h) hd

theorem PE.glob {x : Str} {pos : Pos} {v : Value} (g : GlobV c x v) (hx : env.kindOf x = some .globalImplicit) (hd : (x == ("__debug__" : Str)) = false := by decide) : PE c n env ρ H (.Name x pos) (.raw v) :=
  ⟨fun A _ s H₁ k I F Q E q => ldGlob I F hx g hd (q v H₁ s.heap s.toks (.refl I) (.raw v))⟩

theorem PEs.spl {pos : Pos} : ∀ {es : List Expr} {ds : List D}, PEs c n env ρ H es ds → ∀ (A : Around), Ok A n → ∀ (s : Shared) (H₁ : View), VLe H H₁ → Inv c H₁ s.heap → Frm c env ρ s.heap → ∀ (Q : List Value → Shared → Prop) (E : Value → Shared → Prop),
    (∀ vs H' h' tk', HStep c H₁ s.heap H' h' → RelL H' vs ds → Q vs { s with heap := h', toks := tk' }) → wpAny (model c.prog c.w) A (spliced (backTo pos (starEach es env))) Q E s
  | _, _, .nil, A, ok, s, H₁, k, I, F, Q, E, q => wpAny_items_nil (q [] H₁ s.heap s.toks (.refl I) .nil)
  | _, _, .cons hs h t, A, ok, s, H₁, k, I, F, Q, E, q => wpAny_items_cons (h.run A ok s H₁ k I F _ _ fun v H₂ h₂ t₂ S₂ R₂ =>
      PEs.spl t A ok _ H₂ (k.trans S₂.up) S₂.inv (F.step S₂) _ _ fun vs H₃ h₃ t₃ S₃ R₃ => q (v :: vs) H₃ h₃ t₃ (S₂.trans S₃ I) (.cons (R₂.mono S₃.up) R₃)) (hs env)

/-- what may be called by callWith with plain arguments -/
inductive Callee (c : Cfg) : Value → Prop
  | builtin (id : String) : Callee c (.builtin id)
  | type (T : String) : Callee c (.type T)
  | fn {a : Addr} : fnIn c.K a = true → Callee c (.ref a)

theorem fnIn_get {K : Frag} {a : Addr} (h : fnIn K a = true) : ∃ o fd, K.lookup a = some o ∧ o.data = .func fd := by
  unfold fnIn at h
  split at h
  · rename_i q; exact ⟨_, _, q, rfl⟩
  · cases h

theorem evalArgs_any {M : Model} {A : Around} {E : Value → Shared → Prop} {s : Shared} {f : Value} {e : Expr} {rest : List Expr} {pos : Pos} {Q : Args → Shared → Prop}
    (hs : starEach (e :: rest) env = (false, eval e env) :: starEach rest env)
    (h : wpAny M A (spliced (backTo pos (starEach (e :: rest) env))) (fun vs s' => Q ⟨vs, []⟩ s') E s) : wpAny M A (evalArgs f true (backTo pos (starEach (e :: rest) env)) []) Q E s := by
  rw [hs] at h ⊢
  exact evalArgs_plain h

theorem noStars_plain {pos : Pos} : ∀ {es : List Expr} {ds : List D}, PEs c n env ρ H es ds → (backTo pos (starEach es env)).any (·.1) = false
  | _, _, .nil => rfl
  | _, _, .cons hs h t => by
    rw [hs]
    show (false || (backTo pos (starEach _ env)).any (·.1)) = false
    rw [noStars_plain t]; rfl

theorem callWith_any {f : Value} {e : Expr} {es : List Expr} {ds : List D} {pos : Pos} {first : List Value} (C : Callee c f) (as : PEs c n env ρ H (e :: es) ds) (A : Around) (ok : Ok A n) (s : Shared) (H₁ : View) (k : VLe H H₁) (I : Inv c H₁ s.heap) (F : Frm c env ρ s.heap)
    (Q : Value → Shared → Prop) (E : Value → Shared → Prop)
    (q : ∀ vs H' h' tk', HStep c H₁ s.heap H' h' → RelL H' vs ds → wpAny (model c.prog c.w) A (call f (first ++ vs)) Q E { s with heap := h', toks := tk' }) :
    wpAny (model c.prog c.w) A (callWith pos f first (backTo pos (starEach (e :: es) env)) []) Q E s := by
  have hs : starEach (e :: es) env = (false, eval e env) :: starEach es env := by cases as with | cons hs _ _ => exact hs env
  have hp := noStars_plain (pos := pos) as
  have sp := fun Q' E' q' => PEs.spl (pos := pos) as A ok s H₁ k I F Q' E' q'
  cases C with
  | builtin id => exact callWith_builtin hp (evalArgs_any hs (sp _ _ fun vs H' h' tk' S R => q vs H' h' tk' S R))
  | type T => exact PyProof.Rows.callWith_type hp (evalArgs_any hs (sp _ _ fun vs H' h' tk' S R => q vs H' h' tk' S R))
  | fn hf =>
    obtain ⟨o, fd, ho, hd⟩ := fnIn_get hf
    exact callWith_function (o := o) (fd := fd) (evalArgs_any hs (sp _ _ fun vs H' h' tk' S R => ⟨⟨S.inv.keep _ _ (c.k _ _ ho), hd⟩, q vs H' h' tk' S R⟩))

theorem PE.call {x : Str} {p pos : Pos} {f : Value} {a : Expr} {as : List Expr} {ds : List D} (hx : env.kindOf x = some .globalImplicit) (g : GlobV c x f) (C : Callee c f)
    (args : PEs c n env ρ H (a :: as) ds) (hf : Fun c n f H ds d) (hd : (x == ("__debug__" : Str)) = false := by decide) : PE c n env ρ H (.Call (.Name x p) (a :: as) [] pos) d :=
  ⟨fun A ok s H₁ k I F Q E q => Call_Name rfl (ldGlob I F hx g hd (callWith_any C args A ok s H₁ k I F Q E fun vs H₂ h₂ t₂ S₂ R₂ =>
    hf.run A ok _ H₂ vs (k.trans S₂.up) S₂.inv R₂ Q E fun v H' h' tk' S' R' => q v H' h' tk' (S₂.trans S' I) R'))⟩

theorem PEs.one {e : Expr} {d : D} (h : PE c n env ρ H e d) (hs : ∀ env, starEach [e] env = (false, eval e env) :: starEach [] env := by intro _; rfl) : PEs c n env ρ H [e] [d] := .cons hs h .nil
theorem PEs.two {e e' : Expr} {d d' : D} (h : PE c n env ρ H e d) (h' : PE c n env ρ H e' d') (hs : ∀ env, starEach [e, e'] env = (false, eval e env) :: starEach [e'] env := by intro _; rfl)
    (hs' : ∀ env, starEach [e'] env = (false, eval e' env) :: starEach [] env := by intro _; rfl) : PEs c n env ρ H [e, e'] [d, d'] := .cons hs h (.one h' hs')

theorem PE.listD {es : List Expr} {ds : List D} {pos : Pos} (h : PEs c n env ρ H es ds) (hsz : ds.length ≤ sizeLine) : PE c n env ρ H (.List es pos) (.list ds) :=
  ⟨fun A ok s H₁ k I F Q E q => wpAny_List (PEs.spl h A ok s H₁ k I F _ _ fun vs H₂ h₂ t₂ S₂ R₂ => ⟨by rw [R₂.length]; exact hsz, by
    have hn : h₂.get? h₂.objs.size = none := by
      cases e : h₂.get? h₂.objs.size with
      | none => rfl
      | some o => exact absurd (Heap.lt_size e) (Nat.lt_irrefl _)
    have S₃ : HStep c H₂ h₂ (H₂.add h₂.objs.size (lstO vs.toArray 0)) (h₂.push (lstO vs.toArray 0)) :=
      HStep.add S₂.inv (fun b o e => Heap.get?_push_of_some _ e) hn (Heap.get?_push_size _ rfl)
    exact q _ _ _ _ (S₂.trans S₃ I) (.list View.add_self (by simpa using R₂.mono S₃.up))⟩)⟩
theorem PE.tupD {es : List Expr} {ds : List D} {k' : Nat} {pos : Pos} (h : PEs c n env ρ H es ds) (hsz : ds.length ≤ sizeLine) : PE c n env ρ H (.Tuple es k' pos) (.tup ds) :=
  ⟨fun A ok s H₁ k I F Q E q => wpAny_Tuple (PEs.spl h A ok s H₁ k I F _ _ fun vs H₂ h₂ t₂ S₂ R₂ => ⟨by rw [R₂.length]; exact hsz, by
    have hn : h₂.get? h₂.objs.size = none := by
      cases e : h₂.get? h₂.objs.size with
      | none => rfl
      | some o => exact absurd (Heap.lt_size e) (Nat.lt_irrefl _)
    have S₃ : HStep c H₂ h₂ (H₂.add h₂.objs.size (tupO vs.toArray 0)) (h₂.push (tupO vs.toArray 0)) :=
      HStep.add S₂.inv (fun b o e => Heap.get?_push_of_some _ e) hn (Heap.get?_push_size _ rfl)
    exact q _ _ _ _ (S₂.trans S₃ I) (.tup View.add_self (by simpa using R₂.mono S₃.up))⟩)⟩
end

/-! entering a def -/
structure SR (c : Cfg) (n : Nat) (env : Env) (ρ : Str → Option Value) (H : View) (st : List Stmt) (d : D) : Prop where
  run : ∀ (A : Around), Ok A n → ∀ (s : Shared) (H₁ : View), VLe H H₁ → Inv c H₁ s.heap → Frm c env ρ s.heap → H₁ env.locals = none → (∀ x a, env.cells.lookup x = some a → H₁ a = none) →
   ∀ (Q : Flow → Shared → Prop) (E : Value → Shared → Prop),
    (∀ v H' h' tk', VLe H₁ H' → (∀ b o, H' b = some o → H₁ b = some o ∨ s.heap.get? b = none) → (∀ b o, b ≠ c.P → b ≠ env.locals → (∀ x a, env.cells.lookup x = some a → b ≠ a) → s.heap.get? b = some o → h'.get? b = some o) → Inv c H' h' → Rel H' v d →
      Q (.ret v) { s with heap := h', toks := tk' }) → wpAny (model c.prog c.w) A (execs st env) Q E s

theorem fresh_none (h : Heap) : h.get? h.objs.size = none := by
  cases e : h.get? h.objs.size with
  | none => rfl
  | some o => exact absurd (Heap.lt_size e) (Nat.lt_irrefl _)

section
variable {c : Cfg} {n : Nat} {H : View} {d : D} {ds : List D}

theorem Fun.enter {f : Addr} {name qual : Str} {params : Arguments} {body : List Stmt} {scope : Scope} {dV kV doc pm cdv ct oc : Value} {an od : Option Addr} {osl : Array (Option Value)} {ps : List Str}
    (ho : c.K.lookup f = some ⟨oc, od, .func (fnOf name qual params body scope dV kV doc pm an cdv ct), osl⟩) (hcd : codeIn c.K cdv qual = true)
    (hbind : ∀ vs : List Value, vs.length = ds.length → bindArgs (fnOf name qual params body scope dV kV doc pm an cdv ct) ⟨vs, []⟩ = pure (ps.zip vs))
    (hloc : ∀ x ∈ ps, scope.names.lookup x = some .local) (hcell : ∀ x ∈ scope.names, x.2 ≠ .cell)
    (h : ∀ (vs : List Value) (H₁ : View) (L : Addr), VLe H H₁ → RelL H₁ vs ds → SR c n (envOf qual scope L f cdv) (fun x => (ps.zip vs).reverse.lookup x) H₁ body d)
    (hco : scope.isCoroutine = false := by rfl) (hgen : scope.isGenerator = false := by rfl) (hk : scope.kind = .function := by rfl) : Fun c (n + 1) (.ref f) H ds d := by
  constructor
  intro A ok s H₁ vs k I R Q E q
  have hP : ∀ b o, H₁ b = some o → b ≠ c.P := fun b o e q => by rw [q, I.noP] at e; cases e
  have hPs : s.heap.objs.size ≠ c.P := fun q => by obtain ⟨o, h1, _⟩ := I.tb; rw [← q, fresh_none] at h1; cases h1
  refine wpAny_call (codeAny_call_def (fd := fnOf name qual params body scope dV kV doc pm an cdv ct) (body := body) (binds := ps.zip vs) (by have := ok.dep; omega) (I.keep _ _ (c.k _ _ ho)) rfl (c.nolimit.keeps I.keep) (codeRec_of (fun a o e => I.keep _ _ (c.k a o e)) hcd) rfl ?_ hcell ?_ ?_ hco hgen hk)
  · exact BindsTo.of_eq (hbind vs R.length)
  · intro x hx
    exact hloc _ (List.of_mem_zip hx).1
  · intro h₁ hns hk₁
    have I₁ : Inv c H₁ h₁ := (HStep.grow I hk₁).inv
    have F₁ : Frm c (envOf qual scope s.heap.objs.size f cdv) (fun x => (ps.zip vs).reverse.lookup x) h₁ :=
      ⟨hk, rfl, rfl, hPs, (fun x a e => by simp [envOf] at e), ⟨_, hns, fun x v e _ => e⟩, (fun x a e => by simp [envOf] at e), fun x v e hkd => by
        exfalso
        have h1 : x ∈ ps := by
          have := mem_of_lookup e
          exact (List.of_mem_zip (List.mem_reverse.mp this)).1
        have h2 : (envOf qual scope s.heap.objs.size f cdv).kindOf x = some .local := hloc x h1
        rw [h2] at hkd
        rcases hkd with e | e <;> cases e⟩
    refine (h vs H₁ s.heap.objs.size k R).run (A.deeper _) ok.deeper _ H₁ (.refl _) I₁ F₁ ?_ (fun x a e => by simp [envOf] at e) _ _ ?_
    · exact I.none_of (fresh_none _)
    · intro v H' h' tk' hup hfr hext I' R'
      refine q v H' h' tk' ⟨hup, fun b o e => ?_, fun b o hb e => ?_, I'⟩ R'
      · rcases hfr b o e with e' | e'
        · exact .inl e'
        · refine .inr ?_
          cases q' : s.heap.get? b with
          | none => rfl
          | some ob => rw [hk₁ b ob q'] at e'; cases e'
      · exact hext b o hb (Nat.ne_of_lt (Heap.lt_size e)) (fun x a e' => by simp [envOf] at e') (hk₁ b o e)
end
end Mine
namespace Mine

def upd (ρ : Str → Option Value) (x : Str) (v : Value) : Str → Option Value := fun y => if y = x then some v else ρ y

/-- a step that may change the addresses of mu besides -/
structure MStep (c : Cfg) (mu : List Addr) (H : View) (h : Heap) (H' : View) (h' : Heap) : Prop where
  up : VLe H H'
  fresh : ∀ b o, H' b = some o → H b = some o ∨ h.get? b = none
  ext : ∀ b o, b ≠ c.P → b ∉ mu → h.get? b = some o → h'.get? b = some o
  live : ∀ b ∈ mu, (h.get? b).isSome = true → (h'.get? b).isSome = true
  inv : Inv c H' h'

section
variable {c : Cfg} {mu mu' : List Addr} {H H' H₁ H₂ H₃ : View} {h h' h₁ h₂ h₃ : Heap} {a : Addr} {o : Obj}
theorem MStep.refl (I : Inv c H h) : MStep c mu H h H h := ⟨.refl H, fun _ _ e => .inl e, fun _ _ _ _ e => e, fun _ _ e => e, I⟩
theorem HStep.toM (x : HStep c H h H' h') : MStep c mu H h H' h' := ⟨x.up, x.fresh, fun b o hb _ e => x.ext b o hb e, fun b _ e => by
  obtain ⟨ob, q⟩ := Option.isSome_iff_exists.mp e
  by_cases hb : b = c.P
  · obtain ⟨o', h1, _⟩ := x.inv.tb
    rw [hb, h1]; rfl
  · rw [x.ext b ob hb q]; rfl, x.inv⟩
theorem MStep.lives (x : MStep c mu H h H' h') {b : Addr} (e : (h.get? b).isSome = true) : (h'.get? b).isSome = true := by
  by_cases hb : b = c.P
  · obtain ⟨o', h1, _⟩ := x.inv.tb
    rw [hb, h1]; rfl
  · by_cases hm : b ∈ mu
    · exact x.live b hm e
    · obtain ⟨ob, q⟩ := Option.isSome_iff_exists.mp e
      rw [x.ext b ob hb hm q]; rfl
theorem MStep.trans (x : MStep c mu H₁ h₁ H₂ h₂) (y : MStep c mu H₂ h₂ H₃ h₃) : MStep c mu H₁ h₁ H₃ h₃ :=
  ⟨x.up.trans y.up, fun b ob e => (y.fresh b ob e).elim (x.fresh b ob) fun q => .inr (by
      cases q' : h₁.get? b with
      | none => rfl
      | some ob' => have := x.lives (b := b) (by rw [q']; rfl); rw [q] at this; cases this),
    fun b ob hb hm e => y.ext b ob hb hm (x.ext b ob hb hm e), fun b hb e => y.lives (x.lives e), y.inv⟩
theorem MStep.weak (x : MStep c mu H h H' h') (hs : ∀ b ∈ mu, b ∈ mu') : MStep c mu' H h H' h' :=
  ⟨x.up, x.fresh, fun b o hb hm e => x.ext b o hb (fun q => hm (hs b q)) e, fun b _ e => x.lives e, x.inv⟩
theorem MStep.miss (x : MStep c mu H h H' h') (ha : (h.get? a).isSome = true) (hn : H a = none) : H' a = none := by
  cases q : H' a with
  | none => rfl
  | some ob =>
    rcases x.fresh a ob q with e | e
    · rw [hn] at e; cases e
    · rw [e] at ha; cases ha
/-- a change at one address outside the view -/
theorem MStep.at (I : Inv c H h) (hm : a ∈ mu) (hn : H a = none) (hP : a ≠ c.P) (hs : Heap.SameBut a h h') (hl : (h'.get? a).isSome = true) : MStep c mu H h H h' :=
  ⟨.refl H, fun _ _ e => .inl e, fun b o _ hb e => (hs.2 b fun q => hb (q ▸ hm)).trans e, fun b _ e => by
      by_cases hb : b = a
      · rw [hb]; exact hl
      · rw [hs.2 b hb]; exact e,
    ⟨fun b o e => (hs.2 b fun q => by rw [q, hn] at e; cases e).trans (I.le b o e), I.base, I.noP, let ⟨ob, h1, h2⟩ := I.tb; ⟨ob, (hs.2 _ (Ne.symm hP)).trans h1, h2⟩⟩⟩
/-- the same, nothing said of what was turned -/
structure DStep (c : Cfg) (mu : List Addr) (H : View) (h : Heap) (H' : View) (h' : Heap) : Prop where
  up : VLe H H'
  fresh : ∀ b o, H' b = some o → H b = some o ∨ h.get? b = none
  ext : ∀ b o, b ≠ c.P → b ∉ mu → h.get? b = some o → h'.get? b = some o
  inv : Inv c H' h'
theorem MStep.toD (x : MStep c mu H h H' h') : DStep c mu H h H' h' := ⟨x.up, x.fresh, x.ext, x.inv⟩
/-- when only new addresses were turned it is a plain step -/
theorem DStep.toH {h₀ : Heap} {H₀ : View} (x : HStep c H₀ h₀ H h) (I₀ : Inv c H₀ h₀) (y : DStep c mu H h H' h') (hnew : ∀ b ∈ mu, h₀.get? b = none) : HStep c H₀ h₀ H' h' :=
  ⟨x.up.trans y.up, fun b o e => (y.fresh b o e).elim (x.fresh b o) fun q => .inr (x.alive I₀ q), fun b o hb e => y.ext b o hb (fun hm => by rw [hnew b hm] at e; cases e) (x.ext b o hb e), y.inv⟩
end

/-- a list that is being filled -/
def AccL (Dd : Addr) (H : View) (h : Heap) (rs : List D) : Prop := ∃ vs n, h.get? Dd = some (lstO vs n) ∧ RelL H vs.toList rs

section
variable {c : Cfg}

/-- one comprehension's loop, by what a turn does to what is being filled -/
theorem comp_inv {A : Around} {H : View} {s : Shared} {cenv : Env} {x : Str} {px : Pos} {code : Code} {I : Addr} {fp wr mu : List Addr} {ds : List D} {P : Nat → Value → Prop} {St : Nat → Heap → Prop}
    {R : Result → Shared → Prop} {Acc : View → Heap → List D → Prop} {VI : Heap → Prop} {FV : Value → Heap → Prop} {em : D → List D} {rs₀ : List D}
    {BT : (Unit → Shared → Prop) → (Value → Shared → Prop) → Shared → Prop}
    (W : Walks c.prog c.w A I fp wr ds.length P St) (hP : ∀ i v, i < ds.length → P i v → ∃ d, ds[i]? = some d ∧ Rel H v d)
    (rule : ∀ (J : Nat → Shared → Prop), (∀ n s, J n s → wpAny (model c.prog c.w) A (pyNext (.ref I)) (fun r s₁ => match r with
        | none => R (.ok .next) s₁
        | some v => wpAny (model c.prog c.w) A (assign (.Name x px) cenv v) (fun _ s₂ => BT (fun _ s₃ => ∃ m, m < n ∧ J m s₃) (notedBy (model c.prog c.w) A cenv fun e s' => R (.error e) s') s₂)
            (notedBy (model c.prog c.w) A cenv fun e s' => R (.error e) s') s₁) (notedBy (model c.prog c.w) A cenv fun e s' => R (.error e) s') s) →
        ∀ n s, J n s → codeAny (model c.prog c.w) A code R s)
    (hmuf : ∀ b ∈ mu, b ∉ fp) (hfpP : ∀ b ∈ fp, b ≠ c.P) (hoff : ∀ b ∈ wr, H b = none) (hlive : ∀ b ∈ wr, (s.heap.get? b).isSome = true) (hmuo : ∀ b ∈ mu, H b = none) (hmul : ∀ b ∈ mu, (s.heap.get? b).isSome = true)
    (stl : ∀ i h, St i h → ∀ b ∈ wr, (h.get? b).isSome = true)
    (I0 : Inv c H s.heap) (st0 : St 0 s.heap) (acc0 : Acc H s.heap rs₀) (vi0 : VI s.heap)
    (keepA : ∀ H₁ H₂ h₁ h₂ rs, VLe H₁ H₂ → (∀ b o, b ∈ mu → h₁.get? b = some o → h₂.get? b = some o) → Acc H₁ h₁ rs → Acc H₂ h₂ rs)
    (keepV : ∀ h₁ h₂, (∀ b o, b ∈ mu → h₁.get? b = some o → h₂.get? b = some o) → VI h₁ → VI h₂)
    (asg : ∀ v H' (s' : Shared), MStep c (mu ++ wr) H s.heap H' s'.heap → VI s'.heap → ∀ Q E, (∀ h'' tk'', MStep c mu H' s'.heap H' h'' → FV v h'' → VI h'' → (∀ rs, Acc H' s'.heap rs → Acc H' h'' rs) → Q () { s' with heap := h'', toks := tk'' }) →
      wpAny (model c.prog c.w) A (assign (.Name x px) cenv v) Q E s')
    (body : ∀ d v H' (s' : Shared) rs i, d ∈ ds → i < ds.length → rs = rs₀ ++ (ds.take i).flatMap em → MStep c (mu ++ wr) H s.heap H' s'.heap → (∀ b ∈ mu, H' b = none) → Rel H' v d → FV v s'.heap → VI s'.heap → Acc H' s'.heap rs → ∀ Q E,
      (∀ H'' h'' tk'', MStep c mu H' s'.heap H'' h'' → Acc H'' h'' (rs ++ em d) → VI h'' → Q () { s' with heap := h'', toks := tk'' }) → BT Q E s')
    (done : ∀ H' h' tk', DStep c (mu ++ wr) H s.heap H' h' → (∀ b ∈ mu, H' b = none) → Acc H' h' (rs₀ ++ ds.flatMap em) → VI h' → R (.ok .next) { s with heap := h', toks := tk' }) :
    codeAny (model c.prog c.w) A code R s := by
  have hmuw : ∀ b ∈ mu, b ∉ wr := fun b hb hw => hmuf b hb (W.sub b hw)
  have hwrP : ∀ b ∈ wr, b ≠ c.P := fun b hb => hfpP b (W.sub b hb)
  refine rule (fun k s' => ∃ h' tk H' i, s' = { s with heap := h', toks := tk } ∧ MStep c (mu ++ wr) H s.heap H' h' ∧ St i h' ∧ Acc H' h' (rs₀ ++ (ds.take i).flatMap em) ∧ VI h' ∧ i ≤ ds.length ∧ k = ds.length + 1 - i) ?_ (ds.length + 1) s
    ⟨s.heap, s.toks, H, 0, rfl, .refl I0, st0, by simpa using acc0, vi0, Nat.zero_le _, rfl⟩
  rintro k s' ⟨h', tk, H', i, rfl, S', st', acc', vi', hi, rfl⟩
  have offMu : ∀ {H'' h''}, MStep c (mu ++ wr) H s.heap H'' h'' → ∀ b ∈ mu, H'' b = none := fun S b hb => S.miss (hmul b hb) (hmuo b hb)
  have offWr : ∀ {H'' h''}, MStep c (mu ++ wr) H s.heap H'' h'' → ∀ b ∈ wr, H'' b = none := fun S b hb => S.miss (hlive b hb) (hoff b hb)
  -- a step of the iterator
  have next : ∀ {h₁ : Heap}, (∀ b o, b ∉ wr → h'.get? b = some o → h₁.get? b = some o) → (∀ b ∈ wr, (h₁.get? b).isSome = true) → MStep c (mu ++ wr) H' h' H' h₁ := fun k₁ l₁ =>
    ⟨.refl _, fun _ _ e => .inl e, fun b o hb hm e => k₁ b o (fun q => hm (List.mem_append_right _ q)) e, fun b hm e => by
        rcases List.mem_append.mp hm with q | q
        · obtain ⟨ob, e'⟩ := Option.isSome_iff_exists.mp e
          rw [k₁ b ob (hmuw b q) e']; rfl
        · exact l₁ b q,
      ⟨fun b o e => k₁ b o (fun q => by rw [offWr S' b q] at e; cases e) (S'.inv.le b o e), S'.inv.base, S'.inv.noP,
        let ⟨ob, e1, e2⟩ := S'.inv.tb; ⟨ob, k₁ _ _ (fun q => hwrP _ q rfl) e1, e2⟩⟩⟩
  by_cases hlt : i < ds.length
  · refine W.item i _ _ _ hlt st' fun v h₁ tk₁ hPv st₁ hk₁ => ?_
    obtain ⟨d, hd, hRel⟩ := hP i v hlt hPv
    have N₁ := next hk₁ (stl _ _ st₁)
    have S₁ := S'.trans N₁
    have up₁ : ∀ b o, b ∈ mu → h'.get? b = some o → h₁.get? b = some o := fun b o hb e => hk₁ b o (hmuw b hb) e
    refine asg v H' { s with heap := h₁, toks := tk₁ } S₁ (keepV _ _ up₁ vi') _ _ fun h₂ tk₂ S₂ fv₂ vi₂ ka₂ => ?_
    have S₂' : MStep c (mu ++ wr) H s.heap H' h₂ := S₁.trans (S₂.weak fun b hb => List.mem_append_left _ hb)
    have acc₂ : Acc H' h₂ (rs₀ ++ (ds.take i).flatMap em) := ka₂ _ (keepA _ _ _ _ _ (.refl _) up₁ acc')
    refine body d v H' { s with heap := h₂, toks := tk₂ } _ i (List.mem_of_getElem? hd) hlt rfl S₂' (offMu S₂') (hRel.mono S'.up) fv₂ vi₂ acc₂ _ _ fun H₃ h₃ tk₃ S₃ acc₃ vi₃ => ?_
    refine ⟨ds.length + 1 - (i + 1), by omega, h₃, tk₃, H₃, i + 1, rfl, S₂'.trans (S₃.weak fun b hb => List.mem_append_left _ hb), ?_, ?_, vi₃, hlt, rfl⟩
    · refine W.frame _ _ _ st₁ fun b hb o e => ?_
      have hbm : b ∉ mu := fun q => hmuf b q hb
      exact S₃.ext b o (hfpP b hb) hbm (S₂.ext b o (hfpP b hb) hbm e)
    · rw [List.take_add_one, hd]
      simpa using acc₃
  · have hin : i = ds.length := by omega
    subst hin
    refine W.done _ _ _ st' fun h₁ tk₁ hk₁ => ?_
    have up₁ : ∀ b o, b ∈ mu → h'.get? b = some o → h₁.get? b = some o := fun b o hb e => hk₁ b o (hmuw b hb) e
    refine done H' h₁ tk₁ ⟨S'.up, S'.fresh, fun b o hb hm e => hk₁ b o (fun q => hm (List.mem_append_right _ q)) (S'.ext b o hb hm e), ?_⟩ (offMu S') ?_ (keepV _ _ up₁ vi')
    · exact ⟨fun b o e => hk₁ b o (fun q => by rw [offWr S' b q] at e; cases e) (S'.inv.le b o e), S'.inv.base, S'.inv.noP,
        let ⟨ob, e1, e2⟩ := S'.inv.tb; ⟨ob, hk₁ _ _ (fun q => hwrP _ q rfl) e1, e2⟩⟩
    · rw [List.take_length] at acc'
      exact keepA _ _ _ _ _ (.refl _) up₁ acc'
end
end Mine
namespace Mine

/-- the truth of a test -/
structure PT (c : Cfg) (n : Nat) (env : Env) (ρ : Str → Option Value) (H : View) (e : Expr) (b : Bool) : Prop where
  run : ∀ (A : Around), Ok A n → ∀ (s : Shared) (H₁ : View), VLe H H₁ → Inv c H₁ s.heap → Frm c env ρ s.heap → ∀ (Q : Bool → Shared → Prop) (E : Value → Shared → Prop),
    (∀ H' h' tk', HStep c H₁ s.heap H' h' → Q b { s with heap := h', toks := tk' }) → wpAny (model c.prog c.w) A (isTrue e env (eval e env)) Q E s

inductive Tests (c : Cfg) (n : Nat) (env : Env) (ρ : Str → Option Value) (H : View) : List Expr → Bool → Prop
  | nil : Tests c n env ρ H [] true
  | one {e : Expr} {b : Bool} : PT c n env ρ H e b → Tests c n env ρ H [e] b

section
variable {c : Cfg} {n : Nat} {env : Env} {ρ : Str → Option Value} {H : View} {e : Expr} {d : D} {b : Bool}
theorem PT.cmp {op : CmpOp} {l r : Expr} {pos : Pos} {a b : D} {t : Bool} (hl : PE c n env ρ H l a) (hr : PE c n env ρ H r b) (ho : CmpR c op a b (.bool t)) (hm : behindInMarks op r = false := by rfl) : PT c n env ρ H (.Compare l [op] [r] pos) t :=
  ⟨fun A ok s H₁ k I F Q E q => wpAny_isTrue_Compare1 (hl.run A ok s H₁ k I F _ _ fun x H₂ h₂ t₂ S₂ R₂ => hr.run A ok _ H₂ (k.trans S₂.up) S₂.inv (F.step S₂) _ _ fun y H₃ h₃ t₃ S₃ R₃ =>
    ho.run A (ok.le (Nat.zero_le _)) _ H₃ x y S₃.inv (R₂.mono S₃.up) R₃ _ _ fun v H' h' t' S' R' => by cases R'; exact wpAny_truthy_bool (q H' h' t' ((S₂.trans S₃ I).trans S' I))) hm⟩
theorem PT.mono {m : Nat} {H' : View} (x : PT c n env ρ H e b) (hn : n ≤ m) (hH : VLe H H') : PT c m env ρ H' e b := ⟨fun A ok s H₁ k I F Q E q => x.run A (ok.le hn) s H₁ (hH.trans k) I F Q E q⟩
theorem PT.bool (h : PE c n env ρ H e (.bool b)) (he : ∀ whole, isTrue e env whole = (do let v ← whole; standAt e.pos; holding [v] (truthy v)) := by intro _; rfl) : PT c n env ρ H e b :=
  ⟨fun A ok s H₁ k I F Q E q => wpAny_isTrue_value (h.run A ok s H₁ k I F _ _ fun v H' h' t' S' R' => by cases R'; exact wpAny_truthy_bool (q H' h' t' S')) (he _)⟩
theorem PT.int {i : Int} (h : PE c n env ρ H e (.int i)) (he : ∀ whole, isTrue e env whole = (do let v ← whole; standAt e.pos; holding [v] (truthy v)) := by intro _; rfl) : PT c n env ρ H e (i != 0) :=
  ⟨fun A ok s H₁ k I F Q E q => wpAny_isTrue_value (h.run A ok s H₁ k I F _ _ fun v H' h' t' S' R' => by cases R'; exact PyProof.Rows.truthy_int (q H' h' t' S')) (he _)⟩
theorem PT.not {x : Expr} {pos : Pos} (h : PT c n env ρ H x b) : PT c n env ρ H (.UnaryOp .Not x pos) (!b) :=
  ⟨fun A ok s H₁ k I F Q E q => wpAny_isTrue_Not (h.run A ok s H₁ k I F _ _ q)⟩
theorem PE.ifexp {test body orelse : Expr} {pos : Pos} (ht : PT c n env ρ H test b) (hb : b = true → PE c n env ρ H body d) (ho : b = false → PE c n env ρ H orelse d) : PE c n env ρ H (.IfExp test body orelse pos) d :=
  ⟨fun A ok s H₁ k I F Q E q => wpAny_IfExp (ht.run A ok s H₁ k I F _ _ fun H' h' t' S' => by
    cases b with
    | true => exact (hb rfl).run A ok _ H' (k.trans S'.up) S'.inv (F.step S') Q E fun v H'' h'' t'' S'' R'' => q v H'' h'' t'' (S'.trans S'' I) R''
    | false => exact (ho rfl).run A ok _ H' (k.trans S'.up) S'.inv (F.step S') Q E fun v H'' h'' t'' S'' R'' => q v H'' h'' t'' (S'.trans S'' I) R'')⟩

theorem Tests.run {ifs : List Expr} (t : Tests c n env ρ H ifs b) (A : Around) (ok : Ok A n) (s : Shared) (H₁ : View) (k : VLe H H₁) (I : Inv c H₁ s.heap) (F : Frm c env ρ s.heap) (Q : Bool → Shared → Prop) (E : Value → Shared → Prop)
    (q : ∀ H' h' tk', HStep c H₁ s.heap H' h' → Q b { s with heap := h', toks := tk' }) :
    wpAny (model c.prog c.w) A (forIn ifs true fun e r => if r = true then do let ok ← isTrue e env (eval e env); pure (ForInStep.yield ok) else pure (ForInStep.yield r)) Q E s := by
  cases t with
  | nil => exact wpAny_tests_nil (q H₁ s.heap s.toks (.refl I))
  | one h => exact wpAny_tests_one (h.run A ok s H₁ k I F Q E q)
end

/-- evaluated and asked for its iterator, the expression walks these data -/
structure IT (c : Cfg) (n : Nat) (env : Env) (ρ : Str → Option Value) (H : View) (e : Expr) (ds : List D) : Prop where
  run : ∀ (A : Around), Ok A n → ∀ (s : Shared) (H₁ : View), VLe H H₁ → Inv c H₁ s.heap → Frm c env ρ s.heap → ∀ (Q : Value → Shared → Prop) (E : Value → Shared → Prop),
    (∀ I fp wr P St H' h' tk', HStep c H₁ s.heap H' h' → Walks c.prog c.w A I fp wr ds.length P St → St 0 h' → (∀ b ∈ fp, b < h'.objs.size ∧ b ≠ c.P) → (∀ b ∈ wr, H' b = none ∧ s.heap.get? b = none) → (∀ i h, St i h → ∀ b ∈ wr, (h.get? b).isSome = true) →
      (∀ i v, i < ds.length → P i v → ∃ d, ds[i]? = some d ∧ Rel H' v d) → (∀ b ∈ fp, (∃ o, H' b = some o) ∨ s.heap.get? b = none) → Q (.ref I) { s with heap := h', toks := tk' }) →
    wpAny (model c.prog c.w) A (eval e env) (fun x s₁ => wpAny (model c.prog c.w) A (pyIter x) Q E s₁) E s

section
variable {c : Cfg} {n : Nat} {env : Env} {ρ : Str → Option Value} {H : View} {e : Expr} {d : D} {b : Bool}
theorem Inv.neP {h : Heap} (I : Inv c H h) {a : Addr} (e : h.get? a = none) : a ≠ c.P := fun q => by obtain ⟨o, h1, _⟩ := I.tb; rw [← q, e] at h1; cases h1
theorem HStep.push {h : Heap} (I : Inv c H h) (o : Obj) : HStep c H h H (h.push o) := .grow I fun b ob e => Heap.get?_push_of_some _ e

theorem IT.list {ds : List D} (h : PE c n env ρ H e (.list ds)) : IT c n env ρ H e ds := ⟨fun A ok s H₁ k I F Q E q =>
  h.run A ok s H₁ k I F _ _ fun v H₂ h₂ t₂ S₂ R₂ => by
    cases R₂ with
    | @list a vs m _ ha hr =>
      have hg := S₂.inv.le _ _ ha
      have hl : h₂.IsList a vs := ⟨_, hg, rfl, m, rfl⟩
      have hne : a ≠ h₂.objs.size := Nat.ne_of_lt (Heap.lt_size hg)
      refine wpAny_pyIter_list hl ?_
      have S₃ := HStep.push S₂.inv { cls := .type "list_iterator", data := .fields #[.ref a, .int 0 0] }
      have hn := fresh_none h₂
      have hlen : vs.size = ds.length := by have := hr.length; simpa using this
      have W := Walks.list (prog := c.prog) (w := c.w) ok.hh h₂.objs.size a hne vs
      rw [hlen] at W
      refine q _ _ _ _ _ H₂ _ _ (S₂.trans S₃ I) W ⟨⟨_, Heap.get?_push_size _ rfl, rfl, rfl⟩, hl.at fun o e => Heap.get?_push_of_some _ e⟩ ?_ ?_ ?_ ?_ ?_
      · intro b hb
        rcases List.mem_cons.mp hb with rfl | hb
        · exact ⟨by rw [Heap.size_push]; exact Nat.lt_succ_self _, S₂.inv.neP hn⟩
        · rw [List.mem_singleton.mp hb]
          exact ⟨by rw [Heap.size_push]; exact Nat.lt_succ_of_lt (Heap.lt_size hg), fun q => by rw [q, S₂.inv.noP] at ha; cases ha⟩
      · intro b hb
        rw [List.mem_singleton.mp hb]
        exact ⟨S₂.inv.none_of hn, S₂.alive I hn⟩
      · intro i h' st b hb
        rw [List.mem_singleton.mp hb]
        obtain ⟨⟨o, ho, _⟩, _⟩ := st
        rw [ho]; rfl
      · intro i v _ hv
        exact hr.get (by simpa using hv)
      · intro b hb
        rcases List.mem_cons.mp hb with rfl | hb
        · exact .inr (S₂.alive I hn)
        · rw [List.mem_singleton.mp hb]; exact .inl ⟨_, ha⟩⟩
theorem IT.tup {ds : List D} (h : PE c n env ρ H e (.tup ds)) : IT c n env ρ H e ds := ⟨fun A ok s H₁ k I F Q E q =>
  h.run A ok s H₁ k I F _ _ fun v H₂ h₂ t₂ S₂ R₂ => by
    cases R₂ with
    | @tup a vs m _ ha hr =>
      have hg := S₂.inv.le _ _ ha
      have hl : h₂.IsTuple a vs := ⟨_, hg, rfl, m, rfl⟩
      have hne : a ≠ h₂.objs.size := Nat.ne_of_lt (Heap.lt_size hg)
      refine wpAny_pyIter_tuple hl ?_
      have S₃ := HStep.push S₂.inv { cls := .type "tuple_iterator", data := .fields #[.ref a, .int 0 0] }
      have hn := fresh_none h₂
      have hlen : vs.size = ds.length := by have := hr.length; simpa using this
      have W := Walks.tuple (prog := c.prog) (w := c.w) ok.hh h₂.objs.size a hne vs
      rw [hlen] at W
      refine q _ _ _ _ _ H₂ _ _ (S₂.trans S₃ I) W ⟨⟨_, Heap.get?_push_size _ rfl, rfl, rfl⟩, hl.at fun o e => Heap.get?_push_of_some _ e⟩ ?_ ?_ ?_ ?_ ?_
      · intro b hb
        rcases List.mem_cons.mp hb with rfl | hb
        · exact ⟨by rw [Heap.size_push]; exact Nat.lt_succ_self _, S₂.inv.neP hn⟩
        · rw [List.mem_singleton.mp hb]
          exact ⟨by rw [Heap.size_push]; exact Nat.lt_succ_of_lt (Heap.lt_size hg), fun q => by rw [q, S₂.inv.noP] at ha; cases ha⟩
      · intro b hb
        rw [List.mem_singleton.mp hb]
        exact ⟨S₂.inv.none_of hn, S₂.alive I hn⟩
      · intro i h' st b hb
        rw [List.mem_singleton.mp hb]
        obtain ⟨⟨o, ho, _⟩, _⟩ := st
        rw [ho]; rfl
      · intro i v _ hv
        exact hr.get (by simpa using hv)
      · intro b hb
        rcases List.mem_cons.mp hb with rfl | hb
        · exact .inr (S₂.alive I hn)
        · rw [List.mem_singleton.mp hb]; exact .inl ⟨_, ha⟩⟩

theorem rangeSize_nat (m : Nat) : Builtin.Range.rangeSize 0 (m : Int) 1 = (m : Int) := by
  unfold Builtin.Range.rangeSize; simp; omega

theorem IT.range {x : Expr} {p pos : Pos} {m : Nat} (hx : env.kindOf "range" = some .globalImplicit) (g : GlobV c "range" (.type "range")) (h : PE c n env ρ H x (.int (m : Int))) (hm : m < 2 ^ 31)
    (hs : ∀ env, starEach [x] env = (false, eval x env) :: starEach [] env := by intro _; rfl) :
    IT c n env ρ H (.Call (.Name "range" p) [x] [] pos) ((List.range m).map fun (i : Nat) => D.int (i : Int)) := ⟨fun A ok s H₁ k I F Q E q =>
  Call_Name rfl (ldGlob I F hx g (by decide) (callWith_any (.type "range") (PEs.one h hs) A ok s H₁ k I F _ _ fun vs H₂ h₂ t₂ S₂ R₂ => by
    cases R₂ with
    | cons r t =>
      cases t
      cases r with
      | int _ tk =>
        refine call_range_1 ?_
        have S₃ := HStep.push S₂.inv { cls := .type "range", data := .fields #[.int 0 t₂, .int (m : Int) tk, .int 1 (t₂ + 1)] }
        have hr : IsRange (h₂.push { cls := .type "range", data := .fields #[.int 0 t₂, .int (m : Int) tk, .int 1 (t₂ + 1)] }) h₂.objs.size 0 (m : Int) 1 t₂ tk (t₂ + 1) := Heap.get?_push_size _ rfl
        refine wpAny_pyIter_range hr (small_one (by decide) (by decide) (by omega) (by omega)) ?_
        rw [rangeSize_nat]
        generalize hh3 : h₂.push { cls := .type "range", data := .fields #[.int 0 t₂, .int (m : Int) tk, .int 1 (t₂ + 1)] } = h₃ at *
        have S₄ := HStep.push S₃.inv { cls := .type "range_iterator", data := .fields #[rawInt 0, rawInt (m : Int), rawInt 1] }
        have hn := fresh_none h₃
        have W := Walks.range (prog := c.prog) (w := c.w) ok.hh h₃.objs.size 0 1 m
        have hlen : ((List.range m).map fun (i : Nat) => D.int (i : Int)).length = m := by simp
        have S₅ := (S₂.trans S₃ I).trans S₄ I
        refine q _ _ _ _ _ H₂ _ _ S₅ (by rw [hlen]; exact W) ?_ ?_ ?_ ?_ ?_ ?_
        · have e := Heap.get?_push_size h₃ (o := { cls := .type "range_iterator", data := .fields #[rawInt 0, rawInt (m : Int), rawInt 1] }) rfl
          show IsRangeIter _ _ _ _ _
          unfold IsRangeIter
          simpa using e
        · intro b hb
          rw [List.mem_singleton.mp hb]
          exact ⟨by rw [Heap.size_push]; exact Nat.lt_succ_self _, S₃.inv.neP hn⟩
        · intro b hb
          rw [List.mem_singleton.mp hb]
          exact ⟨S₃.inv.none_of hn, (S₂.trans S₃ I).alive I hn⟩
        · intro i h' st b hb
          rw [List.mem_singleton.mp hb]
          have st' : h'.get? h₃.objs.size = _ := st
          rw [st']; rfl
        · rintro i v hi ⟨t, rfl⟩
          rw [hlen] at hi
          refine ⟨.int (i : Int), by simp [hi], ?_⟩
          have : (0 : Int) + (i : Int) * 1 = i := by omega
          rw [this]; exact .int _ _
        · intro b hb
          rw [List.mem_singleton.mp hb]
          exact .inr ((S₂.trans S₃ I).alive I hn)))⟩
end
end Mine
namespace Mine

def freeρ (cl : List (Str × Addr)) (ρ : Str → Option Value) : Str → Option Value := fun y => if (cl.lookup y).isSome then ρ y else none

structure FreeOk (env : Env) (scope : Scope) (cl : List (Str × Addr)) : Prop where
  clos : closureFor scope env = pure cl
  cells : ∀ y a, cl.lookup y = some a → env.cells.lookup y = some a ∧ (env.kindOf y = some .cell ∨ env.kindOf y = some .free)
  kinds : ∀ y a, cl.lookup y = some a → (relabel scope env).names.lookup y = some .cell ∨ (relabel scope env).names.lookup y = some .free

theorem FreeOk.none {env : Env} {scope : Scope} (h : ∀ x ∈ scope.names, x.2 ≠ .free) : FreeOk env scope [] :=
  ⟨closureFor_none h, fun y a e => by simp at e, fun y a e => by simp at e⟩

section
variable {c : Cfg} {n : Nat} {env : Env} {ρ : Str → Option Value} {H : View} {d : D} {cl : List (Str × Addr)} {scope : Scope}

theorem Frm.comp {h : Heap} {C : Addr} {m : Str → Option Value} {x : Str} {v : Value} (F : Frm c env ρ h) (fo : FreeOk env scope cl) (hk : scope.kind = .function) (hn : h.Ns C m) (hm : m x = some v) (hC : C ≠ c.P)
    (hx : scope.names.lookup x = some .local) : Frm c (compEnvC scope cl C env) (upd (freeρ cl ρ) x v) h where
  kind := hk
  gl := F.gl
  bl := F.bl
  apL := hC
  apC := fun y a e => F.apC y a (fo.cells y a e).1
  loc := ⟨m, hn, fun y u e hl => by
    by_cases hy : y = x
    · subst hy
      unfold upd at e; rw [if_pos rfl] at e; cases e; exact hm
    · unfold upd freeρ at e
      rw [if_neg hy] at e
      cases q : cl.lookup y with
      | none => rw [q] at e; simp at e
      | some a =>
        have hl' : (relabel scope env).names.lookup y = some .local := hl
        rcases fo.kinds y a q with k | k <;> rw [k] at hl' <;> cases hl'⟩
  cell := fun y a e => F.cell y a (fo.cells y a e).1
  cel := fun y u e hkd => by
    by_cases hy : y = x
    · subst hy
      have hl : (compEnvC scope cl C env).kindOf y = some .local := lookup_relabel_local hx
      rw [hl] at hkd
      rcases hkd with k | k <;> cases k
    · unfold upd freeρ at e
      rw [if_neg hy] at e
      cases q : cl.lookup y with
      | none => rw [q] at e; simp at e
      | some a =>
        rw [q] at e
        simp only [Option.isSome_some, if_true] at e
        obtain ⟨h1, h2⟩ := fo.cells y a q
        obtain ⟨a', h3, h4⟩ := F.cel y u e h2
        rw [h1] at h3
        cases h3
        exact ⟨a, q, h4⟩

theorem PlainList.lst {h : Heap} {a : Addr} {vs : Array Value} (x : h.PlainList a vs) : ∃ k, h.get? a = some (lstO vs k) := x

theorem filter_map_flatMap (p : D → Bool) (g : D → D) (ds : List D) : ds.flatMap (fun d => if p d then [g d] else []) = (ds.filter p).map g := by
  induction ds with
  | nil => rfl
  | cons d r ih => rw [List.flatMap_cons, ih]; cases hp : p d <;> simp [hp]

/-- the block of a list comprehension of one clause, from its iterator on -/
theorem compRun {elt iter : Expr} {x : Str} {px : Pos} {ifs : List Expr} {pos : Pos} {ds : List D} {p : D → Bool} {g : D → D} {RR : Value → Addr → Result → Shared → Prop}
    (fo : FreeOk env scope cl) (hcell : ∀ y ∈ scope.names, y.2 ≠ .cell) (hkind : scope.kind = .function) (hx : scope.names.lookup x = some .local) (hsz : ds.length ≤ sizeLine)
    (hel : ∀ C d v H', d ∈ ds → VLe H H' → Rel H' v d → Tests c n (compEnvC scope cl C env) (upd (freeρ cl ρ) x v) H' ifs (p d) ∧ (p d = true → PE c n (compEnvC scope cl C env) (upd (freeρ cl ρ) x v) H' elt (g d)))
    {A : Around} (ok : Ok A n) {s : Shared} {H₁ : View} (k : VLe H H₁) (I : Inv c H₁ s.heap) {it : Addr} {fp wr : List Addr} {P : Nat → Value → Prop} {St : Nat → Heap → Prop}
    (W : Walks c.prog c.w A it fp wr ds.length P St) (st : St 0 s.heap) (hfp : ∀ b ∈ fp, b < s.heap.objs.size ∧ b ≠ c.P) (hwr : ∀ b ∈ wr, H₁ b = none) (stl : ∀ i h, St i h → ∀ b ∈ wr, (h.get? b).isSome = true)
    (hP : ∀ i v, i < ds.length → P i v → ∃ d, ds[i]? = some d ∧ Rel H₁ v d) {E : Value → Shared → Prop}
    (hsep : ∀ h', (∀ b o, b ≠ c.P → b ∉ wr → s.heap.get? b = some o → h'.get? b = some o) → Frm c env ρ h')
    (hRR : ∀ Dd C H' h' tk' vs k', DStep c ([Dd, C] ++ wr) H₁ s.heap H' h' → s.heap.get? Dd = none → s.heap.get? C = none → Dd ≠ C → H' Dd = none → H' C = none → h'.get? Dd = some (lstO vs k') → RelL H' vs.toList ((ds.filter p).map g) → (∃ m, h'.Ns C m) →
      RR (.ref Dd) C (.ok .next) { s with heap := h', toks := tk' }) :
    wpAny (model c.prog c.w) A (newList []) (fun acc s₃ => wpAny (model c.prog c.w) A (newFunctionEnv scope env.globals cl [] env.qual none .none (some env)) (fun cenv s₄ =>
      codeAny (model c.prog c.w) A (.compStart (.ListComp elt [⟨.Name x px, iter, ifs, 0⟩] scope pos) 0 (.ref it) acc { cenv with scope := relabel scope env }) (RR acc cenv.locals) s₄) E s₃) E s := by
  refine wpAny_newObj_type (wpAny_newFunctionEnv hcell (by intro y hy; simp at hy) (fun h₁ hns₁ hsb₁ => ?_) hkind)
  dsimp only at hns₁ hsb₁ ⊢
  generalize hH2 : s.heap.push { cls := .type "list", dict := none, data := .seq ([] : List Value).toArray } = H2 at hns₁ hsb₁ ⊢
  have hC : H2.objs.size = s.heap.objs.size + 1 := by rw [← hH2, Heap.size_push]
  have hDC : s.heap.objs.size ≠ H2.objs.size := by rw [hC]; exact Nat.ne_of_lt (Nat.lt_succ_self _)
  have fresh : ∀ a, s.heap.objs.size ≤ a → s.heap.get? a = none := fun a ha => by
    cases e : s.heap.get? a with
    | none => rfl
    | some o' => exact absurd (Heap.lt_size e) (Nat.not_lt.mpr ha)
  have nD := fresh s.heap.objs.size (Nat.le_refl _)
  have nC := fresh H2.objs.size (by rw [hC]; exact Nat.le_succ _)
  have hCfresh : H2.get? H2.objs.size = none := fresh_none H2
  have keep1 : ∀ b o, s.heap.get? b = some o → H2.get? b = some o := fun b o e => hH2 ▸ Heap.get?_push_of_some _ e
  have keep2 : ∀ b o, H2.get? b = some o → h₁.get? b = some o := fun b o e => (hsb₁.2 b (fun q => by rw [q, hCfresh] at e; cases e)).trans (Heap.get?_push_of_some _ e)
  have old : ∀ b o, s.heap.get? b = some o → h₁.get? b = some o := fun b o e => keep2 b o (keep1 b o e)
  have hacc : h₁.get? s.heap.objs.size = some (lstO #[] 0) := keep2 _ _ (hH2 ▸ Heap.get?_push_size _ rfl)
  have S₁ : HStep c H₁ s.heap H₁ h₁ := .grow I old
  have hst₁ : St 0 h₁ := W.frame _ _ _ st fun b _ o e => old b o e
  have PD : s.heap.objs.size ≠ c.P := I.neP nD
  have PC : H2.objs.size ≠ c.P := I.neP nC
  have hbig : ∀ b ∈ fp, b < s.heap.objs.size := fun b hb => (hfp b hb).1
  have loop : ∀ s₃ : Shared, s₃ = { s with heap := h₁, toks := s.toks + ([] : List (Str × Value)).length } →
      codeAny (model c.prog c.w) A (.compLoop (.ListComp elt [⟨.Name x px, iter, ifs, 0⟩] scope pos) 0 (.ref it) (.ref s.heap.objs.size) (compEnvC scope cl H2.objs.size env))
        (RR (.ref s.heap.objs.size) H2.objs.size) s₃ := by
    rintro s₃ rfl
    refine comp_inv (H := H₁) (mu := [s.heap.objs.size, H2.objs.size]) (ds := ds) (px := px) (x := x) (cenv := compEnvC scope cl H2.objs.size env) (Acc := AccL s.heap.objs.size) (VI := fun h => ∃ m, h.Ns H2.objs.size m) (FV := fun v h => ∃ m, h.Ns H2.objs.size m ∧ m x = some v)
      (em := fun d => if p d then [g d] else []) (rs₀ := [])
      (BT := fun Q E s9 => wpAny (model c.prog c.w) A (forIn ifs true fun e r => if r = true then do let ok ← isTrue e (compEnvC scope cl H2.objs.size env) (eval e (compEnvC scope cl H2.objs.size env)); pure (ForInStep.yield ok) else pure (ForInStep.yield r)) (fun ok s₃ =>
            if ok = true then wpAny (model c.prog c.w) A (eval elt (compEnvC scope cl H2.objs.size env)) (fun x s₄ =>
              wpAny (model c.prog c.w) A (call (.builtin "list.append") [.ref s.heap.objs.size, x]) (fun _ s₅ => Q () s₅) E s₄) E s₃
            else Q () s₃) E s9)
      W hP (fun J turn n' s' hJ => codeAny_compLoop_tests (target := .Name x px) J (fun n s h => turn n s h) n' hJ) ?_ (fun b hb => (hfp b hb).2) hwr (stl 0 h₁ hst₁) ?_ ?_ stl S₁.inv hst₁ ⟨#[], 0, hacc, .nil⟩ ⟨_, hns₁⟩ ?_ ?_ ?_ ?_ ?_
    · intro b hb hf
      rcases List.mem_cons.mp hb with rfl | hb
      · exact Nat.lt_irrefl _ (hbig _ hf)
      · rw [List.mem_singleton.mp hb] at hf
        exact absurd (hbig _ hf) (by rw [hC]; exact Nat.not_lt.mpr (Nat.le_succ _))
    · intro b hb
      rcases List.mem_cons.mp hb with rfl | hb
      · exact I.none_of nD
      · rw [List.mem_singleton.mp hb]; exact I.none_of nC
    · intro b hb
      rcases List.mem_cons.mp hb with rfl | hb
      · show (h₁.get? _).isSome = true
        rw [hacc]; rfl
      · rw [List.mem_singleton.mp hb]
        obtain ⟨o, _, _, ho, _⟩ := hns₁
        show (h₁.get? _).isSome = true
        rw [ho]; rfl
    · rintro X₁ X₂ g₁ g₂ rs hX hg ⟨vs, k', h1, h2⟩
      exact ⟨vs, k', hg _ _ (by simp) h1, h2.mono hX⟩
    · rintro g₁ g₂ hg ⟨m, hm⟩
      exact ⟨m, hm.at' fun o e => hg _ o (by simp) e⟩
    · rintro v H' s' S' ⟨m, hm⟩ Q E q
      have offC : H' H2.objs.size = none := S'.miss (by obtain ⟨o, _, _, ho, _⟩ := hns₁; show (h₁.get? _).isSome = true; rw [ho]; rfl) (I.none_of nC)
      refine wpAny_assign_Name (wpAny_storeName_local (env := compEnvC scope cl H2.objs.size env) (lookup_relabel_local hx) hm (fun h₂ hn₂ hs₂ => ?_) (by show (scope.kind == .class || (scope.kind == .module && _)) = false; rw [hkind]; rfl))
      have hs₂' : Heap.SameBut H2.objs.size s'.heap h₂ := hs₂
      have hn₂' : h₂.Ns H2.objs.size (fun y => if y = x then some v else m y) := hn₂
      refine q h₂ _ (MStep.at S'.inv (by simp) offC PC hs₂' ?_) ⟨_, hn₂', by simp⟩ ⟨_, hn₂'⟩ ?_
      · obtain ⟨o, _, _, ho, _⟩ := hn₂'
        rw [ho]; rfl
      · rintro rs ⟨vs, k', h1, h2⟩
        exact ⟨vs, k', (hs₂'.2 _ hDC).trans h1, h2⟩
    · rintro d v H' s' rs i hd hi hrs S' offM R' ⟨m, hm, hmx⟩ - ⟨vs, k', ha, hr⟩ Q E q
      have offD : H' s.heap.objs.size = none := offM _ (by simp)
      have F' : Frm c (compEnvC scope cl H2.objs.size env) (upd (freeρ cl ρ) x v) s'.heap := by
        refine Frm.comp (hsep _ fun b o hb hw e => S'.ext b o hb (fun hm' => ?_) (old b o e)) fo hkind hm hmx PC hx
        rcases List.mem_append.mp hm' with q' | q'
        · rcases List.mem_cons.mp q' with rfl | q'
          · rw [nD] at e; cases e
          · rw [List.mem_singleton.mp q', nC] at e; cases e
        · exact hw q'
      obtain ⟨ht, he⟩ := hel H2.objs.size d v H' hd (k.trans S'.up) R'
      refine ht.run A ok s' H' (.refl _) S'.inv F' _ _ fun H₂ h₂ t₂ S₂ => ?_
      have ha₂ := S₂.ext _ _ PD ha
      have hm₂ : h₂.Ns H2.objs.size m := hm.at' fun o e => S₂.ext _ o PC e
      cases hpd : p d with
      | false =>
        simp only [Bool.false_eq_true, if_false]
        refine q H₂ h₂ t₂ S₂.toM ⟨vs, k', ha₂, ?_⟩ ⟨m, hm₂⟩
        simpa [hpd] using hr.mono S₂.up
      | true =>
        simp only [if_true]
        refine (he hpd).run A ok _ H₂ S₂.up S₂.inv (F'.step S₂) _ _ fun y H₃ h₃ t₃ S₃ R₃ => ?_
        have ha₃ := S₃.ext _ _ PD ha₂
        have hm₃ : h₃.Ns H2.objs.size m := hm₂.at' fun o e => S₃.ext _ o PC e
        have offD₃ : H₃ s.heap.objs.size = none := S₃.miss ha₂ (S₂.miss ha offD)
        refine wpAny_list_append_plain (items := vs) ⟨k', ha₃⟩ (fun h₄ hl₄ hs₄ => ?_) ?_
        · obtain ⟨k₄, ha₄⟩ := hl₄
          refine q H₃ h₄ t₃ ((S₂.trans S₃ S'.inv).toM.trans (MStep.at S₃.inv (by simp) offD₃ PD hs₄ (by rw [ha₄]; rfl))) ⟨vs.push y, k₄, ha₄, ?_⟩ ⟨m, hm₃.sameBut hs₄ (Ne.symm hDC)⟩
          simp only [hpd, if_true, Array.toList_push]
          exact (hr.mono (S₂.up.trans S₃.up)).append (.cons R₃ .nil)
        · have e1 := hr.length
          have e2 : rs.length ≤ i := by
            rw [hrs, List.nil_append, filter_map_flatMap, List.length_map]
            exact Nat.le_trans (List.length_filter_le _ _) (by rw [List.length_take]; exact Nat.min_le_left _ _)
          have e3 : vs.toList.length = vs.size := by simp
          omega
    · rintro H' h' t' S' offM ⟨vs, k', ha, hr⟩ hm
      refine hRR _ _ H' h' t' vs k' ⟨S'.up, fun b o e => ?_, fun b o hb hm' e => S'.ext b o hb hm' (old b o e), S'.inv⟩ nD nC hDC (offM _ (by simp)) (offM _ (by simp)) ha ?_ hm
      · rcases S'.fresh b o e with e' | e'
        · exact .inl e'
        · refine .inr ?_
          cases q : s.heap.get? b with
          | none => rfl
          | some ob => rw [old b ob q] at e'; cases e'
      · rw [← filter_map_flatMap]; simpa using hr
  exact codeAny_compStart_list (loop _ rfl) (W.self 0 _ _ _ hst₁ (loop _ rfl))
end
end Mine
namespace Mine

section
variable {c : Cfg} {n : Nat} {env : Env} {ρ : Str → Option Value} {H : View} {d : D} {cl : List (Str × Addr)} {scope : Scope}

/-- freezing what a block has filled, its names let go -/
theorem DStep.frozen {H₀ H₁ H' : View} {h₀ h₁ h' h'' : Heap} {Dd C : Addr} {wr : List Addr} {o : Obj} (S : HStep c H₀ h₀ H₁ h₁) (I₀ : Inv c H₀ h₀) (y : DStep c ([Dd, C] ++ wr) H₁ h₁ H' h') (nD : h₁.get? Dd = none) (nC : h₁.get? C = none)
    (hDC : Dd ≠ C) (oD : H' Dd = none) (oC : H' C = none) (hwr : ∀ b ∈ wr, h₀.get? b = none) (hs : Heap.SameBut C h' h'') (ha : h'.get? Dd = some o) : HStep c H₀ h₀ (H'.add Dd o) h'' := by
  have PC : C ≠ c.P := S.inv.neP nC
  have PD : Dd ≠ c.P := S.inv.neP nD
  have y' : HStep c H₀ h₀ H' h' := DStep.toH S I₀ y (fun b hb => by
    rcases List.mem_append.mp hb with q | q
    · rcases List.mem_cons.mp q with rfl | q
      · exact S.alive I₀ nD
      · rw [List.mem_singleton.mp q]; exact S.alive I₀ nC
    · exact hwr b q)
  have nC0 := S.alive I₀ nC
  have z : HStep c H₀ h₀ H' h'' := ⟨y'.up, y'.fresh, fun b ob hb e => (hs.2 b fun q => by rw [q, nC0] at e; cases e).trans (y'.ext b ob hb e),
    ⟨fun b ob e => (hs.2 b fun q => by rw [q, oC] at e; cases e).trans (y'.inv.le b ob e), y'.inv.base, y'.inv.noP, let ⟨ob, e1, e2⟩ := y'.inv.tb; ⟨ob, (hs.2 _ (Ne.symm PC)).trans e1, e2⟩⟩⟩
  exact z.freeze (S.alive I₀ nD) oD PD ((hs.2 _ hDC).trans ha)

theorem PE.listComp {elt iter : Expr} {x : Str} {px : Pos} {ifs : List Expr} {pos : Pos} {ds : List D} {p : D → Bool} {g : D → D}
    (fo : FreeOk env scope cl) (hcell : ∀ y ∈ scope.names, y.2 ≠ .cell) (hkind : scope.kind = .function) (hnames : ∀ y ∈ scope.names, y.2 = .local → scope.names.lookup y.1 = some .local) (hx : scope.names.lookup x = some .local)
    (it : IT c n env ρ H iter ds) (hsz : ds.length ≤ sizeLine)
    (hel : ∀ C d v H', d ∈ ds → VLe H H' → Rel H' v d → Tests c n (compEnvC scope cl C env) (upd (freeρ cl ρ) x v) H' ifs (p d) ∧ (p d = true → PE c n (compEnvC scope cl C env) (upd (freeρ cl ρ) x v) H' elt (g d)))
    (hs : ∀ x, foldedSetIterable iter env x = pure x := by intro _; rfl) :
    PE c n env ρ H (.ListComp elt [⟨.Name x px, iter, ifs, 0⟩] scope pos) (.list ((ds.filter p).map g)) := ⟨fun A ok s H₁ k I F Q E q => by
  rw [eval_ListComp]
  refine wpAny_comprehension_free (use := none) rfl hs fo.clos hkind hnames (it.run A ok s H₁ k I F _ _ fun it fp wr P St H₂ h₂ t₂ S₂ W st hfp hwr stl hP hnw => ?_)
  refine compRun (p := p) (g := g) fo hcell hkind hx hsz hel ok (k.trans S₂.up) S₂.inv W st hfp (fun b hb => (hwr b hb).1) stl hP (fun h' hk => F.ext fun b o hb e => hk b o hb (fun hw => by rw [(hwr b hw).2] at e; cases e) (S₂.ext b o hb e)) ?_
  rintro Dd C H' h' tk' vs k' S' nD nC hDC oD oC ha hr ⟨m, hm⟩
  refine ⟨m, hm, fun h'' hs'' => ?_⟩
  have z := DStep.frozen S₂ I S' nD nC hDC oD oC (fun b hb => (hwr b hb).2) hs'' ha
  exact q _ _ h'' tk' z (.list View.add_self (hr.mono (View.le_add oD)))⟩

/-- the simplest use: every item, no names from without -/
theorem PE.listCompAll {elt iter : Expr} {x : Str} {px : Pos} {pos : Pos} {ds : List D} {g : D → D}
    (hfree : ∀ y ∈ scope.names, y.2 ≠ .free) (hcell : ∀ y ∈ scope.names, y.2 ≠ .cell) (hkind : scope.kind = .function) (hnames : ∀ y ∈ scope.names, y.2 = .local → scope.names.lookup y.1 = some .local) (hx : scope.names.lookup x = some .local)
    (it : IT c n env ρ H iter ds) (hsz : ds.length ≤ sizeLine)
    (hel : ∀ C d v H', d ∈ ds → VLe H H' → Rel H' v d → PE c n (compEnvC scope [] C env) (upd (fun _ => none) x v) H' elt (g d))
    (hs : ∀ x, foldedSetIterable iter env x = pure x := by intro _; rfl) :
    PE c n env ρ H (.ListComp elt [⟨.Name x px, iter, [], 0⟩] scope pos) (.list (ds.map g)) := by
  have h := PE.listComp (elt := elt) (px := px) (pos := pos) (p := fun _ => true) (g := g) (ifs := []) (FreeOk.none hfree) hcell hkind hnames hx it hsz (fun C d v H' hd hH r => ⟨.nil, fun _ => hel C d v H' hd hH r⟩) hs
  rwa [List.filter_eq_self.mpr (fun _ _ => rfl)] at h
end

/-! statements -/
section
variable {c : Cfg} {n : Nat} {env : Env} {ρ : Str → Option Value} {H : View} {d : D} {st : List Stmt}

theorem SR.ret {e : Expr} {pos : Pos} {rest : List Stmt} (h : PE c n env ρ H e d) : SR c n env ρ H (.Return (some e) pos :: rest) d := ⟨fun A ok s H₁ k I F _ _ Q E q =>
  wpAny_execs_cons (wpAny_Return_some (h.run A ok s H₁ k I F _ _ fun v H' h' t' S' R' => q v H' h' t' S'.up S'.fresh (fun b o hb _ _ e => S'.ext b o hb e) S'.inv R'))⟩

theorem SR.step {H₁ H₂ : View} {h : Heap} {s : Shared} (S : HStep c H₁ s.heap H₂ h) (I : Inv c H₁ s.heap) {Q : Flow → Shared → Prop}
    (q : ∀ v H' h' tk', VLe H₁ H' → (∀ b o, H' b = some o → H₁ b = some o ∨ s.heap.get? b = none) → (∀ b o, b ≠ c.P → b ≠ env.locals → (∀ x a, env.cells.lookup x = some a → b ≠ a) → s.heap.get? b = some o → h'.get? b = some o) → Inv c H' h' → Rel H' v d →
      Q (.ret v) { s with heap := h', toks := tk' }) :
    ∀ v H' h' tk', VLe H₂ H' → (∀ b o, H' b = some o → H₂ b = some o ∨ h.get? b = none) → (∀ b o, b ≠ c.P → b ≠ env.locals → (∀ x a, env.cells.lookup x = some a → b ≠ a) → h.get? b = some o → h'.get? b = some o) → Inv c H' h' → Rel H' v d →
      Q (.ret v) { s with heap := h', toks := tk' } := fun v H' h' tk' hu hf he hI hR =>
  q v H' h' tk' (S.up.trans hu) (fun b o e => (hf b o e).elim (S.fresh b o) fun e' => .inr (S.alive I e')) (fun b o hb hl hc e => he b o hb hl hc (S.ext b o hb e)) hI hR

/-- an if whose body leaves by a return, or whose test is false -/
theorem SR.ifRet {test : Expr} {body : List Stmt} {pos : Pos} {rest : List Stmt} {b : Bool} (ht : PT c n env ρ H test b) (hb : b = true → SR c n env ρ H body d) (ho : b = false → SR c n env ρ H rest d) :
    SR c n env ρ H (.If test body [] pos :: rest) d := ⟨fun A ok s H₁ k I F oL oC Q E q =>
  wpAny_execs_cons (wpAny_If (ht.run A ok s H₁ k I F _ _ fun H₂ h₂ t₂ S₂ => by
    have oL' : H₂ env.locals = none := by
      obtain ⟨m, ⟨ob, _, _, ho, _⟩, _⟩ := F.loc
      exact S₂.miss ho oL
    have oC' : ∀ x a, env.cells.lookup x = some a → H₂ a = none := fun x a e => by
      obtain ⟨_, ob, ho, _⟩ := F.cell x a e
      exact S₂.miss ho (oC x a e)
    cases b with
    | true =>
      simp only [if_true]
      refine wpAny_mono ((hb rfl).run A ok _ H₂ (k.trans S₂.up) S₂.inv (F.step S₂) oL' oC' (fun f s' => match f with | .ret v => Q (.ret v) s' | _ => False) E (SR.step S₂ I q)) (fun f s' hf => ?_) fun _ _ e => e
      cases f with
      | ret v => exact hf
      | _ => exact hf.elim
    | false =>
      simp only [Bool.false_eq_true, if_false]
      exact wpAny_execs_nil ((ho rfl).run A ok _ H₂ (k.trans S₂.up) S₂.inv (F.step S₂) oL' oC' Q E (SR.step S₂ I q))))⟩
end
end Mine
namespace Mine

section
variable {c : Cfg} {n : Nat} {env : Env} {ρ : Str → Option Value} {H : View} {d : D}

theorem Frm.aliveL {h : Heap} (F : Frm c env ρ h) : ∃ o, h.get? env.locals = some o := let ⟨_, ⟨o, _, _, ho, _⟩, _⟩ := F.loc; ⟨o, ho⟩
theorem Frm.cellNe {h : Heap} (F : Frm c env ρ h) {x : Str} {a : Addr} (e : env.cells.lookup x = some a) : a ≠ env.locals := fun q => by
  obtain ⟨_, o, ho, hd⟩ := F.cell x a e
  obtain ⟨_, ⟨o', _, _, ho', hd', _⟩, _⟩ := F.loc
  rw [q, ho'] at ho
  cases ho
  rw [hd'] at hd; cases hd

theorem Frm.store {h h' : Heap} {x : Str} {v : Value} {m : Str → Option Value} (F : Frm c env ρ h) (hm : ∀ x v, ρ x = some v → env.kindOf x = some .local → m x = some v) (hx : env.kindOf x = some .local)
    (hn : h'.Ns env.locals (fun y => if y = x then some v else m y)) (hs : Heap.SameBut env.locals h h') : Frm c env (upd ρ x v) h' where
  kind := F.kind
  gl := F.gl
  bl := F.bl
  apL := F.apL
  apC := F.apC
  loc := ⟨_, hn, fun y u e hk => by
    unfold upd at e
    by_cases hy : y = x
    · rw [if_pos hy] at e; rw [if_pos hy]; exact e
    · rw [if_neg hy] at e; rw [if_neg hy]; exact hm y u e hk⟩
  cell := fun y a e => let ⟨u, hu⟩ := F.cell y a e; ⟨u, hu.sameBut hs (F.cellNe e)⟩
  cel := fun y u e hk => by
    unfold upd at e
    by_cases hy : y = x
    · subst hy; rw [hx] at hk; rcases hk with k | k <;> cases k
    · rw [if_neg hy] at e
      obtain ⟨a, h1, h2⟩ := F.cel y u e hk
      exact ⟨a, h1, h2.sameBut hs (F.cellNe h1)⟩

theorem Inv.store {h h' : Heap} (I : Inv c H h) (hP : env.locals ≠ c.P) (hn : H env.locals = none) (hs : Heap.SameBut env.locals h h') : Inv c H h' :=
  ⟨fun b o e => (hs.2 b fun q => by rw [q, hn] at e; cases e).trans (I.le b o e), I.base, I.noP, let ⟨ob, h1, h2⟩ := I.tb; ⟨ob, (hs.2 _ (Ne.symm hP)).trans h1, h2⟩⟩

theorem SR.stepL {H₁ H₂ : View} {h h₂ : Heap} {s : Shared} (S : HStep c H₁ s.heap H₂ h) (I : Inv c H₁ s.heap) (hs : Heap.SameBut env.locals h h₂) {Q : Flow → Shared → Prop}
    (q : ∀ v H' h' tk', VLe H₁ H' → (∀ b o, H' b = some o → H₁ b = some o ∨ s.heap.get? b = none) → (∀ b o, b ≠ c.P → b ≠ env.locals → (∀ x a, env.cells.lookup x = some a → b ≠ a) → s.heap.get? b = some o → h'.get? b = some o) → Inv c H' h' → Rel H' v d →
      Q (.ret v) { s with heap := h', toks := tk' }) (hal : ∃ o, h.get? env.locals = some o) (hal₂ : ∃ o, h₂.get? env.locals = some o) :
    ∀ v H' h' tk', VLe H₂ H' → (∀ b o, H' b = some o → H₂ b = some o ∨ h₂.get? b = none) → (∀ b o, b ≠ c.P → b ≠ env.locals → (∀ x a, env.cells.lookup x = some a → b ≠ a) → h₂.get? b = some o → h'.get? b = some o) → Inv c H' h' → Rel H' v d →
      Q (.ret v) { s with heap := h', toks := tk' } := fun v H' h' tk' hu hf he hI hR =>
  SR.step S I q v H' h' tk' hu (fun b o e => (hf b o e).imp id fun e' => by
    by_cases hb : b = env.locals
    · obtain ⟨o', ho'⟩ := hal₂
      rw [hb, ho'] at e'; cases e'
    · rw [← hs.2 b hb]; exact e') (fun b o hb hl hc e => he b o hb hl hc ((hs.2 b hl).trans e)) hI hR

theorem Frm.off {H₂ : View} {h h₂ : Heap} {H₁ : View} (F : Frm c env ρ h) (S : HStep c H₁ h H₂ h₂) (oL : H₁ env.locals = none) (oC : ∀ x a, env.cells.lookup x = some a → H₁ a = none) :
    H₂ env.locals = none ∧ ∀ x a, env.cells.lookup x = some a → H₂ a = none :=
  ⟨let ⟨_, ho⟩ := F.aliveL; S.miss ho oL, fun x a e => let ⟨_, _, ho, _⟩ := F.cell x a e; S.miss ho (oC x a e)⟩

theorem SR.assign {x : Str} {px pos : Pos} {e : Expr} {rest : List Stmt} {de : D} (hx : env.kindOf x = some .local) (he : PE c n env ρ H e de)
    (h : ∀ v H', VLe H H' → Rel H' v de → SR c n env (upd ρ x v) H' rest d) (hs : swapsWith e (some (.Name x px)) pos.line env = pure false := by rfl) :
    SR c n env ρ H (.Assign [.Name x px] e pos :: rest) d := ⟨fun A ok s H₁ k I F oL oC Q E q =>
  wpAny_execs_cons (wpAny_Assign_Name (he.run A ok s H₁ k I F _ _ fun v H₂ h₂ t₂ S₂ R₂ => by
    have F₂ := F.step S₂
    obtain ⟨m, hm1, hm2⟩ := F₂.loc
    obtain ⟨oL', oC'⟩ := F.off S₂ oL oC
    refine wpAny_storeName_local hx hm1 (fun h₃ hn₃ hs₃ => ?_) (by rw [F.kind]; rfl)
    have F₃ := F₂.store hm2 hx hn₃ hs₃
    exact (h v H₂ (k.trans S₂.up) R₂).run A ok _ H₂ (.refl _) (S₂.inv.store F.apL oL' hs₃) F₃ oL' oC' Q E (SR.stepL S₂ I hs₃ q F₂.aliveL F₃.aliveL)) hs)⟩

theorem SR.assignComp {elt iter : Expr} {x y : Str} {px py : Pos} {ifs : List Expr} {cl : List (Str × Addr)} {scope : Scope} {pos spos : Pos} {ds : List D} {p : D → Bool} {g : D → D} {rest : List Stmt}
    (hsw : swapsWith (.ListComp elt [⟨.Name x px, iter, ifs, 0⟩] scope pos) (some (.Name y py)) spos.line env = pure true) (hy : env.kindOf y = some .local)
    (fo : FreeOk env scope cl) (hcell : ∀ y ∈ scope.names, y.2 ≠ .cell) (hkind : scope.kind = .function) (hnames : ∀ y ∈ scope.names, y.2 = .local → scope.names.lookup y.1 = some .local) (hx : scope.names.lookup x = some .local)
    (it : IT c n env ρ H iter ds) (hsz : ds.length ≤ sizeLine)
    (hel : ∀ C d v H', d ∈ ds → VLe H H' → Rel H' v d → Tests c n (compEnvC scope cl C env) (upd (freeρ cl ρ) x v) H' ifs (p d) ∧ (p d = true → PE c n (compEnvC scope cl C env) (upd (freeρ cl ρ) x v) H' elt (g d)))
    (h : ∀ v H', VLe H H' → Rel H' v (.list ((ds.filter p).map g)) → SR c n env (upd ρ y v) H' rest d)
    (hs : ∀ x, foldedSetIterable iter env x = pure x := by intro _; rfl) :
    SR c n env ρ H (.Assign [.Name y py] (.ListComp elt [⟨.Name x px, iter, ifs, 0⟩] scope pos) spos :: rest) d := ⟨fun A ok s H₁ k I F oL oC Q E q => by
  refine wpAny_execs_cons ?_
  rw [exec_Assign_Name_used _ _ _ _ hsw]
  refine wpAny_bind (wpAny_standAt (wpAny_bind ?_))
  let Q₁ : Flow → Shared → Prop := fun f s' => match f with | .next => wpAny (model c.prog c.w) A (execs rest env) Q E s' | f => Q f s'
  show wpAny _ A (do let _ ← comprehension (.ListComp elt [⟨.Name x px, iter, ifs, 0⟩] scope pos) scope env _ (newList []) false (eval iter env) (some (PySem.assign (.Name y py) env))) _ _ s
  refine wpAny_bind (wpAny_mono (wpAny_comprehension_free (use := some (PySem.assign (.Name y py) env)) (Q := fun _ s' => Q₁ .next s') rfl hs fo.clos hkind hnames
    (it.run A ok s H₁ k I F _ _ fun it fp wr P St H₂ h₂ t₂ S₂ W st hfp hwr stl hP hnw => ?_)) (fun _ s' hq => wpAny_pure (wpAny_pure hq)) fun _ _ e => e)
  refine compRun (p := p) (g := g) fo hcell hkind hx hsz hel ok (k.trans S₂.up) S₂.inv W st hfp (fun b hb => (hwr b hb).1) stl hP (fun h' hk => F.ext fun b o hb e => hk b o hb (fun hw => by rw [(hwr b hw).2] at e; cases e) (S₂.ext b o hb e)) ?_
  rintro Dd C H' h' tk' vs k' S' nD nC hDC oD oC' ha hr ⟨m, hm⟩
  have PC : C ≠ c.P := S₂.inv.neP nC
  have nC0 := S₂.alive I nC
  have nD0 := S₂.alive I nD
  have hLC : env.locals ≠ C := fun q => by obtain ⟨o, ho⟩ := F.aliveL; rw [q, nC0] at ho; cases ho
  have hLD : env.locals ≠ Dd := fun q => by obtain ⟨o, ho⟩ := F.aliveL; rw [q, nD0] at ho; cases ho
  have z := DStep.frozen S₂ I S' nD nC hDC oD oC' (fun b hb => (hwr b hb).2) (Heap.SameBut.refl C h') ha
  have Fz := F.step z
  obtain ⟨mm, hm1, hm2⟩ := Fz.loc
  obtain ⟨oLz, oCz⟩ := F.off z oL oC
  show wpAny _ A (PySem.assign (.Name y py) env (.ref Dd)) _ _ _
  refine wpAny_assign_Name (wpAny_storeName_local hy hm1 (fun h₃ hn₃ hs₃ => ?_) (by rw [F.kind]; rfl))
  refine ⟨m, hm.sameBut hs₃ (Ne.symm hLC), fun h₄ hs₄ => ?_⟩
  -- the block's own names are gone: h₄ differs from h₃ at C alone
  have hs₄' : ∀ b, b ≠ C → h₄.get? b = h₃.get? b := hs₄.2
  have z' := DStep.frozen S₂ I S' nD nC hDC oD oC' (fun b hb => (hwr b hb).2) (Heap.SameBut.refl C h') ha
  have R₄ : Rel (H'.add Dd (lstO vs k')) (.ref Dd) (.list ((ds.filter p).map g)) := .list View.add_self (hr.mono (View.le_add oD))
  have hCz : (H'.add Dd (lstO vs k')) C = none := by unfold View.add; rw [if_neg (Ne.symm hDC)]; exact oC'
  have I₃ := z.inv.store F.apL oLz hs₃
  have I₄ : Inv c (H'.add Dd (lstO vs k')) h₄ := ⟨fun b o e => (hs₄' b fun q => by rw [q, hCz] at e; cases e).trans (I₃.le b o e), I₃.base, I₃.noP, let ⟨ob, e1, e2⟩ := I₃.tb; ⟨ob, (hs₄' _ (Ne.symm PC)).trans e1, e2⟩⟩
  have F₃ := Fz.store hm2 hy hn₃ hs₃
  have F₄ : Frm c env (upd ρ y (.ref Dd)) h₄ := by
    refine ⟨F₃.kind, F₃.gl, F₃.bl, F₃.apL, F₃.apC, ?_, ?_, ?_⟩
    · obtain ⟨m', e1, e2⟩ := F₃.loc
      exact ⟨m', e1.at' fun o e => (hs₄' _ hLC).trans e, e2⟩
    · intro z a e
      obtain ⟨u, o, e1, e2⟩ := F₃.cell z a e
      refine ⟨u, o, (hs₄' a fun q => ?_).trans e1, e2⟩
      obtain ⟨_, o', e1', _⟩ := F.cell z a e
      rw [q, nC0] at e1'; cases e1'
    · intro z u e hk
      obtain ⟨a, e0, o, e1, e2⟩ := F₃.cel z u e hk
      refine ⟨a, e0, o, (hs₄' a fun q => ?_).trans e1, e2⟩
      obtain ⟨_, o', e1', _⟩ := F.cell z a e0
      rw [q, nC0] at e1'; cases e1'
  refine (h (.ref Dd) _ (k.trans z.up) R₄).run A ok _ _ (.refl _) I₄ F₄ oLz oCz Q E ?_
  intro v H'' h'' tk'' hu hf he hI hR
  refine q v H'' h'' tk'' (z.up.trans hu) (fun b o e => ?_) (fun b o hb hl hc e => ?_) hI hR
  · rcases hf b o e with e' | e'
    · exact z.fresh b o e'
    · refine .inr ?_
      cases q' : s.heap.get? b with
      | none => rfl
      | some ob =>
        exfalso
        have hbC : b ≠ C := fun q => by rw [q, nC0] at q'; cases q'
        rw [hs₄' b hbC] at e'
        by_cases hbL : b = env.locals
        · obtain ⟨o', ho'⟩ := F₃.aliveL
          rw [hbL, ho'] at e'; cases e'
        · rw [hs₃.2 b hbL] at e'
          have := z.alive I e'
          rw [q'] at this; cases this
  · have hbC : b ≠ C := fun q => by rw [q, nC0] at e; cases e
    exact he b o hb hl hc ((hs₄' b hbC).trans ((hs₃.2 b hl).trans (z.ext b o hb e)))⟩
end
end Mine
namespace Mine

section
variable {c : Cfg} {n : Nat} {env : Env} {ρ : Str → Option Value} {H : View} {d : D}

theorem typeIs_list {H₁ : View} {s : Shared} {v : Value} {ds : List D} (I : Inv c H₁ s.heap) (R : Rel H₁ v (.list ds)) : s.TypeIs v "list" := by
  cases R with
  | list ha hr => exact ⟨_, I.le _ _ ha, rfl⟩

theorem Fun.isList {ds : List D} : Fun c n (.builtin "isinstance") H [.list ds, .raw (.type "list")] (.bool true) := ⟨fun A ok s H₁ vs k I R Q E q => by
  cases R with
  | cons r t => cases t with
    | cons r' t' =>
      cases t'
      cases r'
      exact call_isinstance_yes (typeIs_list I r) F.isi_meta_list F.isi_self_list (q _ H₁ s.heap s.toks (.refl I) (.bool _))⟩
theorem Fun.intNot {i : Int} {T : String} (h : ∀ {prog : Program} {w : World} {A : Around} {E : Value → Shared → Prop} {s : Shared} {Q : Value → Shared → Prop} {u : Tok}, Q (.bool false) { s with toks := s.toks + 1 } → wpAny (model prog w) A (call (.builtin "isinstance") [.int i u, .type T]) Q E s) :
    Fun c n (.builtin "isinstance") H [.int i, .raw (.type T)] (.bool false) := ⟨fun A ok s H₁ vs k I R Q E q => by
  cases R with
  | cons r t => cases t with
    | cons r' t' =>
      cases t'
      cases r'
      cases r
      exact h (q _ H₁ s.heap _ (.refl I) (.bool _))⟩

/-- methods: what the look-up of a method gives -/
structure MethR (c : Cfg) (name : Str) (d : D) (id : String) : Prop where
  run : ∀ (A : Around), Ok A 0 → ∀ (s : Shared) (H₁ : View) (v : Value) (pl : Sem Bool), Inv c H₁ s.heap → Rel H₁ v d → ∀ (Q : Value × List Value → Shared → Prop) (E : Value → Shared → Prop),
    (∀ tk', Q (.builtin id, [v]) { s with toks := tk' }) → wpAny (model c.prog c.w) A (getMethod v name pl) Q E s

/-- the shape of a method call -/
def MethForm (o : Expr) (name : Str) (apos : Pos) (as : List Expr) (pos : Pos) : Prop := ∀ env, ∃ pl, eval (.Call (.Attribute o name apos) as [] pos) env = (do
      let ov ← eval o env
      standAt apos.atName
      let (f, first) ← holding [ov] (getMethod ov name pl)
      callWith pos f first (backTo pos (starEach as env)) [])

theorem MethForm.mk {o : Expr} {name : Str} {apos : Pos} {as : List Expr} {pos : Pos} (hb : ∀ env w, attributeBase o name env w = w) (hs : ∀ env, (backTo pos (starEach as env)).all (!·.1) = true) (hn : as.length < 30) (hl : (apos.endLine == pos.line) = true) : MethForm o name apos as pos := fun env => by
  apply Exists.intro
  show (do
    let ov ← attributeBase o name env (eval o env)
    standAt apos.atName
    methodCall o name apos pos env ov (as.length + 0) (backTo pos (starEach as env)) []) = _
  rw [hb]
  have hf : methodCallForm (as.length + 0) (backTo pos (starEach as env)) [] = true := by
    unfold methodCallForm
    rw [hs env]
    simp
    omega
  unfold methodCall
  rw [hf]
  have hp : methodCallPos true o env apos pos = pure pos := by
    unfold methodCallPos
    rw [hl]; rfl
  rw [hp]
  exact rfl

theorem PE.meth {o a : Expr} {as : List Expr} {name : Str} {apos pos : Pos} {d₀ : D} {ds : List D} {id : String} (ho : PE c n env ρ H o d₀) (hm : MethR c name d₀ id) (args : PEs c n env ρ H (a :: as) ds)
    (hf : Fun c n (.builtin id) H (d₀ :: ds) d)
    (he : MethForm o name apos (a :: as) pos) : PE c n env ρ H (.Call (.Attribute o name apos) (a :: as) [] pos) d := ⟨fun A ok s H₁ k I F Q E q => by
  obtain ⟨pl, he⟩ := he env
  exact MethodCall_ (pl := pl) (ho.run A ok s H₁ k I F _ _ fun v H₂ h₂ t₂ S₂ R₂ => hm.run A (ok.le (Nat.zero_le _)) _ H₂ v pl S₂.inv R₂ _ _ fun t₃ =>
    callWith_any (.builtin id) args A ok _ H₂ (k.trans S₂.up) S₂.inv (F.step S₂) Q E fun vs H₃ h₃ t₄ S₃ R₃ =>
      hf.run A ok _ H₃ (v :: vs) ((k.trans S₂.up).trans S₃.up) S₃.inv (.cons (R₂.mono S₃.up) R₃) Q E fun u H' h' t' S' R' => q u H' h' t' ((S₂.trans S₃ I).trans S' I) R') he⟩
theorem PE.meth0 {o : Expr} {name : Str} {apos pos : Pos} {d₀ : D} {id : String} (ho : PE c n env ρ H o d₀) (hm : MethR c name d₀ id)
    (hf : Fun c n (.builtin id) H [d₀] d)
    (he : MethForm o name apos [] pos) : PE c n env ρ H (.Call (.Attribute o name apos) [] [] pos) d := ⟨fun A ok s H₁ k I F Q E q => by
  obtain ⟨pl, he⟩ := he env
  exact MethodCall_ (pl := pl) (ho.run A ok s H₁ k I F _ _ fun v H₂ h₂ t₂ S₂ R₂ => hm.run A (ok.le (Nat.zero_le _)) _ H₂ v pl S₂.inv R₂ _ _ fun t₃ =>
    callWith_method0 (hf.run A ok _ H₂ [v] (k.trans S₂.up) S₂.inv (.cons R₂ .nil) Q E fun u H' h' t' S' R' => q u H' h' t' (S₂.trans S' I) R')) he⟩

theorem MethR.join {x : Str} : MethR c "join" (.str x) "str.join" := ⟨fun A ok s H₁ v pl I R Q E q => by
  cases R with
  | str _ t => exact GM.join (q s.toks)⟩

theorem strs_of {H₁ : View} : ∀ {vs : List Value} {texts : List Str}, RelL H₁ vs (texts.map D.str) → ∃ l : List (Str × Tok), vs = strValues l ∧ l.map (·.1) = texts
  | _, [], .nil => ⟨[], rfl, rfl⟩
  | _, x :: r, .cons (.str _ t) h => by
    obtain ⟨l, h1, h2⟩ := strs_of h
    exact ⟨(x, t) :: l, by rw [h1]; rfl, by simp [h2]⟩

theorem Fun.join {x : Str} {texts : List Str} (hok : JoinOk x texts = true) : Fun c n (.builtin "str.join") H [.str x, .list (texts.map D.str)] (.str (Str.join x texts)) := ⟨fun A ok s H₁ vs k I R Q E q => by
  cases R with
  | cons r t => cases t with
    | cons r' t' =>
      cases t'
      cases r with
      | str _ tk =>
        cases r' with
        | @list a ws m _ ha hr =>
          obtain ⟨l, h1, h2⟩ := strs_of hr
          have hl : s.heap.IsList a (strValues l).toArray := ⟨_, I.le _ _ ha, rfl, m, by rw [← h1]⟩
          refine SC.join hl h2 hok fun t' k' => ?_
          have e : Txt.join x texts = Str.join x texts := StrLaws.glued_eq_join x texts
          rw [e]
          exact q _ H₁ s.heap k' (.refl I) (.str _ _)⟩

/-- an f-string's parts -/
inductive Parts (c : Cfg) (n : Nat) (env : Env) (ρ : Str → Option Value) (H : View) : List Expr → List Str → Prop
  | nil : Parts c n env ρ H [] []
  | cons {e : Expr} {x : Str} {es : List Expr} {xs : List Str} : PE c n env ρ H e (.str x) → Parts c n env ρ H es xs → Parts c n env ρ H (e :: es) (x :: xs)

def glue (acc : Str) : List Str → Str
  | [] => acc
  | x :: r => glue (acc ++ x) r
theorem glue_ge : ∀ (xs : List Str) (acc : Str), acc.length ≤ (glue acc xs).length
  | [], acc => Nat.le_refl _
  | x :: r, acc => by
    have := glue_ge r (acc ++ x)
    rw [Str.length_append] at this
    show _ ≤ (glue (acc ++ x) r).length
    omega

theorem Parts.run : ∀ {es : List Expr} {xs : List Str}, Parts c n env ρ H es xs → ∀ (acc : Str) (A : Around), Ok A n → ∀ (s : Shared) (H₁ : View), VLe H H₁ → Inv c H₁ s.heap → Frm c env ρ s.heap → (glue acc xs).length ≤ sizeLine →
    ∀ (Q : Value → Shared → Prop) (E : Value → Shared → Prop),
    (∀ v H' h' tk', HStep c H₁ s.heap H' h' → Rel H' v (.str (glue acc xs)) → Q v { s with heap := h', toks := tk' }) → wpAny (model c.prog c.w) A (joinParts acc (evalEach es env)) Q E s
  | _, _, .nil, acc, A, ok, s, H₁, k, I, F, hsz, Q, E, q => by
    show wpAny _ A (joinParts acc []) Q E s
    exact joinParts_nil (q _ H₁ s.heap _ (.refl I) (.str _ _)) hsz
  | _, _, .cons (e := e) (x := x) (es := es) (xs := xs) h t, acc, A, ok, s, H₁, k, I, F, hsz, Q, E, q => by
    show wpAny _ A (joinParts acc (eval e env :: evalEach es env)) Q E s
    refine joinParts_cons (h.run A ok s H₁ k I F _ _ fun v H₂ h₂ t₂ S₂ R₂ => ?_)
    cases R₂ with
    | str _ tk =>
      exact ⟨Nat.le_trans (glue_ge xs _) hsz, Parts.run t (acc ++ x) A ok _ H₂ (k.trans S₂.up) S₂.inv (F.step S₂) hsz Q E fun v H' h' tk' S' R' => q v H' h' tk' (S₂.trans S' I) R'⟩

theorem PE.joined {e e' : Expr} {es : List Expr} {xs : List Str} {pos : Pos} (h : Parts c n env ρ H (e :: e' :: es) xs) (hsz : (glue Str.empty xs).length ≤ sizeLine) :
    PE c n env ρ H (.JoinedStr (e :: e' :: es) pos) (.str (glue Str.empty xs)) := ⟨fun A ok s H₁ k I F Q E q =>
  JoinedStr_many (h.run Str.empty A ok s H₁ k I F hsz Q E q)⟩

theorem PE.fmt {e : Expr} {x : Str} {pos : Pos} (h : PE c n env ρ H e (.str x)) (hsz : x.length ≤ sizeLine) : PE c n env ρ H (.FormattedValue e (-1) none pos) (.str x) := ⟨fun A ok s H₁ k I F Q E q =>
  wpAny_FormattedValue_plain (h.run A ok s H₁ k I F _ _ fun v H₂ h₂ t₂ S₂ R₂ => by
    cases R₂ with
    | str _ tk => exact wpAny_formatField_str (q _ H₂ h₂ _ S₂ (.str _ _)) (q _ H₂ h₂ _ S₂ (.str _ _)) hsz)⟩

theorem BinR.addStr {x y : Str} (hsz : x.length + y.length ≤ sizeLine) : BinR c .Add (.str x) (.str y) (.str (x ++ y)) := ⟨fun A ok s H₁ u v I R₁ R₂ Q E q => by
  cases R₁ with
  | str _ t =>
    cases R₂ with
    | str _ t' => exact PyProof.Rows.add_str (fun t' tk => q _ H₁ s.heap tk (.refl I) (.str _ _)) hsz⟩
end
end Mine
namespace Mine

mutual
/-- the text of an array -/
def D.txt : D → Str
  | .int i => toString i
  | .list l => glue Str.empty [Str.ofString "{", Str.join (Str.ofString ",") (txts l), Str.ofString "}"]
  | _ => Str.empty
def txts : List D → List Str
  | [] => []
  | t :: r => t.txt :: txts r
end
theorem txts_map : ∀ l : List D, txts l = l.map D.txt
  | [] => rfl
  | t :: r => by rw [txts, txts_map r]; rfl

theorem D.txt_list (l : List D) : (D.list l).txt = (Str.ofString "{" ++ Str.join (Str.ofString ",") (txts l)) ++ Str.ofString "}" := by
  rw [D.txt]
  show ((Str.empty ++ Str.ofString "{") ++ Str.join (Str.ofString ",") (txts l)) ++ Str.ofString "}" = _
  rw [Str.empty_append]

mutual
def D.ht : D → Nat
  | .list l => hts l + 1
  | _ => 0
def hts : List D → Nat
  | [] => 0
  | t :: r => max t.ht (hts r)
end
theorem ht_mem : ∀ {l : List D} {t : D}, t ∈ l → t.ht ≤ hts l
  | _ :: r, _, .head _ => Nat.le_max_left _ _
  | t :: r, _, .tail _ h => Nat.le_trans (ht_mem h) (Nat.le_max_right _ _)

mutual
/-- how long its text can be -/
def D.sz : D → Nat
  | .int i => (toString i : Str).length
  | .list l => szs l + 2
  | _ => 0
def szs : List D → Nat
  | [] => 0
  | t :: r => t.sz + 1 + szs r
end
theorem szs_sum : ∀ l : List D, szs l = (l.map D.sz).sum + l.length
  | [] => rfl
  | t :: r => by rw [szs, szs_sum r]; simp; omega
theorem sz_mem : ∀ {l : List D} {t : D}, t ∈ l → t.sz ≤ szs l
  | t :: r, _, .head _ => by rw [szs]; omega
  | t :: r, _, .tail _ h => by rw [szs]; have := sz_mem h; omega
mutual
theorem D.txt_le : ∀ t : D, t.txt.length ≤ t.sz
  | .int i => Nat.le_refl _
  | .list l => by
    have h := StrLaws.join_length_le (Str.ofString ",") (txts l)
    have h' := txts_le l
    have e1 : (Str.ofString "{").length = 1 := by decide
    have e2 : (Str.ofString ",").length = 1 := by decide
    have e3 : (Str.ofString "}").length = 1 := by decide
    rw [D.txt_list, D.sz, Str.length_append, Str.length_append, e1, e3]
    rw [e2] at h
    have h2 : ((txts l).map (·.length)).sum + (txts l).length ≤ szs l := h'
    omega
  | .none => Nat.le_refl _
  | .bool _ => Nat.le_refl _
  | .str _ => Nat.le_refl _
  | .tup _ => Nat.le_refl _
  | .raw _ => Nat.le_refl _
theorem txts_le : ∀ l : List D, ((txts l).map (·.length)).sum + (txts l).length ≤ szs l
  | [] => Nat.le_refl _
  | t :: r => by
    have h1 := D.txt_le t
    have h2 := txts_le r
    rw [txts, szs]
    simp only [List.map_cons, List.sum_cons, List.length_cons]
    omega
end
theorem D.joinOk {l : List D} (h : szs l ≤ 1000000) : JoinOk (Str.ofString ",") (txts l) = true := by
  have h' := txts_le l
  have e2 : (Str.ofString ",").length = 1 := by decide
  unfold JoinOk
  rw [StrLaws.joinTotal, e2]
  have : PySem.Builtin.Str.tooLong (((txts l).map (·.length)).sum + (txts l).length * 1) = false := by
    unfold PySem.Builtin.Str.tooLong sizeLine
    exact decide_eq_false (by have e : (2 : Nat) ^ 24 = 16777216 := by decide
                              omega)
  rw [this]; rfl

theorem join_le {l : List D} (h : szs l ≤ 1000000) : (Str.join (Str.ofString ",") (txts l)).length ≤ sizeLine := by
  have h1 := StrLaws.join_length_le (Str.ofString ",") (txts l)
  have h2 := txts_le l
  have e2 : (Str.ofString ",").length = 1 := by decide
  have e : sizeLine = 16777216 := by decide
  rw [e2] at h1
  omega
theorem txt_fits {l : List D} (h : szs l ≤ 1000000) : (D.list l).txt.length ≤ sizeLine := by
  have h1 := D.txt_le (.list l)
  rw [D.sz] at h1
  have e : sizeLine = 16777216 := by decide
  omega

/-- arrays alone -/
inductive D.Bare : D → Prop
  | node {l : List D} : (∀ t ∈ l, t.Bare) → D.Bare (.list l)

section
variable {c : Cfg} {n : Nat} {env : Env} {ρ : Str → Option Value} {H : View} {d : D}
theorem SR.assignCompAll {elt iter : Expr} {x y : Str} {px py : Pos} {scope : Scope} {pos spos : Pos} {ds : List D} {g : D → D} {rest : List Stmt}
    (hsw : swapsWith (.ListComp elt [⟨.Name x px, iter, [], 0⟩] scope pos) (some (.Name y py)) spos.line env = pure true) (hy : env.kindOf y = some .local)
    (hfree : ∀ y ∈ scope.names, y.2 ≠ .free) (hcell : ∀ y ∈ scope.names, y.2 ≠ .cell) (hkind : scope.kind = .function) (hnames : ∀ y ∈ scope.names, y.2 = .local → scope.names.lookup y.1 = some .local) (hx : scope.names.lookup x = some .local)
    (it : IT c n env ρ H iter ds) (hsz : ds.length ≤ sizeLine)
    (hel : ∀ C d v H', d ∈ ds → VLe H H' → Rel H' v d → PE c n (compEnvC scope [] C env) (upd (fun _ => none) x v) H' elt (g d))
    (h : ∀ v H', VLe H H' → Rel H' v (.list (ds.map g)) → SR c n env (upd ρ y v) H' rest d)
    (hs : ∀ x, foldedSetIterable iter env x = pure x := by intro _; rfl) :
    SR c n env ρ H (.Assign [.Name y py] (.ListComp elt [⟨.Name x px, iter, [], 0⟩] scope pos) spos :: rest) d :=
  SR.assignComp (p := fun _ => true) (g := g) hsw hy (FreeOk.none hfree) hcell hkind hnames hx it hsz (fun C d v H' hd hH r => ⟨.nil, fun _ => hel C d v H' hd hH r⟩)
    (fun v H' hH r => h v H' hH (by rwa [List.filter_eq_self.mpr (fun _ _ => rfl)] at r)) hs

theorem one_of {vs : List Value} {k : Nat} (h : vs.length = k) (hk : k = 1) : ∃ v, vs = [v] := by
  match vs, h with
  | [v], _ => exact ⟨v, rfl⟩
  | [], h => subst hk; cases h
  | _ :: _ :: _, h => subst hk; simp at h
theorem two_of {vs : List Value} {k : Nat} (h : vs.length = k) (hk : k = 2) : ∃ v v', vs = [v, v'] := by
  match vs, h with
  | [v, v'], _ => exact ⟨v, v', rfl⟩
  | [], h => subst hk; cases h
  | [_], h => subst hk; simp at h
  | _ :: _ :: _ :: _, h => subst hk; simp at h
theorem RelL.one {H : View} {v : Value} {d : D} (h : RelL H [v] [d]) : Rel H v d := by cases h with | cons r _ => exact r
theorem globB {x : Str} {v : Value} (h : nsIn c.K mainGlobals x = some none) (hb : bootBuiltins x = some v) (hn : x ≠ ("__name__" : Str) := by decide) : GlobV c x v := .inr ⟨h, hb, hn⟩
end
end Mine
namespace Mine

structure EnumAt (K : Frag) (a C : Addr) : Prop where
  ty : typeIn K (.ref a) = some (.ref C)
  eq : specialIn K (.ref a) "__eq__" = some (some (.builtin "object.__eq__"))
  sub : subIn K (.ref C) (.type "object") = some true
  obj : ∃ o, K.lookup a = some o ∧ o.cls ≠ .type "tuple"

section
variable {c : Cfg}
theorem special_enum {s : Shared} {A : Around} {E : Value → Shared → Prop} {K : Frag} {a b C : Addr} (X : K.In s.heap) (ea : EnumAt K a C) (eb : EnumAt K b C) (hab : a ≠ b) {Q : Option Value → Shared → Prop} (q : Q none s) :
    wpAny (model c.prog c.w) A (tryCompare (.ref a) "__eq__" (.ref b)) Q E s := by
  obtain ⟨oa, ha, hat⟩ := ea.obj
  obtain ⟨ob, hb, hbt⟩ := eb.obj
  unfold tryCompare
  have S : Slot "object" "__eq__" "object.__eq__" := F.cmp_object.eq
  have hcall : wpAny (model c.prog c.w) A (call (.builtin "object.__eq__") [.ref a, .ref b]) (fun v s' => (fun (r : Option Value) s' => r = some .notImplemented ∧ s' = s) (some v) s') E s :=
    wpAny_call (codeAny_call_builtin S.plain F.cmpEntry_eq (check_slot F.cmpKind_eq F.cmpSplit_eq ((looks_typeIn X ea.ty).andThen (looks_subIn X ea.sub)) (F.cmpArgs_eq _ _)
      (objEq_entry_other hab (X _ _ ha) (X _ _ hb) hat ⟨rfl, rfl⟩)))
  refine wpAny_bind (wpAny_mono (Q := fun r s' => r = some .notImplemented ∧ s' = s) ?_ (fun r s' h => ?_) fun _ _ e => e)
  · simp only [callSpecialIfBound?, bindSpecialIfBound?]
    refine wpAny_holding (wpAny_bind (wpAny_bind ((looks_specialIn X ea.eq).here ?_)))
    simp only [S.bind]
    refine wpAny_bind (wpAny_askSetting (wpAny_ite ?_))
    have fin : wpAny (model c.prog c.w) A (call (.builtin "object.__eq__") ([.ref a] ++ [.ref b]) >>= fun v => pure (some v)) (fun r s' => r = some .notImplemented ∧ s' = s) E s :=
      wpAny_bind (wpAny_mono hcall (fun v s' h' => wpAny_pure h') fun _ _ h' => h')
    split
    · exact wpAny_bind (wpAny_pure (wpAny_pure fin))
    · exact wpAny_tryCatch (wpAny_bind (wpAny_pure (wpAny_pure fin)))
  · obtain ⟨rfl, rfl⟩ := h
    exact wpAny_pure q

theorem special_enum_same {s : Shared} {A : Around} {E : Value → Shared → Prop} {K : Frag} {a C : Addr} (X : K.In s.heap) (ea : EnumAt K a C) {Q : Option Value → Shared → Prop} (q : Q (some (.bool true)) s) :
    wpAny (model c.prog c.w) A (tryCompare (.ref a) "__eq__" (.ref a)) Q E s := by
  unfold tryCompare
  have S : Slot "object" "__eq__" "object.__eq__" := F.cmp_object.eq
  have hcall : wpAny (model c.prog c.w) A (call (.builtin "object.__eq__") [.ref a, .ref a]) (fun v s' => (fun (r : Option Value) s' => r = some (.bool true) ∧ s' = s) (some v) s') E s :=
    wpAny_call (codeAny_call_builtin S.plain F.cmpEntry_eq (check_slot F.cmpKind_eq F.cmpSplit_eq ((looks_typeIn X ea.ty).andThen (looks_subIn X ea.sub)) (F.cmpArgs_eq _ _)
      (objEq_entry_same ⟨rfl, rfl⟩)))
  refine wpAny_bind (wpAny_mono (Q := fun r s' => r = some (.bool true) ∧ s' = s) ?_ (fun r s' h => ?_) fun _ _ e => e)
  · simp only [callSpecialIfBound?, bindSpecialIfBound?]
    refine wpAny_holding (wpAny_bind (wpAny_bind ((looks_specialIn X ea.eq).here ?_)))
    simp only [S.bind]
    refine wpAny_bind (wpAny_askSetting (wpAny_ite ?_))
    have fin : wpAny (model c.prog c.w) A (call (.builtin "object.__eq__") ([.ref a] ++ [.ref a]) >>= fun v => pure (some v)) (fun r s' => r = some (.bool true) ∧ s' = s) E s :=
      wpAny_bind (wpAny_mono hcall (fun v s' h' => wpAny_pure h') fun _ _ h' => h')
    split
    · exact wpAny_bind (wpAny_pure (wpAny_pure fin))
    · exact wpAny_tryCatch (wpAny_bind (wpAny_pure (wpAny_pure fin)))
  · obtain ⟨rfl, rfl⟩ := h
    exact wpAny_pure q

theorem enum_eq {s : Shared} {A : Around} {E : Value → Shared → Prop} {K : Frag} {a b C : Addr} (hu : A.units < cLine) (X : K.In s.heap) (ea : EnumAt K a C) (eb : EnumAt K b C) {Q : Value → Shared → Prop} (q : Q (.bool (a == b)) s) :
    wpAny (model c.prog c.w) A (compareOp .Eq (.ref a) (.ref b)) Q E s := by
  show wpAny _ A (richCompare .Eq (.ref a) (.ref b)) Q E s
  unfold richCompare
  simp only [oneThing_ref]
  refine wpAny_holding (wpAny_bind (wpAny_cRoomFor hu ?_))
  refine wpAny_bind ((looks_typeIn X ea.ty).here (wpAny_bind ((looks_typeIn X eb.ty).here ?_)))
  rw [if_neg (by simp)]
  refine wpAny_bind (wpAny_pure ?_)
  simp only [Bool.false_eq_true, if_false]
  by_cases hab : a = b
  · subst hab
    refine wpAny_bind (special_enum_same X ea ?_)
    have : (a == a) = true := beq_self_eq_true a
    rw [this] at q
    exact wpAny_pure q
  · have : (a == b) = false := beq_false_of_ne hab
    rw [this] at q
    obtain ⟨oa, ha, hat⟩ := ea.obj
    obtain ⟨ob, hb, hbt⟩ := eb.obj
    refine wpAny_bind (special_enum X ea eb hab ?_)
    simp only [Bool.not_false, if_true]
    refine wpAny_bind (special_enum X eb ea (Ne.symm hab) ?_)
    refine wpAny_bind (wpAny_rule ?_)
    exact wpAny_bind (wpAny_isSame_ref_other hab (X _ _ ha) (X _ _ hb) hat (wpAny_pure q))

theorem CmpR.enum {a b C : Addr} (ea : EnumAt c.K a C) (eb : EnumAt c.K b C) : CmpR c .Eq (.raw (.ref a)) (.raw (.ref b)) (.bool (a == b)) := ⟨fun A ok s H₁ x y I R₁ R₂ Q E q => by
  cases R₁ with
  | raw => cases R₂ with
    | raw => exact enum_eq (by have := ok.un; omega) (fun b o e => I.keep _ _ (c.k _ _ e)) ea eb (q _ H₁ s.heap s.toks (.refl I) (.bool _))⟩
end
end Mine
namespace Mine

section
variable {c : Cfg} {n : Nat} {env : Env} {ρ : Str → Option Value} {H : View} {d : D}

theorem upd_eq {x : Str} {v : Value} : upd ρ x v x = some v := by unfold upd; rw [if_pos rfl]
theorem upd_ne {x y : Str} {v : Value} (h : y ≠ x) : upd ρ x v y = ρ y := by unfold upd; rw [if_neg h]

theorem PE.attrCls {x attr : Str} {p pos : Pos} {C : Addr} {mc v : Value} (hx : env.kindOf x = some .globalImplicit) (g : GlobV c x (.ref C)) (hr : readsIn c.K C mc = true) (e : findCls c.K (.ref C) mc attr = some (.val v)) (hh : handedIn v = true)
    (hd : (x == ("__debug__" : Str)) = false := by decide) : PE c n env ρ H (.Attribute (.Name x p) attr pos) (.raw v) :=
  ⟨fun A ok s H₁ k I F Q E q => Attribute_name (ldGlob I F hx g hd (cls_value (fun b o e => I.keep _ _ (c.k _ _ e)) hr e hh (q v H₁ s.heap _ (.refl I) (.raw v))))⟩

theorem CmpR.eqStr {x y : Str} : CmpR c .Eq (.str x) (.str y) (.bool (x == y)) := ⟨fun A ok s H₁ u v I R₁ R₂ Q E q => by
  cases R₁ with
  | str _ t => cases R₂ with
    | str _ t' => exact PyProof.Rows.eq_str (q _ H₁ s.heap s.toks (.refl I) (.bool _))⟩

theorem strsAre_of {H : View} : ∀ {vs : List Value} {ys : List Str}, RelL H vs (ys.map D.str) → StrsAre vs ys
  | _, [], .nil => .nil
  | _, y :: r, .cons (.str _ t) h => .cons y t (strsAre_of h)
theorem CmpR.inStrs {x : Str} {ys : List Str} : CmpR c .In (.str x) (.tup (ys.map D.str)) (.bool (ys.any (· == x))) := ⟨fun A ok s H₁ u v I R₁ R₂ Q E q => by
  cases R₁ with
  | str _ t => cases R₂ with
    | @tup a ws m _ ha hr => exact PyProof.Rows.in_tuple_strs (t := a) (items := ws) ⟨_, I.le _ _ ha, rfl, m, rfl⟩ (strsAre_of hr) (q _ H₁ s.heap s.toks (.refl I) (.bool _))⟩

theorem PE.callLoc {x : Str} {p pos : Pos} {f : Value} {a : Expr} {as : List Expr} {ds : List D} (hx : env.kindOf x = some .local) (hv : ρ x = some f) (C : Callee c f)
    (args : PEs c n env ρ H (a :: as) ds) (hf : Fun c n f H ds d) (hc : (x == ("__classdict__" : Str)) = false := by decide) (hd : (x == ("__debug__" : Str)) = false := by decide) : PE c n env ρ H (.Call (.Name x p) (a :: as) [] pos) d :=
  ⟨fun A ok s H₁ k I F Q E q => Call_Name rfl (wpAny_Name (ldFrm F hv (.inl hx) hc (callWith_any C args A ok s H₁ k I F Q E fun vs H₂ h₂ t₂ S₂ R₂ =>
    hf.run A ok _ H₂ vs (k.trans S₂.up) S₂.inv R₂ Q E fun v H' h' t' S' R' => q v H' h' t' (S₂.trans S' I) R')) hd)⟩

theorem Fun.int {x : Str} {i : Int} (hn : PySem.intText? x = some i) (hl : x.length ≤ 640) : Fun c n (.type "int") H [.str x] (.int i) := ⟨fun A ok s H₁ vs k I R Q E q => by
  cases R with
  | cons r t => cases t; cases r with
    | str _ t => exact KIN.call_text hn hl (q _ H₁ s.heap _ (.refl I) (.int _ _))⟩
end

/-- the open lists of the parser: the innermost first; each holds what it has been given and, last, the one within -/
inductive Chain (bad : List Addr) (h₀ : Heap) (H : View) (h : Heap) : List Value → List Addr → List (List D) → Prop
  | nil (pend : List Value) : Chain bad h₀ H h pend [] []
  | cons {pend : List Value} {a : Addr} {as : List Addr} {vs : Array Value} {n : Nat} {ws : List Value} {ds : List D} {dss : List (List D)} : h.get? a = some (lstO vs n) → vs.toList = ws ++ pend → RelL H ws ds → H a = none → h₀.get? a = none → a ∉ bad → a ∉ as →
      Chain bad h₀ H h [.ref a] as dss → Chain bad h₀ H h pend (a :: as) (ds :: dss)

section
variable {bad : List Addr} {h₀ h h' : Heap} {H H' : View} {pend : List Value} {as : List Addr} {dss : List (List D)}
theorem Chain.mem (C : Chain bad h₀ H h pend as dss) : ∀ a ∈ as, H a = none ∧ h₀.get? a = none ∧ a ∉ bad ∧ (h.get? a).isSome = true := by
  induction C with
  | nil => intro a ha; cases ha
  | cons h1 h2 h3 h4 h5 h6 h7 h8 ih =>
    intro a ha
    rcases List.mem_cons.mp ha with rfl | ha
    · exact ⟨h4, h5, h6, by rw [h1]; rfl⟩
    · exact ih a ha
theorem Chain.keep (C : Chain bad h₀ H h pend as dss) (up : VLe H H') (ext : ∀ a ∈ as, ∀ o, h.get? a = some o → h'.get? a = some o) (miss : ∀ a ∈ as, H' a = none) : Chain bad h₀ H' h' pend as dss := by
  induction C with
  | nil => exact .nil _
  | cons h1 h2 h3 h4 h5 h6 h7 h8 ih =>
    exact .cons (ext _ (by simp) _ h1) h2 (h3.mono up) (miss _ (by simp)) h5 h6 h7 (ih (fun a ha => ext a (List.mem_cons_of_mem _ ha)) (fun a ha => miss a (List.mem_cons_of_mem _ ha)))
theorem Chain.length (C : Chain bad h₀ H h pend as dss) : as.length = dss.length := by
  induction C with
  | nil => rfl
  | cons h1 h2 h3 h4 h5 h6 h7 h8 ih => simp [ih]
end

/-- where a parser stands within its loop -/
structure Sit (c : Cfg) (env : Env) (h₀ : Heap) (H₀ : View) (S : Addr) (fp : List Addr) (hI : Heap) (ex : Option Addr) (stk : List (List D)) (ρ : Str → Option Value) (H : View) (h : Heap) : Prop where
  aP : (h₀.get? c.P).isSome = true
  aL : (h₀.get? env.locals).isSome = true
  base : MStep c [env.locals] H₀ h₀ H h
  frm : Frm c env ρ h
  st : ∃ as k, h.get? S = some (lstO (as.reverse.map Value.ref).toArray k) ∧ Chain (S :: fp) h₀ H h [] as stk ∧ ∀ a, ex = some a → h.get? a = some (lstO #[] 0) ∧ H a = none ∧ h₀.get? a = none ∧ a ∉ S :: fp ∧ a ∉ as
  offS : H S = none
  newS : h₀.get? S = none
  offL : H env.locals = none
  fpk : ∀ b ∈ fp, ∀ o, hI.get? b = some o → h.get? b = some o
  fpP : ∀ b ∈ fp, b ≠ c.P
  fpS : S ∉ fp
  fpL : env.locals ∉ fp
  fpO : ∀ b ∈ fp, H b = none ∧ (h.get? b).isSome = true

section
variable {c : Cfg} {env : Env} {h₀ h h' hI : Heap} {H₀ H H' : View} {S : Addr} {fp : List Addr} {ex : Option Addr} {stk : List (List D)} {ρ ρ' : Str → Option Value}

theorem Frm.weak {c : Cfg} {env : Env} {h : Heap} (F : Frm c env ρ h) (k : ∀ x v, ρ' x = some v → ρ x = some v) : Frm c env ρ' h :=
  ⟨F.kind, F.gl, F.bl, F.apL, F.apC, let ⟨m, h1, h2⟩ := F.loc; ⟨m, h1, fun x v e q => h2 x v (k x v e) q⟩, F.cell, fun x v e q => F.cel x v (k x v e) q⟩

theorem Sit.new (σ : Sit c env h₀ H₀ S fp hI ex stk ρ H h) {a : Addr} (ha : h₀.get? a = none) : a ≠ c.P ∧ a ≠ env.locals :=
  ⟨fun q => (by have := σ.aP; rw [← q, ha] at this; cases this), fun q => (by have := σ.aL; rw [← q, ha] at this; cases this)⟩

theorem Frm.but {c : Cfg} {env : Env} {h h' : Heap} {a : Addr} {vs : Array Value} {n : Nat} (F : Frm c env ρ h) (hs : Heap.SameBut a h h') (ha : h.get? a = some (lstO vs n)) (hL : a ≠ env.locals) : Frm c env ρ h' where
  kind := F.kind
  gl := F.gl
  bl := F.bl
  apL := F.apL
  apC := F.apC
  loc := let ⟨m, h1, h2⟩ := F.loc; ⟨m, h1.sameBut hs (Ne.symm hL), h2⟩
  cell := fun x b e => let ⟨v, o, h1, h2⟩ := F.cell x b e; ⟨v, o, (hs.2 b fun q => (by rw [q, ha] at h1; cases h1; cases h2)).trans h1, h2⟩
  cel := fun x v e q => let ⟨b, h0, o, h1, h2⟩ := F.cel x v e q; ⟨b, h0, o, (hs.2 b fun q => (by rw [q, ha] at h1; cases h1; cases h2)).trans h1, h2⟩

theorem Sit.step (σ : Sit c env h₀ H₀ S fp hI ex stk ρ H h) (x : HStep c H h H' h') : Sit c env h₀ H₀ S fp hI ex stk ρ H' h' where
  aP := σ.aP
  aL := σ.aL
  base := σ.base.trans x.toM
  frm := σ.frm.step x
  st := by
    obtain ⟨as, k, h1, h2, h3⟩ := σ.st
    refine ⟨as, k, x.ext _ _ (σ.new σ.newS).1 h1, h2.keep x.up (fun a ha o e => x.ext a o (σ.new (h2.mem a ha).2.1).1 e) (fun a ha => ?_), fun a ha => ?_⟩
    · obtain ⟨e1, _, _, e2⟩ := h2.mem a ha
      obtain ⟨o, e3⟩ := Option.isSome_iff_exists.mp e2
      exact x.miss e3 e1
    · obtain ⟨e1, e2, e3, e4⟩ := h3 a ha
      exact ⟨x.ext _ _ (σ.new e3).1 e1, x.miss e1 e2, e3, e4⟩
  offS := by
    obtain ⟨as, k, h1, _⟩ := σ.st
    exact x.miss h1 σ.offS
  newS := σ.newS
  offL := let ⟨_, ho⟩ := σ.frm.aliveL; x.miss ho σ.offL
  fpk := fun b hb o e => x.ext b o (σ.fpP b hb) (σ.fpk b hb o e)
  fpP := σ.fpP
  fpS := σ.fpS
  fpL := σ.fpL
  fpO := fun b hb => by
    obtain ⟨e1, e2⟩ := σ.fpO b hb
    obtain ⟨o, e3⟩ := Option.isSome_iff_exists.mp e2
    exact ⟨x.miss e3 e1, by rw [x.ext b o (σ.fpP b hb) e3]; rfl⟩

theorem Sit.store (σ : Sit c env h₀ H₀ S fp hI ex stk ρ H h) {x : Str} {v : Value} {m : Str → Option Value} (hm : ∀ x v, ρ x = some v → env.kindOf x = some .local → m x = some v) (hx : env.kindOf x = some .local)
    (hn : h'.Ns env.locals (fun y => if y = x then some v else m y)) (hs : Heap.SameBut env.locals h h') : Sit c env h₀ H₀ S fp hI ex stk (upd ρ x v) H h' where
  aP := σ.aP
  aL := σ.aL
  base := σ.base.trans (MStep.at σ.base.inv (by simp) σ.offL σ.frm.apL hs (by obtain ⟨o, _, _, ho, _⟩ := hn; rw [ho]; rfl))
  frm := σ.frm.store hm hx hn hs
  st := by
    obtain ⟨as, k, h1, h2, h3⟩ := σ.st
    refine ⟨as, k, (hs.2 _ (σ.new σ.newS).2).trans h1, h2.keep (.refl _) (fun a ha o e => (hs.2 _ (σ.new (h2.mem a ha).2.1).2).trans e) (fun a ha => (h2.mem a ha).1), fun a ha => ?_⟩
    obtain ⟨e1, e2, e3, e4⟩ := h3 a ha
    exact ⟨(hs.2 _ (σ.new e3).2).trans e1, e2, e3, e4⟩
  offS := σ.offS
  newS := σ.newS
  offL := σ.offL
  fpk := fun b hb o e => (hs.2 _ (fun q => σ.fpL (q ▸ hb))).trans (σ.fpk b hb o e)
  fpP := σ.fpP
  fpS := σ.fpS
  fpL := σ.fpL
  fpO := fun b hb => ⟨(σ.fpO b hb).1, by rw [hs.2 _ (fun q => σ.fpL (q ▸ hb))]; exact (σ.fpO b hb).2⟩

theorem MStep.new {c : Cfg} {mu : List Addr} {H₁ H₂ H₃ : View} {h₁ h₂ h₃ : Heap} {mu' : List Addr} (x : MStep c mu H₁ h₁ H₂ h₂) (y : MStep c mu' H₂ h₂ H₃ h₃) (hn : ∀ b ∈ mu', h₁.get? b = none) : MStep c mu H₁ h₁ H₃ h₃ :=
  ⟨x.up.trans y.up, fun b ob e => (y.fresh b ob e).elim (x.fresh b ob) fun q => .inr (by
      cases q' : h₁.get? b with
      | none => rfl
      | some ob' => have := x.lives (b := b) (by rw [q']; rfl); rw [q] at this; cases this),
    fun b ob hb hm e => y.ext b ob hb (fun q => by rw [hn b q] at e; cases e) (x.ext b ob hb hm e), fun b hb e => y.lives (x.lives e), y.inv⟩

/-- the innermost list is given a value -/
theorem Sit.given (σ : Sit c env h₀ H₀ S fp hI ex stk ρ H h) {a : Addr} {as : List Addr} {k n : Nat} {vs : Array Value} {ds : List D} {r : List (List D)} {v : Value} {d : D} (hstk : stk = ds :: r)
    (h1 : h.get? S = some (lstO ((a :: as).reverse.map Value.ref).toArray k)) (h2 : Chain (S :: fp) h₀ H h [] (a :: as) stk) (h3 : ∀ b, ex = some b → h.get? b = some (lstO #[] 0) ∧ H b = none ∧ h₀.get? b = none ∧ b ∉ S :: fp ∧ b ∉ (a :: as)) (ha : h.get? a = some (lstO vs n)) (hp : h'.PlainList a (vs.push v)) (hs : Heap.SameBut a h h') (hv : Rel H v d) :
    Sit c env h₀ H₀ S fp hI ex ((ds ++ [d]) :: r) ρ H h' := by
  subst hstk
  obtain ⟨k', hp⟩ := hp
  cases h2 with
  | @cons _ _ _ vs' n' ws _ _ g1 g2 g3 g4 g5 g6 g7 g8 =>
    rw [g1] at ha
    cases ha
    have hne := σ.new g5
    have hSa : S ≠ a := fun q => g6 (by simp [q])
    have M := MStep.at (mu := [a]) σ.base.inv (by simp) g4 hne.1 hs (by rw [hp]; rfl)
    refine ⟨σ.aP, σ.aL, σ.base.new M (by simpa using g5), σ.frm.but hs g1 hne.2, ⟨a :: as, k, (hs.2 _ hSa).trans h1, ?_, fun b hb => ?_⟩, σ.offS, σ.newS, σ.offL, fun b hb o e => ?_, σ.fpP, σ.fpS, σ.fpL, fun b hb => ⟨(σ.fpO b hb).1, by rw [hs.2 b (fun q => g6 (by rw [← q]; simp [hb]))]; exact (σ.fpO b hb).2⟩⟩
    · refine .cons hp ?_ (g3.append (.cons hv .nil)) g4 g5 g6 g7 (g8.keep (.refl _) (fun b hb o e => (hs.2 b (fun q => g7 (q ▸ hb))).trans e) (fun b hb => (g8.mem b hb).1))
      rw [Array.toList_push, g2]; simp
    · obtain ⟨e1, e2, e3, e4, e5⟩ := h3 b hb
      exact ⟨(hs.2 b (fun q => e5 (by simp [q]))).trans e1, e2, e3, e4, e5⟩
    · exact (hs.2 b (fun q => g6 (by rw [← q]; simp [hb]))).trans (σ.fpk b hb o e)
end
end Mine
namespace Mine
section
variable {c : Cfg} {n : Nat} {env : Env} {h₀ hI : Heap} {H₀ H : View} {S : Addr} {fp : List Addr} {ex : Option Addr} {stk : List (List D)} {ρ : Str → Option Value} {A : Around} {s : Shared} {Q : Flow → Shared → Prop} {E : Value → Shared → Prop} {rest : List Stmt}

theorem Sit.asg (σ : Sit c env h₀ H₀ S fp hI ex stk ρ H s.heap) (ok : Ok A n) {x : Str} {px pos : Pos} {e : Expr} {d : D} (hx : env.kindOf x = some .local) (he : PE c n env ρ H e d)
    (q : ∀ v H' h' tk', Sit c env h₀ H₀ S fp hI ex stk (upd ρ x v) H' h' → VLe H H' → Rel H' v d → wpAny (model c.prog c.w) A (execs rest env) Q E { s with heap := h', toks := tk' })
    (hs : swapsWith e (some (.Name x px)) pos.line env = pure false := by rfl) :
    wpAny (model c.prog c.w) A (execs (.Assign [.Name x px] e pos :: rest) env) Q E s :=
  wpAny_execs_cons (wpAny_Assign_Name (he.run A ok s H (.refl _) σ.base.inv σ.frm _ _ fun v H₂ h₂ t₂ S₂ R₂ => by
    have σ₂ := σ.step S₂
    obtain ⟨m, hm1, hm2⟩ := σ₂.frm.loc
    exact wpAny_storeName_local hx hm1 (fun h₃ hn₃ hs₃ => q v H₂ h₃ _ (σ₂.store hm2 hx hn₃ hs₃) S₂.up R₂) (by rw [σ.frm.kind]; rfl)) hs)

/-- stack[-1] -/
theorem Sit.top (σ : Sit c env h₀ H₀ S fp hI ex stk ρ H s.heap) {ps p1 p2 p3 pos : Pos} {kk : Nat} {a : Addr} {as : List Addr} {k : Nat} {R : Value → Shared → Prop} (hsk : ρ "stack" = some (.ref S)) (hx : env.kindOf "stack" = some .local)
    (h1 : s.heap.get? S = some (lstO ((a :: as).reverse.map Value.ref).toArray k)) (q : ∀ tk', R (.ref a) { s with toks := tk' }) :
    wpAny (model c.prog c.w) A (eval (.Subscript (.Name "stack" ps) (.UnaryOp .USub (.Constant (.int 1) kk p1) p2) pos) env) R E s := by
  refine Subscript_UnaryOp (wpAny_Name (ldFrm σ.frm hsk (.inl hx) (by decide) (UnaryOp_ (wpAny_Constant_int (neg_int ?_)))) (by decide))
  · 
    have hl : s.heap.IsList S ((a :: as).reverse.map Value.ref).toArray := ⟨_, h1, rfl, k, rfl⟩
    refine ⟨"list", "list.__getitem__", slot_list_getitem.lookup, ⟨_, h1, rfl⟩, ?_⟩
    refine wpAny_getItem_list_neg (s := { s with toks := _ }) hl (by decide) ?_ (by decide) (x := .ref a) ?_ (q _)
    · simp; omega
    · have e : ((-1 : Int) + (((a :: as).reverse.map Value.ref).toArray.size : Nat)).toNat = as.length := by
        simp
        omega
      rw [e]
      simp

theorem Sit.app (σ : Sit c env h₀ H₀ S fp hI ex stk ρ H s.heap) (ok : Ok A n) {e : Expr} {d : D} {ds : List D} {r : List (List D)} {ps p1 p2 p3 p4 p5 p6 : Pos} {kk : Nat} (hstk : stk = ds :: r) (hsz : ds.length ≤ sizeLine) (hsk : ρ "stack" = some (.ref S)) (hx : env.kindOf "stack" = some .local)
    (he : PE c n env ρ H e d)
    (q : ∀ H' h' tk', Sit c env h₀ H₀ S fp hI ex ((ds ++ [d]) :: r) ρ H' h' → VLe H H' → wpAny (model c.prog c.w) A (execs rest env) Q E { s with heap := h', toks := tk' })
    (hm : MethForm (.Subscript (.Name "stack" ps) (.UnaryOp .USub (.Constant (.int 1) kk p1) p2) p3) "append" p4 [e] p5)
    (hs : ∀ env, starEach [e] env = (false, eval e env) :: starEach [] env := by intro _; rfl)
    (hi : interactive env = false := by rfl) (hsw : swapsWith (.Call (.Attribute (.Subscript (.Name "stack" ps) (.UnaryOp .USub (.Constant (.int 1) kk p1) p2) p3) "append" p4) [e] [] p5) none p6.line env = pure false := by rfl) :
    wpAny (model c.prog c.w) A (execs (.Expr (.Call (.Attribute (.Subscript (.Name "stack" ps) (.UnaryOp .USub (.Constant (.int 1) kk p1) p2) p3) "append" p4) [e] [] p5) p6 :: rest) env) Q E s := by
  refine wpAny_execs_cons (wpAny_Expr_any ?_ hi hsw)
  obtain ⟨pl, hm⟩ := hm env
  subst hstk
  obtain ⟨as, k, h1, h2, h3⟩ := σ.st
  cases as with
  | nil => cases h2
  | cons a as =>
    have h2' := h2
    cases h2 with
    | @cons _ _ _ vs n' ws _ _ g1 g2 g3 g4 g5 g6 g7 g8 =>
      refine MethodCall_ (pl := pl) (σ.top hsk hx h1 (fun t₁ => ?_) (p3 := p3)) hm
      refine getMethod_list_append (o := lstO vs n') g1 rfl rfl ?_
      refine callWith_any (s := { s with toks := t₁ }) (.builtin _) (PEs.one he hs) A ok H (.refl _) σ.base.inv σ.frm _ _ fun us H₂ h₂ t₂ S₂ R₂ => ?_
      cases R₂ with
      | cons R₂ T₂ =>
        cases T₂
        have σ₂ := σ.step S₂
        have hne := σ.new g5
        have g1' := S₂.ext _ _ hne.1 g1
        have hS' := S₂.ext _ _ (σ.new σ.newS).1 h1
        have hlen : vs.size ≤ sizeLine := by
          have e1 := g3.length
          have e2 : vs.toList.length = vs.size := by simp
          rw [g2] at e2
          simp at e2
          omega
        refine wpAny_list_append_plain (items := vs) ⟨n', g1'⟩ (fun h₄ hl₄ hs₄ => ?_) hlen
        refine q H₂ h₄ t₂ (σ₂.given rfl hS' (h2'.keep S₂.up (fun b hb o e => S₂.ext b o (σ.new (h2'.mem b hb).2.1).1 e) (fun b hb => ?_)) (fun b hb => ?_) g1' hl₄ hs₄ R₂) S₂.up
        · obtain ⟨e1, _, _, e2⟩ := h2'.mem b hb
          obtain ⟨o, e3⟩ := Option.isSome_iff_exists.mp e2
          exact S₂.miss e3 e1
        · obtain ⟨e1, e2, e3, e4, e5⟩ := h3 b hb
          exact ⟨S₂.ext _ _ (σ.new e3).1 e1, S₂.miss e1 e2, e3, e4, e5⟩

/-- a = [] -/
theorem Sit.mkA (σ : Sit c env h₀ H₀ S fp hI none stk ρ H s.heap) {x : Str} {px p1 pos : Pos} (hx : env.kindOf x = some .local)
    (q : ∀ a h' tk', Sit c env h₀ H₀ S fp hI (some a) stk (upd ρ x (.ref a)) H h' → wpAny (model c.prog c.w) A (execs rest env) Q E { s with heap := h', toks := tk' })
    (hs : swapsWith (.List [] p1) (some (.Name x px)) pos.line env = pure false := by rfl) :
    wpAny (model c.prog c.w) A (execs (.Assign [.Name x px] (.List [] p1) pos :: rest) env) Q E s := by
  refine wpAny_execs_cons (wpAny_Assign_Name (wpAny_List (wpAny_items_nil ⟨Nat.zero_le _, ?_⟩)) hs)
  have nD := fresh_none s.heap
  have S₂ : HStep c H s.heap H (s.heap.push (lstO #[] 0)) := HStep.push σ.base.inv _
  have σ₂ := σ.step S₂
  have ha : (s.heap.push (lstO #[] 0)).get? s.heap.objs.size = some (lstO #[] 0) := Heap.get?_push_size _ rfl
  have hn0 : h₀.get? s.heap.objs.size = none := by
    cases q' : h₀.get? s.heap.objs.size with
    | none => rfl
    | some ob => have := σ.base.lives (b := s.heap.objs.size) (by rw [q']; rfl); rw [nD] at this; cases this
  have σ₃ : Sit c env h₀ H₀ S fp hI (some s.heap.objs.size) stk ρ H (s.heap.push (lstO #[] 0)) := { σ₂ with
    st := by
      obtain ⟨as, k, h1, h2, h3⟩ := σ.st
      refine ⟨as, k, Heap.get?_push_of_some _ h1, h2.keep (.refl _) (fun b hb o e => Heap.get?_push_of_some _ e) (fun b hb => (h2.mem b hb).1), fun b hb => ?_⟩
      cases hb
      refine ⟨ha, σ.base.inv.none_of nD, hn0, fun hm => ?_, fun hm => ?_⟩
      · rcases List.mem_cons.mp hm with q' | q'
        · rw [q', h1] at nD; cases nD
        · have := (σ.fpO _ q').2; rw [nD] at this; cases this
      · have := (h2.mem _ hm).2.2.2; rw [nD] at this; cases this }
  obtain ⟨m, hm1, hm2⟩ := σ₃.frm.loc
  exact wpAny_storeName_local hx hm1 (fun h₃ hn₃ hs₃ => q _ h₃ _ (σ₃.store hm2 hx hn₃ hs₃)) (by rw [σ.frm.kind]; rfl)

theorem RelL.snoc {H : View} : ∀ {ws : List Value} {ds : List D} {d : D}, RelL H ws (ds ++ [d]) → ∃ ws' v, ws = ws' ++ [v] ∧ RelL H ws' ds ∧ Rel H v d
  | _, [], d, .cons r .nil => ⟨[], _, rfl, .nil, r⟩
  | _, x :: ds, d, .cons r t => by
    obtain ⟨ws', v, h1, h2, h3⟩ := RelL.snoc t
    exact ⟨_ :: ws', v, by rw [h1]; rfl, .cons r h2, h3⟩
end
end Mine
namespace Mine
section
variable {c : Cfg} {n : Nat} {env : Env} {h₀ hI : Heap} {H₀ H : View} {S : Addr} {fp : List Addr} {ex : Option Addr} {stk : List (List D)} {ρ : Str → Option Value} {A : Around} {s : Shared} {Q : Flow → Shared → Prop} {E : Value → Shared → Prop} {rest : List Stmt}

theorem Sit.atS (σ : Sit c env h₀ H₀ S fp hI ex stk ρ H s.heap) {h' : Heap} {vs : Array Value} {k : Nat} {vs' : Array Value} {k' : Nat} (h1 : s.heap.get? S = some (lstO vs k)) (hs : Heap.SameBut S s.heap h') (h2 : h'.get? S = some (lstO vs' k')) :
    MStep c [env.locals] H₀ h₀ H h' ∧ Frm c env ρ h' ∧ MStep c [S] H s.heap H h' := by
  have hne := σ.new σ.newS
  have M := MStep.at (mu := [S]) σ.base.inv (by simp) σ.offS hne.1 hs (by rw [h2]; rfl)
  exact ⟨σ.base.new M (by simpa using σ.newS), σ.frm.but hs h1 hne.2, M⟩

/-- stack.append(a) -/
theorem Sit.push {a : Addr} {ds : List D} {r : List (List D)} (σ : Sit c env h₀ H₀ S fp hI (some a) ((ds ++ [.raw (.ref a)]) :: r) ρ H s.heap) (ok : Ok A n) {x : Str} {ps pa p4 p5 p6 : Pos} (hsz : r.length + 1 ≤ sizeLine) (hsk : ρ "stack" = some (.ref S)) (hx : env.kindOf "stack" = some .local)
    (hv : ρ x = some (.ref a)) (hxa : env.kindOf x = some .local)
    (q : ∀ h' tk', Sit c env h₀ H₀ S fp hI none ([] :: ds :: r) ρ H h' → wpAny (model c.prog c.w) A (execs rest env) Q E { s with heap := h', toks := tk' })
    (hm : MethForm (.Name "stack" ps) "append" p4 [.Name x pa] p5)
    (hc : (x == ("__classdict__" : Str)) = false := by decide) (hd : (x == ("__debug__" : Str)) = false := by decide)
    (hi : interactive env = false := by rfl) (hsw : swapsWith (.Call (.Attribute (.Name "stack" ps) "append" p4) [.Name x pa] [] p5) none p6.line env = pure false := by rfl) :
    wpAny (model c.prog c.w) A (execs (.Expr (.Call (.Attribute (.Name "stack" ps) "append" p4) [.Name x pa] [] p5) p6 :: rest) env) Q E s := by
  refine wpAny_execs_cons (wpAny_Expr_any ?_ hi hsw)
  obtain ⟨pl, hm⟩ := hm env
  obtain ⟨as, k, h1, h2, h3⟩ := σ.st
  refine MethodCall_ (pl := pl) (wpAny_Name (ldFrm σ.frm hsk (.inl hx) (by decide) ?_) (by decide)) hm
  refine getMethod_list_append (o := lstO _ k) h1 rfl rfl ?_
  refine callWith_method1 (wpAny_items_cons (wpAny_Name (ldFrm σ.frm hv (.inl hxa) hc (wpAny_items_nil ?_)) hd)) rfl rfl
  have hl := h2.length
  refine wpAny_list_append_plain ⟨k, h1⟩ (fun h₄ hl₄ hs₄ => ?_) ?_
  · obtain ⟨k₄, hl₄⟩ := hl₄
    obtain ⟨B, F, M⟩ := σ.atS h1 hs₄ hl₄
    obtain ⟨a1, a2, a3, a4, a5⟩ := h3 a rfl
    have hSa : a ≠ S := fun q => a4 (by simp [q])
    refine q h₄ _ ⟨σ.aP, σ.aL, B, F, ⟨a :: as, k₄, ?_, ?_, fun b hb => by cases hb⟩, σ.offS, σ.newS, σ.offL, fun b hb o e => (hs₄.2 b fun q => σ.fpS (q ▸ hb)).trans (σ.fpk b hb o e), σ.fpP, σ.fpS, σ.fpL, fun b hb => ⟨(σ.fpO b hb).1, by rw [hs₄.2 b fun q => σ.fpS (q ▸ hb)]; exact (σ.fpO b hb).2⟩⟩
    · rw [hl₄]; simp
    · have hk := h2.keep (H' := H) (h' := h₄) (.refl _) (fun b hb o e => (hs₄.2 b fun q => (h2.mem b hb).2.2.1 (by rw [q]; simp)).trans e) (fun b hb => (h2.mem b hb).1)
      refine .cons (ws := []) ((hs₄.2 _ hSa).trans a1) rfl .nil a2 a3 a4 a5 ?_
      cases hk with
      | cons g1 g2 g3 g4 g5 g6 g7 g8 =>
        obtain ⟨ws', v, e1, e2, e3⟩ := g3.snoc
        cases e3
        subst e1
        exact .cons g1 (by rw [g2]; simp) e2 g4 g5 g6 g7 g8
  · simp at hl ⊢; omega

/-- stack.pop() -/
theorem Sit.pop {ds ds' : List D} {r : List (List D)} (σ : Sit c env h₀ H₀ S fp hI none (ds :: ds' :: r) ρ H s.heap) (ok : Ok A n) {ps p4 p5 p6 : Pos} (hsz : r.length + 2 ≤ sizeLine) (hsk : ρ "stack" = some (.ref S)) (hx : env.kindOf "stack" = some .local)
    (q : ∀ H' h' tk', Sit c env h₀ H₀ S fp hI none ((ds' ++ [.list ds]) :: r) ρ H' h' → VLe H H' → wpAny (model c.prog c.w) A (execs rest env) Q E { s with heap := h', toks := tk' })
    (hm : MethForm (.Name "stack" ps) "pop" p4 [] p5)
    (hi : interactive env = false := by rfl) (hsw : swapsWith (.Call (.Attribute (.Name "stack" ps) "pop" p4) [] [] p5) none p6.line env = pure false := by rfl) :
    wpAny (model c.prog c.w) A (execs (.Expr (.Call (.Attribute (.Name "stack" ps) "pop" p4) [] [] p5) p6 :: rest) env) Q E s := by
  refine wpAny_execs_cons (wpAny_Expr_any ?_ hi hsw)
  obtain ⟨pl, hm⟩ := hm env
  obtain ⟨as, k, h1, h2, h3⟩ := σ.st
  refine MethodCall_ (pl := pl) (wpAny_Name (ldFrm σ.frm hsk (.inl hx) (by decide) ?_) (by decide)) hm
  refine getMethod_builtin ⟨_, h1, rfl⟩ PySem.F.plainAttrs_list PySem.F.slot_list_pop PySem.F.type_list_pop (fun a e => by cases e; exact ⟨_, h1, rfl⟩) ?_
  refine callWith_method0 ?_
  have hl := h2.length
  have hk := h2
  cases h2 with
  | @cons _ a as vs n' ws _ _ g1 g2 g3 g4 g5 g6 g7 g8 =>
    have hL : ((a :: as).reverse.map Value.ref).toArray = (as.reverse.map Value.ref ++ [Value.ref a]).toArray := by simp
    rw [hL] at h1
    have hk' : (as.reverse.map Value.ref ++ [Value.ref a]).toArray.size - 1 = (as.reverse.map Value.ref).length := by simp
    have hy : (as.reverse.map Value.ref ++ [Value.ref a]).toArray[(as.reverse.map Value.ref ++ [Value.ref a]).toArray.size - 1]? = some (.ref a) := by rw [hk']; simp
    refine call_meets PySem.F.slot_list_pop ⟨_, h1, rfl⟩ PySem.F.entry_list_pop (PySem.F.args_list_pop_1 _) (PySem.MeetsSeq.list_pop_last S _ k (.ref a) hy ?_) ⟨h1, ?_⟩
    · simp at hl ⊢; omega
    · have hu := PySem.IsL.update h1 (fun xs => xs.eraseIdxIfInBounds ((as.reverse.map Value.ref ++ [Value.ref a]).toArray.size - 1))
      have he : (as.reverse.map Value.ref ++ [Value.ref a]).toArray.eraseIdxIfInBounds ((as.reverse.map Value.ref ++ [Value.ref a]).toArray.size - 1) = (as.reverse.map Value.ref).toArray := by
        rw [hk', PySem.W.kl_erase, List.append_nil]
      rw [he] at hu
      generalize hh' : s.heap.update S (Obj.mapSeq fun xs => xs.eraseIdxIfInBounds ((as.reverse.map Value.ref ++ [Value.ref a]).toArray.size - 1)) = h' at hu ⊢
      have hs₄ : Heap.SameBut S s.heap h' := hh' ▸ Heap.SameBut.update ..
      obtain ⟨B, F, M⟩ := σ.atS h1 hs₄ hu
      have hSa : a ≠ S := fun q => g6 (by simp [q])
      have hne := σ.new g5
      have ga : h'.get? a = some (lstO vs n') := (hs₄.2 _ hSa).trans g1
      -- freeze a
      have I' := B.inv
      have hle : VLe H (H.add a (lstO vs n')) := View.le_add g4
      have Ba : MStep c [env.locals] H₀ h₀ (H.add a (lstO vs n')) h' := by
        refine ⟨B.up.trans hle, fun b o e => ?_, B.ext, B.live, ⟨fun b o e => ?_, fun b o e => hle b o (I'.base b o e), ?_, ?_⟩⟩
        · by_cases hb : b = a
          · exact .inr (hb ▸ g5)
          · unfold View.add at e; rw [if_neg hb] at e; exact B.fresh b o e
        · by_cases hb : b = a
          · unfold View.add at e; rw [if_pos hb] at e; cases e; rw [hb]; exact ga
          · unfold View.add at e; rw [if_neg hb] at e; exact I'.le b o e
        · unfold View.add; rw [if_neg (Ne.symm hne.1)]; exact I'.noP
        · obtain ⟨ob, e1, e2⟩ := I'.tb
          exact ⟨ob, e1, c.tbm _ _ _ hle e2⟩
      have off : ∀ b, b ≠ a → H b = none → (H.add a (lstO vs n')) b = none := fun b hb e => by unfold View.add; rw [if_neg hb]; exact e
      refine q (H.add a (lstO vs n')) h' _ ⟨σ.aP, σ.aL, Ba, F, ⟨as, _, hu, ?_, fun b hb => by cases hb⟩, off _ (Ne.symm hSa) σ.offS, σ.newS, off _ (Ne.symm hne.2) σ.offL, fun b hb o e => (hs₄.2 b fun q => σ.fpS (q ▸ hb)).trans (σ.fpk b hb o e), σ.fpP, σ.fpS, σ.fpL, fun b hb => ⟨off b (fun q => g6 (by rw [← q]; simp [hb])) (σ.fpO b hb).1, by rw [hs₄.2 b fun q => σ.fpS (q ▸ hb)]; exact (σ.fpO b hb).2⟩⟩ hle
      have g8' := g8.keep hle (h' := h') (fun b hb o e => (hs₄.2 b fun q => (g8.mem b hb).2.2.1 (by rw [q]; simp)).trans e) (fun b hb => off b (fun q => g7 (q ▸ hb)) (g8.mem b hb).1)
      cases g8' with
      | cons f1 f2 f3 f4 f5 f6 f7 f8 =>
        refine .cons f1 (by rw [f2, List.append_nil]) (f3.append (.cons (.list View.add_self ?_) .nil)) f4 f5 f6 f7 f8
        have g2' : vs.toList = ws := by rw [g2]; simp
        rw [g2']
        exact g3.mono hle
end
end Mine
namespace Mine

/-- the reader of arrays, as a machine -/
structure PS where
  buf : Option Nat
  stk : List (List D)
def PS.flush (p : PS) (ch : Nat) : Option PS := match p.buf with
  | none => some p
  | some b => if ch = 125 ∨ ch = 44 then match p.stk with
    | ds :: r => some ⟨none, (ds ++ [.int ((b - 48 : Nat) : Int)]) :: r⟩
    | [] => none
    else none
def PS.read (stk : List (List D)) (ch : Nat) : Option PS :=
  if ch = 123 then match stk with
    | ds :: r => some ⟨none, [] :: ds :: r⟩
    | [] => none
  else if ch = 125 then match stk with
    | ds :: ds' :: r => some ⟨none, (ds' ++ [.list ds]) :: r⟩
    | _ => none
  else if ch = 44 then some ⟨none, stk⟩
  else if 48 ≤ ch ∧ ch < 58 then some ⟨some ch, stk⟩ else none
def PS.next (p : PS) (ch : Nat) : Option PS := (p.flush ch).bind fun p' => PS.read p'.stk ch
def PS.run (p : PS) : List Nat → Option PS
  | [] => some p
  | ch :: r => (p.next ch).bind fun p' => p'.run r
def PS.wt (p : PS) : Nat := (p.stk.map fun l => l.length + 1).sum

theorem PS.run_append (p : PS) : ∀ (l r : List Nat), p.run (l ++ r) = (p.run l).bind fun p' => p'.run r := by
  intro l r
  induction l generalizing p with
  | nil => rfl
  | cons ch l ih =>
    show (p.next ch).bind _ = ((p.next ch).bind _).bind _
    cases p.next ch with
    | none => rfl
    | some p' => exact ih p'

theorem PS.flush_wt {p p' : PS} {ch : Nat} (h : p.flush ch = some p') : p'.wt ≤ p.wt + 1 ∧ p'.buf = none := by
  obtain ⟨buf, stk⟩ := p
  unfold PS.flush at h
  cases buf with
  | none => cases h; exact ⟨Nat.le_succ _, rfl⟩
  | some b =>
    dsimp only at h
    split at h
    · cases stk with
      | nil => cases h
      | cons ds r => cases h; refine ⟨?_, rfl⟩; unfold PS.wt; simp; omega
    · cases h
theorem PS.read_wt {stk : List (List D)} {p' : PS} {ch : Nat} (h : PS.read stk ch = some p') : p'.wt ≤ (PS.mk none stk).wt + 1 := by
  unfold PS.read at h
  split at h
  · cases stk with
    | nil => cases h
    | cons ds r => cases h; unfold PS.wt; simp; omega
  · split at h
    · match stk, h with
      | ds :: ds' :: r, h => cases h; unfold PS.wt; simp; omega
    · split at h
      · cases h; unfold PS.wt; simp
      · split at h
        · cases h; unfold PS.wt; simp
        · cases h
theorem PS.next_buf {p p' : PS} {ch : Nat} (h : p.next ch = some p') : ∀ b, p'.buf = some b → 48 ≤ b ∧ b < 58 := by
  unfold PS.next at h
  cases e : p.flush ch with
  | none => rw [e] at h; cases h
  | some p1 =>
    rw [e] at h
    have h : PS.read p1.stk ch = some p' := h
    intro b hb
    unfold PS.read at h
    split at h
    · split at h
      · cases h; cases hb
      · cases h
    · split at h
      · split at h
        · cases h; cases hb
        · cases h
      · split at h
        · cases h; cases hb
        · split at h
          · cases h; cases hb; assumption
          · cases h
theorem PS.next_wt {p p' : PS} {ch : Nat} (h : p.next ch = some p') : p'.wt ≤ p.wt + 2 := by
  unfold PS.next at h
  cases e : p.flush ch with
  | none => rw [e] at h; cases h
  | some p1 =>
    rw [e] at h
    have h1 := PS.flush_wt e
    have h2 := PS.read_wt h
    have : (PS.mk none p1.stk).wt = p1.wt := rfl
    omega
theorem wt_mem {stk : List (List D)} {l : List D} (h : l ∈ stk) : l.length ≤ (stk.map fun l => l.length + 1).sum := by
  induction stk with
  | nil => cases h
  | cons x r ih =>
    rcases List.mem_cons.mp h with rfl | h
    · simp; omega
    · have := ih h; simp; omega
theorem wt_len {stk : List (List D)} : stk.length ≤ (stk.map fun l => l.length + 1).sum := by
  induction stk with
  | nil => simp
  | cons x r ih => simp; omega

theorem sign_eq (a b : Nat) : ((⟨#[a]⟩ : Str) == ⟨#[b]⟩) = decide (a = b) := by
  rw [Bool.eq_iff_iff]; simp

section
variable {c : Cfg} {env : Env} {h₀ h h' hI : Heap} {H₀ H H' : View} {S : Addr} {fp : List Addr} {ex : Option Addr} {stk : List (List D)} {ρ ρ' : Str → Option Value}

theorem Chain.bad {bad bad' : List Addr} {pend : List Value} {as : List Addr} {dss : List (List D)} (C : Chain bad h₀ H h pend as dss) (k : ∀ a ∈ as, a ∉ bad') : Chain bad' h₀ H h pend as dss := by
  induction C with
  | nil => exact .nil _
  | cons h1 h2 h3 h4 h5 h6 h7 h8 ih => exact .cons h1 h2 h3 h4 h5 (k _ (by simp)) h7 (ih fun a ha => k a (List.mem_cons_of_mem _ ha))

/-- a new object that the loop walks by -/
theorem Sit.iter (σ : Sit c env h₀ H₀ S [] hI none stk ρ H h) (o : Obj) (ho : o.isFreed = false) : Sit c env h₀ H₀ S [h.objs.size] (h.push o) none stk ρ H (h.push o) := by
  have nI := fresh_none h
  have S₂ : HStep c H h H (h.push o) := HStep.push σ.base.inv o
  have σ₂ := σ.step S₂
  obtain ⟨as, k, h1, h2, h3⟩ := σ.st
  have al : ∀ b, (h.get? b).isSome = true → b ≠ h.objs.size := fun b hb q => by rw [q, nI] at hb; cases hb
  have alS : S ≠ h.objs.size := al S (by rw [h1]; rfl)
  have alL : env.locals ≠ h.objs.size := by obtain ⟨_, e⟩ := σ.frm.aliveL; exact al _ (by rw [e]; rfl)
  have mem1 : ∀ b, b ∈ [h.objs.size] → b = h.objs.size := fun b hb => by simpa using hb
  refine ⟨σ.aP, σ.aL, σ₂.base, σ₂.frm, ⟨as, k, Heap.get?_push_of_some _ h1, ?_, fun b hb => (by cases hb)⟩, σ.offS, σ.newS, σ.offL, fun b hb o e => e, fun b hb => ?_, fun hm => alS (mem1 _ hm), fun hm => alL (mem1 _ hm), fun b hb => ?_⟩
  · refine (h2.keep (.refl _) (fun b hb o e => Heap.get?_push_of_some _ e) (fun b hb => (h2.mem b hb).1)).bad fun a ha hm => ?_
    obtain ⟨_, _, e3, e4⟩ := h2.mem a ha
    rcases List.mem_cons.mp hm with q | q
    · exact e3 (by simp [q])
    · exact al a e4 (mem1 _ q)
  · rw [mem1 b hb]; exact σ.base.inv.neP nI
  · rw [mem1 b hb]
    exact ⟨σ.base.inv.none_of nI, by rw [Heap.get?_push_size _ ho]; rfl⟩

/-- the loop's object has gone on -/
theorem Sit.goes {h' : Heap} {wr : List Addr} (σ : Sit c env h₀ H₀ S fp hI none stk ρ H h) (hw : ∀ b ∈ wr, b ∈ fp) (hw0 : ∀ b ∈ wr, h₀.get? b = none) (k : ∀ b o, b ∉ wr → h.get? b = some o → h'.get? b = some o) (al : ∀ b ∈ fp, (h'.get? b).isSome = true)
    (hcell : ∀ x a, env.cells.lookup x ≠ some a) : Sit c env h₀ H₀ S fp h' none stk ρ H h' := by
  have off : ∀ b ∈ wr, H b = none := fun b hb => (σ.fpO b (hw b hb)).1
  have hP : c.P ∉ wr := fun hm => σ.fpP _ (hw _ hm) rfl
  have hL : env.locals ∉ wr := fun hm => σ.fpL (hw _ hm)
  have M : MStep c wr H h H h' := ⟨.refl _, fun _ _ e => .inl e, fun b o _ hm e => k b o hm e, fun b hb _ => al b (hw b hb),
    ⟨fun b o e => k b o (fun hm => by rw [off b hm] at e; cases e) (σ.base.inv.le b o e), σ.base.inv.base, σ.base.inv.noP, let ⟨ob, e1, e2⟩ := σ.base.inv.tb; ⟨ob, k _ _ hP e1, e2⟩⟩⟩
  obtain ⟨as, kk, h1, h2, h3⟩ := σ.st
  refine ⟨σ.aP, σ.aL, σ.base.new M hw0, ?_, ⟨as, kk, k _ _ (fun hm => σ.fpS (hw _ hm)) h1, ?_, fun b hb => (by cases hb)⟩, σ.offS, σ.newS, σ.offL, fun b hb o e => e, σ.fpP, σ.fpS, σ.fpL, fun b hb => ⟨(σ.fpO b hb).1, al b hb⟩⟩
  · exact ⟨σ.frm.kind, σ.frm.gl, σ.frm.bl, σ.frm.apL, σ.frm.apC, let ⟨m, e1, e2⟩ := σ.frm.loc; ⟨m, e1.at' fun o e => k _ o hL e, e2⟩, fun x a e => absurd e (hcell x a), fun x v e q => let ⟨a, e1, _⟩ := σ.frm.cel x v e q; absurd e1 (hcell x a)⟩
  · exact h2.keep (.refl _) (fun a ha o e => k a o (fun hm => (h2.mem a ha).2.2.1 (List.mem_cons_of_mem _ (hw _ hm))) e) (fun a ha => (h2.mem a ha).1)

abbrev Sit.like (_ : Sit c env h₀ H₀ S fp hI ex stk ρ H h) (stk' : List (List D)) (ρ' : Str → Option Value) (H' : View) (h' : Heap) : Prop := Sit c env h₀ H₀ S fp hI ex stk' ρ' H' h'
abbrev Sit.likeI (_ : Sit c env h₀ H₀ S fp hI ex stk ρ H h) (hI' : Heap) (stk' : List (List D)) (ρ' : Str → Option Value) (H' : View) (h' : Heap) : Prop := Sit c env h₀ H₀ S fp hI' ex stk' ρ' H' h'
theorem Sit.weak (σ : Sit c env h₀ H₀ S fp hI ex stk ρ H h) (k : ∀ x v, ρ' x = some v → ρ x = some v) : Sit c env h₀ H₀ S fp hI ex stk ρ' H h := { σ with frm := σ.frm.weak k }
theorem Sit.rebase (σ : Sit c env h₀ H₀ S fp hI ex stk ρ H h) : Sit c env h₀ H₀ S fp h ex stk ρ H h := { σ with fpk := fun _ _ _ e => e }

/-- stack = [[]] -/
theorem Sit.start {s : Shared} {A : Around} {Q : Flow → Shared → Prop} {E : Value → Shared → Prop} {rest : List Stmt} (I : Inv c H s.heap) (F : Frm c env ρ s.heap) (oL : H env.locals = none) {x : Str} {px p1 p2 pos : Pos} (hx : env.kindOf x = some .local)
    (q : ∀ S h' tk', Sit c env s.heap H S [] h' none [[]] (upd ρ x (.ref S)) H h' → wpAny (model c.prog c.w) A (execs rest env) Q E { s with heap := h', toks := tk' })
    (hs : swapsWith (.List [.List [] p1] p2) (some (.Name x px)) pos.line env = pure false := by rfl) :
    wpAny (model c.prog c.w) A (execs (.Assign [.Name x px] (.List [.List [] p1] p2) pos :: rest) env) Q E s := by
  refine wpAny_execs_cons (wpAny_Assign_Name (wpAny_List (wpAny_items_cons (wpAny_List (wpAny_items_nil ⟨Nat.zero_le _, wpAny_items_nil ⟨(by show 1 ≤ sizeLine; decide), ?_⟩⟩)))) hs)
  have n1 := fresh_none s.heap
  have S₁ : HStep c H s.heap H (s.heap.push (lstO #[] 0)) := HStep.push I _
  generalize hg1 : s.heap.push (lstO #[] 0) = h1
  have e1 : h1.get? s.heap.objs.size = some (lstO #[] 0) := hg1 ▸ Heap.get?_push_size _ rfl
  rw [hg1] at S₁
  have n2 := fresh_none h1
  have S₂ : HStep c H h1 H (h1.push (lstO #[.ref s.heap.objs.size] 0)) := HStep.push S₁.inv _
  have e2 : (h1.push (lstO #[.ref s.heap.objs.size] 0)).get? h1.objs.size = some (lstO #[.ref s.heap.objs.size] 0) := Heap.get?_push_size _ rfl
  have e1' : (h1.push (lstO #[.ref s.heap.objs.size] 0)).get? s.heap.objs.size = some (lstO #[] 0) := Heap.get?_push_of_some _ e1
  have hne : s.heap.objs.size ≠ h1.objs.size := fun q => by rw [q, n2] at e1; cases e1
  have S₃ := S₁.trans S₂ I
  have n2' : s.heap.get? h1.objs.size = none := S₁.alive I n2
  have F₃ := F.step S₃
  have σ : Sit c env s.heap H h1.objs.size [] (h1.push (lstO #[.ref s.heap.objs.size] 0)) none [[]] ρ H (h1.push (lstO #[.ref s.heap.objs.size] 0)) :=
    ⟨(by obtain ⟨o, e, _⟩ := I.tb; rw [e]; rfl), (by obtain ⟨o, e⟩ := F.aliveL; rw [e]; rfl), S₃.toM, F₃, ⟨[s.heap.objs.size], 0, e2, .cons e1' rfl .nil (I.none_of n1) n1 (by simpa using hne) (by simp) (.nil _), fun b hb => (by cases hb)⟩,
      I.none_of n2', n2', oL, fun b hb => (by cases hb), fun b hb => (by cases hb), (by simp), (by simp), fun b hb => (by cases hb)⟩
  obtain ⟨m, hm1, hm2⟩ := F₃.loc
  exact wpAny_storeName_local hx hm1 (fun h₃ hn₃ hs₃ => q _ h₃ _ (σ.store hm2 hx hn₃ hs₃).rebase) (by rw [F.kind]; rfl)

theorem Sub_any {env : Env} {A : Around} {E : Value → Shared → Prop} {s : Shared} {value slice : Expr} {pos : Pos} {Q : Value → Shared → Prop}
    (h : wpAny (model c.prog c.w) A (eval value env) (fun o s₁ => wpAny (model c.prog c.w) A (eval slice env) (fun i s₂ => ∃ (T id : String), typeLookup (.type T) "__getitem__" = pure (some (.builtin id)) ∧ s₂.TypeIs o T ∧ wpAny (model c.prog c.w) A (getItem o i) Q E s₂) E s₁) E s)
    (hs : ∀ o i, subscripted slice false o i = operate [o, i] (getItem o i) := by intro _ _; with_unfolding_all rfl) :
    wpAny (model c.prog c.w) A (eval (.Subscript value slice pos) env) Q E s := by
  refine Subscript_ (wpAny_mono h (fun o s₁ h₁ => wpAny_mono h₁ (fun i s₂ h₂ => ?_) fun _ _ x => x) fun _ _ x => x)
  obtain ⟨T, id, hl, hT, hg⟩ := h₂
  unfold subscriptTail
  refine wpAny_bind ?_
  rw [getitemInPython_of_ne hT.not_modules]
  refine wpAny_bind (wpAny_specialOf hT hl ?_)
  have fin : wpAny (model c.prog c.w) A (subscripted slice false o i) (fun r s₃ => wpAny (model c.prog c.w) A (letTemporaryGo value o r >>= fun _ => pure r) Q E s₃) E s₂ := by
    rw [hs]
    exact wpAny_operating (wpAny_mono hg (fun r s₃ h₃ => wpAny_bind (wpAny_letTemporaryGo (wpAny_pure h₃))) fun _ _ x => x)
  first
    | exact wpAny_pure (wpAny_bind fin)
    | exact wpAny_bind (wpAny_pure (wpAny_bind fin))
    | exact wpAny_bind fin

theorem pyIter_strs {A : Around} {E : Value → Shared → Prop} {s : Shared} {x : Str} {t : Tok} {Q : Value → Shared → Prop} (hh : A.handled = none)
    (hQ : ∀ (o : Obj) (St : Nat → Heap → Prop), o.isFreed = false → (∀ i h, St i h → (h.get? s.heap.objs.size).isSome = true) → Walks c.prog c.w A s.heap.objs.size [s.heap.objs.size] [s.heap.objs.size] x.cps.size (SignAt x) St → St 0 (s.heap.push o) →
      Q (.ref s.heap.objs.size) { s with heap := s.heap.push o }) : wpAny (model c.prog c.w) A (pyIter (.str x t)) Q E s := by
  cases ha : x.cps.all (· < 128)
  · exact wpAny_pyIter_wide ha (hQ _ _ rfl (fun i h st => let ⟨o, ho, _⟩ := st; (by rw [ho]; rfl)) (Walks.strWide hh _ x t) ⟨_, Heap.get?_push_size _ rfl, rfl, rfl⟩)
  · exact wpAny_pyIter_ascii ha (hQ _ _ rfl (fun i h st => let ⟨o, ho, _⟩ := st; (by rw [ho]; rfl)) (Walks.strAscii hh _ x t) ⟨_, Heap.get?_push_size _ rfl, rfl, rfl⟩)

/-- return stack[0][0] -/
theorem Sit.end {s : Shared} {A : Around} {Q : Flow → Shared → Prop} {E : Value → Shared → Prop} {rest : List Stmt} {d : D} {wr : List Addr} (σ : Sit c env h₀ H₀ S fp hI none [[d]] ρ H h) (hw : ∀ b ∈ wr, b ∈ fp) (hw0 : ∀ b ∈ wr, h₀.get? b = none) (k : ∀ b o, b ∉ wr → h.get? b = some o → s.heap.get? b = some o)
    (hcell : ∀ x a, env.cells.lookup x ≠ some a) {ps p1 p2 p3 p4 pos : Pos} {k1 k2 : Nat} (hsk : ρ "stack" = some (.ref S)) (hx : env.kindOf "stack" = some .local)
    (q : ∀ v tk', VLe H₀ H → (∀ b o, H b = some o → H₀ b = some o ∨ h₀.get? b = none) → (∀ b o, b ≠ c.P → b ≠ env.locals → h₀.get? b = some o → s.heap.get? b = some o) → Inv c H s.heap → Rel H v d → Q (.ret v) { s with toks := tk' }) :
    wpAny (model c.prog c.w) A (execs (.Return (some (.Subscript (.Subscript (.Name "stack" ps) (.Constant (.int 0) k1 p1) p2) (.Constant (.int 0) k2 p3) p4)) pos :: rest) env) Q E s := by
  have off : ∀ b ∈ wr, H b = none := fun b hb => (σ.fpO b (hw b hb)).1
  have hP : c.P ∉ wr := fun hm => σ.fpP _ (hw _ hm) rfl
  have hL : env.locals ∉ wr := fun hm => σ.fpL (hw _ hm)
  have I : Inv c H s.heap := ⟨fun b o e => k b o (fun hm => by rw [off b hm] at e; cases e) (σ.base.inv.le b o e), σ.base.inv.base, σ.base.inv.noP, let ⟨ob, e1, e2⟩ := σ.base.inv.tb; ⟨ob, k _ _ hP e1, e2⟩⟩
  have F : Frm c env ρ s.heap := ⟨σ.frm.kind, σ.frm.gl, σ.frm.bl, σ.frm.apL, σ.frm.apC, let ⟨m, e1, e2⟩ := σ.frm.loc; ⟨m, e1.at' fun o e => k _ o hL e, e2⟩, fun x a e => absurd e (hcell x a), fun x v e q => let ⟨a, e1, _⟩ := σ.frm.cel x v e q; absurd e1 (hcell x a)⟩
  obtain ⟨as, kk, h1, h2, h3⟩ := σ.st
  cases h2 with
  | @cons _ a as vs n ws _ _ g1 g2 g3 g4 g5 g6 g7 g8 =>
    cases g8
    cases g3 with
    | @cons v _ _ _ r t =>
      cases t
      have h1 := k _ _ (fun hm => σ.fpS (hw _ hm)) h1
      have g1 := k _ _ (fun hm => g6 (List.mem_cons_of_mem _ (hw _ hm))) g1
      have hl : s.heap.IsList S #[.ref a] := ⟨_, h1, rfl, kk, by simp⟩
      have hv : vs = #[v] := by apply Array.toList_inj.mp; rw [g2]; simp
      have hl' : s.heap.IsList a #[v] := ⟨_, g1, rfl, n, by rw [hv]⟩
      refine wpAny_execs_cons (wpAny_Return_some (Sub_any (Sub_any (wpAny_Name (ldFrm F hsk (.inl hx) (by decide) (wpAny_Constant_int ⟨"list", "list.__getitem__", slot_list_getitem.lookup, ⟨_, h1, rfl⟩, ?_⟩)) (by decide)))))
      refine wpAny_getItem_list (s := { s with toks := _ }) hl (by decide) (by decide) (x := .ref a) rfl (wpAny_Constant_int ⟨"list", "list.__getitem__", slot_list_getitem.lookup, ⟨_, g1, rfl⟩, ?_⟩)
      refine wpAny_getItem_list (s := { s with toks := _ }) hl' (by decide) (by decide) (x := v) rfl (q v _ σ.base.up σ.base.fresh (fun b o hb hl e => k b o (fun hm => by rw [hw0 b hm] at e; cases e) (σ.base.ext b o hb (by simpa using hl) e)) I r)
end
end Mine
namespace Mine

section
variable {c : Cfg} {n : Nat} {env : Env} {ρ : Str → Option Value} {H : View} {d : D} {a b : Int}

theorem BinR.ofInt {op : Operator} {r : Int} (h : ∀ {A : Around} {E : Value → Shared → Prop} {s : Shared} {Q : Value → Shared → Prop} {t u : Tok}, Q (.int r s.toks) { s with toks := s.toks + 1 } → wpAny (model c.prog c.w) A (binaryOp op (.int a t) (.int b u)) Q E s) : BinR c op (.int a) (.int b) (.int r) := ⟨fun A ok s H₁ u v I R₁ R₂ Q E q => by
  cases R₁ with
  | int _ t => cases R₂ with
    | int _ t' => exact h (q _ H₁ s.heap _ (.refl I) (.int _ _))⟩
theorem BinR.addI : BinR c .Add (.int a) (.int b) (.int (a + b)) := .ofInt fun q => add_int q
theorem BinR.mulI (h : IntMulOk a b) : BinR c .Mult (.int a) (.int b) (.int (a * b)) := .ofInt fun q => mul_int q h
theorem BinR.modI (h : b ≠ 0) : BinR c .Mod (.int a) (.int b) (.int (a.fmod b)) := .ofInt fun q => mod_int h q
theorem BinR.andI : BinR c .BitAnd (.int a) (.int b) (.int (Builtin.bitAnd a b)) := .ofInt fun q => and_int q
theorem BinR.orI : BinR c .BitOr (.int a) (.int b) (.int (Builtin.bitOr a b)) := .ofInt fun q => or_int q
theorem BinR.shrI (h : 0 ≤ b) : BinR c .RShift (.int a) (.int b) (.int (a.fdiv (2 ^ b.toNat))) := .ofInt fun q => rshift_int h q
theorem BinR.powI (h : 0 ≤ b) (h2 : b ≤ 1000000) (ha : a.natAbs < 2 ^ 64) : BinR c .Pow (.int a) (.int b) (.int (a ^ b.toNat)) := .ofInt fun q => pow_int_small h h2 ha q

theorem CmpR.ofInt {op : CmpOp} {r : Bool} (h : ∀ {A : Around} {E : Value → Shared → Prop} {s : Shared} {Q : Value → Shared → Prop} {t u : Tok}, Q (.bool r) s → wpAny (model c.prog c.w) A (compareOp op (.int a t) (.int b u)) Q E s) : CmpR c op (.int a) (.int b) (.bool r) := ⟨fun A ok s H₁ u v I R₁ R₂ Q E q => by
  cases R₁ with
  | int _ t => cases R₂ with
    | int _ t' => exact h (q _ H₁ s.heap _ (.refl I) (.bool _))⟩
theorem CmpR.ltI : CmpR c .Lt (.int a) (.int b) (.bool (decide (a < b))) := .ofInt fun q => lt_int q
theorem CmpR.eqI : CmpR c .Eq (.int a) (.int b) (.bool (a == b)) := .ofInt fun q => eq_int q
theorem CmpR.neI : CmpR c .NotEq (.int a) (.int b) (.bool (a != b)) := .ofInt fun q => ne_int q

theorem MethR.bitLength : MethR c "bit_length" (.int a) "int.bit_length" := ⟨fun A ok s H₁ v pl I R Q E q => by
  cases R with
  | int _ t => exact getMethod_int_bit_length (q s.toks)⟩
theorem Fun.bitLength : Fun c n (.builtin "int.bit_length") H [.int a] (.int (Builtin.Int.intBits a : Int)) := ⟨fun A ok s H₁ vs k I R Q E q => by
  cases R with
  | cons r t => cases t; cases r with
    | int _ t => exact call_int_bit_length (q _ H₁ s.heap _ (.refl I) (.int _ _))⟩

theorem Fun.len {l : List D} (hf : l.length ≤ sizeLine) : Fun c n (.builtin "len") H [.list l] (.int (l.length : Int)) := ⟨fun A ok s H₁ vs k I R Q E q => by
  cases R with
  | cons r t =>
    cases t
    cases r with
    | @list ad ws m _ ha hr =>
      have e : ws.size = l.length := by have := hr.length; simpa using this
      refine call_len_list (l := ad) (items := ws) ⟨_, I.le _ _ ha, rfl, m, rfl⟩ ?_ ?_
      · have e2 : sizeLine = 16777216 := by decide
        omega
      · rw [e]; exact q _ H₁ s.heap _ (.refl I) (.int _ _)⟩

theorem allInts_of {H : View} : ∀ {vs : List Value} {ns : List Int}, RelL H vs (ns.map D.int) → IntsAre vs ns
  | _, [], .nil => .nil
  | _, i :: r, .cons (.int _ t) h => .cons i t (allInts_of h)
theorem Fun.sum {ns : List Int} : Fun c n (.builtin "sum") H [.list (ns.map D.int)] (.int ns.sum) := ⟨fun A ok s H₁ vs k I R Q E q => by
  cases R with
  | cons r t =>
    cases t
    cases r with
    | @list ad ws m _ ha hr =>
      have hi := allInts_of hr
      have hl : s.heap.IsList ad ws := ⟨_, I.le _ _ ha, rfl, m, rfl⟩
      have ha' : AllInts ws := by
        have := hi.allInts
        rwa [Array.toArray_toList] at this
      obtain ⟨xs, rfl⟩ := ha'.items
      refine sum_intListG ok.hh hl fun h' tk t' hk => ?_
      rw [preSum_eq, List.take_of_length_le (by simp)]
      have e : numsOf (intItems xs).toList = ns := hi.numsOf
      rw [nums_intItems] at e
      rw [e]
      exact q _ H₁ h' tk (.grow I hk) (.int _ _)⟩

/-- items -/
theorem Rel.item {H : View} {s : Shared} {v : Value} {l : List D} {i : Nat} (I : Inv c H s.heap) (R : Rel H v (.list l)) (hi : l[i]? = some d) : ∃ ad ws x, v = .ref ad ∧ s.heap.IsList ad ws ∧ ws[i]? = some x ∧ Rel H x d ∧ ws.size = l.length := by
  cases R with
  | @list ad ws m _ ha hr =>
    obtain ⟨x, hx, hr'⟩ := hr.get' hi
    exact ⟨ad, ws, x, rfl, ⟨_, I.le _ _ ha, rfl, m, rfl⟩, by simpa using hx, hr', by have := hr.length; simpa using this⟩

theorem PE.idx {e x : Expr} {pos : Pos} {l : List D} {i : Nat} (he : PE c n env ρ H e (.list l)) (hx : PE c n env ρ H x (.int (i : Int))) (hi : l[i]? = some d) (hb : i < 2 ^ 62) (hs : ∀ o i, subscripted x false o i = operate [o, i] (getItem o i) := by intro _ _; with_unfolding_all rfl) : PE c n env ρ H (.Subscript e x pos) d :=
  ⟨fun A ok s H₁ k I F Q E q => Sub_any (he.run A ok s H₁ k I F _ _ fun v H₂ h₂ t₂ S₂ R₂ => hx.run A ok _ H₂ (k.trans S₂.up) S₂.inv (F.step S₂) _ _ fun w H₃ h₃ t₃ S₃ R₃ => by
    obtain ⟨ad, ws, y, rfl, hl, hy, ry, hsz⟩ := (R₂.mono S₃.up).item (s := { s with heap := h₃, toks := t₃ }) S₃.inv hi
    cases R₃ with
    | int _ t =>
      obtain ⟨o, ho, hc, _⟩ := id hl
      exact ⟨"list", "list.__getitem__", slot_list_getitem.lookup, ⟨o, ho, hc⟩, wpAny_getItem_list (s := { s with heap := h₃, toks := t₃ }) hl (by omega) (by omega) (x := y) (by simpa using hy) (q y H₃ h₃ t₃ (S₂.trans S₃ I) ry)⟩) hs⟩

theorem PE.idxT {e x : Expr} {pos : Pos} {l : List D} {i : Nat} (he : PE c n env ρ H e (.tup l)) (hx : PE c n env ρ H x (.int (i : Int))) (hi : l[i]? = some d) (hb : i < 2 ^ 62) (hs : ∀ o i, subscripted x false o i = operate [o, i] (getItem o i) := by intro _ _; with_unfolding_all rfl) : PE c n env ρ H (.Subscript e x pos) d :=
  ⟨fun A ok s H₁ k I F Q E q => Sub_any (he.run A ok s H₁ k I F _ _ fun v H₂ h₂ t₂ S₂ R₂ => hx.run A ok _ H₂ (k.trans S₂.up) S₂.inv (F.step S₂) _ _ fun w H₃ h₃ t₃ S₃ R₃ => by
    have R₂' := R₂.mono S₃.up
    cases R₂' with
    | @tup ad ws m _ ha hr =>
      obtain ⟨y, hy, ry⟩ := hr.get' hi
      cases R₃ with
      | int _ t =>
        have ht : IsTup h₃ ad ws := ⟨_, S₃.inv.le _ _ ha, rfl, m, rfl⟩
        have hsz : ws.size = l.length := by have := hr.length; simpa using this
        have hil : i < l.length := by
          by_cases hh : i < l.length
          · exact hh
          · rw [List.getElem?_eq_none (by omega)] at hi; cases hi
        have hj : seqIndex? (i : Int) ws.size = some i := by
          unfold seqIndex?
          simp
          omega
        exact ⟨"tuple", "tuple.__getitem__", slot_tuple_getitem.lookup, ht.typeIs, getItem_tuple (s := { s with heap := h₃, toks := t₃ }) ht (by omega) (by omega) hj (x := y) (by simpa using hy) (q y H₃ h₃ t₃ (S₂.trans S₃ I) ry)⟩) hs⟩

theorem BinR.addL {l l' : List D} (hsz : l.length + l'.length ≤ sizeLine) : BinR c .Add (.list l) (.list l') (.list (l ++ l')) := ⟨fun A ok s H₁ u v I R₁ R₂ Q E q => by
  cases R₁ with
  | @list a ws m _ ha hr =>
    cases R₂ with
    | @list a' ws' m' _ ha' hr' =>
      have e1 := hr.length
      have e2 := hr'.length
      have g1 := I.le _ _ ha
      have g2 := I.le _ _ ha'
      have n2 := fresh_none s.heap
      have hsz' : ws.size + ws'.size ≤ sizeLine := by
        have : ws.toList.length = ws.size := by simp
        have : ws'.toList.length = ws'.size := by simp
        omega
      refine PySem.concat_meets (a := .ref a) (b := .ref a') ⟨_, g1, rfl⟩ ⟨_, g2, rfl⟩ noFill_list_add seq_list_add PySem.F.slot_list_add PySem.F.entry_list_add (PySem.F.args_list_add_2 _ _) (list_addW a a' ws ws' m m' none none #[] #[] hsz') ⟨g1, g2, ?_⟩
      have S₃ : HStep c H₁ s.heap (H₁.add s.heap.objs.size (lstO (ws ++ ws') 0)) (s.heap.push (lstO (ws ++ ws') 0)) :=
        HStep.add I (fun b o e => Heap.get?_push_of_some _ e) n2 (Heap.get?_push_size _ rfl)
      exact q _ _ _ _ S₃ (.list View.add_self (by rw [Array.toList_append]; exact (hr.append hr').mono S₃.up))⟩
end

/-! equality of data -/
mutual
def D.pd : D → PyData
  | .none => .none
  | .bool b => .bool b
  | .int i => .int i
  | .str s => .str s
  | .list l => .list (pds l)
  | .tup l => .tuple (pds l)
  | .raw _ => .none
def pds : List D → List PyData
  | [] => []
  | d :: r => d.pd :: pds r
end
mutual
def D.pln : D → Bool
  | .raw _ => false
  | .list l => plns l
  | .tup l => plns l
  | _ => true
def plns : List D → Bool
  | [] => true
  | d :: r => d.pln && plns r
end
mutual
theorem Rel.reads {H : View} {h : Heap} (k : ∀ b o, H b = some o → h.get? b = some o) : ∀ {v : Value} {d : D}, Rel H v d → d.pln = true → ∃ as, PySem.Reads h v d.pd as
  | _, _, .none, _ => ⟨_, .none⟩
  | _, _, .bool b, _ => ⟨_, .bool b⟩
  | _, _, .int i t, _ => ⟨_, .int i t⟩
  | _, _, .str x t, _ => ⟨_, .str x t⟩
  | _, _, .list h1 h2, hp => let ⟨as, r⟩ := RelL.reads k h2 hp; ⟨_, .list (k _ _ h1) rfl rfl r⟩
  | _, _, .tup h1 h2, hp => let ⟨as, r⟩ := RelL.reads k h2 hp; ⟨_, .tuple (k _ _ h1) rfl rfl r⟩
  | _, _, .raw v, hp => by cases hp
theorem RelL.reads {H : View} {h : Heap} (k : ∀ b o, H b = some o → h.get? b = some o) : ∀ {vs : List Value} {ds : List D}, RelL H vs ds → plns ds = true → ∃ as, PySem.ReadsAll h vs (pds ds) as
  | _, _, .nil, _ => ⟨_, .nil⟩
  | _, _, .cons r t, hp => by
    rw [plns, Bool.and_eq_true] at hp
    obtain ⟨as, h1⟩ := Rel.reads k r hp.1
    obtain ⟨bs, h2⟩ := RelL.reads k t hp.2
    exact ⟨_, .cons h1 h2⟩
end
section
variable {c : Cfg}
theorem CmpR.eqSame {l : List D} (hp : plns l = true) (hs : PySem.SeqAt.shaped (D.list l).pd = true) : CmpR c .Eq (.list l) (.list l) (.bool true) := ⟨fun A ok s H₁ u v I R₁ R₂ Q E q => by
  obtain ⟨as, r1⟩ := Rel.reads I.le R₁ hp
  obtain ⟨bs, r2⟩ := Rel.reads I.le R₂ hp
  refine eq_dataH r1 r2 hs hs (by have := ok.un; omega) ?_
  rw [PySem.SeqAt.eqv_refl _ (PySem.SeqAt.canLay_of_shaped hs)]
  exact q _ H₁ s.heap s.toks (.refl I) (.bool _)⟩
theorem CmpR.neSame {l : List D} (hp : plns l = true) (hs : PySem.SeqAt.shaped (D.list l).pd = true) : CmpR c .NotEq (.list l) (.list l) (.bool false) := ⟨fun A ok s H₁ u v I R₁ R₂ Q E q => by
  obtain ⟨as, r1⟩ := Rel.reads I.le R₁ hp
  obtain ⟨bs, r2⟩ := Rel.reads I.le R₂ hp
  refine ne_dataH r1 r2 hs hs (by have := ok.un; omega) ?_
  rw [PySem.SeqAt.eqv_refl _ (PySem.SeqAt.canLay_of_shaped hs)]
  exact q _ H₁ s.heap s.toks (.refl I) (.bool _)⟩
end
end Mine
namespace Mine
theorem callC {c : Cfg} {H : View} {f : Addr} {name qual : Str} {params : Arguments} {body : List Stmt} {scope : Scope} {dV kV doc pm cdv ct oc : Value} {an od : Option Addr} {osl : Array (Option Value)} {ps : List Str} {A : Around} {n : Nat} {s : Shared} {vs : List Value} {Q : Value → Shared → Prop} {E : Value → Shared → Prop} (ok : Ok A (n + 1))
    (I : Inv c H s.heap)
    (ho : c.K.lookup f = some ⟨oc, od, .func (fnOf name qual params body scope dV kV doc pm an cdv ct), osl⟩) (hcd : codeIn c.K cdv qual = true)
    (hbind : bindArgs (fnOf name qual params body scope dV kV doc pm an cdv ct) ⟨vs, []⟩ = pure (ps.zip vs))
    (hkind : ∀ x ∈ ps.zip vs, scope.names.lookup x.1 = some .local ∨ (scope.names.lookup x.1 = some .cell ∧ ((cellsFrom (s.heap.objs.size + 1) scope.names []).lookup x.1).isSome = true))
    (h : ∀ h₁ tk₁, h₁.Ns s.heap.objs.size (bindL (envOfC qual scope s.heap.objs.size f cdv).kindOf (ps.zip vs) fun _ => none) → (∀ x a, (cellsFrom (s.heap.objs.size + 1) scope.names []).lookup x = some a → h₁.IsCell a (bindC (envOfC qual scope s.heap.objs.size f cdv).kindOf (ps.zip vs) (fun _ => none) x)) →
      (∀ b o, s.heap.get? b = some o → h₁.get? b = some o) → (∀ x a, (x, a) ∈ (cellsFrom (s.heap.objs.size + 1) scope.names []) → s.heap.objs.size < a) →
      ∀ E', wpAny (model c.prog c.w) (A.deeper (envOfC qual scope s.heap.objs.size f cdv)) (execs body (envOfC qual scope s.heap.objs.size f cdv)) (fun fl s' => match fl with | .ret v => Q v s' | _ => False) E' { s with heap := h₁, toks := tk₁ })
    (hco : scope.isCoroutine = false := by rfl) (hgen : scope.isGenerator = false := by rfl) (hk : scope.kind = .function := by rfl) : wpAny (model c.prog c.w) A (call (.ref f) vs) Q E s := by
  refine wpAny_call (codeAny_call_cells (fd := fnOf name qual params body scope dV kV doc pm an cdv ct) (body := body) (binds := ps.zip vs) (by have := ok.dep; omega) (I.keep _ _ (c.k _ _ ho)) rfl (c.nolimit.keeps I.keep) (codeRec_of (fun a o e => I.keep _ _ (c.k a o e)) hcd) rfl hbind rfl hkind (fun s₁ x => ?_) hco hgen hk)
  obtain ⟨h₁, tk₁, rfl, hk₁⟩ := x.done
  have := h h₁ tk₁ x.toInCall.ns x.cell hk₁ x.above
  refine wpAny_mono (this _) (fun fl s' hf => ?_) fun _ _ e => e
  cases fl with
  | ret v => exact hf
  | _ => exact hf.elim

section
variable {c : Cfg}
theorem HStep.late {H H' : View} {h h' h'' : Heap} {L : Addr} (x : HStep c H h H' h') (hn : h.get? L = none) (hP : L ≠ c.P) (hH : H' L = none) (hs : Heap.SameBut L h' h'') : HStep c H h H' h'' :=
  ⟨x.up, x.fresh, fun b o hb e => (hs.2 b fun q => by rw [q, hn] at e; cases e).trans (x.ext b o hb e),
    ⟨fun b o e => (hs.2 b fun q => by rw [q, hH] at e; cases e).trans (x.inv.le b o e), x.inv.base, x.inv.noP, let ⟨ob, e1, e2⟩ := x.inv.tb; ⟨ob, (hs.2 _ (Ne.symm hP)).trans e1, e2⟩⟩⟩

end

theorem bindL_at (kindOf : Str → Option NameKind) {x : Str} (hk : kindOf x = some .local) : ∀ (bs : List (Str × Value)) (m : Str → Option Value), bindL kindOf bs m x = match bs.reverse.lookup x with | some v => some v | none => m x
  | [], m => rfl
  | (n, v) :: r, m => by
    show bindL kindOf r _ x = _
    rw [bindL_at kindOf hk r]
    rw [List.reverse_cons, List.lookup_append]
    cases e : r.reverse.lookup x with
    | some u => rfl
    | none =>
      simp only [Option.none_or]
      by_cases hx : x = n
      · subst hx; rw [if_pos hk]; simp
      · have : (x == n) = false := by simpa using hx
        simp only [List.lookup_cons, this, List.lookup_nil]
        split
        · exact if_neg hx
        · rfl
theorem bindC_at (kindOf : Str → Option NameKind) {x : Str} (hk : kindOf x ≠ some .local) : ∀ (bs : List (Str × Value)) (m : Str → Option Value), bindC kindOf bs m x = match bs.reverse.lookup x with | some v => some v | none => m x
  | [], m => rfl
  | (n, v) :: r, m => by
    show bindC kindOf r _ x = _
    rw [bindC_at kindOf hk r]
    rw [List.reverse_cons, List.lookup_append]
    cases e : r.reverse.lookup x with
    | some u => rfl
    | none =>
      simp only [Option.none_or]
      by_cases hx : x = n
      · subst hx; rw [if_neg hk]; simp
      · have : (x == n) = false := by simpa using hx
        simp only [List.lookup_cons, this, List.lookup_nil]
        split
        · rfl
        · exact if_neg hx

theorem Fun.enterC {c : Cfg} {n : Nat} {H : View} {d : D} {ds : List D} {f : Addr} {name qual : Str} {params : Arguments} {body : List Stmt} {scope : Scope} {dV kV doc pm cdv ct oc : Value} {an od : Option Addr} {osl : Array (Option Value)} {ps : List Str}
    (ho : c.K.lookup f = some ⟨oc, od, .func (fnOf name qual params body scope dV kV doc pm an cdv ct), osl⟩) (hcd : codeIn c.K cdv qual = true)
    (hbind : ∀ vs : List Value, vs.length = ds.length → bindArgs (fnOf name qual params body scope dV kV doc pm an cdv ct) ⟨vs, []⟩ = pure (ps.zip vs))
    (hkind : ∀ L, ∀ x ∈ ps, scope.names.lookup x = some .local ∨ (scope.names.lookup x = some .cell ∧ ((cellsFrom (L + 1) scope.names []).lookup x).isSome = true))
    (h : ∀ (vs : List Value) (H₁ : View) (L : Addr), VLe H H₁ → RelL H₁ vs ds → SR c n (envOfC qual scope L f cdv) (fun x => (ps.zip vs).reverse.lookup x) H₁ body d)
    (hco : scope.isCoroutine = false := by rfl) (hgen : scope.isGenerator = false := by rfl) (hk : scope.kind = .function := by rfl) : Fun c (n + 1) (.ref f) H ds d := by
  constructor
  intro A ok s H₁ vs k I R Q E q
  have hPs : s.heap.objs.size ≠ c.P := I.neP (fresh_none _)
  refine callC (n := n) ok I ho hcd (hbind vs R.length) (fun x hx => hkind _ _ (List.of_mem_zip hx).1) (fun h₁ tk₁ hns hcel hk₁ hab E' => ?_) hco hgen hk
  have I₁ : Inv c H₁ h₁ := (HStep.grow I hk₁).inv
  have new : ∀ x a, (cellsFrom (s.heap.objs.size + 1) scope.names []).lookup x = some a → s.heap.get? a = none := fun x a e =>
    Heap.get?_none_of_le (Nat.le_of_lt (hab x a (mem_of_lookup e)))
  have F₁ : Frm c (envOfC qual scope s.heap.objs.size f cdv) (fun x => (ps.zip vs).reverse.lookup x) h₁ := by
    refine ⟨hk, rfl, rfl, hPs, fun x a e => I.neP (new x a e), ⟨_, hns, fun x v e hkd => ?_⟩, fun x a e => ⟨_, hcel x a e⟩, fun x v e hkd => ?_⟩
    · rw [bindL_at _ hkd, e]
    · have h1 : x ∈ ps := by
        have := mem_of_lookup e
        exact (List.of_mem_zip (List.mem_reverse.mp this)).1
      rcases hkind s.heap.objs.size x h1 with q' | ⟨q1, q2⟩
      · have : (envOfC qual scope s.heap.objs.size f cdv).kindOf x = some .local := q'
        rw [this] at hkd
        rcases hkd with z | z <;> cases z
      · obtain ⟨a, ha⟩ := Option.isSome_iff_exists.mp q2
        refine ⟨a, ha, ?_⟩
        have := hcel x a ha
        have hne : (envOfC qual scope s.heap.objs.size f cdv).kindOf x ≠ some .local := by
          have : (envOfC qual scope s.heap.objs.size f cdv).kindOf x = some .cell := q1
          rw [this]; decide
        rw [bindC_at _ hne, e] at this
        exact this
  refine (h vs H₁ s.heap.objs.size k R).run (A.deeper _) ok.deeper _ H₁ (.refl _) I₁ F₁ (I.none_of (fresh_none _)) (fun x a e => I.none_of (new x a e)) _ _ ?_
  intro v H' h' tk' hup hfr hext I' R'
  refine q v H' h' tk' ⟨hup, fun b o e => ?_, fun b o hb e => ?_, I'⟩ R'
  · rcases hfr b o e with e' | e'
    · exact .inl e'
    · refine .inr ?_
      cases q' : s.heap.get? b with
      | none => rfl
      | some ob => rw [hk₁ b ob q'] at e'; cases e'
  · exact hext b o hb (Nat.ne_of_lt (Heap.lt_size e)) (fun x a e' => fun q' => by rw [q', new x a e'] at e; cases e) (hk₁ b o e)
end Mine
namespace Mine

def mus (env : Env) : List Addr := env.locals :: env.cells.filterMap fun p => env.cells.lookup p.1
theorem mus_iff {env : Env} {b : Addr} : b ∈ mus env ↔ b = env.locals ∨ ∃ x, env.cells.lookup x = some b := by
  unfold mus
  rw [List.mem_cons, List.mem_filterMap]
  constructor
  · rintro (h | ⟨p, _, h⟩)
    · exact .inl h
    · exact .inr ⟨p.1, h⟩
  · rintro (h | ⟨x, h⟩)
    · exact .inl h
    · exact .inr ⟨(x, b), mem_of_lookup h, h⟩

/-- where a frame stands, against where it began -/
structure Fs (c : Cfg) (env : Env) (H₀ : View) (h₀ : Heap) (ρ : Str → Option Value) (H : View) (h : Heap) : Prop where
  base : MStep c (mus env) H₀ h₀ H h
  frm : Frm c env ρ h
  off : ∀ b ∈ mus env, H b = none

section
variable {c : Cfg} {n : Nat} {env : Env} {ρ : Str → Option Value} {H H₀ H₁ H₂ : View} {h₀ h h' h₁ h₂ : Heap} {d : D}

theorem Frm.alive {h : Heap} (F : Frm c env ρ h) : ∀ b ∈ mus env, (h.get? b).isSome = true := fun b hb => by
  rcases mus_iff.mp hb with rfl | ⟨x, hx⟩
  · obtain ⟨o, ho⟩ := F.aliveL; rw [ho]; rfl
  · obtain ⟨_, o, ho, _⟩ := F.cell x b hx; rw [ho]; rfl
theorem Frm.extM {h h' : Heap} (F : Frm c env ρ h) (k : ∀ b ∈ mus env, ∀ o, h.get? b = some o → h'.get? b = some o) : Frm c env ρ h' :=
  ⟨F.kind, F.gl, F.bl, F.apL, F.apC, let ⟨m, h1, h2⟩ := F.loc; ⟨m, h1.at' fun o e => k _ (mus_iff.mpr (.inl rfl)) o e, h2⟩,
    fun x a e => let ⟨v, o, h2, h3⟩ := F.cell x a e; ⟨v, o, k a (mus_iff.mpr (.inr ⟨x, e⟩)) o h2, h3⟩,
    fun x v e q => let ⟨a, h1, o, h2, h3⟩ := F.cel x v e q; ⟨a, h1, o, k a (mus_iff.mpr (.inr ⟨x, h1⟩)) o h2, h3⟩⟩
theorem Fs.init (I : Inv c H h) (F : Frm c env ρ h) (oL : H env.locals = none) (oC : ∀ x a, env.cells.lookup x = some a → H a = none) : Fs c env H h ρ H h :=
  ⟨.refl I, F, fun b hb => (mus_iff.mp hb).elim (fun e => e ▸ oL) fun ⟨x, hx⟩ => oC x b hx⟩
theorem Fs.step (σ : Fs c env H₀ h₀ ρ H h) (S : HStep c H h H₁ h₁) : Fs c env H₀ h₀ ρ H₁ h₁ :=
  ⟨σ.base.trans S.toM, σ.frm.step S, fun b hb => by
    obtain ⟨o, ho⟩ := Option.isSome_iff_exists.mp (σ.frm.alive b hb)
    exact S.miss ho (σ.off b hb)⟩
theorem Fs.re (σ : Fs c env H₀ h₀ ρ H h) : Fs c env H h ρ H h := ⟨.refl σ.base.inv, σ.frm, σ.off⟩
theorem Fs.trans (σ : Fs c env H₀ h₀ ρ H h) {ρ' : Str → Option Value} (τ : Fs c env H h ρ' H₁ h₁) : Fs c env H₀ h₀ ρ' H₁ h₁ := ⟨σ.base.trans τ.base, τ.frm, τ.off⟩
theorem Fs.weak (σ : Fs c env H₀ h₀ ρ H h) {ρ' : Str → Option Value} (k : ∀ x v, ρ' x = some v → ρ x = some v) : Fs c env H₀ h₀ ρ' H h := ⟨σ.base, σ.frm.weak k, σ.off⟩

/-- cells that are stored apart -/
def CellsApart (env : Env) : Prop := ∀ x y a, env.cells.lookup x = some a → env.cells.lookup y = some a → x = y

theorem Fs.store (σ : Fs c env H₀ h₀ ρ H h) {A : Around} {s : Shared} {E : Value → Shared → Prop} {Q : Unit → Shared → Prop} {x : Str} {v : Value} (hs : s.heap = h) (hx : env.kindOf x = some .local ∨ (env.kindOf x = some .cell ∧ ∃ a, env.cells.lookup x = some a)) (ap : CellsApart env)
    (q : ∀ h' tk', Fs c env H₀ h₀ (upd ρ x v) H h' → Q () { s with heap := h', toks := tk' }) : wpAny (model c.prog c.w) A (storeName env x v) Q E s := by
  subst hs
  rcases hx with hx | ⟨hx, a, ha⟩
  · obtain ⟨m, hm1, hm2⟩ := σ.frm.loc
    refine wpAny_storeName_local hx hm1 (fun h₃ hn₃ hs₃ => q h₃ _ ?_) (by rw [σ.frm.kind]; rfl)
    have hL : env.locals ∈ mus env := mus_iff.mpr (.inl rfl)
    exact ⟨σ.base.trans (MStep.at σ.base.inv hL (σ.off _ hL) σ.frm.apL hs₃ (by obtain ⟨o, _, _, ho, _⟩ := hn₃; rw [ho]; rfl)), σ.frm.store hm2 hx hn₃ hs₃, σ.off⟩
  · obtain ⟨u, hu⟩ := σ.frm.cell x a ha
    refine wpAny_storeName_cell σ.frm.kind hx ha hu fun h₃ hc₃ hs₃ => q h₃ _ ?_
    have hA : a ∈ mus env := mus_iff.mpr (.inr ⟨x, ha⟩)
    have haL : a ≠ env.locals := σ.frm.cellNe ha
    refine ⟨σ.base.trans (MStep.at σ.base.inv hA (σ.off _ hA) (σ.frm.apC x a ha) hs₃ (by obtain ⟨o, ho, _⟩ := hc₃; rw [ho]; rfl)), ?_, σ.off⟩
    refine ⟨σ.frm.kind, σ.frm.gl, σ.frm.bl, σ.frm.apL, σ.frm.apC, ?_, fun y b e => ?_, fun y w e hk => ?_⟩
    · obtain ⟨m, hm1, hm2⟩ := σ.frm.loc
      refine ⟨m, hm1.sameBut hs₃ (Ne.symm haL), fun y w e hk => ?_⟩
      unfold upd at e
      by_cases hy : y = x
      · subst hy; rw [hx] at hk; cases hk
      · rw [if_neg hy] at e; exact hm2 y w e hk
    · by_cases hb : b = a
      · exact ⟨_, hb ▸ hc₃⟩
      · obtain ⟨w, hw⟩ := σ.frm.cell y b e
        exact ⟨w, hw.sameBut hs₃ hb⟩
    · unfold upd at e
      by_cases hy : y = x
      · rw [if_pos hy] at e
        cases e
        exact ⟨a, hy ▸ ha, hc₃⟩
      · rw [if_neg hy] at e
        obtain ⟨b, hb, hw⟩ := σ.frm.cel y w e hk
        refine ⟨b, hb, hw.sameBut hs₃ fun q => hy (ap y x a (q ▸ hb) ha)⟩

/-- going on with a list of statements that returns -/
theorem Fs.sr (σ : Fs c env H₀ h₀ ρ H h) {st : List Stmt} (x : SR c n env ρ H st d) {A : Around} (ok : Ok A n) {s : Shared} (hs : s.heap = h) {Q : Flow → Shared → Prop} {E : Value → Shared → Prop}
    (q : ∀ v H' h' tk', VLe H₀ H' → (∀ b o, H' b = some o → H₀ b = some o ∨ h₀.get? b = none) → (∀ b o, b ≠ c.P → b ≠ env.locals → (∀ x a, env.cells.lookup x = some a → b ≠ a) → h₀.get? b = some o → h'.get? b = some o) → Inv c H' h' → Rel H' v d →
      Q (.ret v) { s with heap := h', toks := tk' }) : wpAny (model c.prog c.w) A (execs st env) Q E s := by
  subst hs
  refine x.run A ok s H (.refl _) σ.base.inv σ.frm (σ.off _ (mus_iff.mpr (.inl rfl))) (fun y a e => σ.off _ (mus_iff.mpr (.inr ⟨y, e⟩))) Q E fun v H' h' tk' hu hf he hI hR => ?_
  refine q v H' h' tk' (σ.base.up.trans hu) (fun b o e => ?_) (fun b o hb hl hc e => ?_) hI hR
  · rcases hf b o e with e' | e'
    · exact σ.base.fresh b o e'
    · refine .inr ?_
      cases q' : h₀.get? b with
      | none => rfl
      | some ob => have := σ.base.lives (b := b) (by rw [q']; rfl); rw [e'] at this; cases this
  · have hm : b ∉ mus env := fun hm => (mus_iff.mp hm).elim hl fun ⟨x, hx⟩ => hc x b hx rfl
    exact he b o hb hl hc (σ.base.ext b o hb hm e)
theorem SR.of {st : List Stmt} (k : ∀ (A : Around), Ok A n → ∀ (s : Shared) (H₁ : View), VLe H H₁ → Fs c env H₁ s.heap ρ H₁ s.heap → ∀ (Q : Flow → Shared → Prop) (E : Value → Shared → Prop),
    (∀ v H' h' tk', VLe H₁ H' → (∀ b o, H' b = some o → H₁ b = some o ∨ s.heap.get? b = none) → (∀ b o, b ≠ c.P → b ≠ env.locals → (∀ x a, env.cells.lookup x = some a → b ≠ a) → s.heap.get? b = some o → h'.get? b = some o) → Inv c H' h' → Rel H' v d →
      Q (.ret v) { s with heap := h', toks := tk' }) → wpAny (model c.prog c.w) A (execs st env) Q E s) : SR c n env ρ H st d :=
  ⟨fun A ok s H₁ hk I F oL oC Q E q => k A ok s H₁ hk (.init I F oL oC) Q E q⟩

/-- stores in the order of a list -/
def updL (ρ : Str → Option Value) : List (Str × Value) → Str → Option Value
  | [] => ρ
  | (x, v) :: r => updL (upd ρ x v) r
def Storable (env : Env) (x : Str) : Prop := env.kindOf x = some .local ∨ (env.kindOf x = some .cell ∧ ∃ a, env.cells.lookup x = some a)

theorem stores_run {A : Around} {E : Value → Shared → Prop} (ap : CellsApart env) : ∀ (xs : List (Str × Value)) (ρ : Str → Option Value) (h : Heap) (s : Shared) (Q : Unit → Shared → Prop), Fs c env H₀ h₀ ρ H h → s.heap = h → (∀ x ∈ xs, Storable env x.1) →
    (∀ h' tk', Fs c env H₀ h₀ (updL ρ xs) H h' → Q () { s with heap := h', toks := tk' }) → wpAny (model c.prog c.w) A (assignInOrder (xs.map fun x => bindName env x.1) (xs.map (·.2))) Q E s
  | [], ρ, h, s, Q, σ, hs, _, q => by
    subst hs
    exact wpAny_pure (q s.heap s.toks σ)
  | (x, v) :: r, ρ, h, s, Q, σ, hs, hx, q => by
    show wpAny _ A (do holding (r.map (·.2)) (bindName env x v); assignInOrder (r.map fun x => bindName env x.1) (r.map (·.2))) Q E s
    refine wpAny_bind (wpAny_holding (wpAny_bindName (σ.store hs (hx (x, v) (by simp)) ap fun h' tk' σ' => ?_)))
    exact stores_run ap r (upd ρ x v) h' { s with heap := h', toks := tk' } Q σ' rfl (fun y hy => hx y (List.mem_cons_of_mem _ hy)) fun h'' tk'' σ'' => q h'' tk'' σ''
end
end Mine
namespace Mine
section
variable {c : Cfg} {n : Nat} {env : Env} {ρ : Str → Option Value} {H H₀ H₁ H₂ : View} {h₀ h h' h₁ h₂ : Heap} {d : D}

def updL3 (ρ : Str → Option Value) : List (Str × Pos × Value) → Str → Option Value
  | [] => ρ
  | (x, _, v) :: r => updL3 (upd ρ x v) r
theorem assigns_run {A : Around} {E : Value → Shared → Prop} (ap : CellsApart env) : ∀ (xs : List (Str × Pos × Value)) (ρ : Str → Option Value) (h : Heap) (s : Shared) (Q : Unit → Shared → Prop), Fs c env H₀ h₀ ρ H h → s.heap = h → (∀ x ∈ xs, Storable env x.1) →
    (∀ h' tk', Fs c env H₀ h₀ (updL3 ρ xs) H h' → Q () { s with heap := h', toks := tk' }) → wpAny (model c.prog c.w) A (assignInOrder (xs.map fun x => assign (.Name x.1 x.2.1) env) (xs.map (·.2.2))) Q E s
  | [], ρ, h, s, Q, σ, hs, _, q => by
    subst hs
    exact wpAny_pure (q s.heap s.toks σ)
  | (x, p, v) :: r, ρ, h, s, Q, σ, hs, hx, q => by
    show wpAny _ A (do holding (r.map (·.2.2)) (assign (.Name x p) env v); assignInOrder (r.map fun x => assign (.Name x.1 x.2.1) env) (r.map (·.2.2))) Q E s
    refine wpAny_bind (wpAny_holding (wpAny_assign_Name (σ.store hs (hx (x, p, v) (by simp)) ap fun h' tk' σ' => ?_)))
    exact assigns_run ap r (upd ρ x v) h' { s with heap := h', toks := tk' } Q σ' rfl (fun y hy => hx y (List.mem_cons_of_mem _ hy)) fun h'' tk'' σ'' => q h'' tk'' σ''

theorem SR.unpack3 {x1 x2 x3 : Str} {p1 p2 p3 tp pos : Pos} {tk : Nat} {e : Expr} {rest : List Stmt} {d1 d2 d3 : D} (ap : CellsApart env) (h1 : Storable env x1) (h2 : Storable env x2) (h3 : Storable env x3)
    (he : PE c n env ρ H e (.tup [d1, d2, d3]))
    (k : ∀ v1 v2 v3 H', VLe H H' → Rel H' v1 d1 → Rel H' v2 d2 → Rel H' v3 d3 → SR c n env (upd (upd (upd ρ x1 v1) x2 v2) x3 v3) H' rest d)
    (hs : swapsWithSole [.Tuple [.Name x1 p1, .Name x2 p2, .Name x3 p3] tk tp] e pos.line env = pure false := by rfl)
    (hw : swappedStores [.Tuple [.Name x1 p1, .Name x2 p2, .Name x3 p3] tk tp] e env = pure none := by rfl) :
    SR c n env ρ H (.Assign [.Tuple [.Name x1 p1, .Name x2 p2, .Name x3 p3] tk tp] e pos :: rest) d := SR.of fun A ok s H₁ hk σ Q E q => by
  refine wpAny_execs_cons (PyProof.Rows.Assign_Tuple (he.run A ok s H₁ hk σ.base.inv σ.frm _ _ fun v H₂ h₂ t₂ S₂ R₂ => ?_) hs hw)
  have σ₂ := σ.step S₂
  cases R₂ with
  | @tup a ws m _ ha hr =>
    have hi := σ₂.base.inv.le _ _ ha
    have hw3 : ∃ v1 v2 v3, ws.toList = [v1, v2, v3] ∧ Rel H₂ v1 d1 ∧ Rel H₂ v2 d2 ∧ Rel H₂ v3 d3 := by
      generalize ws.toList = l at hr
      cases hr with
      | cons r1 t1 => cases t1 with
        | cons r2 t2 => cases t2 with
          | cons r3 t3 => cases t3; exact ⟨_, _, _, rfl, r1, r2, r3⟩
    obtain ⟨v1, v2, v3, hl, r1, r2, r3⟩ := hw3
    refine PyProof.Rows.assign_Tuple_tuple (s := { s with heap := h₂, toks := t₂ }) ok.hh (items := ws) ⟨_, hi, rfl, m, rfl⟩ ?_ rfl fun h₃ hx₃ => ?_
    · have := congrArg List.length hl
      simp at this
      rw [this]; rfl
    · have S₃ : HStep c H₂ h₂ H₂ h₃ := .grow S₂.inv fun b o e => hx₃ b o (fun q => by rw [q, fresh_none] at e; cases e) e
      rw [hl]
      refine assigns_run ap [(x1, p1, v1), (x2, p2, v2), (x3, p3, v3)] ρ h₃ { s with heap := h₃, toks := t₂ } _ (σ₂.step S₃) rfl ?_ fun h₄ t₄ σ₄ => ?_
      · intro x hx
        simp at hx
        rcases hx with rfl | rfl | rfl
        · exact h1
        · exact h2
        · exact h3
      · exact σ₄.sr (k v1 v2 v3 H₂ (hk.trans S₂.up) r1 r2 r3) ok (s := { s with heap := h₄, toks := t₄ }) rfl q

theorem SR.unpack2 {x1 x2 : Str} {p1 p2 tp pos : Pos} {tk : Nat} {e : Expr} {rest : List Stmt} {d1 d2 : D} (ap : CellsApart env) (h1 : Storable env x1) (h2 : Storable env x2)
    (he : PE c n env ρ H e (.tup [d1, d2]))
    (k : ∀ v1 v2 H', VLe H H' → Rel H' v1 d1 → Rel H' v2 d2 → SR c n env (upd (upd ρ x1 v1) x2 v2) H' rest d)
    (hs : swapsWithSole [.Tuple [.Name x1 p1, .Name x2 p2] tk tp] e pos.line env = pure false := by rfl)
    (hw : swappedStores [.Tuple [.Name x1 p1, .Name x2 p2] tk tp] e env = pure none := by rfl) :
    SR c n env ρ H (.Assign [.Tuple [.Name x1 p1, .Name x2 p2] tk tp] e pos :: rest) d := SR.of fun A ok s H₁ hk σ Q E q => by
  refine wpAny_execs_cons (PyProof.Rows.Assign_Tuple (he.run A ok s H₁ hk σ.base.inv σ.frm _ _ fun v H₂ h₂ t₂ S₂ R₂ => ?_) hs hw)
  have σ₂ := σ.step S₂
  cases R₂ with
  | @tup a ws m _ ha hr =>
    have hi := σ₂.base.inv.le _ _ ha
    have hw3 : ∃ v1 v2, ws.toList = [v1, v2] ∧ Rel H₂ v1 d1 ∧ Rel H₂ v2 d2 := by
      generalize ws.toList = l at hr
      cases hr with
      | cons r1 t1 => cases t1 with
        | cons r2 t2 => cases t2; exact ⟨_, _, rfl, r1, r2⟩
    obtain ⟨v1, v2, hl, r1, r2⟩ := hw3
    refine PyProof.Rows.assign_Tuple_tuple (s := { s with heap := h₂, toks := t₂ }) ok.hh (items := ws) ⟨_, hi, rfl, m, rfl⟩ ?_ rfl fun h₃ hx₃ => ?_
    · have := congrArg List.length hl
      simp at this
      rw [this]; rfl
    · have S₃ : HStep c H₂ h₂ H₂ h₃ := .grow S₂.inv fun b o e => hx₃ b o (fun q => by rw [q, fresh_none] at e; cases e) e
      rw [hl]
      refine assigns_run ap [(x1, p1, v1), (x2, p2, v2)] ρ h₃ { s with heap := h₃, toks := t₂ } _ (σ₂.step S₃) rfl ?_ fun h₄ t₄ σ₄ => ?_
      · intro x hx
        simp at hx
        rcases hx with rfl | rfl
        · exact h1
        · exact h2
      · exact σ₄.sr (k v1 v2 H₂ (hk.trans S₂.up) r1 r2) ok (s := { s with heap := h₄, toks := t₄ }) rfl q

/-- two locals, stored the other way round -/
theorem SR.unpack2s {x1 x2 : Str} {p1 p2 tp pos : Pos} {tk : Nat} {e : Expr} {rest : List Stmt} {d1 d2 : D} (ap : CellsApart env) (h1 : Storable env x1) (h2 : Storable env x2)
    (he : PE c n env ρ H e (.tup [d1, d2]))
    (k : ∀ v1 v2 H', VLe H H' → Rel H' v1 d1 → Rel H' v2 d2 → SR c n env (upd (upd ρ x2 v2) x1 v1) H' rest d)
    (hs : swapsWithSole [.Tuple [.Name x1 p1, .Name x2 p2] tk tp] e pos.line env = pure false := by rfl)
    (hw : swappedStores [.Tuple [.Name x1 p1, .Name x2 p2] tk tp] e env = pure (some [x1, x2]) := by rfl) :
    SR c n env ρ H (.Assign [.Tuple [.Name x1 p1, .Name x2 p2] tk tp] e pos :: rest) d := SR.of fun A ok s H₁ hk σ Q E q => by
  refine wpAny_execs_cons (PyProof.Rows.Assign_Tuple_swapped (he.run A ok s H₁ hk σ.base.inv σ.frm _ _ fun v H₂ h₂ t₂ S₂ R₂ => ?_) hs hw)
  have σ₂ := σ.step S₂
  cases R₂ with
  | @tup a ws m _ ha hr =>
    have hi := σ₂.base.inv.le _ _ ha
    have hw3 : ∃ v1 v2, ws.toList = [v1, v2] ∧ Rel H₂ v1 d1 ∧ Rel H₂ v2 d2 := by
      generalize ws.toList = l at hr
      cases hr with
      | cons r1 t1 => cases t1 with
        | cons r2 t2 => cases t2; exact ⟨_, _, rfl, r1, r2⟩
    obtain ⟨v1, v2, hl, r1, r2⟩ := hw3
    have hsz : ws.size = [x1, x2].length := by
      have := congrArg List.length hl
      simpa using this
    rw [← hsz]
    refine PyProof.Rows.unpackItems_tuple (s := { s with heap := h₂, toks := t₂ }) ok.hh (items := ws) ⟨_, hi, rfl, m, rfl⟩ fun h₃ hx₃ => ?_
    have S₃ : HStep c H₂ h₂ H₂ h₃ := .grow S₂.inv fun b o e => hx₃ b o (fun q => by rw [q, fresh_none] at e; cases e) e
    rw [hl]
    refine stores_run ap [(x2, v2), (x1, v1)] ρ h₃ { s with heap := h₃, toks := t₂ } _ (σ₂.step S₃) rfl ?_ fun h₄ t₄ σ₄ => ?_
    · intro x hx
      simp at hx
      rcases hx with rfl | rfl
      · exact h2
      · exact h1
    · exact σ₄.sr (k v1 v2 H₂ (hk.trans S₂.up) r1 r2) ok (s := { s with heap := h₄, toks := t₄ }) rfl q

/-- statements that give one name a new datum -/
structure ST (c : Cfg) (n : Nat) (env : Env) (ρ : Str → Option Value) (H : View) (st : List Stmt) (y : Str) (d : D) : Prop where
  run : ∀ (A : Around), Ok A n → ∀ (s : Shared) (H₁ : View), VLe H H₁ → Fs c env H₁ s.heap ρ H₁ s.heap → ∀ (Q : Flow → Shared → Prop) (E : Value → Shared → Prop),
    (∀ u H' h' tk', Fs c env H₁ s.heap (upd ρ y u) H' h' → VLe H₁ H' → Rel H' u d → Q .next { s with heap := h', toks := tk' }) → wpAny (model c.prog c.w) A (execs st env) Q E s

theorem ST.set {y : Str} {py pos : Pos} {e : Expr} (ap : CellsApart env) (hy : Storable env y) (he : PE c n env ρ H e d) (hs : swapsWith e (some (.Name y py)) pos.line env = pure false := by rfl) : ST c n env ρ H [.Assign [.Name y py] e pos] y d :=
  ⟨fun A ok s H₁ hk σ Q E q => wpAny_execs_cons (wpAny_Assign_Name (he.run A ok s H₁ hk σ.base.inv σ.frm _ _ fun v H₂ h₂ t₂ S₂ R₂ => by
    refine (σ.step S₂).store (s := { s with heap := h₂, toks := t₂ }) rfl hy ap fun h₃ t₃ σ₃ => ?_
    exact wpAny_execs_nil (q v H₂ h₃ t₃ σ₃ S₂.up R₂)) hs)⟩

theorem ST.ifSet {y : Str} {u : Value} {test : Expr} {body : List Stmt} {pos : Pos} {b : Bool} (hρ : ρ y = some u) (ht : PT c n env ρ H test b) (hb : b = true → ST c n env ρ H body y d) (ho : b = false → Rel H u d) :
    ST c n env ρ H [.If test body [] pos] y d := ⟨fun A ok s H₁ hk σ Q E q => wpAny_execs_cons (wpAny_If (ht.run A ok s H₁ hk σ.base.inv σ.frm _ _ fun H₂ h₂ t₂ S₂ => by
    have σ₂ := σ.step S₂
    cases b with
    | true =>
      simp only [if_true]
      refine wpAny_mono ((hb rfl).run A ok { s with heap := h₂, toks := t₂ } H₂ (hk.trans S₂.up) σ₂.re (fun f s' => f = .next ∧ wpAny (model c.prog c.w) A (execs [] env) Q E s') E fun u' H' h' tk' σ' hu r => ⟨rfl, wpAny_execs_nil (q u' H' h' tk' (σ₂.trans σ') (S₂.up.trans hu) r)⟩) (fun f s' hf => ?_) fun _ _ e => e
      obtain ⟨rfl, hf⟩ := hf
      exact hf
    | false =>
      simp only [Bool.false_eq_true, if_false]
      refine wpAny_execs_nil (wpAny_execs_nil (q u H₂ h₂ t₂ (σ₂.weak fun z w e => ?_) S₂.up ((ho rfl).mono (hk.trans S₂.up))))
      unfold upd at e
      by_cases hz : z = y
      · rw [if_pos hz] at e; cases e; rw [hz]; exact hρ
      · rw [if_neg hz] at e; exact e))⟩

/-- a loop that gives one name a new datum at every turn -/
theorem SR.forAcc {x y : Str} {px pos : Pos} {iter : Expr} {body rest : List Stmt} {ds : List D} {acc : Nat → D} {u₀ : Value} (ap : CellsApart env) (hx : Storable env x) (hxy : y ≠ x) (hρx : ρ x = none)
    (it : IT c n env ρ H iter ds) (h0 : ρ y = some u₀) (r0 : Rel H u₀ (acc 0))
    (hb : ∀ i d v u H', ds[i]? = some d → VLe H H' → Rel H' v d → Rel H' u (acc i) → ST c n env (upd (upd ρ y u) x v) H' body y (acc (i + 1)))
    (k : ∀ u H', VLe H H' → Rel H' u (acc ds.length) → SR c n env (upd ρ y u) H' rest d) (hs : ∀ x, foldedSetIterable iter env x = pure x := by intro _; rfl) :
    SR c n env ρ H (.For (.Name x px) iter body [] pos :: rest) d := SR.of fun A ok s H₁ hk σ Q E q => by
  refine wpAny_execs_cons (wpAny_For (it.run A ok s H₁ hk σ.base.inv σ.frm _ _ fun I fp wr P St H₂ h₂ t₂ S₂ W st hfp hwr stl hP hnw => ?_) hs)
  have σ₂ := σ.step S₂
  have hwP : ∀ b ∈ wr, b ≠ c.P := fun b hb => (hfp b (W.sub b hb)).2
  have hfm : ∀ b ∈ mus env, b ∉ wr := fun b hb hw => by
    have := σ.frm.alive b hb
    rw [(hwr b hw).2] at this; cases this
  have hfM : ∀ b ∈ wr, b ∉ mus env := fun b hb hm => hfm b hm hb
  refine codeAny_forLoop (fun kk s' => ∃ h' tk H' i u, s' = { s with heap := h', toks := tk } ∧ Fs c env H₁ s.heap (upd ρ y u) H' h' ∧ VLe H₂ H' ∧ (∀ b ∈ wr, H' b = none) ∧ St i h' ∧ i ≤ ds.length ∧ Rel H' u (acc i) ∧ kk = ds.length + 1 - i) ?_ (ds.length + 1)
    ⟨h₂, t₂, H₂, 0, u₀, rfl, σ₂.weak fun z w e => ?_, .refl _, fun b hb => (hwr b hb).1, st, Nat.zero_le _, r0.mono (hk.trans S₂.up), rfl⟩
  · rintro kk s' ⟨h', tk, H', i, u, rfl, τ, hle, hoff, st', hi, ru, rfl⟩
    have next : ∀ {h₁ : Heap}, (∀ b o, b ∉ wr → h'.get? b = some o → h₁.get? b = some o) → Inv c H' h₁ := fun k₁ =>
      ⟨fun b o e => k₁ b o (fun q => by rw [hoff b q] at e; cases e) (τ.base.inv.le b o e), τ.base.inv.base, τ.base.inv.noP, let ⟨ob, e1, e2⟩ := τ.base.inv.tb; ⟨ob, k₁ _ _ (fun q => hwP _ q rfl) e1, e2⟩⟩
    by_cases hlt : i < ds.length
    · refine W.item i _ _ _ hlt st' fun v h₃ t₃ hPv st₃ hk₃ => ?_
      obtain ⟨d', hd', rv⟩ := hP i v hlt hPv
      have hM : MStep c wr H' h' H' h₃ := ⟨.refl _, fun _ _ e => .inl e, fun b o _ hm e => hk₃ b o hm e, fun b hb _ => stl _ _ st₃ b hb, next hk₃⟩
      have τ₃ : Fs c env H₁ s.heap (upd ρ y u) H' h₃ := by
        refine ⟨?_, τ.frm.extM fun b hb o e => hk₃ b o (hfm b hb) e, τ.off⟩
        refine ⟨τ.base.up, fun b o e => τ.base.fresh b o e, fun b o hb hm e => hk₃ b o (fun q => by rw [(hwr b q).2] at e; cases e) (τ.base.ext b o hb hm e), fun b hb e => ?_, next hk₃⟩
        obtain ⟨o, ho⟩ := Option.isSome_iff_exists.mp (τ.frm.alive b hb)
        rw [hk₃ b o (hfm b hb) ho]; rfl
      refine wpAny_assign_Name (τ₃.re.store (s := { s with heap := h₃, toks := t₃ }) rfl hx ap fun h₄ t₄ τ4s => ?_)
      have τ₄ := τ₃.trans τ4s
      have up := hk.trans (S₂.up.trans hle)
      have τ4r := τ₄.re
      refine (hb i d' v u H' hd' up (rv.mono hle) ru).run A ok { s with heap := h₄, toks := t₄ } H' (.refl _) τ4r _ _ fun u' H'' h'' t'' σ' hu r => ?_
      -- a step from h₃ to h'' that leaves what the loop walks
      have hst : St (i + 1) h'' := by
        refine W.frame _ _ _ st₃ fun b hb o e => ?_
        have hbm : b ∉ mus env := fun hm => by
          rcases hnw b hb with ⟨o', ho'⟩ | hn
          · have := hle b o' ho'
            rw [τ.off b hm] at this; cases this
          · have := σ.frm.alive b hm
            rw [hn] at this; cases this
        have hbP := (hfp b hb).2
        exact σ'.base.ext b o hbP hbm (τ4s.base.ext b o hbP hbm e)
      refine ⟨ds.length + 1 - (i + 1), by omega, h'', t'', H'', i + 1, u', rfl, (τ₄.trans σ').weak fun z w e => ?_, hle.trans hu, fun b hb => ?_, hst, hlt, r, rfl⟩
      · unfold upd at e ⊢
        by_cases hz : z = y
        · rw [if_pos hz] at e ⊢; exact e
        · rw [if_neg hz] at e ⊢
          have hzx : z ≠ x := fun q => by rw [q, hρx] at e; cases e
          rw [if_neg hzx, if_neg hz]; exact e
      · have al := stl _ _ st₃ b hb
        exact σ'.base.miss (τ4s.base.lives al) (hoff b hb)
    · have hin : i = ds.length := by omega
      subst hin
      refine W.done _ _ _ st' fun h₃ t₃ hk₃ => ?_
      refine wpAny_execs_nil ?_
      have τ₃ : Fs c env H₁ s.heap (upd ρ y u) H' h₃ := by
        refine ⟨?_, τ.frm.extM fun b hb o e => hk₃ b o (hfm b hb) e, τ.off⟩
        refine ⟨τ.base.up, fun b o e => τ.base.fresh b o e, fun b o hb hm e => hk₃ b o (fun q => by rw [(hwr b q).2] at e; cases e) (τ.base.ext b o hb hm e), fun b hb e => ?_, next hk₃⟩
        obtain ⟨o, ho⟩ := Option.isSome_iff_exists.mp (τ.frm.alive b hb)
        rw [hk₃ b o (hfm b hb) ho]; rfl
      exact τ₃.sr (k u H' (hk.trans (S₂.up.trans hle)) ru) ok (s := { s with heap := h₃, toks := t₃ }) rfl q
  · unfold upd at e
    by_cases hz : z = y
    · rw [if_pos hz] at e; cases e; rw [hz]; exact h0
    · rw [if_neg hz] at e; exact e
end
end Mine
namespace Mine
section
variable {prog : Program} {w : World} {A : Around} {E : Value → Shared → Prop} {R : Result → Shared → Prop} {s : Shared}

abbrev comp2 (elt : Expr) (x y : Str) (px py : Pos) (i0 i1 : Expr) (scope : Scope) (pos : Pos) : Expr := .ListComp elt [⟨.Name x px, i0, [], 0⟩, ⟨.Name y py, i1, [], 0⟩] scope pos

theorem compTurn_two (elt : Expr) (x y : Str) (px py : Pos) (i0 i1 : Expr) (scope : Scope) (pos : Pos) (it acc : Value) (env : Env) :
    compTurn (comp2 elt x y px py i0 i1 scope pos) 0 it acc env = (standAt i0.pos >>= fun _ => pyNext it >>= fun r => match r with
      | none => pure (.done .next)
      | some v => letOwnedTupleGo (.Name x px) it v >>= fun _ => assign (.Name x px) env v >>= fun _ =>
        eval i1 env >>= fun z => standAt i1.pos >>= fun _ => foldedSetIterable i1 env z >>= fun z => holding [z] (pyIter z) >>= fun it' => runOwn (.compStart (comp2 elt x y px py i0 i1 scope pos) 1 it' acc env) env >>= fun _ =>
          again (.compLoop (comp2 elt x y px py i0 i1 scope pos) 0 it acc env)) := by rfl
theorem compTurn_inner (elt : Expr) (x y : Str) (px py : Pos) (i0 i1 : Expr) (scope : Scope) (pos : Pos) (it acc : Value) (env : Env) :
    compTurn (comp2 elt x y px py i0 i1 scope pos) 1 it acc env = (standAt i1.pos >>= fun _ => pyNext it >>= fun r => match r with
      | none => pure (.done .next)
      | some v => letOwnedTupleGo (.Name y py) it v >>= fun _ => assign (.Name y py) env v >>= fun _ =>
        (eval elt env >>= fun z => call (.builtin "list.append") [acc, z] >>= fun _ => pure ()) >>= fun _ =>
          again (.compLoop (comp2 elt x y px py i0 i1 scope pos) 1 it acc env)) := by rfl

theorem codeAny_start_inner {elt : Expr} {x y : Str} {px py : Pos} {i0 i1 : Expr} {scope : Scope} {pos : Pos} {it acc : Value} {env : Env}
    (h0 : codeAny (model prog w) A (.compLoop (comp2 elt x y px py i0 i1 scope pos) 1 it acc env) R s)
    (h : wpAny (model prog w) A (pyIter it) (fun it' s' => codeAny (model prog w) A (.compLoop (comp2 elt x y px py i0 i1 scope pos) 1 it' acc env) R s') (notedBy (model prog w) A env fun x s' => R (.error x) s') s) :
    codeAny (model prog w) A (.compStart (comp2 elt x y px py i0 i1 scope pos) 1 it acc env) R s := by
  refine codeAny_of_tree ?_
  show wpAny _ A ((compStart (comp2 elt x y px py i0 i1 scope pos) 1 it acc env).onRaise (fun x => do noteFrame x env; standAt theWindowsPlace)) _ _ s
  refine wpAny_notedAt ?_
  unfold compStart
  show wpAny _ A (ask >>= _) _ _ s
  refine wpAny_bind (wpAny_askSetting (wpAny_ite ?_))
  split
  · first
      | exact wpAny_bind (wpAny_pure (wpAny_pure (And.intro rfl h0)))
      | exact wpAny_pure (And.intro rfl h0)
  · first
      | exact wpAny_bind (wpAny_rule (wpAny_bind (wpAny_standAt (wpAny_bind (wpAny_mono h (fun it' s' h' => wpAny_pure (And.intro rfl h')) fun _ _ x => x)))))
      | (refine wpAny_bind (wpAny_rule ?_); show wpAny _ _ (standAt i1.pos >>= _) _ _ s; exact wpAny_bind (wpAny_standAt (wpAny_bind (wpAny_mono h (fun it' s' h' => wpAny_pure (And.intro rfl h')) fun _ _ x => x))))

theorem codeAny_loop_outer {elt : Expr} {x y : Str} {px py : Pos} {i0 i1 : Expr} {scope : Scope} {pos : Pos} {it acc : Value} {env : Env} (I : Nat → Shared → Prop)
    (turn : ∀ n s, I n s → wpAny (model prog w) A (pyNext it) (fun r s₁ => match r with
      | none => R (.ok .next) s₁
      | some v => wpAny (model prog w) A (assign (.Name x px) env v) (fun _ s₂ => wpAny (model prog w) A (eval i1 env) (fun z s₃ => wpAny (model prog w) A (pyIter z) (fun it' s₄ =>
          codeAny (model prog w) A (.compStart (comp2 elt x y px py i0 i1 scope pos) 1 it' acc env) (fun r s' => match r with | .ok f => ∃ m, m < n ∧ I m s' | .error e => cameBackBy (model prog w) A env (notedBy (model prog w) A env fun e s' => R (.error e) s') e s') s₄)
            (notedBy (model prog w) A env fun e s' => R (.error e) s') s₃) (notedBy (model prog w) A env fun e s' => R (.error e) s') s₂) (notedBy (model prog w) A env fun e s' => R (.error e) s') s₁) (notedBy (model prog w) A env fun e s' => R (.error e) s') s)
    (n : Nat) (h : I n s) (hs : ∀ z, foldedSetIterable i1 env z = pure z) :
    codeAny (model prog w) A (.compLoop (comp2 elt x y px py i0 i1 scope pos) 0 it acc env) R s := by
  refine codeAny_loop rfl I (fun n s hI => ?_) n h
  show wpAny _ A ((compTurn (comp2 elt x y px py i0 i1 scope pos) 0 it acc env).onRaise (fun x => do noteFrame x env; theTreesLotGoes x)) _ _ s
  refine wpAny_noted ?_
  rw [compTurn_two]
  refine wpAny_bind (wpAny_standAt (wpAny_bind (wpAny_mono (turn n s hI) (fun r s₁ h₁ => ?_) fun _ _ h' => h')))
  cases r with
  | none => exact wpAny_pure h₁
  | some v =>
    refine wpAny_bind (wpAny_pure ?_)
    refine wpAny_bind (wpAny_mono h₁ (fun _ s₂ h₂ => ?_) fun _ _ h' => h')
    refine wpAny_bind (wpAny_mono h₂ (fun z s₃ h₃ => wpAny_bind (wpAny_standAt (wpAny_bind (wpAny_of_eq (hs z) (wpAny_bind (wpAny_holding (wpAny_mono h₃ (fun it' s₄ h₄ => ?_) fun _ _ h' => h'))))))) fun _ _ h' => h')
    refine wpAny_bind (wpAny_runOwn (codeAny_mono h₄ fun r s' hr => ?_))
    cases r with
    | ok f => exact wpAny_pure ⟨rfl, hr⟩
    | error e => exact hr

theorem codeAny_loop_inner {elt : Expr} {x y : Str} {px py : Pos} {i0 i1 : Expr} {scope : Scope} {pos : Pos} {it acc : Value} {env : Env} (I : Nat → Shared → Prop)
    (turn : ∀ n s, I n s → wpAny (model prog w) A (pyNext it) (fun r s₁ => match r with
      | none => R (.ok .next) s₁
      | some v => wpAny (model prog w) A (assign (.Name y py) env v) (fun _ s₂ => wpAny (model prog w) A (eval elt env) (fun z s₃ =>
          wpAny (model prog w) A (call (.builtin "list.append") [acc, z]) (fun _ s₄ => ∃ m, m < n ∧ I m s₄) (notedBy (model prog w) A env fun e s' => R (.error e) s') s₃) (notedBy (model prog w) A env fun e s' => R (.error e) s') s₂) (notedBy (model prog w) A env fun e s' => R (.error e) s') s₁) (notedBy (model prog w) A env fun e s' => R (.error e) s') s)
    (n : Nat) (h : I n s) : codeAny (model prog w) A (.compLoop (comp2 elt x y px py i0 i1 scope pos) 1 it acc env) R s := by
  refine codeAny_loop rfl I (fun n s hI => ?_) n h
  show wpAny _ A ((compTurn (comp2 elt x y px py i0 i1 scope pos) 1 it acc env).onRaise (fun x => do noteFrame x env; theTreesLotGoes x)) _ _ s
  refine wpAny_noted ?_
  rw [compTurn_inner]
  refine wpAny_bind (wpAny_standAt (wpAny_bind (wpAny_mono (turn n s hI) (fun r s₁ h₁ => ?_) fun _ _ h' => h')))
  cases r with
  | none => exact wpAny_pure h₁
  | some v =>
    refine wpAny_bind (wpAny_pure ?_)
    refine wpAny_bind (wpAny_mono h₁ (fun _ s₂ h₂ => ?_) fun _ _ h' => h')
    exact wpAny_bind (wpAny_bind (wpAny_mono h₂ (fun z s₃ h₃ => wpAny_bind (wpAny_mono h₃ (fun _ s₄ h₄ => wpAny_pure (wpAny_pure ⟨rfl, h₄⟩)) fun _ _ h' => h')) fun _ _ h' => h'))
end
end Mine
namespace Mine
section
variable {c : Cfg} {n : Nat} {env : Env} {ρ : Str → Option Value} {H : View} {d : D} {cl : List (Str × Addr)} {scope : Scope}

theorem Frm.comp2 {h : Heap} {C : Addr} {m : Str → Option Value} {x y : Str} {v u : Value} (F : Frm c env ρ h) (fo : FreeOk env scope cl) (hk : scope.kind = .function) (hn : h.Ns C m) (hm : m x = some v) (hm2 : m y = some u) (hC : C ≠ c.P)
    (hx : scope.names.lookup x = some .local) (hy : scope.names.lookup y = some .local) (hxy : x ≠ y) : Frm c (compEnvC scope cl C env) (upd (upd (freeρ cl ρ) x v) y u) h := by
  have F1 := Frm.comp F fo hk hn hm hC hx
  refine ⟨F1.kind, F1.gl, F1.bl, F1.apL, F1.apC, ⟨m, hn, fun z w e hl => ?_⟩, F1.cell, fun z w e hkd => ?_⟩
  · by_cases hz : z = y
    · subst hz; rw [upd_eq] at e; cases e; exact hm2
    · rw [upd_ne hz] at e
      by_cases hzx : z = x
      · subst hzx; rw [upd_eq] at e; cases e; exact hm
      · rw [upd_ne hzx] at e
        unfold freeρ at e
        cases q : cl.lookup z with
        | none => rw [q] at e; simp at e
        | some a =>
          have hl' : (relabel scope env).names.lookup z = some .local := hl
          rcases fo.kinds z a q with k | k <;> rw [k] at hl' <;> cases hl'
  · by_cases hz : z = y
    · subst hz
      have hl : (compEnvC scope cl C env).kindOf z = some .local := lookup_relabel_local hy
      rw [hl] at hkd
      rcases hkd with k | k <;> cases k
    · rw [upd_ne hz] at e
      exact F1.cel z w e hkd

theorem flat_one (f : D → D) : ∀ l : List D, (l.flatMap fun d => [f d]) = l.map f
  | [] => rfl
  | a :: r => by rw [List.flatMap_cons, flat_one f r]; rfl
theorem flat_le (f : D → List D) {N : Nat} : ∀ l : List D, (∀ d ∈ l, (f d).length ≤ N) → (l.flatMap f).length ≤ l.length * N
  | [], _ => by simp
  | a :: r, h => by
    have h1 := h a (by simp)
    have h2 := flat_le f r fun d hd => h d (List.mem_cons_of_mem _ hd)
    rw [List.flatMap_cons, List.length_append, List.length_cons, Nat.succ_mul]
    omega
theorem comp2Run {elt i0 i1 : Expr} {x y : Str} {px py pos : Pos} {ds : List D} {inn : D → List D} {g : D → D → D} {RR : Value → Addr → Result → Shared → Prop}
    (fo : FreeOk env scope cl) (hcell : ∀ y ∈ scope.names, y.2 ≠ .cell) (hkind : scope.kind = .function) (hx : scope.names.lookup x = some .local) (hy : scope.names.lookup y = some .local) (hxy : x ≠ y)
    {N : Nat} (hN : ∀ d ∈ ds, (inn d).length ≤ N) (hsz : (ds.length + 1) * N ≤ sizeLine)
    (hin : ∀ C d v H', d ∈ ds → VLe H H' → Rel H' v d → IT c n (compEnvC scope cl C env) (upd (freeρ cl ρ) x v) H' i1 (inn d))
    (hel : ∀ C d v d2 u H', d ∈ ds → d2 ∈ inn d → VLe H H' → Rel H' v d → Rel H' u d2 → PE c n (compEnvC scope cl C env) (upd (upd (freeρ cl ρ) x v) y u) H' elt (g d d2))
    (hs1 : ∀ env x, foldedSetIterable i1 env x = pure x)
    {A : Around} (ok : Ok A n) {s : Shared} {H₂ : View} (k : VLe H H₂) (I₂ : Inv c H₂ s.heap) {it : Addr} {fp wr : List Addr} {P : Nat → Value → Prop} {St : Nat → Heap → Prop}
    (W : Walks c.prog c.w A it fp wr ds.length P St) (st : St 0 s.heap) (hfp : ∀ b ∈ fp, b < s.heap.objs.size ∧ b ≠ c.P) (hwr : ∀ b ∈ wr, H₂ b = none) (stl : ∀ i h, St i h → ∀ b ∈ wr, (h.get? b).isSome = true)
    (hP : ∀ i v, i < ds.length → P i v → ∃ d, ds[i]? = some d ∧ Rel H₂ v d) {E : Value → Shared → Prop}
    (hsep : ∀ h', (∀ b o, b ≠ c.P → b ∉ wr → s.heap.get? b = some o → h'.get? b = some o) → Frm c env ρ h')
    (hRR : ∀ Dd C H' h' tk' vs k', DStep c ([Dd, C] ++ wr) H₂ s.heap H' h' → s.heap.get? Dd = none → s.heap.get? C = none → Dd ≠ C → H' Dd = none → H' C = none → h'.get? Dd = some (lstO vs k') → RelL H' vs.toList (ds.flatMap fun d => (inn d).map (g d)) → (∃ m, h'.Ns C m) →
      RR (.ref Dd) C (.ok .next) { s with heap := h', toks := tk' }) :
    wpAny (model c.prog c.w) A (newList []) (fun acc s₃ => wpAny (model c.prog c.w) A (newFunctionEnv scope env.globals cl [] env.qual none .none (some env)) (fun cenv s₄ =>
      codeAny (model c.prog c.w) A (.compStart (comp2 elt x y px py i0 i1 scope pos) 0 (.ref it) acc { cenv with scope := relabel scope env }) (RR acc cenv.locals) s₄) E s₃) E s := by
  refine wpAny_newObj_type (wpAny_newFunctionEnv hcell (by intro y hy; simp at hy) (fun h₁ hns₁ hsb₁ => ?_) hkind)
  dsimp only at hns₁ hsb₁ ⊢
  generalize hH2 : s.heap.push { cls := .type "list", dict := none, data := .seq ([] : List Value).toArray } = H2 at hns₁ hsb₁ ⊢
  have hC : H2.objs.size = s.heap.objs.size + 1 := by rw [← hH2, Heap.size_push]
  have hDC : s.heap.objs.size ≠ H2.objs.size := by rw [hC]; exact Nat.ne_of_lt (Nat.lt_succ_self _)
  have fresh : ∀ a, s.heap.objs.size ≤ a → s.heap.get? a = none := fun a ha => Heap.get?_none_of_le ha
  have nD := fresh s.heap.objs.size (Nat.le_refl _)
  have nC := fresh H2.objs.size (by rw [hC]; exact Nat.le_succ _)
  have hCfresh : H2.get? H2.objs.size = none := fresh_none H2
  have keep1 : ∀ b o, s.heap.get? b = some o → H2.get? b = some o := fun b o e => hH2 ▸ Heap.get?_push_of_some _ e
  have keep2 : ∀ b o, H2.get? b = some o → h₁.get? b = some o := fun b o e => (hsb₁.2 b (fun q => by rw [q, hCfresh] at e; cases e)).trans (Heap.get?_push_of_some _ e)
  have old : ∀ b o, s.heap.get? b = some o → h₁.get? b = some o := fun b o e => keep2 b o (keep1 b o e)
  have hacc : h₁.get? s.heap.objs.size = some (lstO #[] 0) := keep2 _ _ (hH2 ▸ Heap.get?_push_size _ rfl)
  have S₁ : HStep c H₂ s.heap H₂ h₁ := .grow I₂ old
  have hst₁ : St 0 h₁ := W.frame _ _ _ st fun b _ o e => old b o e
  have PD : s.heap.objs.size ≠ c.P := I₂.neP nD
  have PC : H2.objs.size ≠ c.P := I₂.neP nC
  have hbig : ∀ b ∈ fp, b < s.heap.objs.size := fun b hb => (hfp b hb).1
  have two : ∀ {b : Addr}, b ∈ [s.heap.objs.size, H2.objs.size] → b = s.heap.objs.size ∨ b = H2.objs.size := fun hb => by simpa using hb
  have loop : codeAny (model c.prog c.w) A (.compLoop (comp2 elt x y px py i0 i1 scope pos) 0 (.ref it) (.ref s.heap.objs.size) (compEnvC scope cl H2.objs.size env))
        (RR (.ref s.heap.objs.size) H2.objs.size) { s with heap := h₁, toks := s.toks + ([] : List (Str × Value)).length } := by
    refine comp_inv (H := H₂) (mu := [s.heap.objs.size, H2.objs.size]) (ds := ds) (px := px) (x := x) (cenv := compEnvC scope cl H2.objs.size env) (Acc := AccL s.heap.objs.size) (VI := fun h => ∃ m, h.Ns H2.objs.size m) (FV := fun v h => ∃ m, h.Ns H2.objs.size m ∧ m x = some v)
      (em := fun d => (inn d).map (g d)) (rs₀ := [])
      (BT := fun Q E s9 => wpAny (model c.prog c.w) A (eval i1 (compEnvC scope cl H2.objs.size env)) (fun z s₃ => wpAny (model c.prog c.w) A (pyIter z) (fun it' s₄ =>
          codeAny (model c.prog c.w) A (.compStart (comp2 elt x y px py i0 i1 scope pos) 1 it' (.ref s.heap.objs.size) (compEnvC scope cl H2.objs.size env)) (fun r s' => match r with | .ok f => Q () s' | .error e => cameBackBy (model c.prog c.w) A (compEnvC scope cl H2.objs.size env) E e s') s₄) E s₃) E s9)
      W hP (fun J turn n' s' hJ => codeAny_loop_outer J (fun n s h => turn n s h) n' hJ (hs1 _)) ?_ (fun b hb => (hfp b hb).2) hwr (stl 0 h₁ hst₁) ?_ ?_ stl S₁.inv hst₁ ⟨#[], 0, hacc, .nil⟩ ⟨_, hns₁⟩ ?_ ?_ ?_ ?_ ?_
    · intro b hb hf
      rcases two hb with rfl | rfl
      · exact Nat.lt_irrefl _ (hbig _ hf)
      · exact absurd (hbig _ hf) (by rw [hC]; exact Nat.not_lt.mpr (Nat.le_succ _))
    · intro b hb
      rcases two hb with rfl | rfl
      · exact I₂.none_of nD
      · exact I₂.none_of nC
    · intro b hb
      rcases two hb with rfl | rfl
      · show (h₁.get? _).isSome = true
        rw [hacc]; rfl
      · obtain ⟨o, _, _, ho, _⟩ := hns₁
        show (h₁.get? _).isSome = true
        rw [ho]; rfl
    · rintro X₁ X₂ g₁ g₂ rs hX hg ⟨vs, k', h1, h2⟩
      exact ⟨vs, k', hg _ _ (by simp) h1, h2.mono hX⟩
    · rintro g₁ g₂ hg ⟨m, hm⟩
      exact ⟨m, hm.at' fun o e => hg _ o (by simp) e⟩
    · rintro v H' s' S' ⟨m, hm⟩ Q E q
      have offC : H' H2.objs.size = none := S'.miss (by obtain ⟨o, _, _, ho, _⟩ := hns₁; show (h₁.get? _).isSome = true; rw [ho]; rfl) (I₂.none_of nC)
      refine wpAny_assign_Name (wpAny_storeName_local (env := compEnvC scope cl H2.objs.size env) (lookup_relabel_local hx) hm (fun h₂' hn₂ hs₂ => ?_) (by show (scope.kind == .class || (scope.kind == .module && _)) = false; rw [hkind]; rfl))
      have hs₂' : Heap.SameBut H2.objs.size s'.heap h₂' := hs₂
      have hn₂' : h₂'.Ns H2.objs.size (fun y => if y = x then some v else m y) := hn₂
      refine q h₂' _ (MStep.at S'.inv (by simp) offC PC hs₂' ?_) ⟨_, hn₂', by simp⟩ ⟨_, hn₂'⟩ ?_
      · obtain ⟨o, _, _, ho, _⟩ := hn₂'
        rw [ho]; rfl
      · rintro rs ⟨vs, k', h1, h2⟩
        exact ⟨vs, k', (hs₂'.2 _ hDC).trans h1, h2⟩
    · rintro d v H' s' rs i hd hi hrs S' offM R' ⟨m, hm, hmx⟩ - ⟨vs, k', ha, hr⟩ Q E q
      have offD : H' s.heap.objs.size = none := offM _ (by simp)
      have offC : H' H2.objs.size = none := offM _ (by simp)
      have FF : ∀ {h' : Heap}, (∀ b o, b ≠ c.P → b ≠ s.heap.objs.size → b ≠ H2.objs.size → s'.heap.get? b = some o → h'.get? b = some o) → Frm c env ρ h' := fun hk => hsep _ fun b o hb hw e₂ => by
        have h1 : b ≠ s.heap.objs.size := fun q => by rw [q, nD] at e₂; cases e₂
        have h2 : b ≠ H2.objs.size := fun q => by rw [q, nC] at e₂; cases e₂
        refine hk b o hb h1 h2 (S'.ext b o hb (fun hm' => ?_) (old b o e₂))
        rcases List.mem_append.mp hm' with q' | q'
        · exact (two q').elim h1 h2
        · exact hw q'
      have F' : Frm c (compEnvC scope cl H2.objs.size env) (upd (freeρ cl ρ) x v) s'.heap := Frm.comp (FF fun b o _ _ _ e => e) fo hkind hm hmx PC hx
      have Cne : H2.objs.size ≠ s.heap.objs.size := Ne.symm hDC
      have liveMu : ∀ b ∈ [s.heap.objs.size, H2.objs.size], (s'.heap.get? b).isSome = true := fun b hb => by
        rcases two hb with rfl | rfl
        · rw [ha]; rfl
        · obtain ⟨o, _, _, ho, _⟩ := hm; rw [ho]; rfl
      refine (hin H2.objs.size d v H' hd (k.trans S'.up) R').run A ok s' H' (.refl _) S'.inv F' _ _ fun it' fp' wr' P' St' H₄ h₄ t₄ S₄ W' st' hfp' hwr' stl' hP' hnw' => ?_
      have loop' : codeAny (model c.prog c.w) A (.compLoop (comp2 elt x y px py i0 i1 scope pos) 1 (.ref it') (.ref s.heap.objs.size) (compEnvC scope cl H2.objs.size env))
          (fun r s' => match r with | .ok f => Q () s' | .error e => cameBackBy (model c.prog c.w) A (compEnvC scope cl H2.objs.size env) E e s') { s' with heap := h₄, toks := t₄ } := by
        have off4 : ∀ b ∈ [s.heap.objs.size, H2.objs.size], H₄ b = none := fun b hb => by
          obtain ⟨o, ho⟩ := Option.isSome_iff_exists.mp (liveMu b hb)
          exact S₄.miss ho (offM b hb)
        have hm₄ : h₄.Ns H2.objs.size m := hm.at' fun o e => S₄.ext _ o PC e
        have ha₄ := S₄.ext _ _ PD ha
        refine comp_inv (H := H₄) (mu := [s.heap.objs.size, H2.objs.size]) (ds := inn d) (px := py) (x := y) (cenv := compEnvC scope cl H2.objs.size env) (Acc := AccL s.heap.objs.size) (VI := fun h => ∃ m, h.Ns H2.objs.size m ∧ m x = some v) (FV := fun u h => ∃ m, h.Ns H2.objs.size m ∧ m x = some v ∧ m y = some u)
          (em := fun d2 => [g d d2]) (rs₀ := rs)
          (BT := fun Q E s9 => wpAny (model c.prog c.w) A (eval elt (compEnvC scope cl H2.objs.size env)) (fun z s₃ => wpAny (model c.prog c.w) A (PySem.call (.builtin "list.append") [.ref s.heap.objs.size, z]) (fun _ s₄ => Q () s₄) E s₃) E s9)
          W' hP' (fun J turn n' s' hJ => codeAny_loop_inner J (fun n s h => turn n s h) n' hJ) ?_ (fun b hb => (hfp' b hb).2) (fun b hb => (hwr' b hb).1) (stl' 0 h₄ st') off4 ?_ stl' S₄.inv st' ⟨vs, k', ha₄, hr.mono S₄.up⟩ ⟨m, hm₄, hmx⟩ ?_ ?_ ?_ ?_ ?_
        · intro b hb hf
          rcases hnw' b hf with ⟨o, ho⟩ | hn
          · rw [off4 b hb] at ho; cases ho
          · have := liveMu b hb; rw [hn] at this; cases this
        · intro b hb
          rcases two hb with rfl | rfl
          · show (h₄.get? _).isSome = true
            rw [ha₄]; rfl
          · obtain ⟨o, _, _, ho, _⟩ := hm₄
            show (h₄.get? _).isSome = true
            rw [ho]; rfl
        · rintro X₁ X₂ g₁ g₂ rs hX hg ⟨vs, k', h1, h2⟩
          exact ⟨vs, k', hg _ _ (by simp) h1, h2.mono hX⟩
        · rintro g₁ g₂ hg ⟨m, hm, hmx⟩
          exact ⟨m, hm.at' fun o e => hg _ o (by simp) e, hmx⟩
        · rintro u H₅ s₅ S₅ ⟨m', hm', hmx'⟩ Q E q
          have offC5 : H₅ H2.objs.size = none := S₅.miss (by obtain ⟨o, _, _, ho, _⟩ := hm₄; show (h₄.get? _).isSome = true; rw [ho]; rfl) (off4 _ (by simp))
          refine wpAny_assign_Name (wpAny_storeName_local (env := compEnvC scope cl H2.objs.size env) (lookup_relabel_local hy) hm' (fun h₆ hn₆ hs₆ => ?_) (by show (scope.kind == .class || (scope.kind == .module && _)) = false; rw [hkind]; rfl))
          have hs₆' : Heap.SameBut H2.objs.size s₅.heap h₆ := hs₆
          have hn₆' : h₆.Ns H2.objs.size (fun z => if z = y then some u else m' z) := hn₆
          have hx6 : (fun z => if z = y then some u else m' z) x = some v := by
            show (if x = y then some u else m' x) = some v
            rw [if_neg hxy]; exact hmx'
          refine q h₆ _ (MStep.at S₅.inv (by simp) offC5 PC hs₆' ?_) ⟨_, hn₆', hx6, by simp⟩ ⟨_, hn₆', hx6⟩ ?_
          · obtain ⟨o, _, _, ho, _⟩ := hn₆'
            rw [ho]; rfl
          · rintro rs ⟨vs, k', h1, h2⟩
            exact ⟨vs, k', (hs₆'.2 _ hDC).trans h1, h2⟩
        · rintro d2 u H₅ s₅ rs' j hd2 hj hrs' S₅ offM5 R₅ ⟨m', hm', hmx', hmy'⟩ - ⟨vs', k5, ha5, hr5⟩ Q E q
          have offD5 : H₅ s.heap.objs.size = none := offM5 _ (by simp)
          have F5 : Frm c (compEnvC scope cl H2.objs.size env) (upd (upd (freeρ cl ρ) x v) y u) s₅.heap := by
            refine Frm.comp2 (FF fun b o hb h1 h2 e => ?_) fo hkind hm' hmx' hmy' PC hx hy hxy
            refine S₅.ext b o hb (fun hm'' => ?_) (S₄.ext b o hb e)
            rcases List.mem_append.mp hm'' with q' | q'
            · exact (two q').elim h1 h2
            · rw [(hwr' b q').2] at e; cases e
          have up5 := (k.trans S'.up).trans (S₄.up.trans S₅.up)
          refine (hel H2.objs.size d v d2 u H₅ hd hd2 up5 (R'.mono (S₄.up.trans S₅.up)) R₅).run A ok s₅ H₅ (.refl _) S₅.inv F5 _ _ fun z H₆ h₆ t₆ S₆ R₆ => ?_
          have ha6 := S₆.ext _ _ PD ha5
          have hm6 : h₆.Ns H2.objs.size m' := hm'.at' fun o e => S₆.ext _ o PC e
          have offD6 : H₆ s.heap.objs.size = none := S₆.miss ha5 offD5
          refine wpAny_list_append_plain (items := vs') ⟨k5, ha6⟩ (fun h₇ hl₇ hs₇ => ?_) ?_
          · obtain ⟨k₇, ha₇⟩ := hl₇
            refine q H₆ h₇ t₆ (S₆.toM.trans (MStep.at S₆.inv (by simp) offD6 PD hs₇ (by rw [ha₇]; rfl))) ⟨vs'.push z, k₇, ha₇, ?_⟩ ⟨m', hm6.sameBut hs₇ Cne, hmx'⟩
            rw [Array.toList_push]
            exact (hr5.mono S₆.up).append (.cons R₆ .nil)
          · have e1 := hr5.length
            have e3 : vs'.toList.length = vs'.size := by simp
            have hle : rs'.length ≤ (ds.length + 1) * N := by
              rw [hrs', hrs, List.nil_append, List.length_append]
              have e5 : ((inn d).take j |>.flatMap fun d2 => [g d d2]).length ≤ N := by
                rw [flat_one, List.length_map, List.length_take]
                exact Nat.le_trans (Nat.min_le_right _ _) (hN d hd)
              have e6 := flat_le (fun d => (inn d).map (g d)) (N := N) (ds.take i) (fun d hd => by rw [List.length_map]; exact hN d (List.mem_of_mem_take hd))
              have e7 : (ds.take i).length * N ≤ ds.length * N := Nat.mul_le_mul_right _ (by rw [List.length_take]; exact Nat.min_le_right _ _)
              rw [Nat.succ_mul]
              omega
            omega
        · rintro H₅ h₅ t₅ S₅ offM5 ⟨vs', k5, ha5, hr5⟩ ⟨m', hm', hmx'⟩
          refine q H₅ h₅ t₅ ⟨S₄.up.trans S₅.up, fun b o e => ?_, fun b o hb hm'' e => ?_, fun b hb _ => ?_, S₅.inv⟩ ⟨vs', k5, ha5, ?_⟩ ⟨m', hm'⟩
          · rcases S₅.fresh b o e with e' | e'
            · exact S₄.fresh b o e'
            · exact .inr (S₄.alive S'.inv e')
          · refine S₅.ext b o hb (fun q' => ?_) (S₄.ext b o hb e)
            rcases List.mem_append.mp q' with q' | q'
            · exact hm'' q'
            · rw [(hwr' b q').2] at e; cases e
          · rcases two hb with rfl | rfl
            · rw [ha5]; rfl
            · obtain ⟨o, _, _, ho, _⟩ := hm'; rw [ho]; rfl
          · rw [flat_one] at hr5; exact hr5
      exact codeAny_start_inner loop' (W'.self 0 _ _ _ st' loop')
    · rintro H' h' t' S' offM ⟨vs, k', ha, hr⟩ hm
      rw [List.nil_append] at hr
      exact hRR _ _ H' h' t' vs k' ⟨S'.up, fun b o e => (S'.fresh b o e).imp id (fun e' => S₁.alive I₂ e'), fun b o hb hm' e => S'.ext b o hb hm' (old b o e), S'.inv⟩ nD nC hDC (offM _ (by simp)) (offM _ (by simp)) ha hr hm
  exact codeAny_compStart_list loop (W.self 0 _ _ _ hst₁ loop)

theorem PE.listComp2 {elt i0 i1 : Expr} {x y : Str} {px py pos : Pos} {ds : List D} {inn : D → List D} {g : D → D → D}
    (fo : FreeOk env scope cl) (hcell : ∀ y ∈ scope.names, y.2 ≠ .cell) (hkind : scope.kind = .function) (hnames : ∀ y ∈ scope.names, y.2 = .local → scope.names.lookup y.1 = some .local) (hx : scope.names.lookup x = some .local) (hy : scope.names.lookup y = some .local) (hxy : x ≠ y)
    (it : IT c n env ρ H i0 ds) {N : Nat} (hN : ∀ d ∈ ds, (inn d).length ≤ N) (hsz : (ds.length + 1) * N ≤ sizeLine)
    (hin : ∀ C d v H', d ∈ ds → VLe H H' → Rel H' v d → IT c n (compEnvC scope cl C env) (upd (freeρ cl ρ) x v) H' i1 (inn d))
    (hel : ∀ C d v d2 u H', d ∈ ds → d2 ∈ inn d → VLe H H' → Rel H' v d → Rel H' u d2 → PE c n (compEnvC scope cl C env) (upd (upd (freeρ cl ρ) x v) y u) H' elt (g d d2))
    (hs : ∀ x, foldedSetIterable i0 env x = pure x := by intro _; rfl) (hs1 : ∀ env x, foldedSetIterable i1 env x = pure x := by intro _ _; rfl) :
    PE c n env ρ H (comp2 elt x y px py i0 i1 scope pos) (.list (ds.flatMap fun d => (inn d).map (g d))) := ⟨fun A ok s H₁ k I F Q E q => by
  rw [eval_ListComp]
  refine wpAny_comprehension_free (use := none) rfl hs fo.clos hkind hnames (it.run A ok s H₁ k I F _ _ fun it fp wr P St H₂ h₂ t₂ S₂ W st hfp hwr stl hP hnw => ?_)
  refine comp2Run fo hcell hkind hx hy hxy hN hsz hin hel hs1 ok (s := { s with heap := h₂, toks := t₂ }) (k.trans S₂.up) S₂.inv W st hfp (fun b hb => (hwr b hb).1) stl hP (fun h' hk => F.ext fun b o hb e => hk b o hb (fun hw => by rw [(hwr b hw).2] at e; cases e) (S₂.ext b o hb e)) ?_
  rintro Dd C H' h' tk' vs k' S' nD nC hDC oD oC ha hr ⟨m, hm⟩
  refine ⟨m, hm, fun h'' hs'' => ?_⟩
  have z := DStep.frozen S₂ I S' nD nC hDC oD oC (fun b hb => (hwr b hb).2) hs'' ha
  exact q _ _ h'' tk' z (.list View.add_self (hr.mono (View.le_add oD)))⟩
end
end Mine
namespace Mine

/-- a frame in motion that turns things of its own besides (ex) -/
structure Fm (c : Cfg) (env : Env) (ex : List Addr) (H₀ : View) (h₀ : Heap) (ρ : Str → Option Value) (H : View) (h : Heap) : Prop where
  base : MStep c (mus env ++ ex) H₀ h₀ H h
  frm : Frm c env ρ h
  off : ∀ b ∈ mus env ++ ex, H b = none
  live : ∀ b ∈ ex, (h.get? b).isSome = true
  apart : ∀ b ∈ ex, b ∉ mus env ∧ b ≠ c.P

section
variable {c : Cfg} {n : Nat} {env : Env} {ex : List Addr} {ρ : Str → Option Value} {H H₀ H₁ H₂ : View} {h₀ h h' h₁ h₂ : Heap} {d : D}

theorem Fs.toFm (σ : Fs c env H₀ h₀ ρ H h) : Fm c env [] H₀ h₀ ρ H h :=
  ⟨by simpa using σ.base, σ.frm, by simpa using σ.off, fun b hb => absurd hb (List.not_mem_nil), fun b hb => absurd hb (List.not_mem_nil)⟩
theorem Fm.toFs (σ : Fm c env [] H₀ h₀ ρ H h) : Fs c env H₀ h₀ ρ H h := ⟨by simpa using σ.base, σ.frm, by simpa using σ.off⟩
theorem Fm.re (σ : Fm c env ex H₀ h₀ ρ H h) : Fm c env ex H h ρ H h := ⟨.refl σ.base.inv, σ.frm, σ.off, σ.live, σ.apart⟩
theorem Fm.trans (σ : Fm c env ex H₀ h₀ ρ H h) {ρ' : Str → Option Value} (τ : Fm c env ex H h ρ' H₁ h₁) : Fm c env ex H₀ h₀ ρ' H₁ h₁ := ⟨σ.base.trans τ.base, τ.frm, τ.off, τ.live, τ.apart⟩
theorem Fm.weak (σ : Fm c env ex H₀ h₀ ρ H h) {ρ' : Str → Option Value} (k : ∀ x v, ρ' x = some v → ρ x = some v) : Fm c env ex H₀ h₀ ρ' H h := ⟨σ.base, σ.frm.weak k, σ.off, σ.live, σ.apart⟩
/-- the frame's own part -/
theorem Fm.self (σ : Fm c env ex H₀ h₀ ρ H h) : Fs c env H h ρ H h := ⟨.refl σ.base.inv, σ.frm, fun b hb => σ.off b (List.mem_append_left _ hb)⟩
theorem Fm.byFs (σ : Fm c env ex H₀ h₀ ρ H h) {ρ' : Str → Option Value} (τ : Fs c env H h ρ' H₁ h₁) : Fm c env ex H₀ h₀ ρ' H₁ h₁ :=
  ⟨σ.base.trans (τ.base.weak fun b hb => List.mem_append_left _ hb), τ.frm, fun b hb => by
      rcases List.mem_append.mp hb with q | q
      · exact τ.off b q
      · exact τ.base.miss (σ.live b q) (σ.off b hb),
    fun b hb => τ.base.lives (σ.live b hb), σ.apart⟩
theorem Fm.step (σ : Fm c env ex H₀ h₀ ρ H h) (S : HStep c H h H₁ h₁) : Fm c env ex H₀ h₀ ρ H₁ h₁ := σ.byFs (σ.self.step S)
theorem Fm.keepEx (σ : Fm c env ex H₀ h₀ ρ H h) {ρ' : Str → Option Value} (τ : Fs c env H h ρ' H₁ h₁) : ∀ b ∈ ex, ∀ o, h.get? b = some o → h₁.get? b = some o := fun b hb o e =>
  τ.base.ext b o (σ.apart b hb).2 (σ.apart b hb).1 e
theorem Fm.keepS (σ : Fm c env ex H₀ h₀ ρ H h) (S : HStep c H h H₁ h₁) : ∀ b ∈ ex, ∀ o, h.get? b = some o → h₁.get? b = some o := fun b hb o e => S.ext b o (σ.apart b hb).2 e

/-- a new thing of one's own -/
theorem Fm.own (σ : Fm c env ex H₀ h₀ ρ H h) {a : Addr} {o : Obj} (hn : h.get? a = none) (k : ∀ b o, h.get? b = some o → h₁.get? b = some o) (ha : h₁.get? a = some o) : Fm c env (a :: ex) H₀ h₀ ρ H h₁ := by
  have S : HStep c H h H h₁ := .grow σ.base.inv k
  have τ := σ.step S
  have nH := σ.base.inv.none_of hn
  refine ⟨τ.base.weak fun b hb => ?_, τ.frm, fun b hb => ?_, fun b hb => ?_, fun b hb => ?_⟩
  · rcases List.mem_append.mp hb with q | q
    · exact List.mem_append_left _ q
    · exact List.mem_append_right _ (List.mem_cons_of_mem _ q)
  · rcases List.mem_append.mp hb with q | q
    · exact τ.off b (List.mem_append_left _ q)
    · rcases List.mem_cons.mp q with rfl | q
      · exact nH
      · exact τ.off b (List.mem_append_right _ q)
  · rcases List.mem_cons.mp hb with rfl | q
    · rw [ha]; rfl
    · exact τ.live b q
  · rcases List.mem_cons.mp hb with rfl | q
    · refine ⟨fun hm => ?_, σ.base.inv.neP hn⟩
      have := σ.frm.alive b hm
      rw [hn] at this; cases this
    · exact τ.apart b q

/-- a change of a thing of one's own -/
theorem Fm.turn (σ : Fm c env ex H₀ h₀ ρ H h) {a : Addr} (ha : a ∈ ex) (hs : Heap.SameBut a h h₁) (hl : (h₁.get? a).isSome = true) : Fm c env ex H₀ h₀ ρ H h₁ := by
  have hm := List.mem_append_right (mus env) ha
  refine ⟨σ.base.trans (MStep.at σ.base.inv hm (σ.off _ hm) (σ.apart a ha).2 hs hl), σ.frm.extM fun b hb o e => (hs.2 b fun q => (σ.apart a ha).1 (q ▸ hb)).trans e, σ.off, fun b hb => ?_, σ.apart⟩
  by_cases hb' : b = a
  · rw [hb']; exact hl
  · rw [hs.2 b hb']; exact σ.live b hb

theorem MStep.freeze {mu mu' : List Addr} {a : Addr} {o : Obj} (x : MStep c mu H₀ h₀ H h) (hn : h₀.get? a = none) (hH : H a = none) (hP : a ≠ c.P) (ho : h.get? a = some o) (hmu : ∀ b ∈ mu, b = a ∨ b ∈ mu') : MStep c mu' H₀ h₀ (H.add a o) h := by
  have hle := View.le_add (o := o) hH
  refine ⟨x.up.trans hle, fun b ob e => ?_, fun b ob hb hm e => x.ext b ob hb (fun hm' => ?_) e, fun b hb e => x.lives e, ⟨fun b ob e => ?_, fun b ob e => hle b ob (x.inv.base b ob e), ?_, ?_⟩⟩
  · by_cases hb : b = a
    · exact .inr (hb ▸ hn)
    · unfold View.add at e; rw [if_neg hb] at e; exact x.fresh b ob e
  · rcases hmu b hm' with rfl | q
    · rw [hn] at e; cases e
    · exact hm q
  · by_cases hb : b = a
    · unfold View.add at e; rw [if_pos hb] at e; cases e; rw [hb]; exact ho
    · unfold View.add at e; rw [if_neg hb] at e; exact x.inv.le b ob e
  · unfold View.add
    rw [if_neg (Ne.symm hP)]
    exact x.inv.noP
  · obtain ⟨ob, h1, h2⟩ := x.inv.tb
    exact ⟨ob, h1, c.tbm _ _ _ hle h2⟩

/-- it is turned no more -/
theorem Fm.frozen {a : Addr} {o : Obj} (σ : Fm c env (a :: ex) H₀ h₀ ρ H h) (hn : h₀.get? a = none) (ho : h.get? a = some o) (hd : a ∉ ex) : Fm c env ex H₀ h₀ ρ (H.add a o) h := by
  have ha : a ∈ mus env ++ a :: ex := List.mem_append_right _ (by simp)
  obtain ⟨h1, h2⟩ := σ.apart a (by simp)
  refine ⟨σ.base.freeze hn (σ.off _ ha) h2 ho fun b hb => ?_, σ.frm, fun b hb => ?_, fun b hb => σ.live b (List.mem_cons_of_mem _ hb), fun b hb => σ.apart b (List.mem_cons_of_mem _ hb)⟩
  · rcases List.mem_append.mp hb with q | q
    · exact .inr (List.mem_append_left _ q)
    · rcases List.mem_cons.mp q with rfl | q
      · exact .inl rfl
      · exact .inr (List.mem_append_right _ q)
  · have hba : b ≠ a := fun q => by
      subst q
      rcases List.mem_append.mp hb with q | q
      · exact h1 q
      · exact hd q
    unfold View.add
    rw [if_neg hba]
    rcases List.mem_append.mp hb with q | q
    · exact σ.off b (List.mem_append_left _ q)
    · exact σ.off b (List.mem_append_right _ (List.mem_cons_of_mem _ q))

theorem Fm.store (σ : Fm c env ex H₀ h₀ ρ H h) {A : Around} {s : Shared} {E : Value → Shared → Prop} {Q : Unit → Shared → Prop} {x : Str} {v : Value} (hs : s.heap = h) (hx : Storable env x) (ap : CellsApart env)
    (q : ∀ h' tk', Fm c env ex H₀ h₀ (upd ρ x v) H h' → (∀ b ∈ ex, ∀ o, h.get? b = some o → h'.get? b = some o) → Q () { s with heap := h', toks := tk' }) : wpAny (model c.prog c.w) A (storeName env x v) Q E s :=
  σ.self.store hs hx ap fun h' tk' τ => q h' tk' (σ.byFs τ) (σ.keepEx τ)

/-- y = e -/
theorem Fm.asg (σ : Fm c env ex H₀ h₀ ρ H h) {A : Around} (ok : Ok A n) {s : Shared} {E : Value → Shared → Prop} {Q : Flow → Shared → Prop} {y : Str} {py pos : Pos} {e : Expr} {rest : List Stmt} (hs : s.heap = h) (ap : CellsApart env) (hy : Storable env y) (he : PE c n env ρ H e d)
    (q : ∀ v H' h' tk', Fm c env ex H₀ h₀ (upd ρ y v) H' h' → VLe H H' → Rel H' v d → (∀ b ∈ ex, ∀ o, h.get? b = some o → h'.get? b = some o) → wpAny (model c.prog c.w) A (execs rest env) Q E { s with heap := h', toks := tk' })
    (hw : swapsWith e (some (.Name y py)) pos.line env = pure false := by rfl) : wpAny (model c.prog c.w) A (execs (.Assign [.Name y py] e pos :: rest) env) Q E s := by
  subst hs
  exact wpAny_execs_cons (wpAny_Assign_Name (he.run A ok s H (.refl _) σ.base.inv σ.frm _ _ fun v H₂ h₂ t₂ S₂ R₂ =>
    (σ.step S₂).store (s := { s with heap := h₂, toks := t₂ }) rfl hy ap fun h₃ t₃ σ₃ k₃ => q v H₂ h₃ t₃ σ₃ S₂.up R₂ fun b hb o e => k₃ b hb o (σ.keepS S₂ b hb o e)) hw)

/-- on with statements that return -/
theorem Fm.sr (σ : Fm c env ex H₀ h₀ ρ H h) (hnew : ∀ b ∈ ex, h₀.get? b = none) {st : List Stmt} (x : SR c n env ρ H st d) {A : Around} (ok : Ok A n) {s : Shared} (hs : s.heap = h) {Q : Flow → Shared → Prop} {E : Value → Shared → Prop}
    (q : ∀ v H' h' tk', VLe H₀ H' → (∀ b o, H' b = some o → H₀ b = some o ∨ h₀.get? b = none) → (∀ b o, b ≠ c.P → b ≠ env.locals → (∀ x a, env.cells.lookup x = some a → b ≠ a) → h₀.get? b = some o → h'.get? b = some o) → Inv c H' h' → Rel H' v d →
      Q (.ret v) { s with heap := h', toks := tk' }) : wpAny (model c.prog c.w) A (execs st env) Q E s := by
  refine σ.self.sr x ok hs fun v H' h' tk' hu hf he hI hR => ?_
  refine q v H' h' tk' (σ.base.up.trans hu) (fun b o e => ?_) (fun b o hb hl hc e => ?_) hI hR
  · rcases hf b o e with e' | e'
    · exact σ.base.fresh b o e'
    · refine .inr ?_
      cases q' : h₀.get? b with
      | none => rfl
      | some ob => have := σ.base.lives (b := b) (by rw [q']; rfl); rw [e'] at this; cases this
  · refine he b o hb hl hc (σ.base.ext b o hb (fun hm => ?_) e)
    rcases List.mem_append.mp hm with q' | q'
    · exact (mus_iff.mp q').elim hl fun ⟨x, hx⟩ => hc x b hx rfl
    · rw [hnew b q'] at e; cases e

/-- a loop over a name -/
theorem Fm.loop (σ : Fm c env ex H₀ h₀ ρ H h) {A : Around} (ok : Ok A n) {s : Shared} {E : Value → Shared → Prop} {Q : Flow → Shared → Prop} (hs : s.heap = h) {x : Str} {px pos : Pos} {iter : Expr} {body rest : List Stmt} {ds : List D} (ap : CellsApart env) (hx : Storable env x)
    (it : IT c n env ρ H iter ds) (J : Nat → (Str → Option Value) → View → Heap → Prop) (J0 : J 0 ρ H h)
    (Jk : ∀ i ρ H h H' h', J i ρ H h → VLe H H' → (∀ b ∈ ex, ∀ o, h.get? b = some o → h'.get? b = some o) → J i ρ H' h')
    (hb : ∀ i d v ρ' H' (s' : Shared), ds[i]? = some d → VLe H H' → Rel H' v d → J i ρ' H' s'.heap → Fm c env ex H' s'.heap (upd ρ' x v) H' s'.heap → ∀ (Q' : Flow → Shared → Prop) (E' : Value → Shared → Prop),
      (∀ ρ'' H'' h'' tk'', Fm c env ex H' s'.heap ρ'' H'' h'' → VLe H' H'' → J (i + 1) ρ'' H'' h'' → Q' .next { s' with heap := h'', toks := tk'' }) → wpAny (model c.prog c.w) A (execs body env) Q' E' s')
    (k : ∀ ρ' H' h' tk', Fm c env ex H₀ h₀ ρ' H' h' → VLe H H' → J ds.length ρ' H' h' → wpAny (model c.prog c.w) A (execs rest env) Q E { s with heap := h', toks := tk' }) (hf : ∀ x, foldedSetIterable iter env x = pure x := by intro _; rfl) :
    wpAny (model c.prog c.w) A (execs (.For (.Name x px) iter body [] pos :: rest) env) Q E s := by
  subst hs
  refine wpAny_execs_cons (wpAny_For (it.run A ok s H (.refl _) σ.base.inv σ.frm _ _ fun I fp wr P St H₂ h₂ t₂ S₂ W st hfp hwr stl hP hnw => ?_) hf)
  have σ₂ := σ.step S₂
  have hwP : ∀ b ∈ wr, b ≠ c.P := fun b hb => (hfp b (W.sub b hb)).2
  have alive : ∀ b ∈ mus env ++ ex, (s.heap.get? b).isSome = true := fun b hb => (List.mem_append.mp hb).elim (fun q => σ.frm.alive b q) fun q => σ.live b q
  have hfm : ∀ b ∈ mus env ++ ex, b ∉ wr := fun b hb hw => by
    have := alive b hb
    rw [(hwr b hw).2] at this; cases this
  refine codeAny_forLoop (fun kk s' => ∃ h' tk H' i ρ', s' = { s with heap := h', toks := tk } ∧ Fm c env ex H₀ h₀ ρ' H' h' ∧ VLe H₂ H' ∧ (∀ b ∈ wr, H' b = none) ∧ St i h' ∧ i ≤ ds.length ∧ J i ρ' H' h' ∧ kk = ds.length + 1 - i) ?_ (ds.length + 1)
    ⟨h₂, t₂, H₂, 0, ρ, rfl, σ₂, .refl _, fun b hb => (hwr b hb).1, st, Nat.zero_le _, Jk _ _ _ _ _ _ J0 S₂.up (σ.keepS S₂), rfl⟩
  rintro kk s' ⟨h', tk, H', i, ρ', rfl, τ, hle, hoff, st', hi, hJ, rfl⟩
  have next : ∀ {h₁ : Heap}, (∀ b o, b ∉ wr → h'.get? b = some o → h₁.get? b = some o) → Inv c H' h₁ := fun k₁ =>
    ⟨fun b o e => k₁ b o (fun q => by rw [hoff b q] at e; cases e) (τ.base.inv.le b o e), τ.base.inv.base, τ.base.inv.noP, let ⟨ob, e1, e2⟩ := τ.base.inv.tb; ⟨ob, k₁ _ _ (fun q => hwP _ q rfl) e1, e2⟩⟩
  have aliveMu : ∀ b ∈ mus env ++ ex, (h'.get? b).isSome = true := fun b hb => (List.mem_append.mp hb).elim (fun q => τ.frm.alive b q) fun q => τ.live b q
  have exNow : ∀ {h₁ : Heap}, (∀ b o, b ∉ wr → h'.get? b = some o → h₁.get? b = some o) → ∀ b ∈ ex, ∀ o, h'.get? b = some o → h₁.get? b = some o := fun k₁ b hb o e => k₁ b o (hfm b (List.mem_append_right _ hb)) e
  have moved : ∀ {h₁ : Heap}, (∀ b o, b ∉ wr → h'.get? b = some o → h₁.get? b = some o) → Fm c env ex H₀ h₀ ρ' H' h₁ := fun {h₁} k₁ => by
    refine ⟨⟨τ.base.up, fun b o e => τ.base.fresh b o e, fun b o hb hm e => ?_, fun b hb e => ?_, next k₁⟩, τ.frm.extM fun b hb o e => k₁ b o (hfm b (List.mem_append_left _ hb)) e, τ.off, fun b hb => ?_, τ.apart⟩
    · have al : ∃ o', s.heap.get? b = some o' := by
        obtain ⟨o', ho'⟩ := Option.isSome_iff_exists.mp (σ.base.lives (b := b) (by rw [e]; rfl))
        exact ⟨o', ho'⟩
      obtain ⟨o', ho'⟩ := al
      exact k₁ b o (fun q => by rw [(hwr b q).2] at ho'; cases ho') (τ.base.ext b o hb hm e)
    · obtain ⟨o, ho⟩ := Option.isSome_iff_exists.mp (aliveMu b hb)
      rw [k₁ b o (hfm b hb) ho]; rfl
    · obtain ⟨o, ho⟩ := Option.isSome_iff_exists.mp (τ.live b hb)
      rw [k₁ b o (hfm b (List.mem_append_right _ hb)) ho]; rfl
  by_cases hlt : i < ds.length
  · refine W.item i _ _ _ hlt st' fun v h₃ t₃ hPv st₃ hk₃ => ?_
    obtain ⟨d', hd', rv⟩ := hP i v hlt hPv
    have τ₃ := moved hk₃
    refine wpAny_assign_Name (τ₃.self.store (s := { s with heap := h₃, toks := t₃ }) rfl hx ap fun h₄ t₄ τ4s => ?_)
    have τ₄ := τ₃.byFs τ4s
    have up := S₂.up.trans hle
    have hJ₄ : J i ρ' H' h₄ := Jk _ _ _ _ _ _ hJ (.refl _) fun b hb o e => τ₃.keepEx τ4s b hb o (exNow hk₃ b hb o e)
    refine hb i d' v ρ' H' { s with heap := h₄, toks := t₄ } hd' up (rv.mono hle) hJ₄ τ₄.re _ _ fun ρ'' H'' h'' t'' σ' hu hJ' => ?_
    have hst : St (i + 1) h'' := by
      refine W.frame _ _ _ st₃ fun b hb o e => ?_
      have hbm : b ∉ mus env ++ ex := fun hm => by
        rcases hnw b hb with ⟨o', ho'⟩ | hn
        · have := hle b o' ho'
          rw [τ.off b hm] at this; cases this
        · have := alive b hm
          rw [hn] at this; cases this
      have hbP := (hfp b hb).2
      exact σ'.base.ext b o hbP hbm (τ4s.base.ext b o hbP (fun q => hbm (List.mem_append_left _ q)) e)
    refine ⟨ds.length + 1 - (i + 1), by omega, h'', t'', H'', i + 1, ρ'', rfl, τ₄.trans σ', hle.trans hu, fun b hb => ?_, hst, hlt, hJ', rfl⟩
    have al := stl _ _ st₃ b hb
    exact σ'.base.miss (τ4s.base.lives al) (hoff b hb)
  · have hin : i = ds.length := by omega
    subst hin
    refine W.done _ _ _ st' fun h₃ t₃ hk₃ => ?_
    refine wpAny_execs_nil ?_
    exact k ρ' H' h₃ t₃ (moved hk₃) (S₂.up.trans hle) (Jk _ _ _ _ _ _ hJ (.refl _) (exNow hk₃))
end
end Mine
namespace Mine

theorem newEnv_cell {M : Model} {A : Around} {E : Value → Shared → Prop} {s : Shared} {scope : Scope} {globals : Addr} {cl : List (Str × Addr)} {qual : Str} {outer : Env} {y : Str} {Q : Env → Shared → Prop}
    (hcells : ∀ a acc, cellsFrom a scope.names acc = (y, a) :: acc) (hpush : ∀ h : Heap, pushCells h scope.names = h.push { cls := .type "cell", data := .cell none })
    (hQ : ∀ h', h'.Ns s.heap.objs.size (fun _ => none) → h'.get? (s.heap.objs.size + 1) = some { cls := .type "cell", data := .cell none } → (∀ b o, s.heap.get? b = some o → h'.get? b = some o) →
      Q (newEnv scope s.heap.objs.size globals ((y, s.heap.objs.size + 1) :: cl) qual none .none (some outer) builtinsNs) { s with heap := h' }) :
    wpAny M A (newFunctionEnv scope globals cl [] qual none .none (some outer)) Q E s := by
  simp only [newFunctionEnv, Option.isSome_some, if_true]
  refine wpAny_bind (wpAny_alloc ?_)
  refine wpAny_bind (wpAny_layCells _ (fun name kind cells => by cases hkc : kind == NameKind.cell <;> simp) _ _ _ _ ?_)
  rw [hcells, hpush]
  refine wpAny_bind ?_
  rw [List.forIn_nil]
  refine wpAny_pure (wpAny_pure ?_)
  have e : (s.heap.push { cls := .type "dict", data := .dict #[] }).objs.size = s.heap.objs.size + 1 := Heap.size_push ..
  have := hQ ((s.heap.push { cls := .type "dict", data := .dict #[] }).push { cls := .type "cell", data := .cell none }) ((Heap.Ns.new s.heap (.type "dict")).keeps fun b o e => Heap.get?_push_of_some _ e) (by rw [← e]; exact Heap.get?_push_size _ rfl)
    (fun b o e => Heap.get?_push_of_some _ (Heap.get?_push_of_some _ e))
  rw [← e] at this
  exact this

section
variable {c : Cfg} {n : Nat} {env : Env} {ρ : Str → Option Value} {H : View} {d : D} {cl : List (Str × Addr)} {scope : Scope}

theorem Frm.compC {h : Heap} {C K : Addr} {m : Str → Option Value} {x y : Str} {v : Value} {w : Option Value} (F : Frm c env ρ h) (fo : FreeOk env scope cl) (hk : scope.kind = .function) (hn : h.Ns C m) (hm : m x = some v) (hC : C ≠ c.P)
    (hx : scope.names.lookup x = some .local) (hyc : cl.lookup y = none) (hxy : x ≠ y) (hK : K ≠ c.P) (cK : h.IsCell K w) : Frm c (compEnvC scope ((y, K) :: cl) C env) (upd (freeρ cl ρ) x v) h := by
  have F1 := Frm.comp F fo hk hn hm hC hx
  have look : ∀ z a, ((y, K) :: cl).lookup z = some a → (z = y ∧ a = K) ∨ (z ≠ y ∧ cl.lookup z = some a) := fun z a e => by
    rw [List.lookup_cons] at e
    cases hz : (z == y) with
    | true => rw [hz] at e; cases e; exact .inl ⟨eq_of_beq hz, rfl⟩
    | false => rw [hz] at e; exact .inr ⟨by simpa using hz, e⟩
  refine ⟨F1.kind, F1.gl, F1.bl, F1.apL, fun z a e => ?_, F1.loc, fun z a e => ?_, fun z u e hkd => ?_⟩
  · rcases look z a e with ⟨rfl, rfl⟩ | ⟨_, e'⟩
    · exact hK
    · exact F1.apC z a e'
  · rcases look z a e with ⟨rfl, rfl⟩ | ⟨_, e'⟩
    · exact ⟨w, cK⟩
    · exact F1.cell z a e'
  · obtain ⟨a, h1, h2⟩ := F1.cel z u e hkd
    refine ⟨a, ?_, h2⟩
    have hzy : z ≠ y := fun q => by
      subst q
      rw [upd_ne (Ne.symm hxy)] at e
      unfold freeρ at e
      rw [hyc] at e
      simp at e
    show ((y, K) :: cl).lookup z = some a
    rw [List.lookup_cons]
    have : (z == y) = false := by simpa using hzy
    rw [this]
    exact h1

theorem Frm.comp2C {h : Heap} {C K : Addr} {m : Str → Option Value} {x y : Str} {v u : Value} (F : Frm c env ρ h) (fo : FreeOk env scope cl) (hk : scope.kind = .function) (hn : h.Ns C m) (hm : m x = some v) (hC : C ≠ c.P)
    (hx : scope.names.lookup x = some .local) (hyk : ∀ env, (relabel scope env).names.lookup y = some .cell) (hyc : cl.lookup y = none) (hxy : x ≠ y) (hK : K ≠ c.P) (cK : h.IsCell K (some u)) : Frm c (compEnvC scope ((y, K) :: cl) C env) (upd (upd (freeρ cl ρ) x v) y u) h := by
  have F1 := Frm.compC F fo hk hn hm hC hx hyc hxy hK cK
  have hky : (compEnvC scope ((y, K) :: cl) C env).kindOf y = some .cell := hyk env
  refine ⟨F1.kind, F1.gl, F1.bl, F1.apL, F1.apC, ?_, F1.cell, fun z w e hkd => ?_⟩
  · obtain ⟨m', h1, h2⟩ := F1.loc
    refine ⟨m', h1, fun z w e hl => ?_⟩
    by_cases hz : z = y
    · subst hz; rw [hky] at hl; cases hl
    · rw [upd_ne hz] at e; exact h2 z w e hl
  · by_cases hz : z = y
    · subst hz
      rw [upd_eq] at e
      cases e
      exact ⟨K, by show ((z, K) :: cl).lookup z = some K; rw [List.lookup_cons]; simp, cK⟩
    · rw [upd_ne hz] at e
      exact F1.cel z w e hkd

theorem PE.listComp2c {elt i0 i1 : Expr} {x y : Str} {px py pos : Pos} {ds : List D} {inn : D → List D} {g : D → D → D}
    (fo : FreeOk env scope cl) (hcells : ∀ a acc, cellsFrom a scope.names acc = (y, a) :: acc) (hpush : ∀ h : Heap, pushCells h scope.names = h.push { cls := .type "cell", data := .cell none }) (hkind : scope.kind = .function)
    (hnames : ∀ y ∈ scope.names, y.2 = .local → scope.names.lookup y.1 = some .local) (hx : scope.names.lookup x = some .local) (hyk : ∀ env, (relabel scope env).names.lookup y = some .cell) (hxy : x ≠ y) (hyc : cl.lookup y = none)
    (it : IT c n env ρ H i0 ds) {N : Nat} (hN : ∀ d ∈ ds, (inn d).length ≤ N) (hsz : (ds.length + 1) * N ≤ sizeLine)
    (hin : ∀ C K d v H', d ∈ ds → VLe H H' → Rel H' v d → IT c n (compEnvC scope ((y, K) :: cl) C env) (upd (freeρ cl ρ) x v) H' i1 (inn d))
    (hel : ∀ C K d v d2 u H', d ∈ ds → d2 ∈ inn d → VLe H H' → Rel H' v d → Rel H' u d2 → PE c n (compEnvC scope ((y, K) :: cl) C env) (upd (upd (freeρ cl ρ) x v) y u) H' elt (g d d2))
    (hs : ∀ x, foldedSetIterable i0 env x = pure x := by intro _; rfl) (hs1 : ∀ env x, foldedSetIterable i1 env x = pure x := by intro _ _; rfl) :
    PE c n env ρ H (comp2 elt x y px py i0 i1 scope pos) (.list (ds.flatMap fun d => (inn d).map (g d))) := ⟨fun A ok s₀ H₁ k₀ I F₀ Q E q => by
  rw [eval_ListComp]
  refine wpAny_comprehension_free (use := none) rfl hs fo.clos hkind hnames (it.run A ok s₀ H₁ k₀ I F₀ _ _ fun it fp wr P St H₂ h₂ t₂ S₂ W st hfp hwr stl hP hnw => ?_)
  have k := k₀.trans S₂.up
  have I₂ := S₂.inv
  have hsep : ∀ h', (∀ b o, b ≠ c.P → b ∉ wr → h₂.get? b = some o → h'.get? b = some o) → Frm c env ρ h' := fun h' hk => F₀.ext fun b o hb e => hk b o hb (fun hw => by rw [(hwr b hw).2] at e; cases e) (S₂.ext b o hb e)
  have hnD := fresh_none h₂
  refine wpAny_newObj_type (newEnv_cell hcells hpush fun h₁ hns₁ hcK₁ hk₁ => ?_)
  dsimp only at hns₁ hcK₁ hk₁ ⊢
  have hsz2 : (h₂.push { cls := .type "list", dict := none, data := .seq ([] : List Value).toArray }).objs.size = h₂.objs.size + 1 := Heap.size_push ..
  have hacc0 : (h₂.push { cls := .type "list", dict := none, data := .seq ([] : List Value).toArray }).get? h₂.objs.size = some (lstO #[] 0) := Heap.get?_push_size _ rfl
  have keep1 : ∀ b o, h₂.get? b = some o → (h₂.push { cls := .type "list", dict := none, data := .seq ([] : List Value).toArray }).get? b = some o := fun b o e => Heap.get?_push_of_some _ e
  generalize h₂.push { cls := .type "list", dict := none, data := .seq ([] : List Value).toArray } = H2 at hns₁ hcK₁ hk₁ hsz2 hacc0 keep1 ⊢
  obtain ⟨Dd, hDd⟩ : ∃ a, a = h₂.objs.size := ⟨_, rfl⟩
  obtain ⟨C, hC⟩ : ∃ a, a = H2.objs.size := ⟨_, rfl⟩
  obtain ⟨K, hK⟩ : ∃ a, a = H2.objs.size + 1 := ⟨_, rfl⟩
  rw [← hDd] at hacc0 hnD ⊢
  have hKC : K = C + 1 := by rw [hK, hC]
  rw [← hC] at hns₁ hcK₁ ⊢
  rw [← hKC] at hcK₁ ⊢
  have hCD : C = Dd + 1 := by rw [hC, hDd, hsz2]
  have hDC : Dd ≠ C := by omega
  have hCK : C ≠ K := by omega
  have hDK : Dd ≠ K := by omega
  have fresh : ∀ a, Dd ≤ a → h₂.get? a = none := fun a ha => Heap.get?_none_of_le (hDd ▸ ha)
  have nD := fresh Dd (Nat.le_refl _)
  have nC := fresh C (by omega)
  have nK := fresh K (by omega)
  have old : ∀ b o, h₂.get? b = some o → h₁.get? b = some o := fun b o e => hk₁ b o (keep1 b o e)
  have hacc : h₁.get? Dd = some (lstO #[] 0) := hk₁ _ _ hacc0
  have S₁ : HStep c H₂ h₂ H₂ h₁ := .grow I₂ old
  have hst₁ : St 0 h₁ := W.frame _ _ _ st fun b _ o e => old b o e
  have PD : Dd ≠ c.P := I₂.neP nD
  have PC : C ≠ c.P := I₂.neP nC
  have PK : K ≠ c.P := I₂.neP nK
  have hbig : ∀ b ∈ fp, b < Dd := fun b hb => hDd ▸ (hfp b hb).1
  have three : ∀ {b : Addr}, b ∈ [Dd, C, K] → b = Dd ∨ b = C ∨ b = K := fun hb => by simpa using hb
  have aC : ∀ {h : Heap} {m}, h.Ns C m → (h.get? C).isSome = true := fun hm => by obtain ⟨o, _, _, ho, _⟩ := hm; rw [ho]; rfl
  have aK : ∀ {h : Heap} {w}, h.IsCell K w → (h.get? K).isSome = true := fun hm => by obtain ⟨o, ho, _⟩ := hm; rw [ho]; rfl
  have loop : codeAny (model c.prog c.w) A (.compLoop (comp2 elt x y px py i0 i1 scope pos) 0 (.ref it) (.ref Dd) (compEnvC scope ((y, K) :: cl) C env))
        (compPost (model c.prog c.w) A E none Q (.ref Dd) C) { s₀ with heap := h₁, toks := t₂ } := by
    refine comp_inv (H := H₂) (mu := [Dd, C, K]) (ds := ds) (px := px) (x := x) (cenv := compEnvC scope ((y, K) :: cl) C env) (Acc := AccL Dd) (VI := fun h => (∃ m, h.Ns C m) ∧ ∃ w, h.IsCell K w) (FV := fun v h => ∃ m, h.Ns C m ∧ m x = some v)
      (em := fun d => (inn d).map (g d)) (rs₀ := [])
      (BT := fun Q E s9 => wpAny (model c.prog c.w) A (eval i1 (compEnvC scope ((y, K) :: cl) C env)) (fun z s₃ => wpAny (model c.prog c.w) A (pyIter z) (fun it' s₄ =>
          codeAny (model c.prog c.w) A (.compStart (comp2 elt x y px py i0 i1 scope pos) 1 it' (.ref Dd) (compEnvC scope ((y, K) :: cl) C env)) (fun r s' => match r with | .ok f => Q () s' | .error e => cameBackBy (model c.prog c.w) A (compEnvC scope ((y, K) :: cl) C env) E e s') s₄) E s₃) E s9)
      W hP (fun J turn n' s' hJ => codeAny_loop_outer J (fun n s h => turn n s h) n' hJ (hs1 _)) ?_ (fun b hb => (hfp b hb).2) (fun b hb => (hwr b hb).1) (stl 0 h₁ hst₁) ?_ ?_ stl S₁.inv hst₁ ⟨#[], 0, hacc, .nil⟩ ⟨⟨_, hns₁⟩, ⟨none, _, hcK₁, rfl⟩⟩ ?_ ?_ ?_ ?_ ?_
    · intro b hb hf
      have h1 := hbig _ hf
      have h2 : Dd ≤ b := by
        rcases three hb with q | q | q
        · exact Nat.le_of_eq q.symm
        · rw [q, hCD]; exact Nat.le_succ _
        · rw [q, hKC, hCD]; exact Nat.le_add_right _ 2
      exact absurd h1 (Nat.not_lt.mpr h2)
    · intro b hb
      rcases three hb with rfl | rfl | rfl
      · exact I₂.none_of nD
      · exact I₂.none_of nC
      · exact I₂.none_of nK
    · intro b hb
      rcases three hb with rfl | rfl | rfl
      · show (h₁.get? _).isSome = true
        rw [hacc]; rfl
      · exact aC hns₁
      · show (h₁.get? _).isSome = true
        rw [hcK₁]; rfl
    · rintro X₁ X₂ g₁ g₂ rs hX hg ⟨vs, k', h1, h2⟩
      exact ⟨vs, k', hg _ _ (by simp) h1, h2.mono hX⟩
    · rintro g₁ g₂ hg ⟨⟨m, hm⟩, w, ob, e1, e2⟩
      exact ⟨⟨m, hm.at' fun o e => hg _ o (by simp) e⟩, w, ob, hg _ _ (by simp) e1, e2⟩
    · rintro v H' s' S' ⟨⟨m, hm⟩, w, hw⟩ Q E q
      have offC : H' C = none := S'.miss (aC hns₁) (I₂.none_of nC)
      refine wpAny_assign_Name (wpAny_storeName_local (env := compEnvC scope ((y, K) :: cl) C env) (lookup_relabel_local hx) hm (fun h₂' hn₂ hs₂ => ?_) (by show (scope.kind == .class || (scope.kind == .module && _)) = false; rw [hkind]; rfl))
      have hs₂' : Heap.SameBut C s'.heap h₂' := hs₂
      have hn₂' : h₂'.Ns C (fun y => if y = x then some v else m y) := hn₂
      refine q h₂' _ (MStep.at S'.inv (by simp) offC PC hs₂' (aC hn₂')) ⟨_, hn₂', by simp⟩ ⟨⟨_, hn₂'⟩, w, hw.sameBut hs₂' (Ne.symm hCK)⟩ ?_
      rintro rs ⟨vs, k', h1, h2⟩
      exact ⟨vs, k', (hs₂'.2 _ hDC).trans h1, h2⟩
    · rintro d v H' s' rs i hd hi hrs S' offM R' ⟨m, hm, hmx⟩ ⟨_, w, hw⟩ ⟨vs, k', ha, hr⟩ Q E q
      have offD : H' Dd = none := offM _ (by simp)
      have offC : H' C = none := offM _ (by simp)
      have offK : H' K = none := offM _ (by simp)
      have FF : ∀ {h' : Heap}, (∀ b o, b ≠ c.P → b ∉ [Dd, C, K] → s'.heap.get? b = some o → h'.get? b = some o) → Frm c env ρ h' := fun hk => hsep _ fun b o hb hw e₂ => by
        have hm0 : b ∉ [Dd, C, K] := fun hm' => by
          rcases three hm' with rfl | rfl | rfl
          · rw [nD] at e₂; cases e₂
          · rw [nC] at e₂; cases e₂
          · rw [nK] at e₂; cases e₂
        refine hk b o hb hm0 (S'.ext b o hb (fun hm' => ?_) (old b o e₂))
        rcases List.mem_append.mp hm' with q' | q'
        · exact hm0 q'
        · exact hw q'
      have F' : Frm c (compEnvC scope ((y, K) :: cl) C env) (upd (freeρ cl ρ) x v) s'.heap := Frm.compC (FF fun b o _ _ e => e) fo hkind hm hmx PC hx hyc hxy PK hw
      have liveMu : ∀ b ∈ [Dd, C, K], (s'.heap.get? b).isSome = true := fun b hb => by
        rcases three hb with rfl | rfl | rfl
        · rw [ha]; rfl
        · exact aC hm
        · exact aK hw
      refine (hin C K d v H' hd (k.trans S'.up) R').run A ok s' H' (.refl _) S'.inv F' _ _ fun it' fp' wr' P' St' H₄ h₄ t₄ S₄ W' st' hfp' hwr' stl' hP' hnw' => ?_
      have loop' : codeAny (model c.prog c.w) A (.compLoop (comp2 elt x y px py i0 i1 scope pos) 1 (.ref it') (.ref Dd) (compEnvC scope ((y, K) :: cl) C env))
          (fun r s' => match r with | .ok f => Q () s' | .error e => cameBackBy (model c.prog c.w) A (compEnvC scope ((y, K) :: cl) C env) E e s') { s' with heap := h₄, toks := t₄ } := by
        have off4 : ∀ b ∈ [Dd, C, K], H₄ b = none := fun b hb => by
          obtain ⟨o, ho⟩ := Option.isSome_iff_exists.mp (liveMu b hb)
          exact S₄.miss ho (offM b hb)
        have hm₄ : h₄.Ns C m := hm.at' fun o e => S₄.ext _ o PC e
        have hw₄ : h₄.IsCell K w := let ⟨o, e1, e2⟩ := hw; ⟨o, S₄.ext _ o PK e1, e2⟩
        have ha₄ := S₄.ext _ _ PD ha
        refine comp_inv (H := H₄) (mu := [Dd, C, K]) (ds := inn d) (px := py) (x := y) (cenv := compEnvC scope ((y, K) :: cl) C env) (Acc := AccL Dd) (VI := fun h => (∃ m, h.Ns C m ∧ m x = some v) ∧ ∃ w, h.IsCell K w) (FV := fun u h => (∃ m, h.Ns C m ∧ m x = some v) ∧ h.IsCell K (some u))
          (em := fun d2 => [g d d2]) (rs₀ := rs)
          (BT := fun Q E s9 => wpAny (model c.prog c.w) A (eval elt (compEnvC scope ((y, K) :: cl) C env)) (fun z s₃ => wpAny (model c.prog c.w) A (PySem.call (.builtin "list.append") [.ref Dd, z]) (fun _ s₄ => Q () s₄) E s₃) E s9)
          W' hP' (fun J turn n' s' hJ => codeAny_loop_inner J (fun n s h => turn n s h) n' hJ) ?_ (fun b hb => (hfp' b hb).2) (fun b hb => (hwr' b hb).1) (stl' 0 h₄ st') off4 ?_ stl' S₄.inv st' ⟨vs, k', ha₄, hr.mono S₄.up⟩ ⟨⟨m, hm₄, hmx⟩, w, hw₄⟩ ?_ ?_ ?_ ?_ ?_
        · intro b hb hf
          rcases hnw' b hf with ⟨o, ho⟩ | hn
          · rw [off4 b hb] at ho; cases ho
          · have := liveMu b hb; rw [hn] at this; cases this
        · intro b hb
          rcases three hb with rfl | rfl | rfl
          · show (h₄.get? _).isSome = true
            rw [ha₄]; rfl
          · exact aC hm₄
          · exact aK hw₄
        · rintro X₁ X₂ g₁ g₂ rs hX hg ⟨vs, k', h1, h2⟩
          exact ⟨vs, k', hg _ _ (by simp) h1, h2.mono hX⟩
        · rintro g₁ g₂ hg ⟨⟨m, hm, hmx⟩, w, ob, e1, e2⟩
          exact ⟨⟨m, hm.at' fun o e => hg _ o (by simp) e, hmx⟩, w, ob, hg _ _ (by simp) e1, e2⟩
        · rintro u H₅ s₅ S₅ ⟨⟨m', hm', hmx'⟩, w', hw'⟩ Q E q
          have offK5 : H₅ K = none := S₅.miss (aK hw₄) (off4 _ (by simp))
          refine wpAny_assign_Name (wpAny_storeName_cell (env := compEnvC scope ((y, K) :: cl) C env) (c := K) hkind (hyk env) (by show ((y, K) :: cl).lookup y = some K; rw [List.lookup_cons]; simp) hw' fun h₆ hc₆ hs₆ => ?_)
          refine q h₆ _ (MStep.at S₅.inv (by simp) offK5 PK hs₆ (aK hc₆)) ⟨⟨m', hm'.sameBut hs₆ hCK, hmx'⟩, hc₆⟩ ⟨⟨m', hm'.sameBut hs₆ hCK, hmx'⟩, _, hc₆⟩ ?_
          rintro rs ⟨vs, k', h1, h2⟩
          exact ⟨vs, k', (hs₆.2 _ hDK).trans h1, h2⟩
        · rintro d2 u H₅ s₅ rs' j hd2 hj hrs' S₅ offM5 R₅ ⟨⟨m', hm', hmx'⟩, hcu⟩ - ⟨vs', k5, ha5, hr5⟩ Q E q
          have offD5 : H₅ Dd = none := offM5 _ (by simp)
          have F5 : Frm c (compEnvC scope ((y, K) :: cl) C env) (upd (upd (freeρ cl ρ) x v) y u) s₅.heap := by
            refine Frm.comp2C (FF fun b o hb h1 e => ?_) fo hkind hm' hmx' PC hx hyk hyc hxy PK hcu
            refine S₅.ext b o hb (fun hm'' => ?_) (S₄.ext b o hb e)
            rcases List.mem_append.mp hm'' with q' | q'
            · exact h1 q'
            · rw [(hwr' b q').2] at e; cases e
          have up5 := (k.trans S'.up).trans (S₄.up.trans S₅.up)
          refine (hel C K d v d2 u H₅ hd hd2 up5 (R'.mono (S₄.up.trans S₅.up)) R₅).run A ok s₅ H₅ (.refl _) S₅.inv F5 _ _ fun z H₆ h₆ t₆ S₆ R₆ => ?_
          have ha6 := S₆.ext _ _ PD ha5
          have hm6 : h₆.Ns C m' := hm'.at' fun o e => S₆.ext _ o PC e
          have hc6 : h₆.IsCell K (some u) := let ⟨o, e1, e2⟩ := hcu; ⟨o, S₆.ext _ o PK e1, e2⟩
          have offD6 : H₆ Dd = none := S₆.miss ha5 offD5
          refine wpAny_list_append_plain (items := vs') ⟨k5, ha6⟩ (fun h₇ hl₇ hs₇ => ?_) ?_
          · obtain ⟨k₇, ha₇⟩ := hl₇
            refine q H₆ h₇ t₆ (S₆.toM.trans (MStep.at S₆.inv (by simp) offD6 PD hs₇ (by rw [ha₇]; rfl))) ⟨vs'.push z, k₇, ha₇, ?_⟩ ⟨⟨m', hm6.sameBut hs₇ (Ne.symm hDC), hmx'⟩, _, hc6.sameBut hs₇ (Ne.symm hDK)⟩
            rw [Array.toList_push]
            exact (hr5.mono S₆.up).append (.cons R₆ .nil)
          · have e1 := hr5.length
            have e3 : vs'.toList.length = vs'.size := by simp
            have hle : rs'.length ≤ (ds.length + 1) * N := by
              rw [hrs', hrs, List.nil_append, List.length_append]
              have e5 : ((inn d).take j |>.flatMap fun d2 => [g d d2]).length ≤ N := by
                rw [flat_one, List.length_map, List.length_take]
                exact Nat.le_trans (Nat.min_le_right _ _) (hN d hd)
              have e6 := flat_le (fun d => (inn d).map (g d)) (N := N) (ds.take i) (fun d hd => by rw [List.length_map]; exact hN d (List.mem_of_mem_take hd))
              have e7 : (ds.take i).length * N ≤ ds.length * N := Nat.mul_le_mul_right _ (by rw [List.length_take]; exact Nat.min_le_right _ _)
              rw [Nat.succ_mul]
              omega
            omega
        · rintro H₅ h₅ t₅ S₅ offM5 ⟨vs', k5, ha5, hr5⟩ ⟨⟨m', hm', hmx'⟩, w', hw'⟩
          refine q H₅ h₅ t₅ ⟨S₄.up.trans S₅.up, fun b o e => ?_, fun b o hb hm'' e => ?_, fun b hb _ => ?_, S₅.inv⟩ ⟨vs', k5, ha5, ?_⟩ ⟨⟨m', hm'⟩, w', hw'⟩
          · rcases S₅.fresh b o e with e' | e'
            · exact S₄.fresh b o e'
            · exact .inr (S₄.alive S'.inv e')
          · refine S₅.ext b o hb (fun q' => ?_) (S₄.ext b o hb e)
            rcases List.mem_append.mp q' with q' | q'
            · exact hm'' q'
            · rw [(hwr' b q').2] at e; cases e
          · rcases three hb with rfl | rfl | rfl
            · rw [ha5]; rfl
            · exact aC hm'
            · exact aK hw'
          · rw [flat_one] at hr5; exact hr5
      exact codeAny_start_inner loop' (W'.self 0 _ _ _ st' loop')
    · rintro H' h' t' S' offM ⟨vs, k', ha, hr⟩ ⟨⟨m, hm⟩, -⟩
      rw [List.nil_append] at hr
      refine ⟨m, hm, fun h'' hs'' => ?_⟩
      have oD := offM _ (by simp : Dd ∈ _)
      have oC := offM _ (by simp : C ∈ _)
      have y0 : HStep c H₁ s₀.heap H' h' := DStep.toH S₂ I (mu := [Dd, C, K] ++ wr) ⟨S'.up, fun b o e => (S'.fresh b o e).imp id (fun e' => S₁.alive I₂ e'), fun b o hb hm' e => S'.ext b o hb hm' (old b o e), S'.inv⟩ (fun b hb => by
        rcases List.mem_append.mp hb with q | q
        · rcases three q with rfl | rfl | rfl
          · exact S₂.alive I nD
          · exact S₂.alive I nC
          · exact S₂.alive I nK
        · exact (hwr b q).2)
      have z0 : HStep c H₁ s₀.heap H' h'' := y0.late (S₂.alive I nC) PC oC hs''
      have z := z0.freeze (S₂.alive I nD) oD PD ((hs''.2 _ hDC).trans ha)
      exact q _ _ h'' t' z (.list View.add_self (hr.mono (View.le_add oD)))
  exact codeAny_compStart_list loop (W.self 0 _ _ _ hst₁ loop)⟩
end
end Mine
namespace Mine
section
variable {c : Cfg} {n : Nat} {env : Env} {ex : List Addr} {ρ : Str → Option Value} {H H₀ : View} {h₀ h : Heap} {d : D} {cl : List (Str × Addr)} {scope : Scope}

/-- y = [.. for .. for ..], the store and the letting go exchanged -/
theorem Fs.asgComp2 {elt i0 i1 : Expr} {x y z : Str} {px py pz pos spos : Pos} {ds : List D} {inn : D → List D} {g : D → D → D} {rest : List Stmt} {A : Around} {s : Shared} {E : Value → Shared → Prop} {Q : Flow → Shared → Prop}
    (σ : Fs c env H₀ h₀ ρ H h) (ok : Ok A n) (hsh : s.heap = h)
    (hsw : swapsWith (comp2 elt x y px py i0 i1 scope pos) (some (.Name z pz)) spos.line env = pure true) (hz : env.kindOf z = some .local) (ap : CellsApart env)
    (fo : FreeOk env scope cl) (hcell : ∀ y ∈ scope.names, y.2 ≠ .cell) (hkind : scope.kind = .function) (hnames : ∀ y ∈ scope.names, y.2 = .local → scope.names.lookup y.1 = some .local) (hx : scope.names.lookup x = some .local) (hy : scope.names.lookup y = some .local) (hxy : x ≠ y)
    (it : IT c n env ρ H i0 ds) {N : Nat} (hN : ∀ d ∈ ds, (inn d).length ≤ N) (hsz : (ds.length + 1) * N ≤ sizeLine)
    (hin : ∀ C d v H', d ∈ ds → VLe H H' → Rel H' v d → IT c n (compEnvC scope cl C env) (upd (freeρ cl ρ) x v) H' i1 (inn d))
    (hel : ∀ C d v d2 u H', d ∈ ds → d2 ∈ inn d → VLe H H' → Rel H' v d → Rel H' u d2 → PE c n (compEnvC scope cl C env) (upd (upd (freeρ cl ρ) x v) y u) H' elt (g d d2))
    (q : ∀ v H' h' tk', Fs c env H₀ h₀ (upd ρ z v) H' h' → VLe H H' → Rel H' v (.list (ds.flatMap fun d => (inn d).map (g d))) → wpAny (model c.prog c.w) A (execs rest env) Q E { s with heap := h', toks := tk' })
    (hs : ∀ x, foldedSetIterable i0 env x = pure x := by intro _; rfl) (hs1 : ∀ env x, foldedSetIterable i1 env x = pure x := by intro _ _; rfl) :
    wpAny (model c.prog c.w) A (execs (.Assign [.Name z pz] (comp2 elt x y px py i0 i1 scope pos) spos :: rest) env) Q E s := by
  subst hsh
  have F := σ.frm
  have I := σ.base.inv
  refine wpAny_execs_cons ?_
  rw [exec_Assign_Name_used _ _ _ _ hsw]
  refine wpAny_bind (wpAny_standAt (wpAny_bind ?_))
  let Q₁ : Flow → Shared → Prop := fun f s' => match f with | .next => wpAny (model c.prog c.w) A (execs rest env) Q E s' | f => Q f s'
  show wpAny _ A (do let _ ← comprehension (comp2 elt x y px py i0 i1 scope pos) scope env _ (newList []) false (eval i0 env) (some (PySem.assign (.Name z pz) env))) _ _ s
  refine wpAny_bind (wpAny_mono (wpAny_comprehension_free (use := some (PySem.assign (.Name z pz) env)) (Q := fun _ s' => Q₁ .next s') rfl hs fo.clos hkind hnames
    (it.run A ok s H (.refl _) I F _ _ fun it fp wr P St H₂ h₂ t₂ S₂ W st hfp hwr stl hP hnw => ?_)) (fun _ s' hq => wpAny_pure (wpAny_pure hq)) fun _ _ e => e)
  refine comp2Run fo hcell hkind hx hy hxy hN hsz hin hel hs1 ok (s := { s with heap := h₂, toks := t₂ }) S₂.up S₂.inv W st hfp (fun b hb => (hwr b hb).1) stl hP (fun h' hk => F.ext fun b o hb e => hk b o hb (fun hw => by rw [(hwr b hw).2] at e; cases e) (S₂.ext b o hb e)) ?_
  rintro Dd C H' h' tk' vs k' S' nD nC hDC oD oC' ha hr ⟨m, hm⟩
  have PC : C ≠ c.P := S₂.inv.neP nC
  have nC0 := S₂.alive I nC
  have z' := DStep.frozen S₂ I S' nD nC hDC oD oC' (fun b hb => (hwr b hb).2) (Heap.SameBut.refl C h') ha
  have σz := σ.step z'
  have cm : C ∉ mus env := fun hc => by have := F.alive C hc; rw [nC0] at this; cases this
  show wpAny _ A (PySem.assign (.Name z pz) env (.ref Dd)) _ _ _
  refine wpAny_assign_Name (σz.re.store (s := { s with heap := h', toks := tk' }) rfl (.inl hz) ap fun h₃ t₃ σ₃ => ?_)
  have hm₃ : h₃.Ns C m := hm.at' fun o e => σ₃.base.ext C o PC cm e
  refine ⟨m, hm₃, fun h₄ hs₄ => ?_⟩
  have R₄ : Rel (H'.add Dd (lstO vs k')) (.ref Dd) (.list (ds.flatMap fun d => (inn d).map (g d))) := .list View.add_self (hr.mono (View.le_add oD))
  have hCz : (H'.add Dd (lstO vs k')) C = none := by unfold View.add; rw [if_neg (Ne.symm hDC)]; exact oC'
  have hs₄' : ∀ b, b ≠ C → h₄.get? b = h₃.get? b := hs₄.2
  -- from where the block began to its end: C was new, so what stood stands
  have I₄ : Inv c (H'.add Dd (lstO vs k')) h₄ := ⟨fun b o e => (hs₄' b fun q => by rw [q, hCz] at e; cases e).trans (σ₃.base.inv.le b o e), σ₃.base.inv.base, σ₃.base.inv.noP, let ⟨ob, e1, e2⟩ := σ₃.base.inv.tb; ⟨ob, (hs₄' _ (Ne.symm PC)).trans e1, e2⟩⟩
  have T := σ.base.trans ((z'.toM (mu := mus env)).trans σ₃.base)
  have n0 : h₀.get? C = none := by
    cases q' : h₀.get? C with
    | none => rfl
    | some ob => have := σ.base.lives (b := C) (by rw [q']; rfl); rw [nC0] at this; cases this
  have σ₄ : Fs c env H₀ h₀ (upd ρ z (.ref Dd)) (H'.add Dd (lstO vs k')) h₄ := by
    refine ⟨⟨T.up, T.fresh, fun b o hb hm' e => (hs₄' b fun q => by rw [q, n0] at e; cases e).trans (T.ext b o hb hm' e), fun b hb e => ?_, I₄⟩, σ₃.frm.extM fun b hb o e => (hs₄' b fun q => cm (q ▸ hb)).trans e, σ₃.off⟩
    have hbC : b ≠ C := fun q => by rw [q, n0] at e; cases e
    rw [hs₄' b hbC]; exact T.live b hb e
  exact q (.ref Dd) _ h₄ t₃ σ₄ z'.up R₄
end
end Mine
namespace Mine

section
variable {c : Cfg}
theorem array_out_node (hK : c.K = Mine.hd.heap_39 c.w.params) {n : Nat} {H : View} {l : List D} (hsz : szs l ≤ 1000000)
    (ih : ∀ t ∈ l, ∀ H', VLe H H' → Fun c n (.ref 745) H' [t] (.str t.txt)) : Fun c (n + 1) (.ref 745) H [.list l] (.str (D.list l).txt) := by
  refine' Fun.enter (ps := [Str.ofString "val"]) ?ho ?hcd ?hbind ?hloc ?hcell ?h ?h1 ?h2 ?h3
  case ho => rw [hK]; k_is
  case hcd => rw [hK]; k_is
  case h1 => rfl
  case h2 => rfl
  case h3 => rfl
  case hcell => decide
  case hloc => decide
  case hbind => intro vs hl; obtain ⟨v, rfl⟩ := one_of hl rfl; rfl
  case h =>
    intro vs H₁ L k R
    obtain ⟨v, rfl⟩ := one_of R.length rfl
    have r := R.one
    refine SR.ifRet (b := true) (PT.bool (PE.call rfl (globB (by rw [hK]; k_is) (by decide +kernel)) (.builtin _) (PEs.two (PE.name (v := v) rfl r (.inl rfl)) (PE.glob (globB (v := .type "list") (by rw [hK]; k_is) (by decide +kernel)) rfl)) Fun.isList)) (fun _ => ?_) (fun h => by cases h)
    have hlen : l.length ≤ sizeLine := by
      have := szs_sum l
      have e : sizeLine = 16777216 := by decide
      omega
    refine SR.assignCompAll (g := fun d => .str d.txt) rfl rfl (by decide) (by decide) rfl (by decide) rfl (IT.list (PE.name (v := v) rfl r (.inl rfl))) hlen ?_ ?_
    · intro C d u H' hd hH ru
      exact PE.call rfl (.inl (by rw [hK]; k_is)) (.fn (by rw [hK]; k_is)) (PEs.one (PE.name (v := u) rfl ru (.inl rfl))) (ih d hd H' (k.trans hH))
    · intro u H' hH ru
      have e : l.map (fun d => D.str d.txt) = (txts l).map D.str := by rw [txts_map, List.map_map]; rfl
      rw [e] at ru
      rw [D.txt]
      refine SR.ret (PE.joined (xs := [Str.ofString "{", Str.join (Str.ofString ",") (txts l), Str.ofString "}"]) (.cons PE.constStr (.cons (PE.fmt (PE.meth PE.constStr MethR.join (PEs.one (PE.name (v := u) rfl ru (.inl rfl))) (Fun.join (D.joinOk hsz)) (.mk (fun _ _ => rfl) (fun _ => rfl) (by decide) (by decide))) ?_) (.cons PE.constStr .nil))) ?_)
      · exact join_le hsz
      · have := txt_fits hsz
        rwa [D.txt] at this
end
end Mine
namespace Mine

section
variable {c : Cfg}
theorem int_in_sp (hK : c.K = Mine.hd.heap_39 c.w.params) {n : Nat} {H : View} {x : Str} {i : Int} (hn : PySem.intText? x = some i) (hl : x.length ≤ 640) : Fun c (n + 1) (.ref 42) H [.str x] (.int i) := by
  refine' Fun.enter (ps := [Str.ofString "data"]) ?ho ?hcd ?hbind ?hloc ?hcell ?h ?h1 ?h2 ?h3
  case ho => rw [hK]; k_is
  case hcd => rw [hK]; k_is
  case h1 => rfl
  case h2 => rfl
  case h3 => rfl
  case hcell => decide
  case hloc => decide
  case hbind => intro vs hl; obtain ⟨v, rfl⟩ := one_of hl rfl; rfl
  case h =>
    intro vs H₁ L k R
    obtain ⟨v, rfl⟩ := one_of R.length rfl
    exact SR.ret (PE.call rfl (globB (by rw [hK]; k_is) (by decide +kernel)) (.type _) (PEs.one (PE.name (v := v) rfl R.one (.inl rfl))) (Fun.int hn hl))

theorem enumAt (hK : c.K = Mine.hd.heap_39 c.w.params) : EnumAt c.K 682 657 ∧ EnumAt c.K 684 657 ∧ EnumAt c.K 686 657 ∧ EnumAt c.K 688 657 := by
  rw [hK]
  refine ⟨⟨by k_is, by k_is, by k_is, ?_⟩, ⟨by k_is, by k_is, by k_is, ?_⟩, ⟨by k_is, by k_is, by k_is, ?_⟩, ⟨by k_is, by k_is, by k_is, ?_⟩⟩
  all_goals (refine ⟨_, by k_is, ?_⟩; intro h; cases h)
theorem attrAt (hK : c.K = Mine.hd.heap_39 c.w.params) : readsIn c.K 657 (.ref 468) = true ∧ findCls c.K (.ref 657) (.ref 468) "InString" = some (.val (.ref 682)) ∧ findCls c.K (.ref 657) (.ref 468) "InEscape" = some (.val (.ref 684)) ∧ findCls c.K (.ref 657) (.ref 468) "InValue" = some (.val (.ref 686)) ∧ findCls c.K (.ref 657) (.ref 468) "Out" = some (.val (.ref 688)) := by
  rw [hK]
  exact ⟨by k_is, by k_is, by k_is, by k_is, by k_is⟩
end
end Mine
namespace Mine

/-- the names of the loop -/
structure PF (S : Addr) (buf : Option Nat) (ρ : Str → Option Value) (H : View) : Prop where
  hst : ρ "state" = some (.ref (if buf.isSome then 686 else 688))
  hsk : ρ "stack" = some (.ref S)
  had : ρ "adapter" = some (.ref 42)
  hval : ∀ b, buf = some b → ∃ v, ρ "val" = some v ∧ Rel H v (.list [.str ⟨#[b]⟩])

theorem PF.mono {S : Addr} {buf : Option Nat} {ρ : Str → Option Value} {H H' : View} (x : PF S buf ρ H) (k : VLe H H') : PF S buf ρ H' :=
  ⟨x.hst, x.hsk, x.had, fun b e => let ⟨v, h1, h2⟩ := x.hval b e; ⟨v, h1, h2.mono k⟩⟩

theorem digit_reads {b : Nat} (h1 : 48 ≤ b) (h2 : b < 58) : PySem.intText? ⟨#[b]⟩ = some ((b - 48 : Nat) : Int) := by
  have := PySem.intText_digits (x := ⟨#[b]⟩) (by intro c hc; simp at hc; omega) (by simp) (by show 1 ≤ 4300; decide)
  rw [this]
  show some _ = _
  simp [PySem.NumText.digitsVal]

section
variable {c : Cfg}
theorem parse_array (hK : c.K = Mine.hd.heap_39 c.w.params) {n : Nat} {H : View} {x : Str} {d : D} (hx : x.cps.size ≤ 1000000) (hrun : (PS.mk none [[]]).run x.cps.toList = some ⟨none, [[d]]⟩) : Fun c (n + 3) (.ref 719) H [.str x, .raw (.ref 42)] d := by
  have hg : GlobV c "ParserState" (.ref 657) := .inl (by rw [hK]; k_is)
  obtain ⟨hat, hA1, hA2, hA3, hA4⟩ := attrAt hK
  obtain ⟨hE1, hE2, hE3, hE4⟩ := enumAt hK
  refine' Fun.enter (ps := [Str.ofString "data", Str.ofString "adapter"]) ?ho ?hcd ?hbind ?hloc ?hcell ?h ?h1 ?h2 ?h3
  case ho => rw [hK]; k_is
  case hcd => rw [hK]; k_is
  case h1 => rfl
  case h2 => rfl
  case h3 => rfl
  case hcell => decide
  case hloc => decide
  case hbind => intro vs hl; obtain ⟨v, v', rfl⟩ := two_of hl rfl; rfl
  case h =>
    intro vs H₁ L k R
    obtain ⟨v, v', rfl⟩ := two_of R.length rfl
    cases R with
    | cons r R =>
    cases R with
    | cons r' R =>
    cases R
    cases r'
    cases r with
    | str _ tx =>
    refine SR.assign rfl (PE.attrCls rfl hg hat hA4 rfl) fun v₁ H₂ k₂ r₁ => ?_
    cases r₁
    generalize hρ0 : upd (fun y => List.lookup y ([Str.ofString "data", Str.ofString "adapter"].zip [Value.str x tx, Value.ref 42]).reverse) (Str.ofString "state") (Value.ref 688) = ρ0
    have f1 : ρ0 "state" = some (.ref 688) := by rw [← hρ0]; exact upd_eq
    have f2 : ρ0 "adapter" = some (.ref 42) := by rw [← hρ0]; rfl
    have f3 : ρ0 "data" = some (.str x tx) := by rw [← hρ0]; rfl
    constructor
    intro A ok s H₃ k₃ I₃ F₃ oL oC Q E q
    refine Sit.start I₃ F₃ oL rfl fun S h₄ t₄ σ₄ => ?_
    refine σ₄.asg (s := { s with heap := h₄, toks := t₄ }) ok rfl (PE.listD .nil (Nat.zero_le _)) fun v₅ H₅ h₅ t₅ σ₅ k₅ r₅ => ?_
    generalize hρ1 : upd (upd ρ0 (Str.ofString "stack") (Value.ref S)) (Str.ofString "val") v₅ = ρ1 at σ₅
    have g1 : ρ1 "state" = some (.ref 688) := by rw [← hρ1, upd_ne (by decide), upd_ne (by decide)]; exact f1
    have g2 : ρ1 "adapter" = some (.ref 42) := by rw [← hρ1, upd_ne (by decide), upd_ne (by decide)]; exact f2
    have g3 : ρ1 "data" = some (.str x tx) := by rw [← hρ1, upd_ne (by decide), upd_ne (by decide)]; exact f3
    have g4 : ρ1 "stack" = some (.ref S) := by rw [← hρ1, upd_ne (by decide)]; exact upd_eq
    have pf : PF S none ρ1 H₅ := ⟨g1, g4, g2, fun b e => by cases e⟩
    refine wpAny_execs_cons (wpAny_For (wpAny_Name (ldFrm σ₅.frm g3 (.inl rfl) (by decide) (pyIter_strs ok.hh fun o St hof stl W st => ?_)) (by decide)))
    have σ₆ := σ₅.iter o hof
    have hw0 : ∀ b ∈ [h₅.objs.size], s.heap.get? b = none := fun b hb => by
      rw [List.mem_singleton.mp hb]
      cases q' : s.heap.get? h₅.objs.size with
      | none => rfl
      | some ob => have := σ₅.base.lives (b := h₅.objs.size) (by rw [q']; rfl); rw [fresh_none] at this; cases this
    dsimp only at W stl st ⊢
    generalize hI : h₅.objs.size = I at *
    generalize hh6 : h₅.push o = h₆ at *
    have e123 : Str.ofString "{" = ⟨#[123]⟩ := by decide
    have e125 : Str.ofString "}" = ⟨#[125]⟩ := by decide
    have e44 : Str.ofString "," = ⟨#[44]⟩ := by decide
    have e34 : Str.ofString "\"" = ⟨#[34]⟩ := by decide
    refine codeAny_forLoop (fun kk s' => ∃ h' tk H' i p ρ', s' = { s with heap := h', toks := tk } ∧ Sit c _ s.heap H₃ S [I] h' none p.stk ρ' H' h' ∧ PF S p.buf ρ' H' ∧ St i h' ∧ i ≤ x.cps.size ∧ (PS.mk none [[]]).run (x.cps.toList.take i) = some p ∧ p.wt ≤ 1 + 2 * i ∧ (∀ b, p.buf = some b → 48 ≤ b ∧ b < 58) ∧ kk = x.cps.size + 1 - i) ?_ (x.cps.size + 1) ⟨h₆, t₅, H₅, 0, PS.mk none [[]], ρ1, rfl, σ₆, pf, st, Nat.zero_le _, rfl, Nat.le_refl _, (fun b e => by cases e), rfl⟩
    rintro kk s' ⟨h', tk, H', i, p, ρ', rfl, σ, pf, st', hi, hp, hw, hbuf, rfl⟩
    by_cases hlt : i < x.cps.size
    · refine W.item i _ _ _ hlt st' fun v h₇ tk₇ hv st₇ hk₇ => ?_
      obtain ⟨ch, u, hch, rfl⟩ := hv
      have σ₇ := σ.goes (wr := [I]) (fun b hb => hb) hw0 hk₇ (fun b hb => by rw [List.mem_singleton.mp hb]; exact stl _ _ st₇) (fun y a e => by cases e)
      have hch' : x.cps.toList[i]? = some ch := by simpa using hch
      have htk : x.cps.toList.take (i + 1) = x.cps.toList.take i ++ [ch] := by rw [List.take_add_one, hch']; rfl
      have hp' : ∃ p', p.next ch = some p' ∧ (PS.mk none [[]]).run (x.cps.toList.take (i + 1)) = some p' := by
        have e : x.cps.toList = x.cps.toList.take (i + 1) ++ x.cps.toList.drop (i + 1) := (List.take_append_drop _ _).symm
        rw [e, PS.run_append] at hrun
        cases e' : (PS.mk none [[]]).run (x.cps.toList.take (i + 1)) with
        | none => rw [e'] at hrun; cases hrun
        | some p' =>
          refine ⟨p', ?_, rfl⟩
          rw [htk, PS.run_append, hp] at e'
          show p.next ch = some p'
          have e'' : (p.next ch).bind (fun q => some q) = some p' := e'
          cases e3 : p.next ch with
          | none => rw [e3] at e''; cases e''
          | some z => rw [e3] at e''; exact e''
      obtain ⟨p', hp', hrun'⟩ := hp'
      obtain ⟨m, hm1, hm2⟩ := σ₇.frm.loc
      refine wpAny_assign_Name (wpAny_storeName_local rfl hm1 (fun h₈ hn₈ hs₈ => ?_) rfl)
      have σ₈ := σ₇.store hm2 rfl hn₈ hs₈
      generalize hρ8 : upd ρ' (Str.ofString "c") (.str ⟨#[ch]⟩ u) = ρ8 at σ₈
      have pf₈ : PF S p.buf ρ8 H' := by
        rw [← hρ8]
        exact ⟨(upd_ne (by decide)).trans pf.hst, (upd_ne (by decide)).trans pf.hsk, (upd_ne (by decide)).trans pf.had, fun b e => let ⟨v, h1, h2⟩ := pf.hval b e; ⟨v, (upd_ne (by decide)).trans h1, h2⟩⟩
      have hc₈ : ρ8 "c" = some (.str ⟨#[ch]⟩ u) := by rw [← hρ8]; exact upd_eq
      have hbig : p.wt ≤ 3000001 := by omega
      have hLine : sizeLine = 16777216 := by decide
      refine wpAny_execs_cons (wpAny_mono (Q := fun f s' => f = .next ∧ ∃ p1 ρ9 H9 h9 tk9, s' = { s with heap := h9, toks := tk9 } ∧ σ₈.like p1.stk ρ9 H9 h9 ∧ PF S none ρ9 H9 ∧ ρ9 "c" = some (.str ⟨#[ch]⟩ u) ∧ p.flush ch = some p1) ?first ?cont fun _ _ e => e)
      case first =>
        cases hb : p.buf with
        | none =>
          rw [hb] at pf₈
          refine wpAny_If ((PT.cmp (t := false) (PE.name (d := .raw (.ref 688)) pf₈.hst (.raw _) (.inl rfl)) (PE.attrCls rfl hg hat hA3 rfl) (CmpR.enum hE4 hE3)).run A ok _ H' (.refl _) σ₈.base.inv σ₈.frm _ _ fun H₉ h₉ t₉ S₉ => ?_)
          refine wpAny_execs_nil ⟨rfl, p, ρ8, H₉, h₉, _, rfl, σ₈.step S₉, pf₈.mono S₉.up, hc₈, ?_⟩
          unfold PS.flush; rw [hb]
        | some b =>
          rw [hb] at pf₈
          refine wpAny_If ((PT.cmp (t := true) (PE.name (d := .raw (.ref 686)) pf₈.hst (.raw _) (.inl rfl)) (PE.attrCls rfl hg hat hA3 rfl) (CmpR.enum hE3 hE3)).run A ok _ H' (.refl _) σ₈.base.inv σ₈.frm _ _ fun H₉ h₉ t₉ S₉ => ?_)
          have σ₉ := σ₈.step S₉
          have pf₉ := pf₈.mono S₉.up
          -- what the machine says
          have hfl : ∃ p1, p.flush ch = some p1 := by
            unfold PS.next at hp'
            cases e : p.flush ch with
            | none => rw [e] at hp'; cases hp'
            | some p1 => exact ⟨p1, rfl⟩
          obtain ⟨p1, hfl⟩ := hfl
          have hfl' := hfl
          unfold PS.flush at hfl
          rw [hb] at hfl
          dsimp only at hfl
          have hch5 : ch = 125 ∨ ch = 44 := by
            by_cases hh : ch = 125 ∨ ch = 44
            · exact hh
            · rw [if_neg hh] at hfl; cases hfl
          rw [if_pos hch5] at hfl
          obtain ⟨ds, rr, hstk⟩ : ∃ ds rr, p.stk = ds :: rr := by
            cases hstk : p.stk with
            | nil => rw [hstk] at hfl; cases hfl
            | cons ds rr => exact ⟨ds, rr, rfl⟩
          rw [hstk] at hfl
          cases hfl
          have hany : ([Str.ofString "}", Str.ofString ","].any (· == (⟨#[ch]⟩ : Str))) = true := by
            rcases hch5 with rfl | rfl <;> decide
          obtain ⟨vv, hvv, rvv⟩ := pf₉.hval b rfl
          refine wpAny_execs_cons (wpAny_If ((PT.cmp (t := true) (PE.name (d := .str ⟨#[ch]⟩) hc₈ (.str _ _) (.inl rfl)) (PE.tupD (ds := [Str.ofString "}", Str.ofString ","].map D.str) (PEs.two PE.constStr PE.constStr) (by rw [hLine]; decide)) (hany ▸ CmpR.inStrs)).run A ok _ H₉ (.refl _) σ₉.base.inv σ₉.frm _ _ fun H₁₀ h₁₀ t₁₀ S₁₀ => ?_))
          have σ₁₀ := σ₉.step S₁₀
          have pf₁₀ := pf₉.mono S₁₀.up
          have rvv' : Rel H₁₀ vv (.list ([(⟨#[b]⟩ : Str)].map D.str)) := rvv.mono S₁₀.up
          refine σ₁₀.asg (s := { s with heap := h₁₀, toks := t₁₀ }) ok rfl (PE.meth (d := .str ⟨#[b]⟩) PE.constStr MethR.join (PEs.one (PE.name (v := vv) hvv rvv' (.inl rfl))) (Fun.join (by rfl)) (.mk (fun _ _ => rfl) (fun _ => rfl) (by decide) (by decide))) fun v₁₁ H₁₁ h₁₁ t₁₁ σ₁₁ k₁₁ r₁₁ => ?_
          have hb8 : 48 ≤ b ∧ b < 58 := hbuf b hb
          have hlen : ds.length ≤ sizeLine := by
            have := wt_mem (stk := p.stk) (l := ds) (by rw [hstk]; simp)
            unfold PS.wt at hbig
            omega
          have hnn : ((⟨#[b]⟩ : Str) == Str.ofString "NULL") = false := by
            rw [beq_eq_false_iff_ne]
            intro e
            have h14 : 1 = 4 := congrArg Str.length e
            cases h14
          have dig := int_in_sp hK (n := n) (H := H₁₁) (digit_reads hb8.1 hb8.2) (by show 1 ≤ 640; decide)
          refine σ₁₁.app (s := { s with heap := h₁₁, toks := t₁₁ }) (d := .int ((b - 48 : Nat) : Int)) ok hstk hlen ((upd_ne (by decide)).trans pf₁₀.hsk) rfl (PE.ifexp (b := false) (PT.cmp (PE.name upd_eq r₁₁ (.inl rfl)) PE.constStr (hnn ▸ CmpR.eqStr)) (fun e => by cases e) (fun _ => PE.callLoc rfl ((upd_ne (by decide)).trans pf₁₀.had) (.fn (by rw [hK]; k_is)) (PEs.one (PE.name upd_eq r₁₁ (.inl rfl))) (dig.mono (by omega) (.refl _)))) (fun H₁₂ h₁₂ t₁₂ σ₁₂ k₁₂ => ?_) (.mk (fun _ _ => rfl) (fun _ => rfl) (by decide) (by decide))
          refine σ₁₂.asg (s := { s with heap := h₁₂, toks := t₁₂ }) ok rfl (PE.attrCls rfl hg hat hA4 rfl) fun v₁₃ H₁₃ h₁₃ t₁₃ σ₁₃ k₁₃ r₁₃ => ?_
          cases r₁₃
          refine wpAny_execs_nil (wpAny_execs_nil ⟨rfl, _, _, _, _, _, rfl, σ₁₃, ⟨upd_eq, ?_, ?_, fun b e => by cases e⟩, ?_, hfl'⟩)
          · exact (upd_ne (by decide)).trans ((upd_ne (by decide)).trans pf₁₀.hsk)
          · exact (upd_ne (by decide)).trans ((upd_ne (by decide)).trans pf₁₀.had)
          · exact (upd_ne (by decide)).trans ((upd_ne (by decide)).trans hc₈)
      case cont =>
        rintro f s' ⟨rfl, p1, ρ9, H9, h9, tk9, rfl, σ₉, pf₉, hc₉, hfl⟩
        have hrd : PS.read p1.stk ch = some p' := by
          unfold PS.next at hp'
          rw [hfl] at hp'
          exact hp'
        have hw1 := (PS.flush_wt hfl).1
        have hw' := PS.next_wt hp'
        have hbf := PS.next_buf hp'
        have hsk1 := wt_len (stk := p1.stk)
        have hmm := fun l => wt_mem (stk := p1.stk) (l := l)
        have e1 : (p1.stk.map fun l => l.length + 1).sum = p1.wt := rfl
        rw [e1] at hsk1 hmm
        clear hp'
        refine wpAny_execs_cons (wpAny_If ((PT.cmp (t := true) (PE.name (d := .raw (.ref 688)) pf₉.hst (.raw _) (.inl rfl)) (PE.attrCls rfl hg hat hA4 rfl) (CmpR.enum hE4 hE4)).run A ok _ H9 (.refl _) σ₉.base.inv σ₉.frm _ _ fun H₁₀ h₁₀ t₁₀ S₁₀ => ?_))
        have σ₁₀ := σ₉.step S₁₀
        have pf₁₀ := pf₉.mono S₁₀.up
        -- the end of a turn
        have fin : ∀ ρz Hz hz tkz, σ₁₀.like p'.stk ρz Hz hz → PF S p'.buf ρz Hz → (∃ m, m < x.cps.size + 1 - i ∧ ∃ h' tk H' i p ρ', ({ s with heap := hz, toks := tkz } : Shared) = { s with heap := h', toks := tk } ∧ σ₁₀.likeI h' p.stk ρ' H' h' ∧ PF S p.buf ρ' H' ∧ St i h' ∧ i ≤ x.cps.size ∧ (PS.mk none [[]]).run (x.cps.toList.take i) = some p ∧ p.wt ≤ 1 + 2 * i ∧ (∀ b, p.buf = some b → 48 ≤ b ∧ b < 58) ∧ m = x.cps.size + 1 - i) := by
          intro ρz Hz hz tkz σz pz
          exact ⟨x.cps.size + 1 - (i + 1), by omega, hz, tkz, Hz, i + 1, p', ρz, rfl, σz.rebase, pz, W.frame _ _ _ st₇ (fun b hb o e => σz.fpk b hb o e), hlt, hrun', by omega, hbf, rfl⟩
        have q123 : CmpR c .Eq (.str ⟨#[ch]⟩) (.str (Str.ofString "{")) (.bool (decide (ch = 123))) := by
          have := CmpR.eqStr (c := c) (x := ⟨#[ch]⟩) (y := Str.ofString "{"); rw [e123] at this ⊢; rwa [sign_eq] at this
        have q125 : CmpR c .Eq (.str ⟨#[ch]⟩) (.str (Str.ofString "}")) (.bool (decide (ch = 125))) := by
          have := CmpR.eqStr (c := c) (x := ⟨#[ch]⟩) (y := Str.ofString "}"); rw [e125] at this ⊢; rwa [sign_eq] at this
        have q44 : CmpR c .Eq (.str ⟨#[ch]⟩) (.str (Str.ofString ",")) (.bool (decide (ch = 44))) := by
          have := CmpR.eqStr (c := c) (x := ⟨#[ch]⟩) (y := Str.ofString ","); rw [e44] at this ⊢; rwa [sign_eq] at this
        have q34 : CmpR c .Eq (.str ⟨#[ch]⟩) (.str (Str.ofString "\"")) (.bool (decide (ch = 34))) := by
          have := CmpR.eqStr (c := c) (x := ⟨#[ch]⟩) (y := Str.ofString "\""); rw [e34] at this ⊢; rwa [sign_eq] at this
        refine wpAny_execs_cons (wpAny_If ((PT.cmp (PE.name (d := .str ⟨#[ch]⟩) hc₉ (.str _ _) (.inl rfl)) PE.constStr q123).run A ok _ H₁₀ (.refl _) σ₁₀.base.inv σ₁₀.frm _ _ fun H₁₁ h₁₁ t₁₁ S₁₁ => ?_))
        have σ₁₁ := σ₁₀.step S₁₁
        have pf₁₁ := pf₁₀.mono S₁₁.up
        unfold PS.read at hrd
        by_cases c123 : ch = 123
        · rw [if_pos c123] at hrd
          rw [decide_eq_true c123, if_pos rfl]
          obtain ⟨ds, rr, hstk⟩ : ∃ ds rr, p1.stk = ds :: rr := by
            cases hstk : p1.stk with
            | nil => rw [hstk] at hrd; cases hrd
            | cons ds rr => exact ⟨ds, rr, rfl⟩
          rw [hstk] at hrd
          cases hrd
          have hlen := hmm ds (by rw [hstk]; simp)
          have hrr : rr.length + 1 = p1.stk.length := by rw [hstk]; rfl
          refine σ₁₁.mkA (s := { s with heap := h₁₁, toks := t₁₁ }) rfl fun a h₁₂ t₁₂ σ₁₂ => ?_
          refine σ₁₂.app (s := { s with heap := h₁₂, toks := t₁₂ }) (d := .raw (.ref a)) ok hstk (by omega) ((upd_ne (by decide)).trans pf₁₁.hsk) rfl (PE.name upd_eq (.raw _) (.inl rfl)) (fun H₁₃ h₁₃ t₁₃ σ₁₃ k₁₃ => ?_) (.mk (fun _ _ => rfl) (fun _ => rfl) (by decide) (by decide))
          refine σ₁₃.push (s := { s with heap := h₁₃, toks := t₁₃ }) ok (by omega) ((upd_ne (by decide)).trans pf₁₁.hsk) rfl upd_eq rfl (fun h₁₄ t₁₄ σ₁₄ => ?_) (.mk (fun _ _ => rfl) (fun _ => rfl) (by decide) (by decide))
          exact wpAny_execs_nil (wpAny_execs_nil (wpAny_execs_nil (fin _ _ _ _ σ₁₄ ⟨(upd_ne (by decide)).trans pf₁₁.hst, (upd_ne (by decide)).trans pf₁₁.hsk, (upd_ne (by decide)).trans pf₁₁.had, fun b e => by cases e⟩)))
        rw [if_neg c123] at hrd
        rw [decide_eq_false c123, if_neg (by decide)]
        refine wpAny_execs_cons (wpAny_If ((PT.cmp (PE.name (d := .str ⟨#[ch]⟩) hc₉ (.str _ _) (.inl rfl)) PE.constStr q125).run A ok _ H₁₁ (.refl _) σ₁₁.base.inv σ₁₁.frm _ _ fun H₁₂ h₁₂ t₁₂ S₁₂ => ?_))
        have σ₁₂ := σ₁₁.step S₁₂
        have pf₁₂ := pf₁₁.mono S₁₂.up
        by_cases c125 : ch = 125
        · rw [if_pos c125] at hrd
          rw [decide_eq_true c125, if_pos rfl]
          obtain ⟨ds, ds', rr, hstk⟩ : ∃ ds ds' rr, p1.stk = ds :: ds' :: rr := by
            cases hstk : p1.stk with
            | nil => rw [hstk] at hrd; cases hrd
            | cons ds rr =>
              cases rr with
              | nil => rw [hstk] at hrd; cases hrd
              | cons ds' rr => exact ⟨ds, ds', rr, rfl⟩
          rw [hstk] at hrd
          cases hrd
          have hrr : rr.length + 2 = p1.stk.length := by rw [hstk]; rfl
          have σ₁₂' := σ₁₂
          rw [hstk] at σ₁₂'
          refine σ₁₂'.pop (s := { s with heap := h₁₂, toks := t₁₂ }) ok (by omega) pf₁₂.hsk rfl (fun H₁₃ h₁₃ t₁₃ σ₁₃ k₁₃ => ?_) (.mk (fun _ _ => rfl) (fun _ => rfl) (by decide) (by decide))
          exact wpAny_execs_nil (wpAny_execs_nil (wpAny_execs_nil (wpAny_execs_nil (fin _ _ _ _ σ₁₃ (pf₁₂.mono k₁₃)))))
        rw [if_neg c125] at hrd
        rw [decide_eq_false c125, if_neg (by decide)]
        refine wpAny_execs_cons (wpAny_If ((PT.cmp (PE.name (d := .str ⟨#[ch]⟩) hc₉ (.str _ _) (.inl rfl)) PE.constStr q44).run A ok _ H₁₂ (.refl _) σ₁₂.base.inv σ₁₂.frm _ _ fun H₁₃ h₁₃ t₁₃ S₁₃ => ?_))
        have σ₁₃ := σ₁₂.step S₁₃
        have pf₁₃ := pf₁₂.mono S₁₃.up
        by_cases c44 : ch = 44
        · rw [if_pos c44] at hrd
          rw [decide_eq_true c44, if_pos rfl]
          cases hrd
          exact wpAny_execs_cons (wpAny_Pass (wpAny_execs_nil (wpAny_execs_nil (wpAny_execs_nil (wpAny_execs_nil (wpAny_execs_nil (fin _ _ _ _ σ₁₃ pf₁₃)))))))
        rw [if_neg c44] at hrd
        rw [decide_eq_false c44, if_neg (by decide)]
        have cdig : 48 ≤ ch ∧ ch < 58 := by
          by_cases hh : 48 ≤ ch ∧ ch < 58
          · exact hh
          · rw [if_neg hh] at hrd; cases hrd
        rw [if_pos cdig] at hrd
        cases hrd
        have c34 : ¬ ch = 34 := by omega
        refine wpAny_execs_cons (wpAny_If ((PT.cmp (PE.name (d := .str ⟨#[ch]⟩) hc₉ (.str _ _) (.inl rfl)) PE.constStr q34).run A ok _ H₁₃ (.refl _) σ₁₃.base.inv σ₁₃.frm _ _ fun H₁₄ h₁₄ t₁₄ S₁₄ => ?_))
        have σ₁₄ := σ₁₃.step S₁₄
        have pf₁₄ := pf₁₃.mono S₁₄.up
        rw [decide_eq_false c34, if_neg (by decide)]
        refine σ₁₄.asg (s := { s with heap := h₁₄, toks := t₁₄ }) ok rfl (PE.listD (PEs.one (PE.name (d := .str ⟨#[ch]⟩) hc₉ (.str _ _) (.inl rfl))) (by show 1 ≤ sizeLine; decide)) fun v₁₅ H₁₅ h₁₅ t₁₅ σ₁₅ k₁₅ r₁₅ => ?_
        refine σ₁₅.asg (s := { s with heap := h₁₅, toks := t₁₅ }) ok rfl (PE.attrCls rfl hg hat hA3 rfl) fun v₁₆ H₁₆ h₁₆ t₁₆ σ₁₆ k₁₆ r₁₆ => ?_
        cases r₁₆
        refine wpAny_execs_nil (wpAny_execs_nil (wpAny_execs_nil (wpAny_execs_nil (wpAny_execs_nil (wpAny_execs_nil (fin _ _ _ _ σ₁₆ ⟨upd_eq, ?_, ?_, fun b e => ?_⟩))))))
        · exact (upd_ne (by decide)).trans ((upd_ne (by decide)).trans pf₁₄.hsk)
        · exact (upd_ne (by decide)).trans ((upd_ne (by decide)).trans pf₁₄.had)
        · cases e
          exact ⟨v₁₅, (upd_ne (by decide)).trans upd_eq, r₁₅.mono k₁₆⟩
    · have hin : i = x.cps.size := by omega
      subst hin
      rw [List.take_of_length_le (by simp), hrun] at hp
      cases hp
      refine W.done _ _ _ st' fun h₇ tk₇ hk₇ => ?_
      refine wpAny_execs_nil ?_
      refine σ.end (s := { s with heap := h₇, toks := _ }) (fun b hb => hb) hw0 hk₇ (fun y a e => by cases e) pf.hsk rfl fun v tk' M1 M2 M3 M4 r => ?_
      exact q v H' h₇ tk' M1 M2 (fun b o hb hl hc e => M3 b o hb hl e) M4 r
end
end Mine
namespace Mine
section
variable {c : Cfg} {A : Around} {E : Value → Shared → Prop} {s : Shared} {H : View}

theorem Inv.built (I : Inv c H s.heap) : s.heap.BuiltinsAt c.mg c.P := by
  obtain ⟨bm, ob, b1, b2, b3, b4, b5, b6⟩ := c.bmain
  refine ⟨bm, ob, b1, b2, fun q => ?_, fun q => ?_, I.keep _ _ b3, b4, b5, b6⟩
  · obtain ⟨o, es, ep, e, hd, _⟩ := c.g
    rw [q, e] at b3; cases b3; rw [hd] at b6; cases b6
  · rw [q, c.noP] at b3; cases b3

theorem makeF {env : Env} {name qual : Str} {params : Arguments} {body : List Stmt} {scope : Scope} {clos : List (Str × Addr)} {pos : Pos} {firstLine : Nat} {Q : Value → Shared → Prop} (I : Inv c H s.heap) (hcl : closureFor scope env = pure clos) (hge0 : env.globals = mainGlobals) (hcode : env.code = .ref c.cc)
    (hq : qual = c.tq) (hline : c.tl = (pos.line : Int)) (hcol : c.tc = (pos.col : Int))
    (h : ∀ f c' ctv doc H' h' tk oc vs t, HStep c H s.heap H' h' → H' f = some (fnMade name qual params body scope clos doc ((c.mg "__name__").getD .none) c' ctv) → H' c' = some oc → oc.data = .fields vs → vs[1]? = some (.str qual t) → Q (.ref f) { s with heap := h', toks := tk }) :
    wpAny (model c.prog c.w) A (makeFunction name qual params (.stmts body) scope env [] [] [] pos firstLine) Q E s := by
  have hg : s.heap.Ns mainGlobals c.mg := c.g.keeps I.keep
  obtain ⟨o, hP, hTb⟩ := I.tb
  have hC := c.chd.keeps I.keep
  rcases hTb with rfl | ⟨c'', o'', vs'', t'', rfl, k1, k2, k3⟩
  · refine makeFunction_K hcl hge0 hg hcode hC hP (by trivial) rfl (fun q => ?_) I.built fun c' ctv doc h' tk hx hge hlt hrec htb => ?_
    · obtain ⟨o, es, ep, e, hd, _⟩ := c.g
      rw [q, c.noP] at e; cases e
    obtain ⟨c₂, oc, vs, t, e2, hoc, hd, hv⟩ := hrec
    cases e2
    have n0 : s.heap.get? c' = none := Heap.get?_none_of_le hge
    have nH := I.none_of n0
    have hle : VLe H (H.add c' oc) := View.le_add nH
    have hcP : c' ≠ c.P := I.neP n0
    have S₁ : HStep c H s.heap (H.add c' oc) h' := by
      refine ⟨hle, fun b ob e => ?_, fun b ob hb e => hx b ob hb e, ⟨fun b ob e => ?_, fun b ob e => hle b ob (I.base b ob e), ?_, ?_⟩⟩
      · by_cases hb : b = c'
        · exact .inr (hb ▸ n0)
        · unfold View.add at e; rw [if_neg hb] at e; exact .inl e
      · by_cases hb : b = c'
        · unfold View.add at e; rw [if_pos hb] at e; cases e; rw [hb]; exact hoc
        · unfold View.add at e; rw [if_neg hb] at e; exact hx b ob (fun q => by rw [q, I.noP] at e; cases e) (I.le b ob e)
      · unfold View.add; rw [if_neg (Ne.symm hcP)]; exact I.noP
      · refine ⟨_, htb, .inr ⟨c', oc, vs, t, ?_, View.add_self, hd, hq ▸ hv⟩⟩
        rw [hline, hcol]; rfl
    have n1 := fresh_none h'
    have S₂ : HStep c (H.add c' oc) h' ((H.add c' oc).add h'.objs.size (fnMade name qual params body scope clos doc ((c.mg "__name__").getD .none) c' ctv)) (h'.push (fnMade name qual params body scope clos doc ((c.mg "__name__").getD .none) c' ctv)) :=
      HStep.add S₁.inv (fun b o e => Heap.get?_push_of_some _ e) n1 (Heap.get?_push_size _ rfl)
    exact h _ c' ctv doc _ _ tk oc vs t (S₁.trans S₂ I) View.add_self (S₂.up _ _ View.add_self) hd hv
  · refine makeFunction_hit (cv := .ref c'') hcl hge0 hg hcode hC hP (by trivial) ?_ I.built fun ctv doc h' tk hk hsz => ?_
    · rw [hline, hcol]
      simp [codeAmong, rawInt]
    have S₁ : HStep c H s.heap H h' := .grow I hk
    have n1 := fresh_none h'
    have S₂ : HStep c H h' (H.add h'.objs.size (fnMade name qual params body scope clos doc ((c.mg "__name__").getD .none) c'' ctv)) (h'.push (fnMade name qual params body scope clos doc ((c.mg "__name__").getD .none) c'' ctv)) :=
      HStep.add S₁.inv (fun b o e => Heap.get?_push_of_some _ e) n1 (Heap.get?_push_size _ rfl)
    exact h _ c'' ctv doc _ _ tk o'' vs'' t'' (S₁.trans S₂ I) View.add_self (S₂.up _ _ k1) k2 (hq ▸ k3)

/-- a call of a def that stands in the view: one return -/
theorem Fun.closure {n : Nat} {f c' : Addr} {name qual : Str} {params : Arguments} {scope : Scope} {clos : List (Str × Addr)} {doc pm ctv : Value} {oc : Obj} {vs' : Array Value} {t : Tok} {e : Expr} {pos : Pos} {rest : List Stmt} {ps : List Str} {d : D} {ds : List D} {ρc : Str → Option Value}
    (ho : H f = some (fnMade name qual params (.Return (some e) pos :: rest) scope clos doc pm c' ctv)) (hc1 : H c' = some oc) (hc2 : oc.data = .fields vs') (hc3 : vs'[1]? = some (.str qual t))
    (hbind : ∀ vs : List Value, vs.length = ds.length → bindArgs (fnX name qual params (.Return (some e) pos :: rest) scope clos .none .none doc pm none (.ref c') ctv) ⟨vs, []⟩ = pure (ps.zip vs))
    (hloc : ∀ x ∈ ps, scope.names.lookup x = some .local) (hcell : ∀ x ∈ scope.names, x.2 ≠ .cell)
    (hclos : ∀ x a, clos.lookup x = some a → ∃ o v, H a = some o ∧ o.data = .cell v ∧ ρc x = v) (hfree : ∀ x, (scope.names.lookup x = some .free) → x ∉ ps ∧ ∃ a, clos.lookup x = some a)
    (h : ∀ (vs : List Value) (H₁ : View) (L : Addr), VLe H H₁ → RelL H₁ vs ds → PE c n (envX qual scope L f (.ref c') clos) (fun x => if scope.names.lookup x = some .free then ρc x else (ps.zip vs).reverse.lookup x) H₁ e d)
    (hco : scope.isCoroutine = false := by rfl) (hgen : scope.isGenerator = false := by rfl) (hk : scope.kind = .function := by rfl) : Fun c (n + 1) (.ref f) H ds d := by
  constructor
  intro A ok s H₁ vs k I R Q E q
  have hPs : s.heap.objs.size ≠ c.P := I.neP (fresh_none _)
  refine wpAny_call (codeAny_call_def (fd := fnX name qual params (.Return (some e) pos :: rest) scope clos .none .none doc pm none (.ref c') ctv) (body := .Return (some e) pos :: rest) (binds := ps.zip vs) (by have := ok.dep; omega) (I.le _ _ (k _ _ ho)) rfl (c.nolimit.keeps I.keep) ⟨c', oc, vs', t, rfl, I.le _ _ (k _ _ hc1), hc2, hc3⟩ rfl ?_ hcell ?_ ?_ hco hgen hk)
  · exact BindsTo.of_eq (hbind vs R.length)
  · intro x hx
    exact hloc _ (List.of_mem_zip hx).1
  · intro h₁ hns hk₁
    have I₁ : Inv c H₁ h₁ := (HStep.grow I hk₁).inv
    have F₁ : Frm c (envX qual scope s.heap.objs.size f (.ref c') clos) (fun x => if scope.names.lookup x = some .free then ρc x else (ps.zip vs).reverse.lookup x) h₁ := by
      refine ⟨hk, rfl, rfl, hPs, fun x a e' => ?_, ⟨_, hns, fun x v e' hkd => ?_⟩, fun x a e' => ?_, fun x v e' hkd => ?_⟩
      · obtain ⟨o, v, h1, _⟩ := hclos x a e'
        exact fun q => by rw [q] at h1; have := k _ _ h1; rw [I.noP] at this; cases this
      · have hkd' : scope.names.lookup x = some .local := hkd
        rw [hkd'] at e'
        rwa [if_neg (by decide)] at e'
      · obtain ⟨o, v, h1, h2, _⟩ := hclos x a e'
        exact ⟨v, o, I₁.le _ _ (k _ _ h1), h2⟩
      · have hx : scope.names.lookup x = some .free := by
          rcases hkd with q' | q'
          · exact absurd rfl (hcell (x, .cell) (mem_of_lookup q'))
          · exact q'
        rw [if_pos hx] at e'
        obtain ⟨_, a, ha⟩ := hfree x hx
        obtain ⟨o, v', h1, h2, h3⟩ := hclos x a ha
        refine ⟨a, ha, o, I₁.le _ _ (k _ _ h1), ?_⟩
        rw [h2, ← h3, e']
    refine wpAny_execs_cons (wpAny_Return_some ((h vs H₁ s.heap.objs.size k R).run (A.deeper _) ok.deeper _ H₁ (.refl _) I₁ F₁ _ _ fun v H' h' tk' S R' => ?_))
    exact q v H' h' tk' ((HStep.grow I hk₁).trans S I) R'
end
end Mine
namespace Mine

structure Cst (c : Cfg) : Prop where
  hK : c.K = Mine.hd.heap_39 c.w.params
  hcc : c.cc = 725
  htl : c.tl = 430
  htc : c.tc = 4
  htq : c.tq = Str.ofString "_array_in.<locals>.f"

section
variable {c : Cfg}
theorem array_in_sp (X : Cst c) {n : Nat} {H : View} {A : Around} (ok : Ok A (n + 1)) {s : Shared} (I : Inv c H s.heap) {Q : Value → Shared → Prop} {E : Value → Shared → Prop}
    (q : ∀ f H' h' tk', HStep c H s.heap H' h' → (∃ oc od fd sl, H' f = some ⟨oc, od, .func fd, sl⟩) → (∀ m x d, (∀ H'', VLe H' H'' → Fun c m (.ref 719) H'' [.str x, .raw (.ref 42)] d) → Fun c (m + 1) (.ref f) H' [.str x] d) → Q (.ref f) { s with heap := h', toks := tk' }) :
    wpAny (model c.prog c.w) A (call (.ref 726) [.ref 42]) Q E s := by
  have hK := X.hK
  refine' callC (ps := [Str.ofString "adapter"]) ok I ?ho ?hcd ?hbind ?hkind ?h ?h1 ?h2 ?h3
  case ho => rw [hK]; k_is
  case hcd => rw [hK]; k_is
  case h1 => rfl
  case h2 => rfl
  case h3 => rfl
  case hbind => rfl
  case hkind =>
    intro x hx
    rw [List.mem_singleton.mp hx]
    exact .inr ⟨rfl, rfl⟩
  case h =>
    intro h₁ tk₁ hns hcel hk₁ hab E'
    have hcel' : h₁.IsCell (s.heap.objs.size + 1) (some (.ref 42)) := hcel (Str.ofString "adapter") _ rfl
    have hL : s.heap.get? s.heap.objs.size = none := fresh_none _
    have hL1 : s.heap.get? (s.heap.objs.size + 1) = none := Heap.get?_none_of_le (Nat.le_succ _)
    have S₁ : HStep c H s.heap H h₁ := .grow I hk₁
    obtain ⟨oL, _, _, hoL, _⟩ := id hns
    obtain ⟨oC, hoC, hdC⟩ := hcel'
    refine wpAny_execs_cons (nestDef_K rfl rfl rfl (makeF (c := c) (s := { s with heap := h₁, toks := tk₁ }) (clos := [(Str.ofString "adapter", s.heap.objs.size + 1)]) S₁.inv rfl rfl (by rw [X.hcc]; rfl) (by rw [X.htq]; rfl) X.htl X.htc fun f c' ctv doc H₂ h₂ tk₂ oc vs t S₂ hf hc1 hc2 hc3 => ?_))
    have S₂' := S₁.trans S₂ I
    have hL₂ : H₂ s.heap.objs.size = none := S₂.miss hoL (I.none_of hL)
    have hC₂ : H₂ (s.heap.objs.size + 1) = none := S₂.miss hoC (I.none_of hL1)
    have hns₂ := hns.at' (h' := h₂) fun o e => S₂.ext _ o (I.neP hL) e
    have hoC₂ := S₂.ext _ _ (I.neP hL1) hoC
    refine wpAny_storeName_local (env := envOfC _ _ s.heap.objs.size 726 _) rfl hns₂ (fun h₃ hn₃ hs₃ => ?_) rfl
    have hs₃' : Heap.SameBut s.heap.objs.size h₂ h₃ := hs₃
    have S₃ := S₂'.late hL (I.neP hL) hL₂ hs₃'
    have hoC₃ : h₃.get? (s.heap.objs.size + 1) = some oC := (hs₃'.2 _ (Nat.succ_ne_self _)).trans hoC₂
    have S₄ := HStep.freeze S₃ hL1 hC₂ (I.neP hL1) hoC₃
    refine wpAny_execs_cons (wpAny_Return_some (wpAny_Name (wpAny_loadName_local (env := envOfC _ _ s.heap.objs.size 726 _) (v := .ref f) rfl rfl hn₃ rfl ?_) (by decide)))
    have hle : VLe H₂ (H₂.add (s.heap.objs.size + 1) oC) := View.le_add hC₂
    refine q f _ h₃ _ S₄ ⟨_, _, _, _, hle _ _ hf⟩ fun m x d ih => ?_
    refine Fun.closure (ρc := fun y => if y = Str.ofString "adapter" then some (.ref 42) else none) (ps := [Str.ofString "data"]) (hle _ _ hf) (hle _ _ hc1) hc2 hc3 ?_ ?_ ?_ ?_ ?_ ?_
    · intro vs hl; obtain ⟨v, rfl⟩ := one_of hl rfl; rfl
    · decide
    · decide
    · intro y a e
      rw [List.lookup_cons] at e
      cases hy : (y == Str.ofString "adapter") with
      | true =>
        rw [hy] at e
        cases e
        exact ⟨oC, _, View.add_self, hdC, if_pos (eq_of_beq hy)⟩
      | false => rw [hy] at e; cases e
    · intro y hy
      have hy' : y = Str.ofString "adapter" := by
        by_cases e1 : y = Str.ofString "adapter"
        · exact e1
        · exfalso
          have := mem_of_lookup hy
          simp at this
          exact e1 this
      subst hy'
      exact ⟨by decide, _, rfl⟩
    · intro vs H₁ L k R
      obtain ⟨v, rfl⟩ := one_of R.length rfl
      exact PE.call rfl (.inl (by rw [hK]; k_is)) (.fn (by rw [hK]; k_is)) (PEs.two (PE.name (v := v) rfl R.one (.inl rfl)) (PE.name (v := .ref 42) rfl (.raw _) (.inr (.inr rfl)))) (ih H₁ k)
end
end Mine
namespace Mine

/-- arrays of arrays and of figures -/
inductive D.Arr : D → Prop
  | num (i : Nat) : i < 10 → D.Arr (.int (i : Int))
  | node (l : List D) : (∀ t ∈ l, t.Arr) → D.Arr (.list l)

abbrev cod (x : Str) : List Nat := x.cps.toList
theorem cod_append (x y : Str) : cod (x ++ y) = cod x ++ cod y := by
  show (x.cps ++ y.cps).toList = _
  simp
theorem num_txt : ∀ i : Nat, i < 10 → cod (D.int (i : Int)).txt = [48 + i] := by
  intro i hi
  have : ∀ i : Fin 10, cod (D.int ((i.val : Nat) : Int)).txt = [48 + i.val] := by decide
  exact this ⟨i, hi⟩
theorem join_cod (t : Str) (r : List Str) (h : r ≠ []) : cod (Str.join (Str.ofString ",") (t :: r)) = cod t ++ 44 :: cod (Str.join (Str.ofString ",") r) := by
  cases r with
  | nil => exact absurd rfl h
  | cons u r =>
    show cod (t ++ Str.ofString "," ++ Str.join (Str.ofString ",") (u :: r)) = _
    rw [cod_append, cod_append]
    have : cod (Str.ofString ",") = [44] := by decide
    rw [this]; simp
theorem list_cod (l : List D) : cod (D.list l).txt = 123 :: (cod (Str.join (Str.ofString ",") (txts l)) ++ [125]) := by
  rw [D.txt_list, cod_append, cod_append]
  have e1 : cod (Str.ofString "{") = [123] := by decide
  have e2 : cod (Str.ofString "}") = [125] := by decide
  rw [e1, e2]; simp

theorem run_one (p : PS) (ch : Nat) : p.run [ch] = p.next ch := by
  show (p.next ch).bind (fun p' => some p') = _
  cases p.next ch <;> rfl
theorem run_cons (p : PS) (ch : Nat) (r : List Nat) : p.run (ch :: r) = (p.next ch).bind fun p' => p'.run r := rfl

def Reads (t : D) : Prop := ∀ acc r, ∃ p, (PS.mk none (acc :: r)).run (cod t.txt) = some p ∧ ∀ sep, sep = 125 ∨ sep = 44 → p.flush sep = some ⟨none, (acc ++ [t]) :: r⟩

theorem reads_items : ∀ (l : List D), (∀ t ∈ l, Reads t) → l ≠ [] → ∀ acc ds r, (PS.mk none (acc :: ds :: r)).run (cod (Str.join (Str.ofString ",") (txts l)) ++ [125]) = some ⟨none, (ds ++ [.list (acc ++ l)]) :: r⟩
  | [], _, h, _, _, _ => absurd rfl h
  | [t], hl, _, acc, ds, r => by
    obtain ⟨p, h1, h2⟩ := hl t (by simp) acc (ds :: r)
    show (PS.mk none (acc :: ds :: r)).run (cod t.txt ++ [125]) = _
    rw [PS.run_append, h1]
    show p.run [125] = _
    rw [run_one]
    unfold PS.next
    rw [h2 125 (.inl rfl)]
    rfl
  | t :: u :: l, hl, _, acc, ds, r => by
    obtain ⟨p, h1, h2⟩ := hl t (by simp) acc (ds :: r)
    have ih := reads_items (u :: l) (fun t ht => hl t (List.mem_cons_of_mem _ ht)) (by simp) (acc ++ [t]) ds r
    have e : txts (t :: u :: l) = t.txt :: txts (u :: l) := rfl
    rw [e, join_cod _ _ (by rw [txts]; simp), List.append_assoc, List.cons_append, PS.run_append, h1]
    show p.run (44 :: _) = _
    rw [run_cons]
    unfold PS.next
    rw [h2 44 (.inr rfl)]
    show (PS.mk none ((acc ++ [t]) :: ds :: r)).run _ = _
    rw [ih]; simp

theorem D.Arr.reads {t : D} (h : t.Arr) : Reads t := by
  induction h with
  | num i hi =>
    intro acc r
    rw [num_txt i hi]
    refine ⟨⟨some (48 + i), acc :: r⟩, ?_, fun sep hs => ?_⟩
    · rw [run_one]
      show PS.read (acc :: r) (48 + i) = _
      unfold PS.read
      rw [if_neg (by omega), if_neg (by omega), if_neg (by omega), if_pos (by omega)]
    · unfold PS.flush
      dsimp only
      rw [if_pos hs]
      have : 48 + i - 48 = i := by omega
      rw [this]
  | node l hl ih =>
    intro acc r
    refine ⟨⟨Option.none, (acc ++ [.list l]) :: r⟩, ?_, fun sep hs => rfl⟩
    rw [list_cod, run_cons]
    show (PS.mk Option.none ([] :: acc :: r)).run _ = _
    cases l with
    | nil => rfl
    | cons t l => exact reads_items (t :: l) ih (by simp) [] acc r

theorem D.Arr.runs {l : List D} (h : (D.list l).Arr) : (PS.mk Option.none [[]]).run (cod (D.list l).txt) = some ⟨Option.none, [[.list l]]⟩ := by
  obtain ⟨p, h1, h2⟩ := h.reads [] []
  rw [h1]
  have h3 := h2 125 (.inl rfl)
  rw [list_cod, run_cons] at h1
  have h1' : (PS.mk Option.none [[], []]).run (cod (Str.join (Str.ofString ",") (txts l)) ++ [125]) = some p := h1
  cases h with
  | node _ hl =>
    cases l with
    | nil => cases h1'; rfl
    | cons t l =>
      rw [reads_items (t :: l) (fun t ht => (hl t ht).reads) (by simp) [] [] []] at h1'
      cases h1'; rfl
end Mine
namespace Mine
section
variable {c : Cfg}
theorem Call_Call {M : Model} {A : Around} {E : Value → Shared → Prop} {s : Shared} {env : Env} {g : Expr} {as args : List Expr} {p pos : Pos} {Q : Value → Shared → Prop}
    (h : wpAny M A (eval (.Call g as [] p) env) (fun f s₁ => wpAny M A (callWith pos f [] (backTo pos (starEach args env)) []) Q E s₁) E s) : wpAny M A (eval (.Call (.Call g as [] p) args [] pos) env) Q E s := by
  show wpAny M A (do callWith pos (← eval (.Call g as [] p) env) [] (backTo pos (starEach args env)) (backToKw pos (keywordEach [] env))) Q E s
  exact wpAny_bind h

theorem int_array_in_sp (X : Cst c) {n : Nat} {H : View} {l : List D} (hl : (D.list l).Arr) (hsz : szs l ≤ 900000) : Fun c (n + 6) (.ref 733) H [.str (D.list l).txt] (.list l) := by
  have hK := X.hK
  refine' Fun.enter (ps := [Str.ofString "data"]) ?ho ?hcd ?hbind ?hloc ?hcell ?h ?h1 ?h2 ?h3
  case ho => rw [hK]; k_is
  case hcd => rw [hK]; k_is
  case h1 => rfl
  case h2 => rfl
  case h3 => rfl
  case hcell => decide
  case hloc => decide
  case hbind => intro vs hl; obtain ⟨v, rfl⟩ := one_of hl rfl; rfl
  case h =>
    intro vs H₁ L k R
    obtain ⟨v, rfl⟩ := one_of R.length rfl
    refine SR.ret ⟨fun A ok s H₂ k₂ I F Q E q => ?_⟩
    refine Call_Call (Call_Name rfl (ldGlob I F rfl (v := .ref 726) (.inl (by rw [hK]; k_is)) (by decide) ?_))
    refine callWith_any (.fn (by rw [hK]; k_is)) (PEs.one (PE.glob (v := .ref 42) (.inl (by rw [hK]; k_is)) rfl)) A ok s H₂ (k₂) I F _ _ fun vs H₃ h₃ t₃ S₃ R₃ => ?_
    cases R₃ with
    | cons r t =>
      cases t
      cases r
      refine array_in_sp X (n := n) (s := { s with heap := h₃, toks := t₃ }) (ok.le (by omega)) S₃.inv fun f H₄ h₄ t₄ S₄ hf hF => ?_
      obtain ⟨oc, od, fd, sl, hf⟩ := hf
      have S := S₃.trans S₄ I
      have hx : (D.list l).txt.cps.size ≤ 1000000 := by
        have := D.txt_le (.list l)
        rw [D.sz] at this
        have e : (D.list l).txt.length = (D.list l).txt.cps.size := rfl
        omega
      have F₄ := hF (n + 3) (D.list l).txt (.list l) (fun H'' _ => parse_array hK hx hl.runs)
      refine callWith_F ⟨oc, od, fd, sl, S₄.inv.le _ _ hf⟩ ?_
      refine PEs.spl (PEs.one (PE.name (v := v) rfl R.one (.inl rfl))) A ok { s with heap := h₄, toks := t₄ } H₄ (k₂.trans S.up) S₄.inv (F.step S) _ _ fun vs H₅ h₅ t₅ S₅ R₅ => ?_
      refine ⟨⟨oc, od, fd, sl, S₅.inv.le _ _ (S₅.up _ _ hf)⟩, ?_⟩
      exact F₄.run A (ok.le (by omega)) { s with heap := h₅, toks := t₅ } H₅ vs S₅.up S₅.inv R₅ Q E fun v H' h' tk' S' R' => q v H' h' tk' ((S.trans S₅ I).trans S' I) R'
end
end Mine
namespace Mine

section
variable {c : Cfg} {n : Nat} {env : Env} {ρ : Str → Option Value} {H : View} {d : D}
theorem array_out_sp (hK : c.K = Mine.hd.heap_39 c.w.params) {d : D} (h : d.Bare) : d.sz ≤ 1000000 → ∀ (n : Nat) (H : View), Fun c (n + d.ht) (.ref 745) H [d] (.str d.txt) := by
  induction h with
  | @node l hl ih =>
    intro hsz n H
    rw [D.sz] at hsz
    show Fun c (n + hts l + 1) (.ref 745) H [.list l] _
    refine array_out_node hK (by omega) fun t ht H' hH => ?_
    have h1 := sz_mem ht
    have h2 := ht_mem ht
    exact (ih t ht (by omega) n H').mono (by omega) (.refl _)

theorem PT.or {a b : Expr} {pos : Pos} {x y : Bool} (ha : PT c n env ρ H a x) (hb : x = false → PT c n env ρ H b y) : PT c n env ρ H (.BoolOp .Or [a, b] pos) (x || y) :=
  ⟨fun A ok s H₁ k I F Q E q => isTrue_or (ha.run A ok s H₁ k I F _ _ fun H₂ h₂ t₂ S₂ => by
    cases x with
    | true => simp only [if_true]; exact q H₂ h₂ t₂ S₂
    | false =>
      simp only [Bool.false_eq_true, if_false]
      refine isTrue_or ((hb rfl).run A ok _ H₂ (k.trans S₂.up) S₂.inv (F.step S₂) _ _ fun H₃ h₃ t₃ S₃ => ?_)
      cases y with
      | true => simp only [if_true]; exact q H₃ h₃ t₃ (S₂.trans S₃ I)
      | false => simp only [Bool.false_eq_true, if_false]; exact isTrue_or_nil (q H₃ h₃ t₃ (S₂.trans S₃ I)))⟩

/-- a list given from without -/
structure Given (H : View) (a : Addr) (ds : List D) : Prop where
  ex : ∃ o vs m, H a = some o ∧ o.cls = .type "list" ∧ o.data = .seq vs m ∧ RelL H vs.toList ds
theorem Given.mono {H H' : View} {a : Addr} {ds : List D} (x : Given H a ds) (k : VLe H H') : Given H' a ds := let ⟨o, vs, m, h1, h2, h3, h4⟩ := x.ex; ⟨o, vs, m, k _ _ h1, h2, h3, h4.mono k⟩

theorem Fun.lenG {a : Addr} {ds : List D} (g : Given H a ds) (hf : ds.length ≤ sizeLine) : Fun c n (.builtin "len") H [.raw (.ref a)] (.int (ds.length : Int)) := ⟨fun A ok s H₁ vs k I R Q E q => by
  cases R with
  | cons r t =>
    cases t; cases r
    obtain ⟨o, ws, m, h1, h2, h3, h4⟩ := g.ex
    have e : ws.size = ds.length := by have := h4.length; simpa using this
    refine call_len_list (l := a) (items := ws) ⟨_, I.le _ _ (k _ _ h1), h2, m, h3⟩ ?_ ?_
    · have e2 : sizeLine = 16777216 := by decide
      omega
    · rw [e]; exact q _ H₁ s.heap _ (.refl I) (.int _ _)⟩
theorem PE.idxG {e x : Expr} {pos : Pos} {a : Addr} {l : List D} {i : Nat} (g : Given H a l) (he : PE c n env ρ H e (.raw (.ref a))) (hx : PE c n env ρ H x (.int (i : Int))) (hi : l[i]? = some d) (hb : i < 2 ^ 62) (hs : ∀ o i, subscripted x false o i = operate [o, i] (getItem o i) := by intro _ _; with_unfolding_all rfl) : PE c n env ρ H (.Subscript e x pos) d :=
  ⟨fun A ok s H₁ k I F Q E q => Sub_any (he.run A ok s H₁ k I F _ _ fun v H₂ h₂ t₂ S₂ R₂ => hx.run A ok _ H₂ (k.trans S₂.up) S₂.inv (F.step S₂) _ _ fun w H₃ h₃ t₃ S₃ R₃ => by
    cases R₂
    obtain ⟨o, ws, m, h1, h2, h3, h4⟩ := (g.mono ((k.trans S₂.up).trans S₃.up)).ex
    obtain ⟨y, hy, ry⟩ := h4.get' hi
    have hg := S₃.inv.le _ _ h1
    cases R₃ with
    | int _ t =>
      exact ⟨"list", "list.__getitem__", slot_list_getitem.lookup, ⟨o, hg, h2⟩, wpAny_getItem_list (s := { s with heap := h₃, toks := t₃ }) ⟨o, hg, h2, m, h3⟩ (by omega) (by omega) (x := y) (by simpa using hy) (q y H₃ h₃ t₃ (S₂.trans S₃ I) ry)⟩) hs⟩

theorem PE.globR {x : Str} {pos : Pos} {v : Value} (g : GlobV c x v) (hr : ∀ H h, Inv c H h → Rel H v d) (hx : env.kindOf x = some .globalImplicit) (hd : (x == ("__debug__" : Str)) = false := by decide) : PE c n env ρ H (.Name x pos) d :=
  ⟨fun A _ s H₁ k I F Q E q => ldGlob I F hx g hd (q v H₁ s.heap s.toks (.refl I) (hr H₁ s.heap I))⟩
theorem Rel.ofK {a : Addr} {vs : Array Value} {m : Nat} {ds : List D} (hk : c.K.lookup a = some (tupO vs m)) (hr : ∀ H : View, RelL H vs.toList ds) : ∀ H h, Inv c H h → Rel H (.ref a) (.tup ds) := fun H h I => .tup (I.base _ _ (c.k _ _ hk)) (hr H)
end
end Mine
namespace Mine

section
variable {c : Cfg} {n : Nat} {env : Env} {ρ : Str → Option Value} {H : View} {d : D}

theorem Fun.strInt {i : Int} (hi : i.natAbs.log2 < 1920) : Fun c n (.type "str") H [.int i] (.str (toString i)) := ⟨fun A ok s H₁ vs k I R Q E q => by
  cases R with
  | cons r t => cases t; cases r with
    | int _ t => exact P.str_of_int hi (q _ H₁ s.heap _ (.refl I) (.str _ _))⟩
theorem Fun.typeInt {i : Int} : Fun c n (.type "type") H [.int i] (.raw (.type "int")) := ⟨fun A ok s H₁ vs k I R Q E q => by
  cases R with
  | cons r t => cases t; cases r with
    | int _ t => exact call_type_of (Tx := "int") rfl (by decide) (q _ H₁ s.heap _ (.refl I) (.raw _))⟩
theorem CmpR.isNoneInt {i : Int} : CmpR c .Is (.int i) .none (.bool false) := ⟨fun A ok s H₁ u v I R₁ R₂ Q E q => by
  cases R₁ with
  | int _ t => cases R₂ with
    | none => exact is_none_ne (by intro e; cases e) (q _ H₁ s.heap s.toks (.refl I) (.bool _))⟩

theorem tup2_of {H : View} {vs : List Value} {a b : Value} (h : RelL H vs [.raw a, .raw b]) : vs = [a, b] := by
  cases h with
  | cons r t => cases t with
    | cons r' t' => cases t'; cases r; cases r'; rfl
theorem Fun.isTupInt {i : Int} {a b : Value} {r : Bool} (e : kitAny c.K (.type "int") [a, b] = some r) : Fun c n (.builtin "isinstance") H [.int i, .tup [.raw a, .raw b]] (.bool r) := ⟨fun A ok s H₁ vs k I R Q E q => by
  cases R with
  | cons r1 t => cases t with
    | cons r2 t' =>
      cases t'
      cases r1 with
      | int _ tk =>
        cases r2 with
        | @tup ad ws m _ ha hr =>
          have hw := tup2_of hr
          have hg := I.le _ _ ha
          have hw' : ws = [a, b].toArray := by rw [← hw]
          rw [hw'] at hg
          exact kia_tup (K := c.K) (dd := none) (sl := #[]) kitx_int (fun b o e => I.keep _ _ (c.k b o e)) trivial hg e (by intro e; cases e) fun tk' => q _ H₁ s.heap tk' (.refl I) (.bool _)⟩

/-- the name of a built-in type -/
theorem PE.typeName {e : Expr} {pos : Pos} {T x : String} (he : PE c n env ρ H e (.raw (.type T))) (ht : kitMeta T = true) (hs : Manifest.isStub T = false)
    (hf : findCls c.K (.type T) (.type "type") "__name__" = some (.get (.builtin "getset_descriptor.__get__") (.builtin "type.__name__") (.type T) (.type "type"))) (hq : ktynFast T = x) (hz : (Str.ofString x).length ≤ sizeLine)
    (hsub : subIn c.K (.type "type") (.type "type") = some true) (hga : findIn c.K (.type "type") "__getattribute__" = some (some (.builtin "type.__getattribute__")))
    (hform : ∀ env, eval (.Attribute e "__name__" pos) env = (do
      let o ← eval e env
      standAt pos.atName
      let r ← holding [o] (getAttr o "__name__" true)
      letTemporaryGo e o r
      pure r) := by intro _; with_unfolding_all rfl) : PE c n env ρ H (.Attribute e "__name__" pos) (.str (Str.ofString x)) := ⟨fun A ok s H₁ k I F Q E q =>
  Attribute_any_ (he.run A ok s H₁ k I F _ _ fun v H₂ h₂ t₂ S₂ R₂ => by
    cases R₂
    have X : c.K.In h₂ := fun b o e => S₂.inv.keep _ _ (c.k b o e)
    have hstub : opaqueClassAbove (.type T) = pure none := by unfold opaqueClassAbove; dsimp only; rw [hs]; rfl
    refine cls_open (s := { s with heap := h₂, toks := t₂ }) X (Looks.of_pure hstub) (Looks.of_pure (kitMeta_of ht)) hga (looks_hook X (r := none) (by rfl)) hsub hf ?_
    show wpAny _ _ (do ret (← holding [Value.builtin "type.__name__"] (PySem.call (.builtin "getset_descriptor.__get__") [.builtin "type.__name__", .type T, .type "type"]))) _ _ _
    refine wpAny_bind (wpAny_holding (wpAny_call (ktyn_get (s := { s with heap := h₂, toks := t₂ + 1 }) (kitMeta_of ht) hq hz ?_)))
    exact wpAny_pure (handed_on rfl (q _ H₂ h₂ _ S₂ (.str _ _)))) (hform env)⟩

/-- an item of a written table by a text -/
theorem PE.idxK {e x : Expr} {pos : Pos} {a : Addr} {es : Array DictEntry} {m : Nat} {y : Str} {v : Value} (he : PE c n env ρ H e (.raw (.ref a))) (hx : PE c n env ρ H x (.str y)) (hl : c.K.lookup a = some ⟨.type "dict", none, .dict es m, #[]⟩) (hk : KeysLit c.w.params es.toList)
    (hv : nsIn c.K a y = some (some v)) (hs : ∀ o i, subscripted x false o i = operate [o, i] (getItem o i) := by intro _ _; with_unfolding_all rfl) : PE c n env ρ H (.Subscript e x pos) (.raw v) :=
  ⟨fun A ok s H₁ k I F Q E q => Sub_any (he.run A ok s H₁ k I F _ _ fun u H₂ h₂ t₂ S₂ R₂ => hx.run A ok _ H₂ (k.trans S₂.up) S₂.inv (F.step S₂) _ _ fun w H₃ h₃ t₃ S₃ R₃ => by
    cases R₂
    cases R₃ with
    | str _ t =>
      have X : c.K.In h₃ := fun b o e => S₃.inv.keep _ _ (c.k b o e)
      have hm := mapOf_K (prog := c.prog) X hl hk
      exact ⟨"dict", "dict.__getitem__", slot_dict_getitem.lookup, hm.typeIs (s := { s with heap := h₃, toks := t₃ }), wpAny_getItem_of (s := { s with heap := h₃, toks := t₃ }) (strKind_is c.prog c.w y t) hm (find_K hl hv) (q v H₃ h₃ _ (S₂.trans S₃ I) (.raw _))⟩) hs⟩
end

section
variable {c : Cfg}
theorem int_out_sp (hK : c.K = Mine.hd.heap_39 c.w.params) {n : Nat} {H : View} {i : Int} (hi : i.natAbs.log2 < 1920) : Fun c (n + 1) (.ref 49) H [.int i] (.str (toString i)) := by
  refine' Fun.enter (ps := [Str.ofString "v"]) ?ho ?hcd ?hbind ?hloc ?hcell ?h ?h1 ?h2 ?h3
  case ho => rw [hK]; k_is
  case hcd => rw [hK]; k_is
  case h1 => rfl
  case h2 => rfl
  case h3 => rfl
  case hcell => decide
  case hloc => decide
  case hbind => intro vs hl; obtain ⟨v, rfl⟩ := one_of hl rfl; rfl
  case h =>
    intro vs H₁ L k R
    obtain ⟨v, rfl⟩ := one_of R.length rfl
    exact SR.ret (PE.call rfl (globB (v := .type "str") (by rw [hK]; k_is) (by decide +kernel)) (.type _) (PEs.one (PE.name (v := v) rfl R.one (.inl rfl))) (Fun.strInt hi))

theorem ex_dict {K : Frag} {P : Params} {a : Addr} {es : Array DictEntry} {m : Nat} (h1 : K.lookup a = some ⟨.type "dict", none, .dict es m, #[]⟩) (h2 : KeysLit P es.toList) : ∃ es m, K.lookup a = some ⟨.type "dict", none, .dict es m, #[]⟩ ∧ KeysLit P es.toList := ⟨es, m, h1, h2⟩
theorem apart0 {qual : Str} {scope : Scope} {L f : Addr} {cdv : Value} : CellsApart (envOf qual scope L f cdv) := fun x y a e => by simp [envOf] at e

theorem make_param_sp (hK : c.K = Mine.hd.heap_39 c.w.params) {n : Nat} {H : View} {i : Int} (hi : i.natAbs.log2 < 1920) : Fun c (n + 2) (.ref 758) H [.raw (.ref 751), .int i] (.str (toString i)) := by
  refine' Fun.enter (ps := [Str.ofString "py_types", Str.ofString "value"]) ?ho ?hcd ?hbind ?hloc ?hcell ?h ?h1 ?h2 ?h3
  case ho => rw [hK]; k_is
  case hcd => rw [hK]; k_is
  case h1 => rfl
  case h2 => rfl
  case h3 => rfl
  case hcell => decide
  case hloc => decide
  case hbind => intro vs hl; obtain ⟨v, v', rfl⟩ := two_of hl rfl; rfl
  case h =>
    intro vs H₁ L k R
    obtain ⟨v, v', rfl⟩ := two_of R.length rfl
    have hr : v = .ref 751 ∧ Rel H₁ v' (.int i) := by
      cases R with
      | cons r1 t => cases t with
        | cons r2 t' => cases r1; exact ⟨rfl, r2⟩
    obtain ⟨rfl, r2⟩ := hr
    refine SR.of fun A ok s H₂ k₂ σ Q E q => ?_
    refine wpAny_execs_cons (wpAny_Try_except ?_)
    have hlk : ∃ es m, c.K.lookup 751 = some ⟨.type "dict", none, .dict es m, #[]⟩ ∧ KeysLit c.w.params es.toList := by
      rw [hK]
      refine' ex_dict ?a ?b
      case a => k_is
      case b => exact ⟨⟨_, _, rfl, rfl⟩, ⟨_, _, rfl, rfl⟩, ⟨_, _, rfl, rfl⟩, ⟨_, _, rfl, rfl⟩, ⟨_, _, rfl, rfl⟩, ⟨_, _, rfl, rfl⟩, ⟨_, _, rfl, rfl⟩, ⟨_, _, rfl, rfl⟩, ⟨_, _, rfl, rfl⟩, trivial⟩
    obtain ⟨es, m, hl, hkl⟩ := hlk
    refine wpAny_execs_cons (wpAny_Assign_Name ((PE.idxK (PE.name (v := .ref 751) rfl (.raw _) (.inl rfl)) (PE.typeName (T := "int") (x := "int") (PE.call rfl (globB (v := .type "type") (by rw [hK]; k_is) (by decide +kernel)) (.type _) (PEs.one (PE.name (v := v') rfl r2 (.inl rfl))) Fun.typeInt) (by decide +kernel) (by decide +kernel) (by rw [hK]; k_is) (by decide +kernel) (by decide +kernel) (by rw [hK]; k_is) (by rw [hK]; k_is)) hl hkl (v := .ref 49) (by rw [hK]; k_is)).run A ok s H₂ k₂ σ.base.inv σ.frm _ _ fun u H₃ h₃ t₃ S₃ R₃ => ?_) rfl)
    cases R₃
    refine (σ.step S₃).store (s := { s with heap := h₃, toks := t₃ }) rfl (.inl rfl) apart0 fun h₄ t₄ σ₄ => ?_
    refine wpAny_execs_nil (wpAny_execs_nil ?_)
    exact σ₄.sr (SR.ret (PE.callLoc (f := .ref 49) rfl rfl (.fn (by rw [hK]; k_is)) (PEs.one (PE.name (v := v') rfl ((r2.mono k₂).mono S₃.up) (.inl rfl))) (int_out_sp hK (n := n) hi))) ok (s := { s with heap := h₄, toks := t₄ }) rfl q

theorem array_out_int (hK : c.K = Mine.hd.heap_39 c.w.params) {n : Nat} {H : View} {i : Int} (hi : i.natAbs.log2 < 1920) : Fun c (n + 3) (.ref 745) H [.int i] (.str (toString i)) := by
  refine' Fun.enter (ps := [Str.ofString "val"]) ?ho ?hcd ?hbind ?hloc ?hcell ?h ?h1 ?h2 ?h3
  case ho => rw [hK]; k_is
  case hcd => rw [hK]; k_is
  case h1 => rfl
  case h2 => rfl
  case h3 => rfl
  case hcell => decide
  case hloc => decide
  case hbind => intro vs hl; obtain ⟨v, rfl⟩ := one_of hl rfl; rfl
  case h =>
    intro vs H₁ L k R
    obtain ⟨v, rfl⟩ := one_of R.length rfl
    have r := R.one
    refine SR.ifRet (b := false) (PT.bool (PE.call rfl (globB (by rw [hK]; k_is) (by decide +kernel)) (.builtin _) (PEs.two (PE.name (v := v) rfl r (.inl rfl)) (PE.glob (globB (v := .type "list") (by rw [hK]; k_is) (by decide +kernel)) rfl)) (Fun.intNot fun q => IsiPair.int_list q))) (fun h => by cases h) fun _ => ?_
    refine SR.ifRet (b := false) (PT.bool (PE.call rfl (globB (by rw [hK]; k_is) (by decide +kernel)) (.builtin _) (PEs.two (PE.name (v := v) rfl r (.inl rfl)) (PE.glob (globB (v := .type "tuple") (by rw [hK]; k_is) (by decide +kernel)) rfl)) (Fun.intNot fun q => IsiPair.int_tuple q))) (fun h => by cases h) fun _ => ?_
    refine SR.ifRet (b := false) (PT.cmp (PE.name (v := v) rfl r (.inl rfl)) PE.constNone CmpR.isNoneInt) (fun h => by cases h) fun _ => ?_
    refine SR.ifRet (b := false) (PT.bool (PE.call rfl (globB (by rw [hK]; k_is) (by decide +kernel)) (.builtin _) (PEs.two (PE.name (v := v) rfl r (.inl rfl)) (PE.tupD (PEs.two (PE.glob (globB (v := .type "bytes") (by rw [hK]; k_is) (by decide +kernel)) rfl) (PE.glob (globB (v := .type "bytearray") (by rw [hK]; k_is) (by decide +kernel)) rfl)) (by show 2 ≤ sizeLine; decide))) (Fun.isTupInt (by kernel_rfl)))) (fun h => by cases h) fun _ => ?_
    refine SR.ifRet (b := false) (PT.bool (PE.call rfl (globB (by rw [hK]; k_is) (by decide +kernel)) (.builtin _) (PEs.two (PE.name (v := v) rfl r (.inl rfl)) (PE.glob (globB (v := .type "str") (by rw [hK]; k_is) (by decide +kernel)) rfl)) (Fun.intNot fun q => IsiPair.int_str q))) (fun h => by cases h) fun _ => ?_
    exact SR.ret (PE.call rfl (.inl (by rw [hK]; k_is)) (.fn (by rw [hK]; k_is)) (PEs.two (PE.glob (v := .ref 751) (.inl (by rw [hK]; k_is)) rfl) (PE.name (v := v) rfl r (.inl rfl))) (make_param_sp hK (n := n) hi))

theorem digit_log {i : Nat} (h : i < 10) : ((i : Int)).natAbs.log2 < 1920 := by
  have : (i : Int).natAbs = i := rfl
  rw [this]
  have h1 : i.log2 ≤ i := Nat.log2_le_self i
  omega
theorem array_out_sp2 (hK : c.K = Mine.hd.heap_39 c.w.params) {d : D} (h : d.Arr) : d.sz ≤ 1000000 → ∀ (n : Nat) (H : View), Fun c (n + 3 + d.ht) (.ref 745) H [d] (.str d.txt) := by
  induction h with
  | num i hi => intro _ n H; exact array_out_int hK (n := n) (digit_log hi)
  | node l hl ih =>
    intro hsz n H
    rw [D.sz] at hsz
    show Fun c (n + 3 + hts l + 1) (.ref 745) H [.list l] _
    refine array_out_node hK (by omega) fun t ht H' hH => ?_
    have h1 := sz_mem ht
    have h2 := ht_mem ht
    exact (ih t ht (by omega) n H').mono (by omega) (.refl _)
end
end Mine
namespace Mine

/-! all orders of a tree, in plain Lean -/
def lof : D → List D
  | .list l => l
  | _ => []
def nof : D → Nat
  | .int i => i.toNat
  | _ => 0
def nD (k : Nat) : D := .int (k : Int)
def oD (ks : List Nat) : D := .list (ks.map nD)
def permsN : Nat → List (List Nat)
  | 0 => [[]]
  | k + 1 => (permsN k).flatMap fun order => (List.range (k + 1)).map fun place => order.take place ++ [k] ++ order.drop place
mutual
def ords : D → List D
  | .list l => (permsN l.length).flatMap fun order => (chs [[]] l).map fun choice => .list (order.map fun k => choice.getD k .none)
  | .none => [.none]
  | .bool b => [.bool b]
  | .int i => [.int i]
  | .str x => [.str x]
  | .tup l => [.tup l]
  | .raw v => [.raw v]
def chs (acc : List (List D)) : List D → List (List D)
  | [] => acc
  | t :: r => chs (acc.flatMap fun choice => (ords t).map fun part => choice ++ [part]) r
end

def gO (i : Nat) (d d2 : D) : D := .list ((lof d).take (nof d2) ++ [nD i] ++ (lof d).drop (nof d2))
def gC (d d2 : D) : D := .list (lof d ++ [d2])
def gF (d d2 : D) : D := .list ((lof d).map fun k => (lof d2).getD (nof k) .none)

theorem orders_step (i : Nat) : ((permsN i).map oD).flatMap (fun d => ((List.range (i + 1)).map nD).map (gO i d)) = (permsN (i + 1)).map oD := by
  show _ = ((permsN i).flatMap _).map oD
  rw [List.map_flatMap, List.flatMap_map]
  congr 1
  funext ks
  rw [List.map_map, List.map_map]
  apply List.map_congr_left
  intro p hp
  show gO i (oD ks) (nD p) = oD _
  unfold gO oD lof nof nD
  simp [List.map_take, List.map_drop]
theorem chs_append : ∀ (l : List D) (acc : List (List D)) (t : D), chs acc (l ++ [t]) = (chs acc l).flatMap fun choice => (ords t).map fun part => choice ++ [part]
  | [], acc, t => rfl
  | u :: l, acc, t => by
    show chs _ (l ++ [t]) = _
    rw [chs_append l]; rfl
theorem choices_step (l : List D) (i : Nat) (t : D) (h : l[i]? = some t) : ((chs [[]] (l.take i)).map D.list).flatMap (fun d => (ords t).map (gC d)) = (chs [[]] (l.take (i + 1))).map D.list := by
  rw [List.take_add_one, h]
  show _ = (chs [[]] (l.take i ++ [t])).map D.list
  rw [chs_append, List.map_flatMap, List.flatMap_map]
  congr 1
  funext ch
  rw [List.map_map]
  rfl
theorem final_step (l : List D) : ((permsN l.length).map oD).flatMap (fun d => ((chs [[]] l).map D.list).map (gF d)) = ords (.list l) := by
  rw [ords, List.flatMap_map]
  congr 1
  funext ks
  rw [List.map_map]
  apply List.map_congr_left
  intro ch _
  show gF (oD ks) (.list ch) = _
  unfold gF oD lof
  rw [List.map_map]
  rfl
theorem perms_mem : ∀ (m : Nat) (o : List Nat), o ∈ permsN m → ∀ k ∈ o, k < m
  | 0, o, h, k, hk => by
    have : o = [] := by simpa [permsN] using h
    subst this; cases hk
  | m + 1, o, h, k, hk => by
    obtain ⟨o', h1, h2⟩ := List.mem_flatMap.mp h
    obtain ⟨p, _, rfl⟩ := List.mem_map.mp h2
    have ih := perms_mem m o' h1
    rcases List.mem_append.mp hk with hk | hk
    · rcases List.mem_append.mp hk with hk | hk
      · exact Nat.lt_succ_of_lt (ih k (List.mem_of_mem_take hk))
      · rw [List.mem_singleton.mp hk]; exact Nat.lt_succ_self _
    · exact Nat.lt_succ_of_lt (ih k (List.mem_of_mem_drop hk))
theorem perms_len (m : Nat) (h : m ≤ 3) : (permsN m).length ≤ 6 := by
  have : m = 0 ∨ m = 1 ∨ m = 2 ∨ m = 3 := by omega
  rcases this with rfl | rfl | rfl | rfl <;> decide
theorem order_len : ∀ (m : Nat) (o : List Nat), o ∈ permsN m → o.length = m
  | 0, o, h => by
    have : o = [] := by simpa [permsN] using h
    subst this; rfl
  | m + 1, o, h => by
    obtain ⟨o', h1, h2⟩ := List.mem_flatMap.mp h
    obtain ⟨p, hp, rfl⟩ := List.mem_map.mp h2
    have ih := order_len m o' h1
    have hp' := List.mem_range.mp hp
    simp only [List.length_append, List.length_take, List.length_drop, List.length_singleton]
    omega
theorem chs_mem : ∀ (l : List D) (acc : List (List D)) (a : Nat), (∀ ch ∈ acc, ch.length = a) → ∀ ch ∈ chs acc l, ch.length = a + l.length
  | [], acc, a, h, ch, hc => h ch hc
  | t :: r, acc, a, h, ch, hc => by
    have := chs_mem r _ (a + 1) (fun ch hc => by
      obtain ⟨ch', h1, h2⟩ := List.mem_flatMap.mp hc
      obtain ⟨p, _, rfl⟩ := List.mem_map.mp h2
      rw [List.length_append, h ch' h1]; rfl) ch hc
    rw [this, List.length_cons]; omega
theorem flat_mul {α β : Type} (f : α → List β) {N : Nat} : ∀ l : List α, (∀ d ∈ l, (f d).length ≤ N) → (l.flatMap f).length ≤ l.length * N
  | [], _ => by simp
  | a :: r, h => by
    have h1 := h a (by simp)
    have h2 := flat_mul f r fun d hd => h d (List.mem_cons_of_mem _ hd)
    rw [List.flatMap_cons, List.length_append, List.length_cons, Nat.succ_mul]
    omega
theorem chs_len {B : Nat} : ∀ (l : List D) (acc : List (List D)), (∀ t ∈ l, (ords t).length ≤ B) → (chs acc l).length ≤ acc.length * B ^ l.length
  | [], acc, _ => by simp [chs]
  | t :: r, acc, h => by
    have h1 := chs_len r (acc.flatMap fun choice => (ords t).map fun part => choice ++ [part]) fun u hu => h u (List.mem_cons_of_mem _ hu)
    have h2 : (acc.flatMap fun choice => (ords t).map fun part => choice ++ [part]).length ≤ acc.length * B := flat_mul _ _ fun ch _ => by rw [List.length_map]; exact h t (by simp)
    have h3 : (acc.flatMap fun choice => (ords t).map fun part => choice ++ [part]).length * B ^ r.length ≤ acc.length * B * B ^ r.length := Nat.mul_le_mul_right _ h2
    have e : acc.length * B ^ (t :: r).length = acc.length * B * B ^ r.length := by rw [List.length_cons, Nat.pow_succ, Nat.mul_assoc, Nat.mul_comm (B ^ r.length)]
    rw [e]
    exact Nat.le_trans h1 h3
theorem chs_small {l : List D} (hl : l.length ≤ 3) (h : ∀ t ∈ l, (ords t).length ≤ 48) : (chs [[]] l).length ≤ 110592 := by
  have h1 := chs_len (B := 48) l [[]] h
  have h2 : 48 ^ l.length ≤ 48 ^ 3 := Nat.pow_le_pow_right (by decide) hl
  have e : 48 ^ 3 = 110592 := by decide
  simp only [List.length_singleton, Nat.one_mul] at h1
  omega

/-! slices, cells -/
section
variable {c : Cfg} {n : Nat} {env : Env} {ρ : Str → Option Value} {H : View} {d : D}

theorem HStep.two {h : Heap} (I : Inv c H h) (o1 : Obj) (vs : List Value) : HStep c H h (H.add (h.objs.size + 1) (lstO vs.toArray 0)) ((h.push o1).push (lstO vs.toArray 0)) := by
  have n1 : h.get? (h.objs.size + 1) = none := Heap.get?_none_of_le (Nat.le_succ _)
  refine HStep.add I (fun b o e => Heap.get?_push_of_some _ (Heap.get?_push_of_some _ e)) n1 ?_
  have e1 := Heap.get?_push_size (h.push o1) (o := lstO vs.toArray 0) rfl
  rw [Heap.size_push] at e1
  exact e1
theorem PE.sliceTo {e x : Expr} {p pos : Pos} {l : List D} {i : Nat} (he : PE c n env ρ H e (.list l)) (hx : PE c n env ρ H x (.int (i : Int))) (hsz : l.length ≤ sizeLine) (ht : ∀ o r, letTemporaryGo e o r = pure () := by intro _ _; rfl) :
    PE c n env ρ H (.Subscript e (.Slice none (some x) none p) pos) (.list (l.take i)) := ⟨fun A ok s H₁ k I F Q E q =>
  wpAny_Subscript_list_slice (he.run A ok s H₁ k I F _ _ fun v H₂ h₂ t₂ S₂ R₂ => wpAny_evalPart_none (wpAny_evalPart_some (hx.run A ok _ H₂ (k.trans S₂.up) S₂.inv (F.step S₂) _ _ fun u H₃ h₃ t₃ S₃ R₃ => by
    have R₂' := R₂.mono S₃.up
    cases R₂' with
    | @list a ws m _ ha hr =>
      cases R₃ with
      | int _ t =>
        have hsz' : ws.size ≤ sizeLine := by have := hr.length; simp only [Array.length_toList] at this; omega
        refine ⟨a, ws, none, some (i : Int), rfl, ⟨_, S₃.inv.le _ _ ha, rfl, m, rfl⟩, hsz', .none, .int _ _, ?_⟩
        rw [slicePick_upto']
        have S₄ := HStep.two S₃.inv { cls := .type "slice", data := .fields #[.none, .int (i : Int) t, .none] } (ws.toList.take i)
        exact q _ _ _ _ ((S₂.trans S₃ I).trans S₄ I) (.list View.add_self (by simpa using (hr.take i).mono S₄.up)))) ) ht⟩
theorem PE.sliceFrom {e x : Expr} {p pos : Pos} {l : List D} {i : Nat} (he : PE c n env ρ H e (.list l)) (hx : PE c n env ρ H x (.int (i : Int))) (hsz : l.length ≤ sizeLine) (ht : ∀ o r, letTemporaryGo e o r = pure () := by intro _ _; rfl) :
    PE c n env ρ H (.Subscript e (.Slice (some x) none none p) pos) (.list (l.drop i)) := ⟨fun A ok s H₁ k I F Q E q =>
  wpAny_Subscript_list_slice (he.run A ok s H₁ k I F _ _ fun v H₂ h₂ t₂ S₂ R₂ => wpAny_evalPart_some (hx.run A ok _ H₂ (k.trans S₂.up) S₂.inv (F.step S₂) _ _ fun u H₃ h₃ t₃ S₃ R₃ => wpAny_evalPart_none (by
    have R₂' := R₂.mono S₃.up
    cases R₂' with
    | @list a ws m _ ha hr =>
      cases R₃ with
      | int _ t =>
        have hsz' : ws.size ≤ sizeLine := by have := hr.length; simp only [Array.length_toList] at this; omega
        refine ⟨a, ws, some (i : Int), none, rfl, ⟨_, S₃.inv.le _ _ ha, rfl, m, rfl⟩, hsz', .int _ _, .none, ?_⟩
        rw [slicePick_from']
        have S₄ := HStep.two S₃.inv { cls := .type "slice", data := .fields #[.int (i : Int) t, .none, .none] } (ws.toList.drop i)
        exact q _ _ _ _ ((S₂.trans S₃ I).trans S₄ I) (.list View.add_self (by simpa using (hr.drop i).mono S₄.up)))) ) ht⟩
end

theorem look3 {x1 x2 x3 y : Str} {a1 a2 a3 b : Addr} (e : List.lookup y [(x1, a1), (x2, a2), (x3, a3)] = some b) : (y = x1 ∧ b = a1) ∨ (y = x2 ∧ b = a2) ∨ (y = x3 ∧ b = a3) := by
  have := mem_of_lookup e
  simp only [List.mem_cons, Prod.mk.injEq, List.not_mem_nil, or_false] at this
  exact this
theorem look2 {x1 x2 y : Str} {a1 a2 b : Addr} (e : List.lookup y [(x1, a1), (x2, a2)] = some b) : (y = x1 ∧ b = a1) ∨ (y = x2 ∧ b = a2) := by
  have := mem_of_lookup e
  simp only [List.mem_cons, Prod.mk.injEq, List.not_mem_nil, or_false] at this
  exact this
theorem look1 {x1 y : Str} {a1 b : Addr} (e : List.lookup y [(x1, a1)] = some b) : y = x1 ∧ b = a1 := by
  have := mem_of_lookup e
  simp only [List.mem_cons, Prod.mk.injEq, List.not_mem_nil, or_false] at this
  exact this
theorem apart3 {env : Env} {x1 x2 x3 : Str} {a1 a2 a3 : Addr} (h : env.cells = [(x1, a1), (x2, a2), (x3, a3)]) (h12 : a1 ≠ a2) (h13 : a1 ≠ a3) (h23 : a2 ≠ a3) : CellsApart env := fun x y b e e' => by
  rw [h] at e e'
  rcases look3 e with ⟨rfl, rfl⟩ | ⟨rfl, rfl⟩ | ⟨rfl, rfl⟩ <;> rcases look3 e' with ⟨rfl, q⟩ | ⟨rfl, q⟩ | ⟨rfl, q⟩ <;> first | rfl | exact absurd q (by assumption) | exact absurd q.symm (by assumption)
theorem cells_one {env : Env} {x : Str} {b : Addr} (h1 : env.cells.lookup x = some b) (h2 : env.kindOf x = some .cell ∨ env.kindOf x = some .free) : ∀ y a, [(x, b)].lookup y = some a → env.cells.lookup y = some a ∧ (env.kindOf y = some .cell ∨ env.kindOf y = some .free) := by
  intro y a e
  obtain ⟨rfl, rfl⟩ := look1 e
  exact ⟨h1, h2⟩
theorem kinds_one {names : List (Str × NameKind)} {x : Str} {b : Addr} (h : names.lookup x = some .cell ∨ names.lookup x = some .free) : ∀ y a, [(x, b)].lookup y = some a → names.lookup y = some .cell ∨ names.lookup y = some .free := by
  intro y a e
  obtain ⟨rfl, rfl⟩ := look1 e
  exact h
theorem cells_two {env : Env} {x x' : Str} {b b' : Addr} (h1 : env.cells.lookup x = some b) (h2 : env.kindOf x = some .cell ∨ env.kindOf x = some .free) (h1' : env.cells.lookup x' = some b') (h2' : env.kindOf x' = some .cell ∨ env.kindOf x' = some .free) :
    ∀ y a, [(x, b), (x', b')].lookup y = some a → env.cells.lookup y = some a ∧ (env.kindOf y = some .cell ∨ env.kindOf y = some .free) := by
  intro y a e
  rcases look2 e with ⟨rfl, rfl⟩ | ⟨rfl, rfl⟩
  · exact ⟨h1, h2⟩
  · exact ⟨h1', h2'⟩
theorem kinds_two {names : List (Str × NameKind)} {x x' : Str} {b b' : Addr} (h : names.lookup x = some .cell ∨ names.lookup x = some .free) (h' : names.lookup x' = some .cell ∨ names.lookup x' = some .free) :
    ∀ y a, [(x, b), (x', b')].lookup y = some a → names.lookup y = some .cell ∨ names.lookup y = some .free := by
  intro y a e
  rcases look2 e with ⟨rfl, rfl⟩ | ⟨rfl, rfl⟩
  · exact h
  · exact h'
end Mine
namespace Mine

theorem apartL {env : Env} {x1 x2 x3 : Str} {L : Nat} (h : env.cells = [(x1, L + 1 + 1 + 1), (x2, L + 1 + 1), (x3, L + 1)]) : CellsApart env := apart3 h (Nat.succ_ne_self _) (fun e => by have : L + 1 + 1 + 1 = L + 1 := e; omega) (Nat.succ_ne_self _)

def JO (l : List D) (vt : Value) (i : Nat) (ρ : Str → Option Value) (H : View) (h : Heap) : Prop :=
  ρ (Str.ofString "tree") = some vt ∧ Rel H vt (.list l) ∧ (∃ u, ρ (Str.ofString "orders") = some u ∧ Rel H u (.list ((permsN i).map oD))) ∧ ∃ u, ρ (Str.ofString "choices") = some u ∧ Rel H u (.list ((chs [[]] (l.take i)).map D.list))

section
variable {c : Cfg}
theorem law_orders_leaf (hK : c.K = Mine.hd.heap_39 c.w.params) {n : Nat} {H : View} {i : Int} : Fun c (n + 1) (.ref 764) H [.int i] (.list (ords (.int i))) := by
  refine' Fun.enterC (ps := [Str.ofString "tree"]) ?ho ?hcd ?hbind ?hkind ?h ?h1 ?h2 ?h3
  case ho => rw [hK]; k_is
  case hcd => rw [hK]; k_is
  case h1 => rfl
  case h2 => rfl
  case h3 => rfl
  case hbind => intro vs hl; obtain ⟨v, rfl⟩ := one_of hl rfl; rfl
  case hkind =>
    intro L x hx
    rw [List.mem_singleton.mp hx]
    exact .inr ⟨rfl, rfl⟩
  case h =>
    intro vs H₁ L k R
    obtain ⟨v, rfl⟩ := one_of R.length rfl
    have r := R.one
    refine SR.ifRet (b := !false) (PT.not (PT.bool (PE.call rfl (globB (by rw [hK]; k_is) (by decide +kernel)) (.builtin _) (PEs.two (PE.name (v := v) rfl r (.inr (.inl rfl))) (PE.glob (globB (v := .type "list") (by rw [hK]; k_is) (by decide +kernel)) rfl)) (Fun.intNot fun q => IsiPair.int_list q)))) (fun _ => ?_) (fun h => by cases h)
    exact SR.ret (PE.listD (PEs.one (PE.name (v := v) rfl r (.inr (.inl rfl)))) (by show 1 ≤ sizeLine; decide))

theorem law_orders_node (hK : c.K = Mine.hd.heap_39 c.w.params) {n : Nat} {H : View} {l : List D} (hlen : l.length ≤ 3) (hB : ∀ t ∈ l, (ords t).length ≤ 48)
    (ih : ∀ t ∈ l, ∀ H', VLe H H' → Fun c n (.ref 764) H' [t] (.list (ords t))) : Fun c (n + 1) (.ref 764) H [.list l] (.list (ords (.list l))) := by
  refine' Fun.enterC (ps := [Str.ofString "tree"]) ?ho ?hcd ?hbind ?hkind ?h ?h1 ?h2 ?h3
  case ho => rw [hK]; k_is
  case hcd => rw [hK]; k_is
  case h1 => rfl
  case h2 => rfl
  case h3 => rfl
  case hbind => intro vs hl; obtain ⟨v, rfl⟩ := one_of hl rfl; rfl
  case hkind =>
    intro L x hx
    rw [List.mem_singleton.mp hx]
    exact .inr ⟨rfl, rfl⟩
  case h =>
    intro vs H₁ L k R
    obtain ⟨v, rfl⟩ := one_of R.length rfl
    have r := R.one
    have hLine : sizeLine = 16777216 := by decide
    refine SR.ifRet (b := !true) (PT.not (PT.bool (PE.call rfl (globB (by rw [hK]; k_is) (by decide +kernel)) (.builtin _) (PEs.two (PE.name (v := v) rfl r (.inr (.inl rfl))) (PE.glob (globB (v := .type "list") (by rw [hK]; k_is) (by decide +kernel)) rfl)) Fun.isList))) (fun h => by cases h) (fun _ => ?_)
    refine SR.unpack2 (d1 := .list [.list []]) (d2 := .list [.list []]) (apartL rfl) (.inl rfl) (.inr ⟨rfl, _, rfl⟩) (PE.tupD (PEs.two (PE.listD (PEs.one (PE.listD .nil (Nat.zero_le _))) (by show 1 ≤ sizeLine; decide)) (PE.listD (PEs.one (PE.listD .nil (Nat.zero_le _))) (by show 1 ≤ sizeLine; decide))) (by show 2 ≤ sizeLine; decide)) ?_
    intro v1 v2 H₂ k₂ r1 r2
    refine SR.of fun A ok s H₃ k₃ σ Q E q => ?_
    refine Fm.loop σ.toFm ok rfl (apartL rfl) (.inr ⟨rfl, _, rfl⟩) (ds := (List.range l.length).map nD)
      (IT.range rfl (globB (by rw [hK]; k_is) (by decide +kernel)) (PE.call rfl (globB (by rw [hK]; k_is) (by decide +kernel)) (.builtin _) (PEs.one (PE.name (v := v) rfl ((r.mono k₂).mono k₃) (.inr (.inl rfl)))) (Fun.len (by omega))) (by omega))
      (JO l v) ⟨rfl, (r.mono k₂).mono k₃, ⟨v1, rfl, r1.mono k₃⟩, v2, rfl, r2.mono k₃⟩ ?_ ?_ ?_
    · rintro i ρ' Ha ha Hb hb ⟨e1, e2, ⟨u, e3, e4⟩, u', e5, e6⟩ hle -
      exact ⟨e1, e2.mono hle, ⟨u, e3, e4.mono hle⟩, u', e5, e6.mono hle⟩
    · rintro i d u ρ' H' s' hd hle ru ⟨e1, e2, ⟨uo, e3, e4⟩, uc, e5, e6⟩ σ' Q' E' q'
      have hi : i < l.length ∧ d = nD i := by
        rw [List.getElem?_map] at hd
        by_cases hl : i < l.length
        · rw [List.getElem?_eq_getElem (by simpa using hl)] at hd
          simp at hd
          exact ⟨hl, hd.symm⟩
        · rw [List.getElem?_eq_none (by simpa using hl)] at hd
          cases hd
      obtain ⟨hil, rfl⟩ := hi
      have ht : l[i]? = some l[i] := List.getElem?_eq_getElem hil
      have hpl := perms_len i (by omega)
      have hcl := chs_small (l := l.take i) (by rw [List.length_take]; omega) (fun t ht' => hB t (List.mem_of_mem_take ht'))
      -- orders = ..
      refine σ'.toFs.asgComp2 ok rfl rfl rfl (apartL rfl) (cl := [(Str.ofString "k", L + 1 + 1 + 1)]) ⟨rfl, cells_one rfl (.inl rfl), kinds_one (.inl rfl)⟩ (by decide) rfl (by decide) rfl rfl (by decide)
        (ds := (permsN i).map oD) (inn := fun _ => (List.range (i + 1)).map nD) (g := gO i) (N := 4) (IT.list (PE.name (v := uo) e3 e4 (.inl rfl))) ?_ ?_ ?_ ?_ ?_
      · intro d hd; rw [List.length_map, List.length_range]; omega
      · rw [List.length_map]; omega
      · intro C d w H'' hd hH rw'
        refine IT.range (m := i + 1) rfl (globB (by rw [hK]; k_is) (by decide +kernel)) ?_ (by omega)
        exact PE.bin (b := .int 1) (PE.name (v := u) rfl (ru.mono hH) (.inr (.inl rfl))) PE.constInt BinR.addI
      · intro C d w d2 w2 H'' hd hd2 hH rw' rw2
        obtain ⟨ks, hks, rfl⟩ := List.mem_map.mp hd
        obtain ⟨p, hp, rfl⟩ := List.mem_map.mp hd2
        have hkl := order_len i ks hks
        have e : gO i (oD ks) (nD p) = .list ((ks.map nD).take p ++ [nD i] ++ (ks.map nD).drop p) := rfl
        rw [e]
        have hkl' : (ks.map nD).length ≤ sizeLine := by rw [List.length_map]; omega
        refine PE.bin (PE.bin (PE.sliceTo (PE.name (v := w) rfl rw' (.inl rfl)) (PE.name (v := w2) rfl rw2 (.inl rfl)) hkl') (PE.listD (PEs.one (PE.name (v := u) rfl (ru.mono hH) (.inr (.inl rfl)))) (by show 1 ≤ sizeLine; decide)) (BinR.addL ?_)) (PE.sliceFrom (PE.name (v := w) rfl rw' (.inl rfl)) (PE.name (v := w2) rfl rw2 (.inl rfl)) hkl') (BinR.addL ?_)
        · simp only [List.length_take, List.length_map, List.length_singleton]; omega
        · simp only [List.length_take, List.length_drop, List.length_map, List.length_singleton, List.length_append]; omega
      intro uo' H₄ h₄ t₄ σ₄ k₄ r₄
      rw [orders_step] at r₄
      -- choices = ..
      refine Fm.asg σ₄.toFm ok (s := { s' with heap := h₄, toks := t₄ }) rfl (apartL rfl) (.inr ⟨rfl, _, rfl⟩)
        (PE.listComp2 (cl := [(Str.ofString "tree", L + 1), (Str.ofString "k", L + 1 + 1 + 1)]) ⟨rfl, cells_two rfl (.inl rfl) rfl (.inl rfl), kinds_two (.inl rfl) (.inl rfl)⟩ (by decide) rfl (by decide) rfl rfl (by decide)
          (ds := (chs [[]] (l.take i)).map D.list) (inn := fun _ => ords l[i]) (g := gC) (N := 48) (IT.list (PE.name (v := uc) e5 (e6.mono k₄) (.inr (.inl rfl)))) ?_ ?_ ?_ ?_) ?_
      · intro d hd; exact hB _ (List.getElem_mem hil)
      · rw [List.length_map]; omega
      · intro C d w H'' hd hH rw'
        refine IT.list (PE.call rfl (.inl (by rw [hK]; k_is)) (.fn (by rw [hK]; k_is)) (PEs.one (PE.idx (i := i) (d := l[i]) (PE.name (v := v) e1 ((e2.mono k₄).mono hH) (.inr (.inl rfl))) (PE.name (v := u) rfl ((ru.mono k₄).mono hH) (.inr (.inl rfl))) ht (by omega))) (ih _ (List.getElem_mem hil) H'' ?_))
        exact (((k.trans k₂).trans k₃).trans hle).trans (k₄.trans hH)
      · intro C d w d2 w2 H'' hd hd2 hH rw' rw2
        obtain ⟨ch, hch, rfl⟩ := List.mem_map.mp hd
        have hcl' := chs_mem (l.take i) [[]] 0 (fun ch hc => by rw [List.mem_singleton.mp hc]; rfl) ch hch
        rw [List.length_take] at hcl'
        show PE c n _ _ H'' _ (.list (ch ++ [d2]))
        exact PE.bin (PE.name (v := w) rfl rw' (.inl rfl)) (PE.listD (PEs.one (PE.name (v := w2) rfl rw2 (.inl rfl))) (by show 1 ≤ sizeLine; decide)) (BinR.addL (by simp only [List.length_singleton]; omega))
      intro uc' H₅ h₅ t₅ σ₅ k₅ r₅ _
      rw [choices_step l i _ ht] at r₅
      refine wpAny_execs_nil (q' _ H₅ h₅ t₅ σ₅ (k₄.trans k₅) ⟨e1, (e2.mono k₄).mono k₅, ⟨uo', rfl, r₄.mono k₅⟩, uc', rfl, r₅⟩)
    · rintro ρ' H' h' tk' σ' hle ⟨e1, e2, ⟨uo, e3, e4⟩, uc, e5, e6⟩
      have hn : ((List.range l.length).map nD).length = l.length := by simp
      rw [hn] at e4 e6
      rw [List.take_length] at e6
      have hpl := perms_len l.length hlen
      have hcl := chs_small hlen hB
      refine σ'.sr (fun b hb => absurd hb List.not_mem_nil) (SR.ret ?_) ok (s := { s with heap := h', toks := tk' }) rfl q
      rw [← final_step]
      refine PE.listComp2c (cl := [(Str.ofString "choices", L + 1 + 1)]) ⟨rfl, cells_one rfl (.inl rfl), kinds_one (.inl rfl)⟩ (fun _ _ => rfl) (fun _ => rfl) rfl (by decide) rfl (fun _ => rfl) (by decide) rfl
        (IT.list (PE.name (v := uo) e3 e4 (.inl rfl))) (N := 110592) ?_ ?_ ?_ ?_
      · intro d hd; rw [List.length_map]; exact hcl
      · rw [List.length_map]; omega
      · intro C K d w H'' hd hH rw'
        exact IT.list (PE.name (v := uc) e5 (e6.mono hH) (.inr (.inl rfl)))
      · intro C K d w d2 w2 H'' hd hd2 hH rw' rw2
        obtain ⟨ks, hks, rfl⟩ := List.mem_map.mp hd
        obtain ⟨ch, hch, rfl⟩ := List.mem_map.mp hd2
        have hol := order_len _ ks hks
        have hom := perms_mem _ ks hks
        have hcl' := chs_mem l [[]] 0 (fun ch hc => by rw [List.mem_singleton.mp hc]; rfl) ch hch
        have hkl' : (ks.map nD).length ≤ sizeLine := by rw [List.length_map]; omega
        have e : gF (oD ks) (.list ch) = .list (((ks.map nD).filter fun _ => true).map fun k => ch.getD (nof k) .none) := by
          rw [List.filter_eq_self.mpr (fun _ _ => rfl)]; rfl
        rw [e]
        refine PE.listComp (p := fun _ => true) (g := fun k => ch.getD (nof k) .none) (cl := [(Str.ofString "choice", K)]) ⟨rfl, cells_one rfl (.inl rfl), kinds_one (.inl rfl)⟩ (by decide) rfl (by decide) rfl (IT.list (PE.name (v := w) rfl rw' (.inl rfl))) hkl' ?_
        intro C2 d3 w3 H3 hd3 hH3 rw3
        obtain ⟨j, hj, rfl⟩ := List.mem_map.mp hd3
        have hjl : j < ch.length := by have := hom j hj; omega
        refine ⟨.nil, fun _ => PE.idx (i := j) (PE.name (v := w2) rfl (rw2.mono hH3) (.inr (.inl rfl))) (PE.name (v := w3) rfl rw3 (.inl rfl)) ?_ (by omega)⟩
        show ch[j]? = some (ch.getD j .none)
        rw [List.getD_eq_getElem?_getD, List.getElem?_eq_getElem hjl]; rfl
end
end Mine
namespace Mine

/-! texts in order -/
def leS (a b : Str) : Prop := a.cps.toList ≤ b.cps.toList
theorem leS_iff {a b : Str} : PySem.Spec.ltCps b.cps.toList a.cps.toList = false ↔ leS a b := by
  rw [ltCps_eq, decide_eq_false_iff_not]; exact Iff.rfl
theorem leS_total (a b : Str) : leS a b ∨ leS b a := List.le_total _ _
theorem leS_trans {a b c : Str} (h : leS a b) (h' : leS b c) : leS a c := List.le_trans h h'
theorem leS_antisymm {a b : Str} (h : leS a b) (h' : leS b a) : a = b := by
  have : a.cps.toList = b.cps.toList := List.le_antisymm h h'
  cases a; cases b
  simp only [Str.mk.injEq]
  exact Array.toList_inj.mp this
def insS (x : Str) : List Str → List Str
  | [] => [x]
  | y :: r => if PySem.Spec.ltCps y.cps.toList x.cps.toList then y :: insS x r else x :: y :: r
def srt : List Str → List Str
  | [] => []
  | x :: r => insS x (srt r)
theorem insS_perm (x : Str) : ∀ l : List Str, (insS x l).Perm (x :: l)
  | [] => .refl _
  | y :: r => by
    unfold insS
    split
    · exact ((insS_perm x r).cons y).trans (.swap ..)
    · exact .refl _
theorem srt_perm : ∀ l : List Str, (srt l).Perm l
  | [] => .refl _
  | x :: r => (insS_perm x (srt r)).trans ((srt_perm r).cons x)
theorem insS_sorted (x : Str) : ∀ l : List Str, l.Pairwise leS → (insS x l).Pairwise leS
  | [], _ => by simp [insS]
  | y :: r, h => by
    obtain ⟨h1, h2⟩ := List.pairwise_cons.mp h
    unfold insS
    split
    · rename_i hlt
      have hyx : leS y x := by
        rcases leS_total y x with q | q
        · exact q
        · rw [← leS_iff, hlt] at q; cases q
      refine List.pairwise_cons.mpr ⟨fun z hz => ?_, insS_sorted x r h2⟩
      rcases List.mem_cons.mp ((insS_perm x r).mem_iff.mp hz) with rfl | hz
      · exact hyx
      · exact h1 z hz
    · rename_i hlt
      have hxy : leS x y := leS_iff.mp (by simpa using hlt)
      refine List.pairwise_cons.mpr ⟨fun z hz => ?_, h⟩
      rcases List.mem_cons.mp hz with rfl | hz
      · exact hxy
      · exact leS_trans hxy (h1 z hz)
theorem srt_sorted : ∀ l : List Str, (srt l).Pairwise leS
  | [] => .nil
  | x :: r => insS_sorted x _ (srt_sorted r)
theorem rising_pairwise : ∀ (p : Str) (l : List Str), risingS p l = true → (p :: l).Pairwise leS
  | p, [], _ => by simp
  | p, x :: r, h => by
    have h' : (!PySem.Spec.ltCps x.cps.toList p.cps.toList && risingS x r) = true := h
    rw [Bool.and_eq_true, Bool.not_eq_true'] at h'
    have ih := rising_pairwise x r h'.2
    have hpx : leS p x := leS_iff.mp h'.1
    refine List.pairwise_cons.mpr ⟨fun z hz => ?_, ih⟩
    rcases List.mem_cons.mp hz with rfl | hz
    · exact hpx
    · exact leS_trans hpx ((List.pairwise_cons.mp ih).1 z hz)
theorem sorted_pairwise : ∀ l : List Str, sortedS l = true → l.Pairwise leS
  | [], _ => .nil
  | x :: r, h => rising_pairwise x r h
theorem sorted_unique {l ss : List Str} (hp : l.Perm ss) (hs : sortedS l = true) : l = srt ss :=
  List.Perm.eq_of_pairwise (fun _ _ _ _ => leS_antisymm) (sorted_pairwise l hs) (srt_sorted ss) (hp.trans (srt_perm ss).symm)

/-! the form of a tree, and how many of its orders change nothing -/
mutual
def form : D → Str
  | .list l => (Str.ofString "(" ++ Str.join Str.empty (srt (forms l))) ++ Str.ofString ")"
  | .int i => toString i
  | _ => Str.empty
def forms : List D → List Str
  | [] => []
  | t :: r => form t :: forms r
end
theorem forms_map : ∀ l : List D, forms l = l.map form
  | [] => rfl
  | t :: r => by rw [forms, forms_map r]; rfl
theorem forms_len (l : List D) : (forms l).length = l.length := by rw [forms_map, List.length_map]
mutual
theorem form_le : ∀ t : D, (form t).length ≤ t.sz
  | .int i => Nat.le_refl _
  | .list l => by
    have h := StrLaws.join_length_le Str.empty (srt (forms l))
    have h' := forms_le l
    have e1 : (Str.ofString "(").length = 1 := by decide
    have e2 : (Str.empty).length = 0 := by decide
    have e3 : (Str.ofString ")").length = 1 := by decide
    have hp := ((srt_perm (forms l)).map (·.length)).sum_nat
    rw [form, D.sz, Str.length_append, Str.length_append, e1, e3]
    rw [e2] at h
    omega
  | .none => Nat.le_refl _
  | .bool _ => Nat.le_refl _
  | .str _ => Nat.le_refl _
  | .tup _ => Nat.le_refl _
  | .raw _ => Nat.le_refl _
theorem forms_le : ∀ l : List D, ((forms l).map (·.length)).sum ≤ szs l
  | [] => Nat.le_refl _
  | t :: r => by
    have h1 := form_le t
    have h2 := forms_le r
    rw [forms, szs]
    simp only [List.map_cons, List.sum_cons]
    omega
end
theorem form_joinOk {l : List D} (h : szs l ≤ 1000000) : JoinOk Str.empty (srt (forms l)) = true := by
  have h' := forms_le l
  have hp := ((srt_perm (forms l)).map (·.length)).sum_nat
  have e2 : (Str.empty).length = 0 := by decide
  unfold JoinOk
  rw [StrLaws.joinTotal, e2]
  have : PySem.Builtin.Str.tooLong (((srt (forms l)).map (·.length)).sum + (srt (forms l)).length * 0) = false := by
    unfold PySem.Builtin.Str.tooLong sizeLine
    exact decide_eq_false (by have e : (2 : Nat) ^ 24 = 16777216 := by decide
                              omega)
  rw [this]; rfl

def prodTo (ss : List Nat) (fs : List Str) : Nat → Nat
  | 0 => 1
  | k + 1 => prodTo ss fs k * ss.getD k 1 * (fs.take (k + 1)).countP (· == fs.getD k Str.empty)
mutual
def stl : D → Nat
  | .list l => prodTo (stls l) (forms l) l.length
  | _ => 1
def stls : List D → List Nat
  | [] => []
  | t :: r => stl t :: stls r
end
theorem stls_map : ∀ l : List D, stls l = l.map stl
  | [] => rfl
  | t :: r => by rw [stls, stls_map r]; rfl

section
variable {c : Cfg} {n : Nat} {env : Env} {ρ : Str → Option Value} {H : View} {d : D}

theorem strs_rel {H : View} : ∀ {vs : List Value} {ss : List Str}, StrsAre vs ss → RelL H vs (ss.map D.str)
  | _, _, .nil => .nil
  | _, _, .cons x t h => .cons (.str x t) (strs_rel h)
theorem sorted_step {h : Heap} (I : Inv c H h) (vs : List Value) (out : Array Value) : ∃ e, HStep c H h (H.add (h.objs.size + 1) (lstO out e)) (sortedAll h vs out) := by
  obtain ⟨e, he⟩ := sortedAll_at h vs out
  exact ⟨e, HStep.add I (fun b o q => sortedAll_old q) (Heap.get?_none_of_le (Nat.le_succ _)) he⟩
theorem Fun.sortedS {ss : List Str} (h64 : ss.length < 64) : Fun c n (.builtin "sorted") H [.list (ss.map D.str)] (.list ((srt ss).map D.str)) := ⟨fun A ok s H₁ vs k I R Q E q => by
  cases R with
  | cons r t =>
    cases t
    cases r with
    | @list ad ws m _ ha hr =>
      have hl : s.heap.IsList ad ws.toList.toArray := ⟨_, I.le _ _ ha, rfl, m, by rw [Array.toArray_toList]⟩
      have hS := strsAre_of hr
      have hlen : ws.toList.length < 64 := by have := hr.length; rw [List.length_map] at this; omega
      refine sorted_strs hl hS hlen fun out ss' a1 a2 a3 => ?_
      have e := sorted_unique a2 a3
      subst e
      obtain ⟨e, S⟩ := sorted_step I ws.toList out
      exact q _ _ _ _ S (.list View.add_self ((strs_rel a1)))⟩
theorem all_eq_of_perm {ns ns' : List Int} {a : Int} (h : ∀ x ∈ ns, x = a) (hp : ns'.Perm ns) : ns' = ns := by
  have h1 := List.eq_replicate_of_mem h
  have h2 := List.eq_replicate_of_mem (l := ns') (a := a) fun x hx => h x (hp.mem_iff.mp hx)
  rw [h1, h2, hp.length_eq]
theorem intsRel {H : View} : ∀ {vs : List Value} {ns : List Int}, IntsAre vs ns → RelL H vs (ns.map D.int)
  | _, _, .nil => .nil
  | _, _, .cons n t h => .cons (.int n t) (intsRel h)
theorem Fun.sortedSame {ns : List Int} {a : Int} (h : ∀ x ∈ ns, x = a) (h64 : ns.length < 64) : Fun c n (.builtin "sorted") H [.list (ns.map D.int)] (.list (ns.map D.int)) := ⟨fun A ok s H₁ vs k I R Q E q => by
  cases R with
  | cons r t =>
    cases t
    cases r with
    | @list ad ws m _ ha hr =>
      have hl : s.heap.IsList ad ws.toList.toArray := ⟨_, I.le _ _ ha, rfl, m, by rw [Array.toArray_toList]⟩
      have hI := allInts_of hr
      have hlen : ws.toList.length < 64 := by have := hr.length; rw [List.length_map] at this; omega
      refine sorted_ints hl hI hlen fun out ns' a1 a2 a3 => ?_
      have e := all_eq_of_perm h a2
      subst e
      obtain ⟨e, S⟩ := sorted_step I ws.toList out
      exact q _ _ _ _ S (.list View.add_self (intsRel a1))⟩

theorem MethR.count {l : List D} : MethR c "count" (.list l) "list.count" := ⟨fun A ok s H₁ v pl I R Q E q => by
  cases R with
  | @list ad ws m _ ha hr =>
    exact getMethod_list_of PySem.F.slot_list_count PySem.F.type_list_count ⟨_, I.le _ _ ha, rfl, m, rfl⟩ ⟨_, I.le _ _ ha, rfl⟩ (q s.toks)⟩
theorem countP_strs {x : Str} : ∀ {vs : List Value} {ss : List Str}, StrsAre vs ss → vs.countP (fun v => match v with | .str y _ => y == x | _ => false) = ss.countP (· == x)
  | _, _, .nil => rfl
  | _, _, .cons y t h => by
    rw [List.countP_cons, List.countP_cons, countP_strs h]
theorem Fun.countS {ss : List Str} {x : Str} : Fun c n (.builtin "list.count") H [.list (ss.map D.str), .str x] (.int ((ss.countP (· == x) : Nat) : Int)) := ⟨fun A ok s H₁ vs k I R Q E q => by
  cases R with
  | cons r1 t => cases t with
    | cons r2 t' =>
      cases t'
      cases r2 with
      | str _ tk =>
        cases r1 with
        | @list ad ws m _ ha hr =>
          have hg := I.le _ _ ha
          have hS := strsAre_of hr
          refine call_meets PySem.F.slot_list_count ⟨_, hg, rfl⟩ PySem.F.entry_list_count (PySem.F.args_list_count_2 _ _) (PySem.SeqAt.list_countAt ad ws m none #[] (.str x tk) (fun v => match v with | .str y _ => y == x | _ => false)) ⟨hg, fun y hy => ?_, ?_⟩
          · obtain ⟨z, t, rfl⟩ := hS.all y (Array.mem_toList_iff.mpr hy)
            exact PySem.SeqAt.EqAt.str_str z t x tk
          · rw [countP_strs hS]
            exact q _ H₁ s.heap _ (.refl I) (.int _ _)⟩
end
end Mine
namespace Mine

theorem mul_ok {a b : Int} (h0 : 0 ≤ a) (h : a < 2 ^ 40) : IntMulOk a b := .of_left (by
  unfold Builtin.Int.intBits
  split
  · exact Nat.zero_le _
  · have h1 : a.natAbs < 2 ^ 40 := by omega
    have h2 : a.natAbs.log2 < 40 := by
      by_cases hz : a.natAbs = 0
      · rw [hz]; decide
      · exact (Nat.log2_lt hz).mpr h1
    show a.natAbs.log2 + 1 ≤ 64
    omega)
theorem prod_le {ss : List Nat} {fs : List Str} (hs : ∀ x ∈ ss, x ≤ 100) (hf : fs.length ≤ 3) : ∀ k, prodTo ss fs k ≤ 300 ^ k
  | 0 => Nat.le_refl _
  | k + 1 => by
    have ih := prod_le hs hf k
    have h1 : ss.getD k 1 ≤ 100 := by
      rw [List.getD_eq_getElem?_getD]
      cases e : ss[k]? with
      | none => decide
      | some x => exact hs x (List.mem_of_getElem? e)
    have h2 : (fs.take (k + 1)).countP (· == fs.getD k Str.empty) ≤ 3 := by
      have := List.countP_le_length (p := (· == fs.getD k Str.empty)) (l := fs.take (k + 1))
      rw [List.length_take] at this
      omega
    have h3 := Nat.mul_le_mul (Nat.mul_le_mul ih h1) h2
    rw [prodTo, Nat.pow_succ]
    rw [Nat.mul_assoc (300 ^ k)] at h3
    exact h3

section
variable {c : Cfg}
theorem law_form_leaf (hK : c.K = Mine.hd.heap_39 c.w.params) {n : Nat} {H : View} {i : Int} (hi : i.natAbs.log2 < 1920) : Fun c (n + 1) (.ref 769) H [.int i] (.str (form (.int i))) := by
  refine' Fun.enter (ps := [Str.ofString "tree"]) ?ho ?hcd ?hbind ?hloc ?hcell ?h ?h1 ?h2 ?h3
  case ho => rw [hK]; k_is
  case hcd => rw [hK]; k_is
  case h1 => rfl
  case h2 => rfl
  case h3 => rfl
  case hcell => decide
  case hloc => decide
  case hbind => intro vs hl; obtain ⟨v, rfl⟩ := one_of hl rfl; rfl
  case h =>
    intro vs H₁ L k R
    obtain ⟨v, rfl⟩ := one_of R.length rfl
    have r := R.one
    refine SR.ifRet (b := !false) (PT.not (PT.bool (PE.call rfl (globB (by rw [hK]; k_is) (by decide +kernel)) (.builtin _) (PEs.two (PE.name (v := v) rfl r (.inl rfl)) (PE.glob (globB (v := .type "list") (by rw [hK]; k_is) (by decide +kernel)) rfl)) (Fun.intNot fun q => IsiPair.int_list q)))) (fun _ => ?_) (fun h => by cases h)
    exact SR.ret (PE.call rfl (globB (v := .type "str") (by rw [hK]; k_is) (by decide +kernel)) (.type _) (PEs.one (PE.name (v := v) rfl r (.inl rfl))) (Fun.strInt hi))

theorem law_form_node (hK : c.K = Mine.hd.heap_39 c.w.params) {n : Nat} {H : View} {l : List D} (hlen : l.length ≤ 3) (hsz : szs l ≤ 1000000) (ih : ∀ t ∈ l, ∀ H', VLe H H' → Fun c n (.ref 769) H' [t] (.str (form t))) :
    Fun c (n + 1) (.ref 769) H [.list l] (.str (form (.list l))) := by
  refine' Fun.enter (ps := [Str.ofString "tree"]) ?ho ?hcd ?hbind ?hloc ?hcell ?h ?h1 ?h2 ?h3
  case ho => rw [hK]; k_is
  case hcd => rw [hK]; k_is
  case h1 => rfl
  case h2 => rfl
  case h3 => rfl
  case hcell => decide
  case hloc => decide
  case hbind => intro vs hl; obtain ⟨v, rfl⟩ := one_of hl rfl; rfl
  case h =>
    intro vs H₁ L k R
    obtain ⟨v, rfl⟩ := one_of R.length rfl
    have r := R.one
    have hLine : sizeLine = 16777216 := by decide
    refine SR.ifRet (b := !true) (PT.not (PT.bool (PE.call rfl (globB (by rw [hK]; k_is) (by decide +kernel)) (.builtin _) (PEs.two (PE.name (v := v) rfl r (.inl rfl)) (PE.glob (globB (v := .type "list") (by rw [hK]; k_is) (by decide +kernel)) rfl)) Fun.isList))) (fun h => by cases h) (fun _ => ?_)
    rw [form]
    have hj : (Str.join Str.empty (srt (forms l))).length ≤ 1000000 := by
      have h := form_le (.list l)
      rw [form, D.sz, Str.length_append, Str.length_append] at h
      have e1 : (Str.ofString "(").length = 1 := by decide
      have e3 : (Str.ofString ")").length = 1 := by decide
      omega
    have l1 : (Str.ofString "(").length = 1 := by decide
    have l2 : (Str.ofString ")").length = 1 := by decide
    refine SR.ret (PE.bin (PE.bin PE.constStr (PE.meth (d₀ := .str Str.empty) (ds := [.list ((srt (forms l)).map D.str)]) PE.constStr MethR.join (PEs.one (PE.call rfl (globB (v := .builtin "sorted") (by rw [hK]; k_is) (by decide +kernel)) (.builtin _) (PEs.one ?_) (Fun.sortedS (by rw [forms_len]; omega)))) (Fun.join (form_joinOk hsz)) (.mk (fun _ _ => rfl) (fun _ => rfl) (by decide) (by decide))) (BinR.addStr (by omega))) PE.constStr (BinR.addStr (by rw [Str.length_append]; omega)))
    have e : (forms l).map D.str = l.map fun t => D.str (form t) := by rw [forms_map, List.map_map]; rfl
    rw [e]
    refine PE.listCompAll (by decide) (by decide) rfl (by decide) rfl (IT.list (PE.name (v := v) rfl r (.inl rfl))) (by omega) ?_
    intro C d u H' hd hH ru
    exact PE.call rfl (.inl (by rw [hK]; k_is)) (.fn (by rw [hK]; k_is)) (PEs.one (PE.name (v := u) rfl ru (.inl rfl))) (ih d hd H' (k.trans hH))

theorem law_still_leaf (hK : c.K = Mine.hd.heap_39 c.w.params) {n : Nat} {H : View} {i : Int} : Fun c (n + 1) (.ref 774) H [.int i] (.int ((stl (.int i) : Nat) : Int)) := by
  refine' Fun.enter (ps := [Str.ofString "tree"]) ?ho ?hcd ?hbind ?hloc ?hcell ?h ?h1 ?h2 ?h3
  case ho => rw [hK]; k_is
  case hcd => rw [hK]; k_is
  case h1 => rfl
  case h2 => rfl
  case h3 => rfl
  case hcell => decide
  case hloc => decide
  case hbind => intro vs hl; obtain ⟨v, rfl⟩ := one_of hl rfl; rfl
  case h =>
    intro vs H₁ L k R
    obtain ⟨v, rfl⟩ := one_of R.length rfl
    have r := R.one
    refine SR.ifRet (b := !false) (PT.not (PT.bool (PE.call rfl (globB (by rw [hK]; k_is) (by decide +kernel)) (.builtin _) (PEs.two (PE.name (v := v) rfl r (.inl rfl)) (PE.glob (globB (v := .type "list") (by rw [hK]; k_is) (by decide +kernel)) rfl)) (Fun.intNot fun q => IsiPair.int_list q)))) (fun _ => ?_) (fun h => by cases h)
    exact SR.ret PE.constInt

theorem law_still_node (hK : c.K = Mine.hd.heap_39 c.w.params) {n : Nat} {H : View} {l : List D} (hlen : l.length ≤ 3) (hst : ∀ t ∈ l, stl t ≤ 100) (ihf : ∀ t ∈ l, ∀ H', VLe H H' → Fun c n (.ref 769) H' [t] (.str (form t)))
    (ih : ∀ t ∈ l, ∀ H', VLe H H' → Fun c n (.ref 774) H' [t] (.int ((stl t : Nat) : Int))) : Fun c (n + 1) (.ref 774) H [.list l] (.int ((stl (.list l) : Nat) : Int)) := by
  refine' Fun.enter (ps := [Str.ofString "tree"]) ?ho ?hcd ?hbind ?hloc ?hcell ?h ?h1 ?h2 ?h3
  case ho => rw [hK]; k_is
  case hcd => rw [hK]; k_is
  case h1 => rfl
  case h2 => rfl
  case h3 => rfl
  case hcell => decide
  case hloc => decide
  case hbind => intro vs hl; obtain ⟨v, rfl⟩ := one_of hl rfl; rfl
  case h =>
    intro vs H₁ L k R
    obtain ⟨v, rfl⟩ := one_of R.length rfl
    have r := R.one
    have hLine : sizeLine = 16777216 := by decide
    have hfl := forms_len l
    refine SR.ifRet (b := !true) (PT.not (PT.bool (PE.call rfl (globB (by rw [hK]; k_is) (by decide +kernel)) (.builtin _) (PEs.two (PE.name (v := v) rfl r (.inl rfl)) (PE.glob (globB (v := .type "list") (by rw [hK]; k_is) (by decide +kernel)) rfl)) Fun.isList))) (fun h => by cases h) (fun _ => ?_)
    have e : (forms l).map D.str = l.map fun t => D.str (form t) := by rw [forms_map, List.map_map]; rfl
    refine SR.unpack2s (d1 := .int 1) (d2 := .list ((forms l).map D.str)) apart0 (.inl rfl) (.inl rfl) (PE.tupD (PEs.two PE.constInt ?_) (by show 2 ≤ sizeLine; decide)) ?_
    · rw [e]
      refine PE.listCompAll (by decide) (by decide) rfl (by decide) rfl (IT.list (PE.name (v := v) rfl r (.inl rfl))) (by omega) ?_
      intro C d u H' hd hH ru
      exact PE.call rfl (.inl (by rw [hK]; k_is)) (.fn (by rw [hK]; k_is)) (PEs.one (PE.name (v := u) rfl ru (.inl rfl))) (ihf d hd H' (k.trans hH))
    intro v1 v2 H₂ k₂ r1 r2
    refine SR.forAcc (x := Str.ofString "k") (y := Str.ofString "many") (ds := (List.range l.length).map nD) (acc := fun i => .int ((prodTo (stls l) (forms l) i : Nat) : Int)) apart0 (.inl rfl) (by decide) rfl
      (IT.range rfl (globB (by rw [hK]; k_is) (by decide +kernel)) (PE.call rfl (globB (by rw [hK]; k_is) (by decide +kernel)) (.builtin _) (PEs.one (PE.name (v := v) rfl (r.mono k₂) (.inl rfl))) (Fun.len (by omega))) (by omega)) rfl r1 ?_ ?_
    · intro i d w u H' hd hH rw' ru
      have hi : i < l.length ∧ d = nD i := by
        rw [List.getElem?_map] at hd
        by_cases hl : i < l.length
        · rw [List.getElem?_eq_getElem (by simpa using hl)] at hd
          simp at hd
          exact ⟨hl, hd.symm⟩
        · rw [List.getElem?_eq_none (by simpa using hl)] at hd
          cases hd
      obtain ⟨hil, rfl⟩ := hi
      have ht : l[i]? = some l[i] := List.getElem?_eq_getElem hil
      have hf : (forms l).getD i Str.empty = form l[i] := by
        rw [List.getD_eq_getElem?_getD, forms_map, List.getElem?_map, ht]; rfl
      have hs : (stls l).getD i 1 = stl l[i] := by
        rw [List.getD_eq_getElem?_getD, stls_map, List.getElem?_map, ht]; rfl
      have hb := prod_le (ss := stls l) (fs := forms l) (fun x hx => by
        rw [stls_map] at hx
        obtain ⟨t, h1, rfl⟩ := List.mem_map.mp hx
        exact hst t h1) (by omega) i
      have hb3 : 300 ^ i ≤ 300 ^ 3 := Nat.pow_le_pow_right (by decide) (by omega)
      have e3 : 300 ^ 3 = 27000000 := by decide
      have hsi := hst _ (List.getElem_mem hil)
      have hm := Nat.mul_le_mul (Nat.le_trans hb hb3) hsi
      have ep : ((prodTo (stls l) (forms l) (i + 1) : Nat) : Int) = ((prodTo (stls l) (forms l) i : Nat) : Int) * ((stl l[i] : Nat) : Int) * ((((forms l).take (i + 1)).countP (· == form l[i]) : Nat) : Int) := by
        rw [prodTo, hf, hs]; push_cast; rfl
      rw [ep]
      have rt : Rel H' v (.list l) := (r.mono k₂).mono hH
      refine ST.set apart0 (.inl rfl) (PE.bin (PE.bin (PE.name (v := u) rfl ru (.inl rfl)) (PE.call rfl (.inl (by rw [hK]; k_is)) (.fn (by rw [hK]; k_is)) (PEs.one (PE.idx (i := i) (d := l[i]) (PE.name (v := v) rfl rt (.inl rfl)) (PE.name (v := w) rfl rw' (.inl rfl)) ht (by omega))) (ih _ (List.getElem_mem hil) H' (k.trans (k₂.trans hH)))) (BinR.mulI (mul_ok (by omega) (by omega))))
        (PE.meth (d₀ := .list (((forms l).take (i + 1)).map D.str)) (ds := [.str (form l[i])]) ?_ MethR.count (PEs.one (PE.idx (i := i) (PE.name (v := v2) rfl (r2.mono hH) (.inl rfl)) (PE.name (v := w) rfl rw' (.inl rfl)) ?_ (by omega))) Fun.countS (.mk (fun _ _ => rfl) (fun _ => rfl) (by decide) (by decide))) (BinR.mulI (mul_ok ?_ ?_)))
      · rw [List.map_take]
        exact PE.sliceTo (PE.name (v := v2) rfl (r2.mono hH) (.inl rfl)) (PE.bin (b := .int 1) (PE.name (v := w) rfl rw' (.inl rfl)) PE.constInt BinR.addI) (by rw [List.length_map]; omega)
      · rw [forms_map, List.map_map, List.getElem?_map, ht]; rfl
      · exact Int.mul_nonneg (Int.natCast_nonneg _) (Int.natCast_nonneg _)
      · have : ((prodTo (stls l) (forms l) i : Nat) : Int) * ((stl l[i] : Nat) : Int) = ((prodTo (stls l) (forms l) i * stl l[i] : Nat) : Int) := by push_cast; rfl
        rw [this]
        have : (2 : Int) ^ 40 = ((2 ^ 40 : Nat) : Int) := by decide
        omega
    · intro u H' hH ru
      have hn : ((List.range l.length).map nD).length = l.length := by simp
      rw [hn] at ru
      exact SR.ret (PE.name (v := u) rfl ru (.inl rfl))
end
end Mine
namespace Mine

/-! groups of orders by their text -/
abbrev Grp := List (Str × List D)
def vAt (gs : Grp) (k : Str) : Option (List D) := (gs.find? fun g => g.1 = k).map (·.2)
def put (gs : Grp) (k : Str) (d : D) : Grp := if gs.any (fun g => g.1 = k) then gs.map (fun g => if g.1 = k then (g.1, (vAt gs k).getD [] ++ [d]) else g) else gs ++ [(k, [d])]

inductive KV (H : View) : List (Str × Value) → Grp → Prop
  | nil : KV H [] []
  | cons {k : Str} {v : Value} {ds : List D} {kvs : List (Str × Value)} {gs : Grp} : Rel H v (.list ds) → KV H kvs gs → KV H ((k, v) :: kvs) ((k, ds) :: gs)
section
variable {H H' : View} {kvs : List (Str × Value)} {gs : Grp}
theorem KV.mono (k : VLe H H') (h : KV H kvs gs) : KV H' kvs gs := by
  induction h with
  | nil => exact .nil
  | cons r _ ih => exact .cons (r.mono k) ih
theorem KV.keys (h : KV H kvs gs) : kvs.map (·.1) = gs.map (·.1) := by
  induction h with
  | nil => rfl
  | cons _ _ ih => simp [ih]
theorem KV.length (h : KV H kvs gs) : kvs.length = gs.length := by
  have := congrArg List.length h.keys
  simpa using this
theorem KV.get (h : KV H kvs gs) : ∀ {i : Nat} {k : Str} {v : Value}, kvs[i]? = some (k, v) → ∃ ds, gs[i]? = some (k, ds) ∧ Rel H v (.list ds) := by
  induction h with
  | nil => intro i k v e; simp at e
  | cons r _ ih =>
    intro i k v e
    cases i with
    | zero => simp at e; obtain ⟨rfl, rfl⟩ := e; exact ⟨_, rfl, r⟩
    | succ i => simp at e; obtain ⟨ds, h1, h2⟩ := ih e; exact ⟨ds, by simpa using h1, h2⟩
theorem KV.any (h : KV H kvs gs) (k : Str) : kvs.any (fun kv => kv.1 = k) = gs.any (fun g => g.1 = k) := by
  induction h with
  | nil => rfl
  | cons _ _ ih => simp [ih]
theorem KV.value (h : KV H kvs gs) (k : Str) {u : Value} (hu : Rel H u (.list [])) : Rel H ((valueAt kvs k).getD u) (.list ((vAt gs k).getD [])) := by
  induction h with
  | nil => exact hu
  | @cons k' v ds kvs gs r t ih =>
    unfold valueAt vAt at ih ⊢
    by_cases hk : k' = k
    · subst hk; simpa using r
    · simpa [hk] using ih
theorem KV.mapped (h : KV H kvs gs) (k : Str) {v : Value} {ds : List D} (hv : Rel H v (.list ds)) : KV H (kvs.map fun kv => if kv.1 = k then (kv.1, v) else kv) (gs.map fun g => if g.1 = k then (g.1, ds) else g) := by
  induction h with
  | nil => exact .nil
  | @cons k' u es kvs gs r t ih =>
    rw [List.map_cons, List.map_cons]
    by_cases hk : k' = k
    · rw [if_pos hk, if_pos hk]; exact .cons hv ih
    · rw [if_neg hk, if_neg hk]; exact .cons r ih
theorem KV.snoc (h : KV H kvs gs) {k : Str} {v : Value} {ds : List D} (hv : Rel H v (.list ds)) : KV H (kvs ++ [(k, v)]) (gs ++ [(k, ds)]) := by
  induction h with
  | nil => exact .cons hv .nil
  | cons r _ ih => exact .cons r ih
theorem vAt_none {gs : Grp} {k : Str} (h : gs.any (fun g => g.1 = k) = false) : vAt gs k = none := by
  unfold vAt
  rw [List.find?_eq_none.mpr]
  · rfl
  · intro g hg
    rw [List.any_eq_false] at h
    exact h g hg
theorem KV.stored (h : KV H kvs gs) (k : Str) {v : Value} {d : D} (hv : Rel H v (.list ((vAt gs k).getD [] ++ [d]))) : KV H (PySem.stored kvs k v) (put gs k d) := by
  unfold PySem.stored put
  rw [h.any]
  cases e : gs.any fun g => g.1 = k with
  | true => rw [if_pos rfl, if_pos rfl]; exact h.mapped k hv
  | false =>
    rw [if_neg (by decide), if_neg (by decide)]
    rw [vAt_none e] at hv
    exact h.snoc hv
end

section
variable {c : Cfg} {n : Nat} {env : Env} {ex : List Addr} {ρ : Str → Option Value} {H H₀ : View} {h₀ : Heap} {d : D}

/-- x1, x2 = ([], {}) : two things of one's own -/
theorem Fs.mkTwo {A : Around} {s : Shared} {E : Value → Shared → Prop} {Q : Flow → Shared → Prop} {x1 x2 : Str} {p1 p2 tp lp dp vp pos : Pos} {tk tk2 : Nat} {rest : List Stmt} (σ : Fs c env H₀ h₀ ρ H s.heap) (ok : Ok A n) (ap : CellsApart env) (h1 : Storable env x1) (h2 : Storable env x2)
    (q : ∀ a1 a2 h' tk', Fm c env [a2, a1] H₀ h₀ (upd (upd ρ x2 (.ref a2)) x1 (.ref a1)) H h' → s.heap.get? a1 = none → s.heap.get? a2 = none → a1 ≠ a2 → (1 < s.heap.objs.size → (a2 == sysModules) = false) → h'.get? a1 = some (lstO #[] 0) → h'.DictOf (strKind c.prog c.w) a2 [] →
      wpAny (model c.prog c.w) A (execs rest env) Q E { s with heap := h', toks := tk' })
    (hs : swapsWithSole [.Tuple [.Name x1 p1, .Name x2 p2] tk tp] (.Tuple [.List [] lp, .Dict [] [] dp] tk2 vp) pos.line env = pure false := by rfl)
    (hw : swappedStores [.Tuple [.Name x1 p1, .Name x2 p2] tk tp] (.Tuple [.List [] lp, .Dict [] [] dp] tk2 vp) env = pure (some [x1, x2]) := by rfl) :
    wpAny (model c.prog c.w) A (execs (.Assign [.Tuple [.Name x1 p1, .Name x2 p2] tk tp] (.Tuple [.List [] lp, .Dict [] [] dp] tk2 vp) pos :: rest) env) Q E s := by
  refine wpAny_execs_cons (PyProof.Rows.Assign_Tuple_swapped (wpAny_Tuple (wpAny_items_cons (wpAny_List (wpAny_items_nil ⟨Nat.zero_le _, ?_⟩)) rfl)) hs hw)
  refine wpAny_items_cons (wpAny_Dict_empty (wpAny_items_nil ⟨by show 2 ≤ sizeLine; decide, ?_⟩)) rfl
  dsimp only
  -- the heap with both, and the tuple
  have n1 := fresh_none s.heap
  have g1 : (s.heap.push { cls := .type "list", data := .seq ([] : List Value).toArray }).get? s.heap.objs.size = some (lstO #[] 0) := Heap.get?_push_size _ rfl
  have k1 : ∀ b o, s.heap.get? b = some o → (s.heap.push { cls := .type "list", data := .seq ([] : List Value).toArray }).get? b = some o := fun b o e => Heap.get?_push_of_some _ e
  have z1 : (s.heap.push { cls := .type "list", data := .seq ([] : List Value).toArray }).objs.size = s.heap.objs.size + 1 := Heap.size_push ..
  generalize s.heap.push { cls := .type "list", data := .seq ([] : List Value).toArray } = hA at *
  have n2 := fresh_none hA
  have g2 : hA.push { cls := .type "dict", data := .dict #[] } |>.DictOf (strKind c.prog c.w) hA.objs.size [] := Heap.DictOf.new hA
  have k2 : ∀ b o, hA.get? b = some o → (hA.push { cls := .type "dict", data := .dict #[] }).get? b = some o := fun b o e => Heap.get?_push_of_some _ e
  have z2 : (hA.push { cls := .type "dict", data := .dict #[] }).objs.size = hA.objs.size + 1 := Heap.size_push ..
  have g2' : (hA.push { cls := .type "dict", data := .dict #[] }).get? hA.objs.size = some { cls := .type "dict", data := .dict #[] } := Heap.get?_push_size _ rfl
  generalize hA.push { cls := .type "dict", data := .dict #[] } = hB at *
  have τ1 := σ.toFm.own (o := lstO #[] 0) n1 k1 g1
  have τ2 := τ1.own (o := { cls := .type "dict", data := .dict #[] }) n2 k2 g2'
  have n0 : s.heap.get? hA.objs.size = none := Heap.get?_none_of_le (by rw [z1]; exact Nat.le_succ _)
  have hne : s.heap.objs.size ≠ hA.objs.size := by rw [z1]; exact (Nat.succ_ne_self _).symm
  refine PyProof.Rows.unpackItems_tuple (s := { s with heap := hB.push { cls := .type "tuple", data := .seq #[Value.ref s.heap.objs.size, Value.ref hA.objs.size] }, toks := s.toks }) ok.hh (items := #[Value.ref s.heap.objs.size, Value.ref hA.objs.size]) ⟨_, Heap.get?_push_size _ rfl, rfl, 0, rfl⟩ fun h₃ hx₃ => ?_
  have k3 : ∀ b o, hB.get? b = some o → h₃.get? b = some o := fun b o e => by
    have e' := Heap.get?_push_of_some { cls := .type "tuple", data := .seq #[Value.ref s.heap.objs.size, Value.ref hA.objs.size] } e
    exact hx₃ b o (fun q' => by rw [q', fresh_none] at e'; cases e') e'
  have S₃ : HStep c H hB H h₃ := .grow τ2.base.inv k3
  have τ3 := τ2.step S₃
  refine stores_run ap [(x2, .ref hA.objs.size), (x1, .ref s.heap.objs.size)] ρ h₃ { s with heap := h₃, toks := s.toks } _ τ3.self rfl ?_ fun h₄ t₄ σ₄ => ?_
  · intro x hx
    simp at hx
    rcases hx with rfl | rfl
    · exact h2
    · exact h1
  · have τ4 := τ3.byFs σ₄
    have kk := τ3.keepEx σ₄
    refine q s.heap.objs.size hA.objs.size h₄ t₄ τ4 n1 n0 hne (fun hb => beq_false_of_ne (by rw [z1]; intro hz; have hz' : s.heap.objs.size + 1 = 1 := hz; omega)) (kk _ (by simp) _ (k3 _ _ (k2 _ _ g1))) ?_
    exact Heap.DictOf.at g2 fun o e => kk _ (by simp) o (k3 _ _ e)

/-- x.append(e) upon a list of one's own -/
theorem Fm.app {A : Around} {s : Shared} {E : Value → Shared → Prop} {Q : Flow → Shared → Prop} {e : Expr} {x : Str} {p1 p2 p3 p4 : Pos} {rest : List Stmt} {a : Addr} {vs : Array Value} {m : Nat} (σ : Fm c env ex H₀ h₀ ρ H s.heap) (ok : Ok A n) (ha : a ∈ ex) (hx : ρ x = some (.ref a)) (hk : env.kindOf x = some .local)
    (hl : s.heap.get? a = some (lstO vs m)) (hsz : vs.size ≤ sizeLine) (he : PE c n env ρ H e d)
    (q : ∀ v m' H' h' tk', Fm c env ex H₀ h₀ ρ H' h' → VLe H H' → Rel H' v d → h'.get? a = some (lstO (vs.push v) m') → (∀ b ∈ ex, b ≠ a → ∀ o, s.heap.get? b = some o → h'.get? b = some o) → wpAny (model c.prog c.w) A (execs rest env) Q E { s with heap := h', toks := tk' })
    (hm : MethForm (.Name x p1) "append" p2 [e] p3)
    (hs : ∀ env, starEach [e] env = (false, eval e env) :: starEach [] env := by intro _; rfl) (hc : (x == ("__classdict__" : Str)) = false := by decide) (hd : (x == ("__debug__" : Str)) = false := by decide)
    (hi : interactive env = false := by rfl) (hsw : swapsWith (.Call (.Attribute (.Name x p1) "append" p2) [e] [] p3) none p4.line env = pure false := by rfl) :
    wpAny (model c.prog c.w) A (execs (.Expr (.Call (.Attribute (.Name x p1) "append" p2) [e] [] p3) p4 :: rest) env) Q E s := by
  refine wpAny_execs_cons (wpAny_Expr_any ?_ hi hsw)
  obtain ⟨pl, hm⟩ := hm env
  refine MethodCall_ (pl := pl) (wpAny_Name (ldFrm σ.frm hx (.inl hk) hc ?_) hd) hm
  refine getMethod_list_append (o := lstO vs m) hl rfl rfl ?_
  refine callWith_any (.builtin _) (PEs.one he hs) A ok s H (.refl _) σ.base.inv σ.frm _ _ fun us H₂ h₂ t₂ S₂ R₂ => ?_
  cases R₂ with
  | cons R₂ T₂ =>
    cases T₂
    have σ₂ := σ.step S₂
    have hl₂ := σ.keepS S₂ a ha _ hl
    refine wpAny_list_append_plain (items := vs) ⟨m, hl₂⟩ (fun h₄ hl₄ hs₄ => ?_) hsz
    obtain ⟨m', hl₄⟩ := hl₄
    exact q _ m' H₂ h₄ t₂ (σ₂.turn ha hs₄ (by rw [hl₄]; rfl)) S₂.up R₂ hl₄ fun b hb hba o e => (hs₄.2 b hba).trans (σ.keepS S₂ b hb o e)

/-- t[x] = t.get(x, []) + [y] upon a dict of one's own -/
theorem Fm.group {A : Around} {s : Shared} {E : Value → Shared → Prop} {Q : Flow → Shared → Prop} {t x y : Str} {k : Str} {vx vy : Value} {p1 p2 p3 p4 p5 p6 p7 p8 p9 pA pB pC pD : Pos} {rest : List Stmt} {a : Addr} {kvs : List (Str × Value)} {gs : Grp} (σ : Fm c env ex H₀ h₀ ρ H s.heap) (ok : Ok A n) (ha : a ∈ ex)
    (lo : (a == sysModules) = false)
    (hxt : ρ t = some (.ref a)) (hkt : env.kindOf t = some .local) (hxx : ρ x = some vx) (rx : Rel H vx (.str k)) (hkx : env.kindOf x = some .local) (hxy : ρ y = some vy) (ry : Rel H vy d) (hky : env.kindOf y = some .local)
    (hD : s.heap.DictOf (strKind c.prog c.w) a kvs) (hkv : KV H kvs gs) (hsz : kvs.length ≤ 1000) (hsz2 : ((vAt gs k).getD []).length ≤ 1000)
    (q : ∀ kvs' H' h' tk', Fm c env ex H₀ h₀ ρ H' h' → VLe H H' → h'.DictOf (strKind c.prog c.w) a kvs' → KV H' kvs' (put gs k d) → (∀ b ∈ ex, b ≠ a → ∀ o, s.heap.get? b = some o → h'.get? b = some o) → wpAny (model c.prog c.w) A (execs rest env) Q E { s with heap := h', toks := tk' })
    (hm : MethForm (.Name t p1) "get" p2 [.Name x p3, .List [] p4] p5)
    (c1 : (t == ("__classdict__" : Str)) = false := by decide) (c2 : (t == ("__debug__" : Str)) = false := by decide) (c3 : (x == ("__classdict__" : Str)) = false := by decide) (c4 : (x == ("__debug__" : Str)) = false := by decide) (c5 : (y == ("__classdict__" : Str)) = false := by decide) (c6 : (y == ("__debug__" : Str)) = false := by decide)
    (hsw : swapsWith (.BinOp (.Call (.Attribute (.Name t p1) "get" p2) [.Name x p3, .List [] p4] [] p5) .Add (.List [.Name y p6] p7) p8) (some (.Subscript (.Name t p9) (.Name x pA) pB)) pC.line env = pure false := by rfl) :
    wpAny (model c.prog c.w) A (execs (.Assign [.Subscript (.Name t p9) (.Name x pA) pB] (.BinOp (.Call (.Attribute (.Name t p1) "get" p2) [.Name x p3, .List [] p4] [] p5) .Add (.List [.Name y p6] p7) p8) pC :: rest) env) Q E s := by
  have hLine : sizeLine = 16777216 := by decide
  obtain ⟨tkx, rfl⟩ : ∃ t, vx = .str k t := by cases rx with | str _ t => exact ⟨t, rfl⟩
  refine wpAny_execs_cons (wpAny_Assign_Subscript (wpAny_BinOp ?_) hsw)
  obtain ⟨pl, hm⟩ := hm env
  refine MethodCall_ (pl := pl) (wpAny_Name (ldFrm σ.frm hxt (.inl hkt) c1 ?_) c2) hm
  refine getMethod_builtin hD.typeIs PySem.F.plainAttrs_dict PySem.F.slot_dict_get PySem.F.type_dict_get (fun b e => by cases e; exact hD.mapOf.noDict a rfl) ?_
  refine callWith_any (.builtin _) (PEs.two (PE.name (v := .str k tkx) hxx rx (.inl hkx) c3 c4) (PE.listD .nil (Nat.zero_le _))) A ok s H (.refl _) σ.base.inv σ.frm _ _ fun us H₂ h₂ t₂ S₂ R₂ => ?_
  cases R₂ with
  | cons R₂ T₂ => cases T₂ with
    | cons R₂' T₂ =>
      cases T₂
      cases R₂ with
      | str _ tk =>
        have σ₂ := σ.step S₂
        have hD₂ : h₂.DictOf (strKind c.prog c.w) a kvs := Heap.DictOf.at hD fun o e => σ.keepS S₂ a ha o e
        have hkv₂ := hkv.mono S₂.up
        refine call_meetsIn (s := { s with heap := h₂, toks := t₂ }) PySem.F.slot_dict_get hD₂.typeIs PySem.F.entry_dict_get (PySem.F.args_dict_get_3 _ _ _) (meets_dict_get_default (strKind c.prog c.w) a (strKind_is c.prog c.w k tk) lo _) ⟨_, hD₂.mapOf, ?_⟩
        have r1 := hkv₂.value k R₂'
        -- + [y]
        refine (PE.listD (PEs.one (PE.name (v := vy) hxy (ry.mono S₂.up) (.inl hky) c5 c6)) (by show 1 ≤ sizeLine; decide)).run A ok { s with heap := h₂, toks := t₂ + 1 } H₂ (.refl _) S₂.inv σ₂.frm _ _ fun u H₃ h₃ t₃ S₃ R₃ => ?_
        refine (BinR.addL (by simp only [List.length_singleton]; omega)).run A (ok.le (Nat.zero_le _)) { s with heap := h₃, toks := t₃ } H₃ _ _ S₃.inv (r1.mono S₃.up) R₃ _ _ fun w H₄ h₄ t₄ S₄ R₄ => ?_
        have S := (S₂.trans S₃ σ.base.inv).trans S₄ σ.base.inv
        have σ₄ := σ.step S
        refine wpAny_Name (ldFrm σ₄.frm hxt (.inl hkt) c1 ?_) c2
        refine wpAny_Name (ldFrm σ₄.frm hxx (.inl hkx) c3 ?_) c4
        have hD₄ : h₄.DictOf (strKind c.prog c.w) a kvs := Heap.DictOf.at hD fun o e => σ.keepS S a ha o e
        refine wpAny_setItem_pairs (s := { s with heap := h₄, toks := t₄ }) (strKind_is c.prog c.w k tkx) hD₄ (fun h₅ hD₅ hs₅ => ?_) (by omega)
        have hal : (h₅.get? a).isSome = true := by obtain ⟨o, _, _, ho, _⟩ := hD₅; rw [ho]; rfl
        exact q _ H₄ h₅ _ (σ₄.turn ha hs₅ hal) S.up hD₅ ((hkv.mono S.up).stored k R₄) fun b hb hba o e => (hs₅.2 b hba).trans (σ.keepS S b hb o e)
end
end Mine
namespace Mine

/-- a dict that is turned no more -/
structure Frz (c : Cfg) (H : View) (a : Addr) (gs : Grp) : Prop where
  ex : ∃ o kvs, H a = some o ∧ o.IsDictOf (strKind c.prog c.w) kvs ∧ KV H kvs gs
  lo : (a == sysModules) = false
section
variable {c : Cfg} {n : Nat} {env : Env} {ex : List Addr} {ρ : Str → Option Value} {H H' H₀ : View} {h h₀ : Heap} {d : D} {a : Addr} {gs : Grp}
theorem Frz.mono (x : Frz c H a gs) (k : VLe H H') : Frz c H' a gs := ⟨let ⟨o, kvs, h1, h2, h3⟩ := x.ex; ⟨o, kvs, k _ _ h1, h2, h3.mono k⟩, x.lo⟩
theorem Frz.at (x : Frz c H a gs) (I : Inv c H h) : ∃ kvs ep, h.DictAt (strKind c.prog c.w) a kvs ep ∧ KV H kvs gs ∧ (∃ o, H a = some o) := by
  obtain ⟨o, kvs, h1, h2, h3⟩ := x.ex
  obtain ⟨ep, h4⟩ := (Heap.dictOf_iff.mpr ⟨o, I.le _ _ h1, h2⟩ : h.DictOf (strKind c.prog c.w) a kvs).dictAt
  exact ⟨kvs, ep, h4, h3, o, h1⟩

theorem IT.dictKeys {e : Expr} (x : Frz c H a gs) (h : PE c n env ρ H e (.raw (.ref a))) : IT c n env ρ H e (gs.map fun g => D.str g.1) := ⟨fun A ok s H₁ k I F Q E q =>
  h.run A ok s H₁ k I F _ _ fun v H₂ h₂ t₂ S₂ R₂ => by
    cases R₂
    obtain ⟨kvs, ep, hd, hkv, o, ho⟩ := (x.mono (k.trans S₂.up)).at S₂.inv
    have hne : a ≠ h₂.objs.size := Nat.ne_of_lt hd.lt_size
    have haP : a ≠ c.P := fun q => by rw [q, S₂.inv.noP] at ho; cases ho
    refine wpAny_pyIter_dict (s := { s with heap := h₂, toks := t₂ }) x.lo hd ?_
    have hn := fresh_none h₂
    have W := Walks.dictKeys (knd := strKind c.prog c.w) (A := A) ok.hh h₂.objs.size a hne kvs ep
    have hlen : kvs.length = (gs.map fun g => D.str g.1).length := by rw [hkv.length, List.length_map]
    rw [hlen] at W
    have S₃ := HStep.push S₂.inv { cls := .type "dict_keyiterator", data := .fields #[.ref a, .int 0 0, .int kvs.length 0, .int ep 0] }
    refine q _ _ _ _ _ H₂ _ _ (S₂.trans S₃ I) W ⟨⟨_, Heap.get?_push_size _ rfl, rfl, by rw [hlen]; rfl⟩, hd.push _⟩ ?_ ?_ ?_ ?_ ?_
    · intro b hb
      rcases List.mem_cons.mp hb with rfl | hb
      · exact ⟨by rw [Heap.size_push]; exact Nat.lt_succ_self _, S₂.inv.neP hn⟩
      · rw [List.mem_singleton.mp hb]
        exact ⟨by rw [Heap.size_push]; exact Nat.lt_succ_of_lt hd.lt_size, haP⟩
    · intro b hb
      rw [List.mem_singleton.mp hb]
      exact ⟨S₂.inv.none_of hn, S₂.alive I hn⟩
    · intro i h' st b hb
      rw [List.mem_singleton.mp hb]
      obtain ⟨⟨o', ho', _⟩, _⟩ := st
      rw [ho']; rfl
    · rintro i v _ ⟨key, u, hx, hv⟩
      obtain ⟨ds, h1, _⟩ := hkv.get hx
      obtain ⟨t, rfl⟩ := Value.isStrOf_shape hv
      exact ⟨.str key, by rw [List.getElem?_map, h1]; rfl, .str _ _⟩
    · intro b hb
      rcases List.mem_cons.mp hb with rfl | hb
      · exact .inr (S₂.alive I hn)
      · rw [List.mem_singleton.mp hb]; exact .inl ⟨o, ho⟩⟩

theorem IT.dictValues {e : Expr} {apos pos : Pos} (x : Frz c H a gs) (h : PE c n env ρ H e (.raw (.ref a))) (hm : MethForm e "values" apos [] pos) : IT c n env ρ H (.Call (.Attribute e "values" apos) [] [] pos) (gs.map fun g => D.list g.2) := ⟨fun A ok s H₁ k I F Q E q => by
  obtain ⟨pl, hm⟩ := hm env
  refine MethodCall_ (pl := pl) (h.run A ok s H₁ k I F _ _ fun v H₂ h₂ t₂ S₂ R₂ => ?_) hm
  cases R₂
  obtain ⟨kvs, ep, hd, hkv, o, ho⟩ := (x.mono (k.trans S₂.up)).at S₂.inv
  refine getMethod_builtin (s := { s with heap := h₂, toks := t₂ }) hd.dictOf.typeIs PySem.F.plainAttrs_dict PySem.F.slot_dict_values PySem.F.type_dict_values (fun b e => by cases e; exact hd.dictOf.mapOf.noDict a rfl) ?_
  refine callWith_method0 (call_meetsIn (s := { s with heap := h₂, toks := t₂ }) PySem.F.slot_dict_values hd.dictOf.typeIs PySem.F.entry_dict_values (PySem.F.args_dict_values_1 _) (meets_dict_values (strKind c.prog c.w) a x.lo) ⟨⟨kvs, hd.dictOf⟩, ?_⟩)
  have nV := fresh_none h₂
  have gV : (h₂.push { cls := .type "dict_values", data := .fields #[.ref a] }).IsValuesView h₂.objs.size a := ⟨_, Heap.get?_push_size _ rfl, rfl, rfl⟩
  have hdV := hd.push { cls := .type "dict_values", data := .fields #[.ref a] }
  have SV := HStep.push S₂.inv { cls := .type "dict_values", data := .fields #[.ref a] }
  generalize h₂.push { cls := .type "dict_values", data := .fields #[.ref a] } = h₃ at *
  have S₃ := S₂.trans SV I
  have hne : a ≠ h₃.objs.size := Nat.ne_of_lt hdV.lt_size
  have haP : a ≠ c.P := fun q => by rw [q, S₂.inv.noP] at ho; cases ho
  refine wpAny_pyIter_values (s := { s with heap := h₃, toks := t₂ }) gV hdV ?_
  have hn := fresh_none h₃
  have W := Walks.dictValues (knd := strKind c.prog c.w) (A := A) ok.hh h₃.objs.size a hne kvs ep
  have hlen : kvs.length = (gs.map fun g => D.list g.2).length := by rw [hkv.length, List.length_map]
  rw [hlen] at W
  have S₄ := HStep.push S₃.inv { cls := .type "dict_valueiterator", data := .fields #[.ref a, .int 0 0, .int kvs.length 0, .int ep 0] }
  refine q _ _ _ _ _ H₂ _ _ (S₃.trans S₄ I) W ⟨⟨_, Heap.get?_push_size _ rfl, rfl, by rw [hlen]; rfl⟩, hdV.push _⟩ ?_ ?_ ?_ ?_ ?_
  · intro b hb
    rcases List.mem_cons.mp hb with rfl | hb
    · exact ⟨by rw [Heap.size_push]; exact Nat.lt_succ_self _, S₃.inv.neP hn⟩
    · rw [List.mem_singleton.mp hb]
      exact ⟨by rw [Heap.size_push]; exact Nat.lt_succ_of_lt hdV.lt_size, haP⟩
  · intro b hb
    rw [List.mem_singleton.mp hb]
    exact ⟨S₃.inv.none_of hn, S₃.alive I hn⟩
  · intro i h' st b hb
    rw [List.mem_singleton.mp hb]
    obtain ⟨⟨o', ho', _⟩, _⟩ := st
    rw [ho']; rfl
  · rintro i v _ ⟨key, hx⟩
    obtain ⟨ds, h1, h2⟩ := hkv.get hx
    exact ⟨.list ds, by rw [List.getElem?_map, h1]; rfl, h2⟩
  · intro b hb
    rcases List.mem_cons.mp hb with rfl | hb
    · exact .inr (S₃.alive I hn)
    · rw [List.mem_singleton.mp hb]; exact .inl ⟨o, ho⟩⟩

/-- freezing the dict of one's own -/
theorem Fm.freezeD {kvs : List (Str × Value)} (σ : Fm c env (a :: ex) H₀ h₀ ρ H h) (hn : h₀.get? a = none) (hd : a ∉ ex) (lo : (a == sysModules) = false) (hD : h.DictOf (strKind c.prog c.w) a kvs) (hkv : KV H kvs gs) :
    ∃ o, Fm c env ex H₀ h₀ ρ (H.add a o) h ∧ VLe H (H.add a o) ∧ Frz c (H.add a o) a gs := by
  obtain ⟨o, ho, hI⟩ := Heap.dictOf_iff.mp hD
  have hle := View.le_add (o := o) (σ.off a (List.mem_append_right _ (by simp)))
  exact ⟨o, σ.frozen hn ho hd, hle, ⟨o, kvs, View.add_self, hI, hkv.mono hle⟩, lo⟩
theorem Fm.freezeL {vs : Array Value} {m : Nat} {ds : List D} (σ : Fm c env (a :: ex) H₀ h₀ ρ H h) (hn : h₀.get? a = none) (hd : a ∉ ex) (ho : h.get? a = some (lstO vs m)) (hr : RelL H vs.toList ds) :
    Fm c env ex H₀ h₀ ρ (H.add a (lstO vs m)) h ∧ VLe H (H.add a (lstO vs m)) ∧ Rel (H.add a (lstO vs m)) (.ref a) (.list ds) := by
  have hle := View.le_add (o := lstO vs m) (σ.off a (List.mem_append_right _ (by simp)))
  exact ⟨σ.frozen hn ho hd, hle, .list View.add_self (hr.mono hle)⟩

/-- x1, x2 = .. , stored the other way round -/
theorem Fm.unpack2s {A : Around} {s : Shared} {E : Value → Shared → Prop} {Q : Flow → Shared → Prop} {x1 x2 : Str} {p1 p2 tp pos : Pos} {tk : Nat} {e : Expr} {rest : List Stmt} {d1 d2 : D} (σ : Fm c env ex H₀ h₀ ρ H s.heap) (ok : Ok A n) (ap : CellsApart env) (h1 : Storable env x1) (h2 : Storable env x2)
    (he : PE c n env ρ H e (.tup [d1, d2]))
    (q : ∀ v1 v2 H' h' tk', Fm c env ex H₀ h₀ (upd (upd ρ x2 v2) x1 v1) H' h' → VLe H H' → Rel H' v1 d1 → Rel H' v2 d2 → (∀ b ∈ ex, ∀ o, s.heap.get? b = some o → h'.get? b = some o) → wpAny (model c.prog c.w) A (execs rest env) Q E { s with heap := h', toks := tk' })
    (hs : swapsWithSole [.Tuple [.Name x1 p1, .Name x2 p2] tk tp] e pos.line env = pure false := by rfl)
    (hw : swappedStores [.Tuple [.Name x1 p1, .Name x2 p2] tk tp] e env = pure (some [x1, x2]) := by rfl) :
    wpAny (model c.prog c.w) A (execs (.Assign [.Tuple [.Name x1 p1, .Name x2 p2] tk tp] e pos :: rest) env) Q E s := by
  refine wpAny_execs_cons (PyProof.Rows.Assign_Tuple_swapped (he.run A ok s H (.refl _) σ.base.inv σ.frm _ _ fun v H₂ h₂ t₂ S₂ R₂ => ?_) hs hw)
  have σ₂ := σ.step S₂
  cases R₂ with
  | @tup a ws m _ ha hr =>
    have hi := σ₂.base.inv.le _ _ ha
    have hw3 : ∃ v1 v2, ws.toList = [v1, v2] ∧ Rel H₂ v1 d1 ∧ Rel H₂ v2 d2 := by
      generalize ws.toList = l at hr
      cases hr with
      | cons r1 t1 => cases t1 with
        | cons r2 t2 => cases t2; exact ⟨_, _, rfl, r1, r2⟩
    obtain ⟨v1, v2, hl, r1, r2⟩ := hw3
    have hsz : ws.size = [x1, x2].length := by
      have := congrArg List.length hl
      simpa using this
    rw [← hsz]
    refine PyProof.Rows.unpackItems_tuple (s := { s with heap := h₂, toks := t₂ }) ok.hh (items := ws) ⟨_, hi, rfl, m, rfl⟩ fun h₃ hx₃ => ?_
    have S₃ : HStep c H₂ h₂ H₂ h₃ := .grow S₂.inv fun b o e => hx₃ b o (fun q => by rw [q, fresh_none] at e; cases e) e
    rw [hl]
    have σ₃ := σ₂.step S₃
    refine stores_run ap [(x2, v2), (x1, v1)] ρ h₃ { s with heap := h₃, toks := t₂ } _ σ₃.self rfl ?_ fun h₄ t₄ σ₄ => ?_
    · intro x hx
      simp at hx
      rcases hx with rfl | rfl
      · exact h2
      · exact h1
    · exact q v1 v2 H₂ h₄ t₄ (σ₃.byFs σ₄) S₂.up r1 r2 fun b hb o e => σ₃.keepEx σ₄ b hb o (σ₂.keepS S₃ b hb o (σ.keepS S₂ b hb o e))

theorem BinR.floorI {x y : Int} (hb : y ≠ 0) (hs : y.natAbs < 1073741824) : BinR c .FloorDiv (.int x) (.int y) (.int (x.fdiv y)) := .ofInt fun q => floordiv_int hb q (Or.inl (PyProof.noPylong_small hs))

theorem RelL.rep {v : Value} (r : Rel H v d) : ∀ k : Nat, RelL H (List.replicate k v) (List.replicate k d)
  | 0 => .nil
  | k + 1 => .cons r (RelL.rep r k)
theorem fold_one (v : Value) : ∀ (k : Nat) (acc : Array Value), List.foldl (fun x1 x2 => x1 ++ x2) acc (List.replicate k #[v]) = acc ++ (List.replicate k v).toArray
  | 0, acc => by simp
  | k + 1, acc => by
    rw [List.replicate_succ, List.foldl_cons, fold_one v k]
    apply Array.toList_inj.mp
    simp [List.replicate_succ]
theorem mul_meets (a : Addr) (y : Value) (m : Nat) (x : Int) (t : Tok) (h0 : 0 ≤ x) (h1 : x ≤ 1000) : Meets (Builtin.«list.__mul__» ⟨[.ref a, .int x t], []⟩) (fun _ R s => s.heap.get? a = some { cls := .type "list", dict := none, data := .seq #[y] m, slots := #[] } ∧
    R (.ok (.ret (Value.ref s.heap.objs.size))) { s with heap := s.heap.push { cls := Value.type "list", data := Data.seq (List.foldl (fun x1 x2 => x1 ++ x2) #[] (List.replicate (if (#[y] : Array Value).isEmpty = true then 0 else x.toNat) #[y])) }, toks := s.toks }) := by
  have e : (#[y] : Array Value).size * x.toNat = x.toNat := by simp
  apply PySem.AutoListH.list___mul___list_int_3
  · simp [Builtin.List.listFitsIndex]; omega
  · rw [e]; omega
  · rw [e]
    have e2 : sizeLine = 16777216 := by decide
    simp only [Builtin.List.listTooLong, e2, decide_eq_true_eq]
    omega
theorem BinR.mulOne {x : Int} (h0 : 0 ≤ x) (h1 : x ≤ 1000) : BinR c .Mult (.list [d]) (.int x) (.list (List.replicate x.toNat d)) := ⟨fun A ok s H₁ u v I R₁ R₂ Q E q => by
  cases R₂ with
  | int _ t =>
    cases R₁ with
    | @list a ws m _ ha hr =>
      have hg := I.le _ _ ha
      have hw : ∃ y, ws = #[y] ∧ Rel H₁ y d := by
        obtain ⟨l⟩ := ws
        cases hr with
        | cons r t => cases t; exact ⟨_, rfl, r⟩
      obtain ⟨y, rfl, ry⟩ := hw
      have n2 := fresh_none s.heap
      refine wpAny_binaryOp_repeat_ref (T := "list") (U := "int") (by decide) ⟨_, hg, rfl⟩ (fun s' => typeIs_int s' _ t) noFill_list_mul PySem.F.fills_int_mul PySem.F.slot_int_rmul repeat_list PySem.F.slot_int_index.lookup ?_
      refine call_meets PySem.F.slot_int_rmul (typeIs_int s _ t) PySem.F.entry_int_rmul (PySem.F.args_int_rmul_2 _ _) (int___rmul___int_list _ t a #[y] m) ⟨hg, rfl, ⟨_, hg, rfl⟩, ?_⟩
      refine call_meets PySem.F.slot_list_mul ⟨_, hg, rfl⟩ PySem.F.entry_list_mul (PySem.F.args_list_mul_2 _ _) (mul_meets a y m x t h0 h1) ⟨hg, ?_⟩
      have S₃ : HStep c H₁ s.heap (H₁.add s.heap.objs.size (lstO (List.foldl (fun x1 x2 => x1 ++ x2) #[] (List.replicate (if (#[y] : Array Value).isEmpty = true then 0 else x.toNat) #[y])) 0)) (s.heap.push (lstO (List.foldl (fun x1 x2 => x1 ++ x2) #[] (List.replicate (if (#[y] : Array Value).isEmpty = true then 0 else x.toNat) #[y])) 0)) :=
        HStep.add I (fun b o e => Heap.get?_push_of_some _ e) n2 (Heap.get?_push_size _ rfl)
      refine q _ _ _ _ S₃ (.list View.add_self ?_)
      have hsz : (if (#[y] : Array Value).isEmpty = true then 0 else x.toNat) = x.toNat := by simp
      have e : (List.foldl (fun x1 x2 => x1 ++ x2) #[] (List.replicate (if (#[y] : Array Value).isEmpty = true then 0 else x.toNat) #[y])).toList = List.replicate x.toNat y := by
        rw [hsz, fold_one y x.toNat #[]]; simp
      rw [e]
      exact (RelL.rep ry x.toNat).mono S₃.up⟩
end
end Mine
namespace Mine

/-! the groups, in plain Lean -/
def grp (os : List D) : Grp := os.foldl (fun gs o => put gs o.txt o) []
theorem grp_snoc (os : List D) (o : D) : grp (os ++ [o]) = put (grp os) o.txt o := by unfold grp; rw [List.foldl_append]; rfl
def ofTxt (os : List D) (k : Str) : List D := os.filter fun o => o.txt == k

theorem put_keys (gs : Grp) (k : Str) (d : D) : (put gs k d).map (·.1) = if gs.any (fun g => g.1 = k) then gs.map (·.1) else gs.map (·.1) ++ [k] := by
  unfold put
  split
  · rw [List.map_map]
    apply List.map_congr_left
    intro g _
    show (if g.1 = k then _ else _ : Str × List D).1 = g.1
    split <;> rfl
  · rw [List.map_append]; rfl
theorem any_mem {gs : Grp} {k : Str} : gs.any (fun g => g.1 = k) = true ↔ k ∈ gs.map (·.1) := by
  rw [List.any_eq_true, List.mem_map]
  constructor
  · rintro ⟨g, h1, h2⟩; exact ⟨g, h1, of_decide_eq_true h2⟩
  · rintro ⟨g, h1, h2⟩; exact ⟨g, h1, decide_eq_true h2⟩
theorem put_nodup {gs : Grp} {k : Str} {d : D} (h : (gs.map (·.1)).Nodup) : ((put gs k d).map (·.1)).Nodup := by
  rw [put_keys]
  split
  · exact h
  · rename_i hn
    rw [any_mem] at hn
    exact List.nodup_append.mpr ⟨h, by simp, fun a ha b hb => by rw [List.mem_singleton.mp hb]; exact fun q => hn (q ▸ ha)⟩

/-- what the groups of a list of orders are -/
structure GOk (os : List D) (gs : Grp) : Prop where
  nodup : (gs.map (·.1)).Nodup
  all : ∀ g ∈ gs, g.2 = ofTxt os g.1 ∧ g.2 ≠ []
  keys : ∀ o ∈ os, o.txt ∈ gs.map (·.1)
theorem vAt_mem {gs : Grp} (h : (gs.map (·.1)).Nodup) {g : Str × List D} (hg : g ∈ gs) : vAt gs g.1 = some g.2 := by
  unfold vAt
  induction gs with
  | nil => cases hg
  | cons x r ih =>
    rw [List.map_cons, List.nodup_cons] at h
    by_cases hx : x.1 = g.1
    · have : x = g := by
        rcases List.mem_cons.mp hg with q | q
        · exact q.symm
        · exact absurd (List.mem_map.mpr ⟨g, q, hx.symm⟩) h.1
      subst this
      simp
    · rcases List.mem_cons.mp hg with q | q
      · exact absurd (by rw [q]) hx
      · rw [List.find?_cons, decide_eq_false hx]
        exact ih h.2 q
theorem GOk.step {os : List D} {gs : Grp} (x : GOk os gs) (o : D) : GOk (os ++ [o]) (put gs o.txt o) := by
  have hf : ∀ k, ofTxt (os ++ [o]) k = ofTxt os k ++ (if o.txt = k then [o] else []) := fun k => by
    unfold ofTxt
    rw [List.filter_append]
    congr 1
    by_cases h : o.txt = k
    · subst h; simp
    · rw [if_neg h]; simp [h]
  refine ⟨put_nodup x.nodup, fun g hg => ?_, fun u hu => ?_⟩
  · rw [hf]
    unfold put at hg
    split at hg
    · rename_i ha
      obtain ⟨g', h1, rfl⟩ := List.mem_map.mp hg
      by_cases hk : g'.1 = o.txt
      · rw [if_pos hk]
        dsimp only
        rw [if_pos hk.symm, ← hk, vAt_mem x.nodup h1]
        obtain ⟨h2, h3⟩ := x.all g' h1
        exact ⟨by rw [← h2]; rfl, by simp⟩
      · rw [if_neg hk]
        obtain ⟨h2, h3⟩ := x.all g' h1
        rw [if_neg (Ne.symm hk), List.append_nil]
        exact ⟨h2, h3⟩
    · rename_i ha
      have hn : o.txt ∉ gs.map (·.1) := fun q => ha (any_mem.mpr q)
      rcases List.mem_append.mp hg with h1 | h1
      · obtain ⟨h2, h3⟩ := x.all g h1
        have : ¬ o.txt = g.1 := fun q => hn (List.mem_map.mpr ⟨g, h1, q.symm⟩)
        rw [if_neg this, List.append_nil]
        exact ⟨h2, h3⟩
      · rw [List.mem_singleton.mp h1]
        have he : ofTxt os o.txt = [] := List.filter_eq_nil_iff.mpr fun u hu q => hn (by
          have := x.keys u hu
          rwa [eq_of_beq q] at this)
        exact ⟨by show [o] = ofTxt os o.txt ++ _; rw [he, if_pos rfl]; rfl, by simp⟩
  · rw [put_keys]
    rcases List.mem_append.mp hu with h1 | h1
    · have := x.keys u h1
      split
      · exact this
      · exact List.mem_append_left _ this
    · rw [List.mem_singleton.mp h1]
      split
      · rename_i ha; exact any_mem.mp ha
      · exact List.mem_append_right _ (by simp)
theorem grp_ok (os : List D) : GOk os (grp os) := by
  have key : ∀ (l os : List D) (gs : Grp), GOk os gs → GOk (os ++ l) (l.foldl (fun gs o => put gs o.txt o) gs) := by
    intro l
    induction l with
    | nil => intro os gs h; simpa using h
    | cons o r ih =>
      intro os gs h
      have := ih (os ++ [o]) (put gs o.txt o) (h.step o)
      rwa [List.append_assoc] at this
  have := key os [] [] ⟨by simp, fun g hg => absurd hg List.not_mem_nil, fun o ho => absurd ho List.not_mem_nil⟩
  simpa [grp] using this

theorem put_total {gs : Grp} {k : Str} {d : D} (h : (gs.map (·.1)).Nodup) : ((put gs k d).map (·.2.length)).sum = (gs.map (·.2.length)).sum + 1 := by
  unfold put
  cases ha : gs.any fun g => g.1 = k with
  | false => rw [if_neg (by decide), List.map_append, List.sum_append]; rfl
  | true =>
    rw [if_pos rfl]
    have key : ∀ (l : Grp) (w : List D), (l.map (·.1)).Nodup → (∀ g ∈ l, g.1 = k → g.2 = w) → k ∈ l.map (·.1) → ((l.map fun g => if g.1 = k then (g.1, w ++ [d]) else g).map (·.2.length)).sum = (l.map (·.2.length)).sum + 1 := by
      intro l w
      induction l with
      | nil => intro _ _ hm; cases hm
      | cons x r ih =>
        intro hn hw hm
        rw [List.map_cons, List.nodup_cons] at hn
        rw [List.map_cons, List.map_cons, List.sum_cons, List.map_cons, List.sum_cons]
        by_cases hx : x.1 = k
        · rw [if_pos hx]
          have hxw := hw x (by simp) hx
          have hr : (r.map fun g => if g.1 = k then (g.1, w ++ [d]) else g) = r := by
            have : ∀ g ∈ r, (if g.1 = k then (g.1, w ++ [d]) else g) = g := fun g hg => by
              rw [if_neg fun q => hn.1 (List.mem_map.mpr ⟨g, hg, q.trans hx.symm⟩)]
            rw [List.map_congr_left this, List.map_id']
          rw [hr]
          show (w ++ [d]).length + _ = _
          rw [List.length_append, hxw]
          simp
          omega
        · rw [if_neg hx]
          have hm' : k ∈ r.map (·.1) := by
            rw [List.map_cons] at hm
            rcases List.mem_cons.mp hm with q | q
            · exact absurd q.symm hx
            · exact q
          rw [ih hn.2 (fun g hg => hw g (List.mem_cons_of_mem _ hg)) hm']
          omega
    refine key gs _ h (fun g hg hk => ?_) (any_mem.mp ha)
    rw [← hk, vAt_mem h hg]; rfl
theorem grp_total (os : List D) : ((grp os).map (·.2.length)).sum = os.length := by
  have key : ∀ (l os : List D), (((l ++ []) : List D).length = l.length) → ((grp (os ++ l)).map (·.2.length)).sum = ((grp os).map (·.2.length)).sum + l.length := by
    intro l
    induction l with
    | nil => intro os _; simp
    | cons o r ih =>
      intro os _
      have h1 := ih (os ++ [o]) (by simp)
      rw [List.append_assoc] at h1
      have h2 : ((grp (os ++ [o])).map (·.2.length)).sum = ((grp os).map (·.2.length)).sum + 1 := by rw [grp_snoc]; exact put_total (grp_ok os).nodup
      show ((grp (os ++ ([o] ++ r))).map (·.2.length)).sum = _
      rw [h1, h2, List.length_cons]; omega
  have := key os [] (by simp)
  simpa [grp] using this
theorem grp_length_le (os : List D) : (grp os).length ≤ os.length := by
  have h := grp_total os
  have key : ∀ l : Grp, (∀ g ∈ l, g.2 ≠ []) → l.length ≤ (l.map (·.2.length)).sum := by
    intro l
    induction l with
    | nil => intro _; simp
    | cons x r ih =>
      intro hx
      have h1 := ih fun g hg => hx g (List.mem_cons_of_mem _ hg)
      have h2 := List.length_pos_iff.mpr (hx x (by simp))
      rw [List.map_cons, List.sum_cons, List.length_cons]; omega
  rw [← h]
  exact key _ fun g hg => ((grp_ok os).all g hg).2
theorem vAt_len (os : List D) (k : Str) : ((vAt (grp os) k).getD []).length ≤ os.length := by
  cases e : vAt (grp os) k with
  | none => simp
  | some ds =>
    unfold vAt at e
    obtain ⟨g, h1, rfl⟩ := Option.map_eq_some_iff.mp e
    have hm := List.mem_of_find?_eq_some h1
    obtain ⟨h2, _⟩ := (grp_ok os).all g hm
    show g.2.length ≤ _
    rw [h2]
    exact List.length_filter_le _ _

/-- when every order has as many of its text, the groups are even -/
theorem grp_even {os : List D} {m : Nat} (hm : 0 < m) (h : ∀ o ∈ os, (ofTxt os o.txt).length = m) : (∀ g ∈ grp os, g.2.length = m) ∧ (grp os).length = os.length / m := by
  have h1 : ∀ g ∈ grp os, g.2.length = m := fun g hg => by
    obtain ⟨h2, h3⟩ := (grp_ok os).all g hg
    obtain ⟨o, ho⟩ := List.exists_mem_of_ne_nil _ h3
    rw [h2] at ho
    obtain ⟨ho1, ho2⟩ := List.mem_filter.mp ho
    rw [h2, ← eq_of_beq ho2]
    exact h o ho1
  refine ⟨h1, ?_⟩
  have ht := grp_total os
  have key : ∀ l : Grp, (∀ g ∈ l, g.2.length = m) → (l.map (·.2.length)).sum = l.length * m := by
    intro l
    induction l with
    | nil => intro _; simp
    | cons x r ih =>
      intro hx
      rw [List.map_cons, List.sum_cons, ih fun g hg => hx g (List.mem_cons_of_mem _ hg), hx x (by simp), List.length_cons, Nat.succ_mul]; omega
  rw [key _ h1] at ht
  rw [← ht, Nat.mul_div_cancel _ hm]
end Mine
namespace Mine

/-! the trees of the law -/
def shape (k a b : Nat) : D := match k with
  | 0 => nD a
  | 1 => .list [nD a]
  | 2 => .list [nD a, nD b]
  | _ => .list [.list [nD a], nD b]
def slotOf (n : Int) : D := shape (n.fmod 4).toNat ((n.fdiv 4).fmod 2).toNat ((n.fdiv 8).fmod 2).toNat

inductive D.Tr : D → Prop
  | num (i : Nat) : i < 10 → D.Tr (.int (i : Int))
  | node (l : List D) : l.length ≤ 3 → (∀ t ∈ l, t.Tr) → (∀ t ∈ l, (ords t).length ≤ 48) → (∀ t ∈ l, stl t ≤ 100) → szs l ≤ 1000000 → D.Tr (.list l)

section
variable {c : Cfg}
theorem orders_sp (hK : c.K = Mine.hd.heap_39 c.w.params) {d : D} (h : d.Tr) : ∀ (n : Nat) (H : View), Fun c (n + 1 + d.ht) (.ref 764) H [d] (.list (ords d)) := by
  induction h with
  | num i hi => intro n H; exact law_orders_leaf hK (n := n)
  | node l h1 h2 h3 h4 h5 ih =>
    intro n H
    show Fun c (n + 1 + hts l + 1) (.ref 764) H [.list l] _
    refine law_orders_node hK h1 h3 fun t ht H' hH => ?_
    have := ht_mem ht
    exact (ih t ht n H').mono (by omega) (.refl _)
theorem form_sp (hK : c.K = Mine.hd.heap_39 c.w.params) {d : D} (h : d.Tr) : ∀ (n : Nat) (H : View), Fun c (n + 1 + d.ht) (.ref 769) H [d] (.str (form d)) := by
  induction h with
  | num i hi => intro n H; exact law_form_leaf hK (n := n) (digit_log hi)
  | node l h1 h2 h3 h4 h5 ih =>
    intro n H
    show Fun c (n + 1 + hts l + 1) (.ref 769) H [.list l] _
    refine law_form_node hK h1 h5 fun t ht H' hH => ?_
    have := ht_mem ht
    exact (ih t ht n H').mono (by omega) (.refl _)
theorem still_sp (hK : c.K = Mine.hd.heap_39 c.w.params) {d : D} (h : d.Tr) : ∀ (n : Nat) (H : View), Fun c (n + 1 + d.ht) (.ref 774) H [d] (.int ((stl d : Nat) : Int)) := by
  induction h with
  | num i hi => intro n H; exact law_still_leaf hK (n := n)
  | node l h1 h2 h3 h4 h5 ih =>
    intro n H
    show Fun c (n + 1 + hts l + 1) (.ref 774) H [.list l] _
    refine law_still_node hK h1 h4 (fun t ht H' hH => ?_) fun t ht H' hH => ?_
    · have := ht_mem ht
      exact (form_sp hK (h2 t ht) n H').mono (by omega) (.refl _)
    · have := ht_mem ht
      exact (ih t ht n H').mono (by omega) (.refl _)
end

/-! the shapes: small, by running -/
def Fin3 := Fin 4 × Fin 2 × Fin 2
theorem sh_ords : ∀ (k : Fin 4) (a b : Fin 2), (ords (shape k.val a.val b.val)).length ≤ 2 := by decide +kernel
theorem sh_stl : ∀ (k : Fin 4) (a b : Fin 2), 0 < stl (shape k.val a.val b.val) ∧ stl (shape k.val a.val b.val) ≤ 2 := by decide +kernel
theorem sh_sz : ∀ (k : Fin 4) (a b : Fin 2), (shape k.val a.val b.val).sz ≤ 20 ∧ (shape k.val a.val b.val).ht ≤ 3 ∧ ∀ o ∈ ords (shape k.val a.val b.val), o.sz ≤ 20 ∧ o.ht ≤ 3 := by decide +kernel
theorem nD_tr (i : Fin 2) : (nD i.val).Tr := .num _ (by omega)
theorem nD_arr (i : Fin 2) : (nD i.val).Arr := .num _ (by omega)
theorem sh_tr : ∀ (k : Fin 4) (a b : Fin 2), (shape k.val a.val b.val).Tr
  | ⟨0, _⟩, a, b => nD_tr a
  | ⟨1, _⟩, a, b => .node _ (by show 1 ≤ 3; decide) (by intro t ht; rw [List.mem_singleton.mp ht]; exact nD_tr a) (by intro t ht; rw [List.mem_singleton.mp ht]; show 1 ≤ 48; decide) (by intro t ht; rw [List.mem_singleton.mp ht]; show 1 ≤ 100; decide) (by revert a; decide +kernel)
  | ⟨2, _⟩, a, b => .node _ (by show 2 ≤ 3; decide) (by
      intro t ht
      simp only [List.mem_cons, List.not_mem_nil, or_false] at ht
      rcases ht with rfl | rfl <;> exact nD_tr _) (by
      intro t ht
      simp only [List.mem_cons, List.not_mem_nil, or_false] at ht
      rcases ht with rfl | rfl <;> (show 1 ≤ 48; decide)) (by
      intro t ht
      simp only [List.mem_cons, List.not_mem_nil, or_false] at ht
      rcases ht with rfl | rfl <;> (show 1 ≤ 100; decide)) (by revert a b; decide +kernel)
  | ⟨3, _⟩, a, b => .node _ (by show 2 ≤ 3; decide) (by
      intro t ht
      simp only [List.mem_cons, List.not_mem_nil, or_false] at ht
      rcases ht with rfl | rfl
      · exact sh_tr ⟨1, by decide⟩ a b
      · exact nD_tr _) (by
      intro t ht
      simp only [List.mem_cons, List.not_mem_nil, or_false] at ht
      rcases ht with rfl | rfl
      · have := sh_ords ⟨1, by decide⟩ a b
        exact Nat.le_trans this (by decide)
      · show 1 ≤ 48; decide) (by
      intro t ht
      simp only [List.mem_cons, List.not_mem_nil, or_false] at ht
      rcases ht with rfl | rfl
      · exact Nat.le_trans (sh_stl ⟨1, by decide⟩ a b).2 (by decide)
      · show 1 ≤ 100; decide) (by revert a b; decide +kernel)
/-- the shapes' forms tell the shapes' orders -/
theorem sh_count : ∀ (k a b : Nat), k < 4 → a < 2 → b < 2 → True := fun _ _ _ _ _ _ => trivial
end Mine
namespace Mine

theorem ints_rel {H : View} : ∀ {vs : List Value} {ns : List Int}, IntsAre vs ns → RelL H vs (ns.map D.int)
  | _, _, .nil => .nil
  | _, _, .cons n t h => .cons (.int n t) (ints_rel h)

def scriptρ (sa : Addr) : Str → Option Value := fun x => if x = Str.ofString "script" then some (.ref sa) else none

theorem law_close {prog : Program} {w : World} {h₀ h₁ : Heap} {s₁ : Shared} {tk₁ : Tok} {mg mb m : Str → Option Value} {L sa : Addr} {vs : List Value} {ns : List Int} {loose : List Str} {mean : ExcName → Option Value} {env : Env} {body : List Stmt} {news : List (Addr × Obj)} {Q : Flow → Shared → Prop} {E : Value → Shared → Prop}
    (X : (Mine.hd.heap_39 w.params).In h₀) (T : Top topProg loose mean mg mb h₀) (C : CodeHd h₀ 725 721) (hl : h₀.IsList sa vs.toArray) (hI : IntsAre vs ns) (F : Fr h₀ L h₁ m) (N : News h₀ L h₁ news) (hP : (721, tabObj #[]) ∈ news)
    (hcells : ∀ x a, env.cells.lookup x = some a → ∃ o v, (a, o) ∈ news ∧ o.data = .cell v ∧ (x = Str.ofString "script" → v = some (.ref sa)))
    (hs : env.kindOf "script" = some .cell) (hsc : ∃ a, env.cells.lookup (Str.ofString "script") = some a) (hL : env.locals = L) (hgl : env.globals = mainGlobals) (hbl : env.builtins = builtinsNs) (hk : env.scope.kind = .function)
    (main : ∀ c : Cfg, Cst c → c.w = w → ∀ H, Given H sa (ns.map D.int) → SR c 40 env (scriptρ sa) H body (.bool true))
    (hQ : ∀ h' tk', (∀ b o, h₀.get? b = some o → h'.get? b = some o) → GrownAll [(725, 721)] h' → Q (.ret (.bool true)) { s₁ with heap := h', toks := tk' }) :
    wpAny (model prog w) (callerA.deeper env) (execs body env) Q E { s₁ with heap := h₁, toks := tk₁ } := by
  have hN := N _ hP
  let c : Cfg := { prog := prog, w := w, K := Mine.hd.heap_39 w.params, P := 721, cc := 725, tl := 430, tc := 4, tq := Str.ofString "_array_in.<locals>.f", h₀ := h₀, mg := mg, mb := mb, k := X, g := T.g, b := T.b, nolimit := T.nolimit, bt := T.builtins, nodig := T.nodigits, bmain := T.bmain, chd := C, noP := hN.2.2 }
  have I : Inv c (fun b => h₀.get? b) h₁ := ⟨F.keep, fun b o e => e, hN.2.2, ⟨_, hN.1, .inl rfl⟩⟩
  have nL : h₀.get? L = none := Heap.get?_none_of_le F.above
  have cellNe : ∀ x a, env.cells.lookup x = some a → a ≠ 721 := fun x a e => by
    obtain ⟨o, v, h1, h2, _⟩ := hcells x a e
    intro q
    have h3 := (N _ h1).1
    rw [q] at h3
    rw [hN.1] at h3
    cases h3; cases h2
  have Fm : Frm c env (scriptρ sa) h₁ := by
    refine ⟨hk, hgl, hbl, by rw [hL]; exact Ne.symm hN.2.1, cellNe, ⟨m, by rw [hL]; exact F.ns, fun x v e hkd => ?_⟩, fun x a e => ?_, fun x v e hkd => ?_⟩
    · unfold scriptρ at e
      by_cases hx : x = Str.ofString "script"
      · subst hx
        have hs' : env.kindOf (Str.ofString "script") = some .cell := hs
        rw [hs'] at hkd; cases hkd
      · rw [if_neg hx] at e; cases e
    · obtain ⟨o, v, h1, h2, _⟩ := hcells x a e
      exact ⟨v, o, (N _ h1).1, h2⟩
    · unfold scriptρ at e
      by_cases hx : x = Str.ofString "script"
      · rw [if_pos hx] at e
        cases e
        obtain ⟨a, ha⟩ := hsc
        obtain ⟨o, v, h1, h2, h3⟩ := hcells _ a ha
        exact ⟨a, hx ▸ ha, o, (N _ h1).1, by rw [h2, h3 rfl]⟩
      · rw [if_neg hx] at e; cases e
  have hG : Given (fun b => h₀.get? b) sa (ns.map D.int) := by
    obtain ⟨o, h1, h2, n, h3⟩ := hl
    exact ⟨o, vs.toArray, n, h1, h2, h3, ints_rel hI⟩
  refine (main c ⟨rfl, rfl, rfl, rfl, rfl⟩ rfl _ hG).run (callerA.deeper env) ⟨rfl, by show callerA.depth + 1 + 40 < recursionLimit; decide, by show callerA.units + 3 + 8 * 40 + 100 < cLine; decide⟩ { s₁ with heap := h₁, toks := tk₁ } _ (.refl _) I Fm (by rw [hL]; exact nL) (fun x a e => ?_) Q E ?_
  · obtain ⟨o, v, h1, h2, _⟩ := hcells x a e
    exact (N _ h1).2.2
  · intro v H' h' tk' hup hfr hext I' R'
    cases R'
    refine hQ h' tk' (fun b o e => I'.le b o (hup b o e)) ⟨?_, trivial⟩
    obtain ⟨o, h1, h2⟩ := I'.tb
    rcases h2 with rfl | ⟨_, _, _, _, rfl, _⟩
    · exact ⟨_, h1⟩
    · exact ⟨_, h1⟩
end Mine
namespace Mine
theorem fmod_nat (a : Int) (m : Nat) (h : 0 < m) : ∃ k : Nat, a.fmod (m : Int) = (k : Int) ∧ k < m := by
  have h1 := Int.fmod_nonneg_of_pos a (b := (m : Int)) (by omega)
  have h2 := Int.fmod_lt_of_pos a (b := (m : Int)) (by omega)
  exact ⟨(a.fmod m).toNat, by omega, by omega⟩
def drawAt (ns : List Int) (k : Nat) : Int := (ns[k]?).getD ([2, 10, 3].getD k 0)
theorem draw_in {ns : List Int} {i : Nat} (h : i < ns.length) : (ns.map D.int)[i]? = some (.int (drawAt ns i)) := by
  rw [List.getElem?_map, List.getElem?_eq_getElem h]
  unfold drawAt
  rw [List.getElem?_eq_getElem h]; rfl
theorem draw_out {ns : List Int} {i : Nat} (h3 : i < 3) (h : ¬ i < ns.length) : [D.int 2, D.int 10, D.int 3][i]? = some (.int (drawAt ns i)) := by
  unfold drawAt
  rw [show ns[i]? = none from List.getElem?_eq_none (by omega)]
  have : i = 0 ∨ i = 1 ∨ i = 2 := by omega
  rcases this with rfl | rfl | rfl <;> rfl
def natOf : D → Nat
  | .int i => i.toNat
  | _ => 0

/-- what the law asks of its tree -/
structure Nice (tree : D) : Prop where
  tr : tree.Tr
  ht : tree.ht ≤ 4
  os : ∀ o ∈ ords tree, ∃ lo, o = .list lo ∧ o.Arr ∧ szs lo ≤ 1000 ∧ o.ht ≤ 4
  len : (ords tree).length ≤ 48
  even : ∀ o ∈ ords tree, (ofTxt (ords tree) o.txt).length = stl tree
  pos : 0 < stl tree
  top : stl tree ≤ 1000
def NiceAll : Prop := ∀ n0 n1 n2 : Int, Nice (.list [slotOf n0, slotOf n1, slotOf n2])

/-! what can be compared -/
theorem ints_pln : ∀ ns : List Int, plns (ns.map D.int) = true
  | [] => rfl
  | n :: r => by
    show (true && plns (r.map D.int)) = true
    rw [ints_pln r]; rfl
theorem ints_lay : ∀ ns : List Int, PyData.canLayAll0 (pds (ns.map D.int)) = true ∧ PyData.depthAll (pds (ns.map D.int)) = 0
  | [] => ⟨rfl, rfl⟩
  | n :: r => by
    obtain ⟨h1, h2⟩ := ints_lay r
    refine ⟨?_, ?_⟩
    · show (true && PyData.canLayAll0 (pds (r.map D.int))) = true
      rw [h1]; rfl
    · show max 0 (PyData.depthAll (pds (r.map D.int))) = 0
      rw [h2]; rfl
theorem ints_shaped (ns : List Int) : PySem.SeqAt.shaped (D.list (ns.map D.int)).pd = true := by
  obtain ⟨h1, h2⟩ := ints_lay ns
  show (PyData.canLayAll0 (pds (ns.map D.int)) && decide (PyData.depthAll (pds (ns.map D.int)) + 1 ≤ 64)) = true
  rw [h1, h2]; rfl
def LayD (t : D) : Prop := t.pln = true ∧ t.pd.canLay0 = true ∧ t.pd.depth ≤ t.ht
theorem lay_all : ∀ l : List D, (∀ t ∈ l, LayD t) → plns l = true ∧ PyData.canLayAll0 (pds l) = true ∧ PyData.depthAll (pds l) ≤ hts l
  | [], _ => ⟨rfl, rfl, Nat.le_refl _⟩
  | t :: r, h => by
    obtain ⟨h1, h2, h3⟩ := h t (by simp)
    obtain ⟨i1, i2, i3⟩ := lay_all r fun u hu => h u (List.mem_cons_of_mem _ hu)
    refine ⟨?_, ?_, ?_⟩
    · show (t.pln && plns r) = true
      rw [h1, i1]; rfl
    · show (t.pd.canLay0 && PyData.canLayAll0 (pds r)) = true
      rw [h2, i2]; rfl
    · show max t.pd.depth (PyData.depthAll (pds r)) ≤ max t.ht (hts r)
      omega
theorem arr_lay {t : D} (h : t.Arr) : LayD t := by
  induction h with
  | num i hi => exact ⟨rfl, rfl, Nat.le_refl _⟩
  | node l hl ih =>
    obtain ⟨h1, h2, h3⟩ := lay_all l ih
    exact ⟨h1, h2, Nat.succ_le_succ h3⟩
theorem hts_max {B : Nat} : ∀ l : List D, (∀ t ∈ l, t.ht ≤ B) → hts l ≤ B
  | [], _ => Nat.zero_le _
  | t :: r, h => Nat.max_le.mpr ⟨h t (by simp), hts_max r fun u hu => h u (List.mem_cons_of_mem _ hu)⟩
theorem arrs_shaped {l : List D} (h : ∀ t ∈ l, t.Arr ∧ t.ht ≤ 4) : plns l = true ∧ PySem.SeqAt.shaped (D.list l).pd = true := by
  obtain ⟨h1, h2, h3⟩ := lay_all l fun t ht => arr_lay (h t ht).1
  refine ⟨h1, ?_⟩
  have := hts_max (B := 4) l fun t ht => (h t ht).2
  show (PyData.canLayAll0 (pds l) && decide (PyData.depthAll (pds l) + 1 ≤ 64)) = true
  rw [h2, decide_eq_true (by omega)]; rfl

/-! the groups at the end -/
def hd1 : D → D
  | .list l => l.headD .none
  | _ => .none
def lenD : D → D
  | .list l => .int (l.length : Int)
  | _ => .none
def backD (gs : Grp) : D → D
  | .str k => ((vAt gs k).getD []).headD .none
  | _ => .none
theorem heads_same {os : List D} : (((grp os).map fun g => D.str g.1).map (backD (grp os))) = (((grp os).map fun g => D.list g.2).map hd1) := by
  rw [List.map_map, List.map_map]
  apply List.map_congr_left
  intro g hg
  show ((vAt (grp os) g.1).getD []).headD .none = g.2.headD .none
  rw [vAt_mem (grp_ok os).nodup hg]; rfl
theorem grp_head {os : List D} {g : Str × List D} (hg : g ∈ grp os) : ∃ o, o ∈ os ∧ o.txt = g.1 ∧ g.2.headD .none = o ∧ g.2[0]? = some o := by
  obtain ⟨h2, h3⟩ := (grp_ok os).all g hg
  cases e : g.2 with
  | nil => exact absurd e h3
  | cons o r =>
    have : o ∈ ofTxt os g.1 := by rw [← h2, e]; simp
    obtain ⟨h4, h5⟩ := List.mem_filter.mp this
    exact ⟨o, h4, eq_of_beq h5, rfl, rfl⟩
theorem lens_same {os : List D} {m : Nat} (hm : 0 < m) (h : ∀ o ∈ os, (ofTxt os o.txt).length = m) : (((grp os).map fun g => D.list g.2).map lenD) = (List.replicate (os.length / m) (m : Int)).map D.int := by
  obtain ⟨h1, h2⟩ := grp_even hm h
  rw [List.map_map, ← h2, List.map_replicate]
  rw [List.eq_replicate_iff]
  refine ⟨by rw [List.length_map], fun b hb => ?_⟩
  obtain ⟨g, hg, rfl⟩ := List.mem_map.mp hb
  show D.int (g.2.length : Int) = _
  rw [h1 g hg]
theorem Fm.swap {c : Cfg} {env : Env} {a b : Addr} {ρ : Str → Option Value} {H H₀ : View} {h₀ h : Heap} (σ : Fm c env [a, b] H₀ h₀ ρ H h) : Fm c env [b, a] H₀ h₀ ρ H h := by
  have hm : ∀ x, x ∈ mus env ++ [b, a] → x ∈ mus env ++ [a, b] := fun x hx => by
    simp only [List.mem_append, List.mem_cons, List.not_mem_nil, or_false] at hx ⊢
    rcases hx with q | q | q
    · exact .inl q
    · exact .inr (.inr q)
    · exact .inr (.inl q)
  have hm2 : ∀ x, x ∈ mus env ++ [a, b] → x ∈ mus env ++ [b, a] := fun x hx => by
    simp only [List.mem_append, List.mem_cons, List.not_mem_nil, or_false] at hx ⊢
    rcases hx with q | q | q
    · exact .inl q
    · exact .inr (.inr q)
    · exact .inr (.inl q)
  have he : ∀ x, x ∈ [b, a] → x ∈ [a, b] := fun x hx => by
    simp only [List.mem_cons, List.not_mem_nil, or_false] at hx ⊢
    exact hx.symm
  exact ⟨σ.base.weak hm2, σ.frm, fun x hx => σ.off x (hm x hx), fun x hx => σ.live x (he x hx), fun x hx => σ.apart x (he x hx)⟩
end Mine
namespace Mine
theorem txt_inj {l l' : List D} (h : (D.list l).Arr) (h' : (D.list l').Arr) (e : (D.list l).txt = (D.list l').txt) : l = l' := by
  have h1 := h.runs
  have h2 := h'.runs
  rw [e, h2] at h1
  simpa using h1.symm
mutual
def arrB : D → Bool
  | .int i => decide (0 ≤ i) && decide (i < 10)
  | .list l => arrsB l
  | _ => false
def arrsB : List D → Bool
  | [] => true
  | t :: r => arrB t && arrsB r
end
mutual
theorem arrB_arr : ∀ t : D, arrB t = true → t.Arr
  | .int i, h => by
    have h' : (decide (0 ≤ i) && decide (i < 10)) = true := h
    simp at h'
    have := D.Arr.num i.toNat (by omega)
    rwa [Int.toNat_of_nonneg h'.1] at this
  | .list l, h => .node l (arrsB_arr l h)
  | .none, h => by cases h
  | .bool _, h => by cases h
  | .str _, h => by cases h
  | .tup _, h => by cases h
  | .raw _, h => by cases h
theorem arrsB_arr : ∀ l : List D, arrsB l = true → ∀ t ∈ l, t.Arr
  | _ :: _, h, _, .head _ => by
    rw [arrsB, Bool.and_eq_true] at h
    exact arrB_arr _ h.1
  | _ :: r, h, t, .tail _ ht => by
    rw [arrsB, Bool.and_eq_true] at h
    exact arrsB_arr r h.2 t ht
end
theorem sh_arrB : ∀ (k : Fin 4) (a b : Fin 2), ∀ x ∈ ords (shape k.val a.val b.val), arrB x = true := by decide +kernel
theorem sh_form : ∀ (k : Fin 4) (a b : Fin 2) (k' : Fin 4) (a' b' : Fin 2), form (shape k.val a.val b.val) = form (shape k'.val a'.val b'.val) → stl (shape k.val a.val b.val) = stl (shape k'.val a'.val b'.val) := by decide +kernel
theorem sh_cnt : ∀ (k : Fin 4) (a b : Fin 2) (k' : Fin 4) (a' b' : Fin 2), ∀ q ∈ ords (shape k'.val a'.val b'.val), (ords (shape k.val a.val b.val)).countP (fun x => x.txt == q.txt) = if form (shape k.val a.val b.val) = form (shape k'.val a'.val b'.val) then stl (shape k.val a.val b.val) else 0 := by decide +kernel

theorem txt3 {a b c p q r : D} (ha : a.Arr) (hb : b.Arr) (hc : c.Arr) (hp : p.Arr) (hq : q.Arr) (hr : r.Arr) : ((D.list [a, b, c]).txt == (D.list [p, q, r]).txt) = (a.txt == p.txt && b.txt == q.txt && c.txt == r.txt) := by
  have all3 : ∀ {x y z : D}, x.Arr → y.Arr → z.Arr → (D.list [x, y, z]).Arr := fun hx hy hz => .node _ fun t ht => by
    simp only [List.mem_cons, List.not_mem_nil, or_false] at ht
    rcases ht with rfl | rfl | rfl <;> assumption
  rw [Bool.eq_iff_iff, Bool.and_eq_true, Bool.and_eq_true, beq_iff_eq, beq_iff_eq, beq_iff_eq, beq_iff_eq]
  constructor
  · intro e
    have := txt_inj (all3 ha hb hc) (all3 hp hq hr) e
    simp only [List.cons.injEq, and_true] at this
    obtain ⟨rfl, rfl, rfl⟩ := this
    exact ⟨⟨rfl, rfl⟩, rfl⟩
  · rintro ⟨⟨h1, h2⟩, h3⟩
    rw [D.txt_list, D.txt_list, txts_map, txts_map]
    simp only [List.map_cons, List.map_nil, h1, h2, h3]
theorem count_flat {α β : Type} {F : α → List β} {p : β → Bool} {f : α → Bool} {m : Nat} : ∀ A : List α, (∀ x ∈ A, (F x).countP p = if f x = true then m else 0) → (A.flatMap F).countP p = A.countP f * m
  | [], _ => by simp
  | x :: r, h => by
    have ih := count_flat r fun y hy => h y (List.mem_cons_of_mem _ hy)
    rw [List.flatMap_cons, List.countP_append, ih, h x (by simp), List.countP_cons]
    cases f x with
    | true => rw [if_pos rfl, if_pos rfl, Nat.add_mul, Nat.one_mul, Nat.add_comm]
    | false => rw [if_neg (by decide), if_neg (by decide), Nat.zero_add]; rfl
def T3 (A B C : List D) : List (List D) := A.flatMap fun x => B.flatMap fun y => C.map fun z => [x, y, z]
theorem chs_T3 (s0 s1 s2 : D) : chs [[]] [s0, s1, s2] = T3 (ords s0) (ords s1) (ords s2) := by
  simp only [chs, T3, List.flatMap_cons, List.flatMap_nil, List.append_nil, List.nil_append, List.flatMap_map, List.flatMap_assoc, List.cons_append]
theorem count3 {A B C : List D} {f g h : D → Bool} {p : List D → Bool} (hp : ∀ x ∈ A, ∀ y ∈ B, ∀ z ∈ C, p [x, y, z] = (f x && g y && h z)) : (T3 A B C).countP p = A.countP f * (B.countP g * C.countP h) := by
  refine count_flat A fun x hx => ?_
  rw [count_flat (f := fun y => f x && g y) (m := C.countP h) B fun y hy => ?_]
  · cases e : f x with
    | true => simp
    | false => simp
  · rw [List.countP_map]
    cases e : (f x && g y) with
    | true =>
      rw [if_pos rfl]
      refine List.countP_congr fun z hz => ?_
      show (p [x, y, z] = true ↔ _)
      rw [hp x hx y hy z hz, e, Bool.true_and]
    | false =>
      rw [if_neg (by decide), List.countP_eq_zero]
      intro z hz
      show ¬ p [x, y, z] = true
      rw [hp x hx y hy z hz, e, Bool.false_and]; decide
theorem perms3 : permsN 3 = [[2, 1, 0], [1, 2, 0], [1, 0, 2], [2, 0, 1], [0, 2, 1], [0, 1, 2]] := by decide
theorem ords_T3 (s0 s1 s2 : D) : ords (.list [s0, s1, s2]) = (T3 (ords s0) (ords s1) (ords s2)).map (fun ch => D.list [ch.getD 2 .none, ch.getD 1 .none, ch.getD 0 .none]) ++ ((T3 (ords s0) (ords s1) (ords s2)).map (fun ch => D.list [ch.getD 1 .none, ch.getD 2 .none, ch.getD 0 .none]) ++ ((T3 (ords s0) (ords s1) (ords s2)).map (fun ch => D.list [ch.getD 1 .none, ch.getD 0 .none, ch.getD 2 .none]) ++
    ((T3 (ords s0) (ords s1) (ords s2)).map (fun ch => D.list [ch.getD 2 .none, ch.getD 0 .none, ch.getD 1 .none]) ++ ((T3 (ords s0) (ords s1) (ords s2)).map (fun ch => D.list [ch.getD 0 .none, ch.getD 2 .none, ch.getD 1 .none]) ++ (T3 (ords s0) (ords s1) (ords s2)).map (fun ch => D.list [ch.getD 0 .none, ch.getD 1 .none, ch.getD 2 .none]))))) := by
  rw [ords, chs_T3]
  show (permsN 3).flatMap _ = _
  rw [perms3]
  simp only [List.flatMap_cons, List.flatMap_nil, List.append_nil, List.map_cons, List.map_nil]
/-- how often a text is told -/
theorem count_all {s0 s1 s2 q0 q1 q2 : D} (h0 : ∀ x ∈ ords s0, x.Arr) (h1 : ∀ x ∈ ords s1, x.Arr) (h2 : ∀ x ∈ ords s2, x.Arr) (a0 : q0.Arr) (a1 : q1.Arr) (a2 : q2.Arr) :
    (ofTxt (ords (.list [s0, s1, s2])) (D.list [q0, q1, q2]).txt).length =
      (ords s0).countP (fun x => x.txt == q2.txt) * ((ords s1).countP (fun x => x.txt == q1.txt) * (ords s2).countP (fun x => x.txt == q0.txt)) +
      ((ords s0).countP (fun x => x.txt == q2.txt) * ((ords s1).countP (fun x => x.txt == q0.txt) * (ords s2).countP (fun x => x.txt == q1.txt)) +
      ((ords s0).countP (fun x => x.txt == q1.txt) * ((ords s1).countP (fun x => x.txt == q0.txt) * (ords s2).countP (fun x => x.txt == q2.txt)) +
      ((ords s0).countP (fun x => x.txt == q1.txt) * ((ords s1).countP (fun x => x.txt == q2.txt) * (ords s2).countP (fun x => x.txt == q0.txt)) +
      ((ords s0).countP (fun x => x.txt == q0.txt) * ((ords s1).countP (fun x => x.txt == q2.txt) * (ords s2).countP (fun x => x.txt == q1.txt)) +
      (ords s0).countP (fun x => x.txt == q0.txt) * ((ords s1).countP (fun x => x.txt == q1.txt) * (ords s2).countP (fun x => x.txt == q2.txt)))))) := by
  unfold ofTxt
  rw [← List.countP_eq_length_filter, ords_T3]
  simp only [List.countP_append, List.countP_map]
  congr 1
  · refine count3 fun x hx y hy z hz => ?_
    show ((D.list [z, y, x]).txt == _) = _
    rw [txt3 (h2 z hz) (h1 y hy) (h0 x hx) a0 a1 a2]
    ac_rfl
  congr 1
  · refine count3 fun x hx y hy z hz => ?_
    show ((D.list [y, z, x]).txt == _) = _
    rw [txt3 (h1 y hy) (h2 z hz) (h0 x hx) a0 a1 a2]
    ac_rfl
  congr 1
  · refine count3 fun x hx y hy z hz => ?_
    show ((D.list [y, x, z]).txt == _) = _
    rw [txt3 (h1 y hy) (h0 x hx) (h2 z hz) a0 a1 a2]
    ac_rfl
  congr 1
  · refine count3 fun x hx y hy z hz => ?_
    show ((D.list [z, x, y]).txt == _) = _
    rw [txt3 (h2 z hz) (h0 x hx) (h1 y hy) a0 a1 a2]
    ac_rfl
  congr 1
  · refine count3 fun x hx y hy z hz => ?_
    show ((D.list [x, z, y]).txt == _) = _
    rw [txt3 (h0 x hx) (h2 z hz) (h1 y hy) a0 a1 a2]
    ac_rfl
  · refine count3 fun x hx y hy z hz => ?_
    show ((D.list [x, y, z]).txt == _) = _
    rw [txt3 (h0 x hx) (h1 y hy) (h2 z hz) a0 a1 a2]

/-! the sum over the six orders -/
def cM (f : Str) (m : Nat) (g : Str) : Nat := if f = g then m else 0
def kM (f0 f1 f2 : Str) : Nat := (if f0 = f1 then 2 else 1) * (1 + (if f0 = f2 then 1 else 0) + (if f1 = f2 then 1 else 0))
def sM (f0 f1 f2 : Str) (m0 m1 m2 : Nat) (g0 g1 g2 : Str) : Nat :=
  cM f0 m0 g2 * (cM f1 m1 g1 * cM f2 m2 g0) + (cM f0 m0 g2 * (cM f1 m1 g0 * cM f2 m2 g1) + (cM f0 m0 g1 * (cM f1 m1 g0 * cM f2 m2 g2) + (cM f0 m0 g1 * (cM f1 m1 g2 * cM f2 m2 g0) + (cM f0 m0 g0 * (cM f1 m1 g2 * cM f2 m2 g1) + cM f0 m0 g0 * (cM f1 m1 g1 * cM f2 m2 g2)))))
section
variable {f0 f1 f2 : Str} {m0 m1 m2 : Nat} (e01 : f0 = f1 → m0 = m1) (e02 : f0 = f2 → m0 = m2) (e12 : f1 = f2 → m1 = m2)
include e01 e02 e12
theorem sM_all : sM f0 f1 f2 m0 m1 m2 f0 f1 f2 = m0 * (m1 * (m2 * kM f0 f1 f2)) := by
  unfold sM cM kM
  grind
theorem sM_021 : sM f0 f1 f2 m0 m1 m2 f0 f2 f1 = m0 * (m1 * (m2 * kM f0 f1 f2)) := by
  unfold sM cM kM
  grind
theorem sM_102 : sM f0 f1 f2 m0 m1 m2 f1 f0 f2 = m0 * (m1 * (m2 * kM f0 f1 f2)) := by
  unfold sM cM kM
  grind
theorem sM_120 : sM f0 f1 f2 m0 m1 m2 f1 f2 f0 = m0 * (m1 * (m2 * kM f0 f1 f2)) := by
  unfold sM cM kM
  grind
theorem sM_201 : sM f0 f1 f2 m0 m1 m2 f2 f0 f1 = m0 * (m1 * (m2 * kM f0 f1 f2)) := by
  unfold sM cM kM
  grind
theorem sM_210 : sM f0 f1 f2 m0 m1 m2 f2 f1 f0 = m0 * (m1 * (m2 * kM f0 f1 f2)) := by
  unfold sM cM kM
  grind
end
theorem stl3 (s0 s1 s2 : D) : stl (.list [s0, s1, s2]) = stl s0 * (stl s1 * (stl s2 * kM (form s0) (form s1) (form s2))) := by
  show ((1 * stl s0 * [form s0].countP (· == form s0)) * stl s1 * [form s0, form s1].countP (· == form s1)) * stl s2 * [form s0, form s1, form s2].countP (· == form s2) = _
  unfold kM
  simp only [List.countP_cons, List.countP_nil, beq_self_eq_true, if_true, beq_iff_eq, Nat.zero_add, Nat.one_mul, Nat.mul_one]
  grind
end Mine
namespace Mine
structure Sh (s : D) : Prop where
  ex : ∃ (k : Fin 4) (a b : Fin 2), s = shape k.val a.val b.val
theorem slot_sh (n : Int) : Sh (slotOf n) := by
  obtain ⟨k, ek, lk⟩ := fmod_nat n 4 (by decide)
  obtain ⟨a, ea, la⟩ := fmod_nat (n.fdiv 4) 2 (by decide)
  obtain ⟨b, eb, lb⟩ := fmod_nat (n.fdiv 8) 2 (by decide)
  refine ⟨⟨k, lk⟩, ⟨a, la⟩, ⟨b, lb⟩, ?_⟩
  unfold slotOf
  rw [show n.fmod 4 = (k : Int) from ek, show (n.fdiv 4).fmod 2 = (a : Int) from ea, show (n.fdiv 8).fmod 2 = (b : Int) from eb]; rfl
section
variable {s s' s0 s1 s2 : D}
theorem Sh.arr (x : Sh s) : ∀ o ∈ ords s, o.Arr := by
  obtain ⟨k, a, b, rfl⟩ := x.ex
  exact fun o ho => arrB_arr o (sh_arrB k a b o ho)
theorem Sh.cnt (x : Sh s) (y : Sh s') {q : D} (hq : q ∈ ords s') : (ords s).countP (fun x => x.txt == q.txt) = cM (form s) (stl s) (form s') := by
  obtain ⟨k, a, b, rfl⟩ := x.ex
  obtain ⟨k', a', b', rfl⟩ := y.ex
  exact sh_cnt k a b k' a' b' q hq
theorem Sh.form (x : Sh s) (y : Sh s') : form s = form s' → stl s = stl s' := by
  obtain ⟨k, a, b, rfl⟩ := x.ex
  obtain ⟨k', a', b', rfl⟩ := y.ex
  exact sh_form k a b k' a' b'
theorem Sh.tr (x : Sh s) : s.Tr := by obtain ⟨k, a, b, rfl⟩ := x.ex; exact sh_tr k a b
theorem Sh.len (x : Sh s) : (ords s).length ≤ 2 := by obtain ⟨k, a, b, rfl⟩ := x.ex; exact sh_ords k a b
theorem Sh.stl (x : Sh s) : 0 < stl s ∧ stl s ≤ 2 := by obtain ⟨k, a, b, rfl⟩ := x.ex; exact sh_stl k a b
theorem Sh.sz (x : Sh s) : s.sz ≤ 20 ∧ s.ht ≤ 3 ∧ ∀ o ∈ ords s, o.sz ≤ 20 ∧ o.ht ≤ 3 := by obtain ⟨k, a, b, rfl⟩ := x.ex; exact sh_sz k a b
theorem T3_mem {A B C : List D} {ch : List D} (h : ch ∈ T3 A B C) : ∃ x y z, x ∈ A ∧ y ∈ B ∧ z ∈ C ∧ ch = [x, y, z] := by
  obtain ⟨x, hx, h⟩ := List.mem_flatMap.mp h
  obtain ⟨y, hy, h⟩ := List.mem_flatMap.mp h
  obtain ⟨z, hz, rfl⟩ := List.mem_map.mp h
  exact ⟨x, y, z, hx, hy, hz, rfl⟩
theorem ords_mem {o : D} (h : o ∈ ords (.list [s0, s1, s2])) : ∃ x y z, x ∈ ords s0 ∧ y ∈ ords s1 ∧ z ∈ ords s2 ∧ (o = .list [z, y, x] ∨ o = .list [y, z, x] ∨ o = .list [y, x, z] ∨ o = .list [z, x, y] ∨ o = .list [x, z, y] ∨ o = .list [x, y, z]) := by
  rw [ords_T3] at h
  simp only [List.mem_append, List.mem_map] at h
  rcases h with ⟨ch, hc, rfl⟩ | ⟨ch, hc, rfl⟩ | ⟨ch, hc, rfl⟩ | ⟨ch, hc, rfl⟩ | ⟨ch, hc, rfl⟩ | ⟨ch, hc, rfl⟩ <;> obtain ⟨x, y, z, hx, hy, hz, rfl⟩ := T3_mem hc <;> refine ⟨x, y, z, hx, hy, hz, ?_⟩
  · exact .inl rfl
  · exact .inr (.inl rfl)
  · exact .inr (.inr (.inl rfl))
  · exact .inr (.inr (.inr (.inl rfl)))
  · exact .inr (.inr (.inr (.inr (.inl rfl))))
  · exact .inr (.inr (.inr (.inr (.inr rfl))))
theorem sh_even (x0 : Sh s0) (x1 : Sh s1) (x2 : Sh s2) : ∀ o ∈ ords (.list [s0, s1, s2]), (ofTxt (ords (.list [s0, s1, s2])) o.txt).length = stl (.list [s0, s1, s2]) := by
  intro o ho
  have e01 := x0.form x1
  have e02 := x0.form x2
  have e12 := x1.form x2
  obtain ⟨x, y, z, hx, hy, hz, h⟩ := ords_mem ho
  have ax := x0.arr x hx
  have ay := x1.arr y hy
  have az := x2.arr z hz
  rw [stl3]
  rcases h with rfl | rfl | rfl | rfl | rfl | rfl
  · rw [count_all x0.arr x1.arr x2.arr az ay ax]
    simp only [x0.cnt x0 hx, x0.cnt x1 hy, x0.cnt x2 hz, x1.cnt x0 hx, x1.cnt x1 hy, x1.cnt x2 hz, x2.cnt x0 hx, x2.cnt x1 hy, x2.cnt x2 hz]
    exact sM_210 e01 e02 e12
  · rw [count_all x0.arr x1.arr x2.arr ay az ax]
    simp only [x0.cnt x0 hx, x0.cnt x1 hy, x0.cnt x2 hz, x1.cnt x0 hx, x1.cnt x1 hy, x1.cnt x2 hz, x2.cnt x0 hx, x2.cnt x1 hy, x2.cnt x2 hz]
    exact sM_120 e01 e02 e12
  · rw [count_all x0.arr x1.arr x2.arr ay ax az]
    simp only [x0.cnt x0 hx, x0.cnt x1 hy, x0.cnt x2 hz, x1.cnt x0 hx, x1.cnt x1 hy, x1.cnt x2 hz, x2.cnt x0 hx, x2.cnt x1 hy, x2.cnt x2 hz]
    exact sM_102 e01 e02 e12
  · rw [count_all x0.arr x1.arr x2.arr az ax ay]
    simp only [x0.cnt x0 hx, x0.cnt x1 hy, x0.cnt x2 hz, x1.cnt x0 hx, x1.cnt x1 hy, x1.cnt x2 hz, x2.cnt x0 hx, x2.cnt x1 hy, x2.cnt x2 hz]
    exact sM_201 e01 e02 e12
  · rw [count_all x0.arr x1.arr x2.arr ax az ay]
    simp only [x0.cnt x0 hx, x0.cnt x1 hy, x0.cnt x2 hz, x1.cnt x0 hx, x1.cnt x1 hy, x1.cnt x2 hz, x2.cnt x0 hx, x2.cnt x1 hy, x2.cnt x2 hz]
    exact sM_021 e01 e02 e12
  · rw [count_all x0.arr x1.arr x2.arr ax ay az]
    simp only [x0.cnt x0 hx, x0.cnt x1 hy, x0.cnt x2 hz, x1.cnt x0 hx, x1.cnt x1 hy, x1.cnt x2 hz, x2.cnt x0 hx, x2.cnt x1 hy, x2.cnt x2 hz]
    exact sM_all e01 e02 e12
theorem three {P : D → Prop} {a b c : D} (ha : P a) (hb : P b) (hc : P c) : ∀ t ∈ [a, b, c], P t := fun t ht => by
  simp only [List.mem_cons, List.not_mem_nil, or_false] at ht
  rcases ht with rfl | rfl | rfl <;> assumption
theorem sh_nice (x0 : Sh s0) (x1 : Sh s1) (x2 : Sh s2) : Nice (.list [s0, s1, s2]) := by
  obtain ⟨z0, t0, u0⟩ := x0.sz
  obtain ⟨z1, t1, u1⟩ := x1.sz
  obtain ⟨z2, t2, u2⟩ := x2.sz
  have l0 := x0.len
  have l1 := x1.len
  have l2 := x2.len
  obtain ⟨p0, q0⟩ := x0.stl
  obtain ⟨p1, q1⟩ := x1.stl
  obtain ⟨p2, q2⟩ := x2.stl
  refine ⟨.node _ (Nat.le_refl _) (three x0.tr x1.tr x2.tr) (three (P := fun t => (ords t).length ≤ 48) (by omega) (by omega) (by omega)) (three (P := fun t => Mine.stl t ≤ 100) (by omega) (by omega) (by omega)) ?_, ?_, ?_, ?_, sh_even x0 x1 x2, ?_, ?_⟩
  · show s0.sz + 1 + (s1.sz + 1 + (s2.sz + 1 + 0)) ≤ _
    omega
  · show hts [s0, s1, s2] + 1 ≤ 4
    have := hts_max (B := 3) [s0, s1, s2] (three (P := fun t => t.ht ≤ 3) t0 t1 t2)
    omega
  · intro o ho
    obtain ⟨x, y, z, hx, hy, hz, h⟩ := ords_mem ho
    have ax := x0.arr x hx
    have ay := x1.arr y hy
    have az := x2.arr z hz
    obtain ⟨b0, c0⟩ := u0 x hx
    obtain ⟨b1, c1⟩ := u1 y hy
    obtain ⟨b2, c2⟩ := u2 z hz
    have key : ∀ a b c : D, a.Arr ∧ a.sz ≤ 20 ∧ a.ht ≤ 3 → b.Arr ∧ b.sz ≤ 20 ∧ b.ht ≤ 3 → c.Arr ∧ c.sz ≤ 20 ∧ c.ht ≤ 3 → ∃ lo, D.list [a, b, c] = .list lo ∧ (D.list [a, b, c]).Arr ∧ szs lo ≤ 1000 ∧ (D.list [a, b, c]).ht ≤ 4 := by
      rintro a b c ⟨h1, h2, h3⟩ ⟨h4, h5, h6⟩ ⟨h7, h8, h9⟩
      refine ⟨_, rfl, .node _ (three h1 h4 h7), ?_, ?_⟩
      · show a.sz + 1 + (b.sz + 1 + (c.sz + 1 + 0)) ≤ _
        omega
      · show hts [a, b, c] + 1 ≤ 4
        have := hts_max (B := 3) [a, b, c] (three (P := fun t => t.ht ≤ 3) h3 h6 h9)
        omega
    rcases h with rfl | rfl | rfl | rfl | rfl | rfl <;> exact key _ _ _ (by exact ⟨by assumption, by assumption, by assumption⟩) (by exact ⟨by assumption, by assumption, by assumption⟩) (by exact ⟨by assumption, by assumption, by assumption⟩)
  · have hc := chs_len (B := 2) [s0, s1, s2] [[]] (three (P := fun t => (ords t).length ≤ 2) l0 l1 l2)
    have hp := perms_len 3 (Nat.le_refl _)
    rw [ords]
    refine Nat.le_trans (flat_mul _ (N := 8) _ fun o _ => ?_) (Nat.mul_le_mul_right 8 hp)
    rw [List.length_map]
    exact hc
  · rw [stl3]
    have hk : 0 < kM (Mine.form s0) (Mine.form s1) (Mine.form s2) := by unfold kM; split <;> omega
    exact Nat.mul_pos p0 (Nat.mul_pos p1 (Nat.mul_pos p2 hk))
  · rw [stl3]
    have hk : kM (Mine.form s0) (Mine.form s1) (Mine.form s2) ≤ 6 := by unfold kM; split <;> split <;> split <;> decide
    exact Nat.le_trans (Nat.mul_le_mul q0 (Nat.mul_le_mul q1 (Nat.mul_le_mul q2 hk))) (by decide)
end
theorem nice_all : NiceAll := fun n0 n1 n2 => sh_nice (slot_sh n0) (slot_sh n1) (slot_sh n2)
end Mine
namespace Mine
theorem one_cell {L : Addr} {x : Str} {a : Addr} {o1 : Obj} {sa : Addr} (h1 : o1.data = .cell (some (.ref sa))) (news : List (Addr × Obj)) (hm1 : (L + 1, o1) ∈ news)
    (e : List.lookup x [(Str.ofString "script", L + 1)] = some a) : ∃ o v, (a, o) ∈ news ∧ o.data = .cell v ∧ (x = Str.ofString "script" → v = some (.ref sa)) := by
  rw [List.lookup_cons] at e
  cases hx : (x == Str.ofString "script") with
  | true => rw [hx] at e; cases e; exact ⟨o1, _, hm1, h1, fun _ => rfl⟩
  | false => rw [hx] at e; cases e
theorem apart1 {env : Env} {x1 : Str} {a1 : Addr} (e : env.cells = [(x1, a1)]) : CellsApart env := fun x y b h h' => by
  rw [e] at h h'
  have h1 := look1 h
  have h2 := look1 h'
  rw [h1.1, h2.1]
def JA (c : Cfg) (a1 a2 : Addr) (ns : List Int) (i : Nat) (ρ : Str → Option Value) (H : View) (h : Heap) : Prop :=
  ρ (Str.ofString "tree") = some (.ref a1) ∧ ρ (Str.ofString "texts") = some (.ref a2) ∧ (∃ vs m, h.get? a1 = some (lstO vs m) ∧ RelL H vs.toList ((ns.take i).map slotOf)) ∧ h.DictOf (strKind c.prog c.w) a2 []
def JB (c : Cfg) (a2 : Addr) (v1 v2 : Value) (T : D) (i : Nat) (ρ : Str → Option Value) (H : View) (h : Heap) : Prop :=
  ρ (Str.ofString "orders") = some v1 ∧ ρ (Str.ofString "still") = some v2 ∧ ρ (Str.ofString "texts") = some (.ref a2) ∧ Rel H v1 (.list (ords T)) ∧ Rel H v2 (.int ((stl T : Nat) : Int)) ∧ ∃ kvs, h.DictOf (strKind c.prog c.w) a2 kvs ∧ KV H kvs (grp ((ords T).take i))
theorem fdiv_nat (a b : Nat) : ((a : Int).fdiv (b : Int)).toNat = a / b := by
  rw [Int.fdiv_eq_ediv_of_nonneg _ (Int.natCast_nonneg b)]
  show ((a : Int) / (b : Int)).toNat = _
  rw [← Int.natCast_ediv]; rfl
end Mine
theorem PySem.Challenge.cw_em5011_02_holds : PySem.Challenge.rw_em5011_02.Holds :=
  Mine.hd (by
    w_strict (
      k_go0
      (all_goals try k_fold)
      rename_i w7 hs hlay0 hL8 hr8 hl28 w6 w5 w4 w3 w2 hL9 ra8 w18 r08 hI hr hcA hcB hD h1 tk1 o1 right X0 Xp Tp Kp Fp Np l0
      refine Mine.law_close (s₁ := _) Xp Tp codeHd lifted hI Fp Np (by simp) ?hcells rfl ⟨_, rfl⟩ rfl rfl rfl rfl ?main ?hQ
      case hcells =>
        intro x a e
        exact Mine.one_cell right _ (by simp) e
      case hQ =>
        intro h' tk' hk hg'
        refine ⟨⟨.inl ⟨_, .bool true, [], rfl, fun _ => rfl, .bool true, ?_, fun _ => ⟨List.nodup_nil, fun a ha => by cases ha⟩⟩, hk, rfl, ?_⟩, hg'⟩
        · first | kc_post | wrow_post
        · assumption
      case main =>
        intro c X hw H hG
        have hK := X.hK
        have hlen : w7.length ≤ 63 := by omega
        clear hcA hcB hD hI hr X0 Xp Tp Kp Fp Np l0 right lifted codeHd
        have hLine : sizeLine = 16777216 := by decide
        refine Mine.SR.assignComp (cl := [(Str.ofString "script", _)]) (ds := (List.range 3).map (fun i : Nat => Mine.D.int i)) (p := fun _ => true) (g := fun d => .int (Mine.drawAt w7 (Mine.natOf d))) rfl rfl ⟨rfl, Mine.cells_one rfl (.inl rfl), Mine.kinds_one (.inl rfl)⟩ (by decide) rfl (by decide) rfl (Mine.IT.range rfl (Mine.globB (by rw [hK]; k_is) (by decide +kernel)) Mine.PE.constInt (by decide)) (by decide) ?_ ?_
        · intro C d v H' hd hH r
          obtain ⟨i, hi, rfl⟩ := List.mem_map.mp hd
          refine ⟨.nil, fun _ => ?_⟩
          have hi3 := List.mem_range.mp hi
          have hml : (w7.map Mine.D.int).length = w7.length := List.length_map _
          refine Mine.PE.ifexp (b := decide ((i : Int) < ((w7.map Mine.D.int).length : Int))) (Mine.PT.cmp (Mine.PE.name (v := v) rfl r (.inl rfl)) (Mine.PE.call rfl (Mine.globB (by rw [hK]; k_is) (by decide +kernel)) (.builtin _) (Mine.PEs.one (Mine.PE.name (v := .ref w4) rfl (.raw _) (.inr (.inl rfl)))) (Mine.Fun.lenG (hG.mono hH) (by omega))) Mine.CmpR.ltI) (fun hb => ?_) (fun hb => ?_)
          · have hb' := of_decide_eq_true hb
            refine Mine.PE.idxG (hG.mono hH) (Mine.PE.name (v := .ref w4) rfl (.raw _) (.inr (.inl rfl))) (Mine.PE.name (v := v) rfl r (.inl rfl)) (Mine.draw_in (by omega)) (by omega)
          · have hb' := of_decide_eq_false hb
            refine Mine.PE.idxT (l := [.int 2, .int 10, .int 3]) (Mine.PE.globR (v := .ref 759) (.inl (by rw [hK]; k_is)) (Mine.Rel.ofK (by rw [hK]; k_is) fun H => .cons (.int _ _) (.cons (.int _ _) (.cons (.int _ _) .nil))) rfl) (Mine.PE.name (v := v) rfl r (.inl rfl)) (Mine.draw_out hi3 (by omega)) (by omega)
        intro v H₁ k₁ r₁
        have hd3 : Mine.Rel H₁ v (.list ([Mine.drawAt w7 0, Mine.drawAt w7 1, Mine.drawAt w7 2].map Mine.D.int)) := r₁
        clear r₁ hG
        have N := Mine.nice_all (Mine.drawAt w7 0) (Mine.drawAt w7 1) (Mine.drawAt w7 2)
        generalize Mine.drawAt w7 0 = m0 at *
        generalize Mine.drawAt w7 1 = m1 at *
        generalize Mine.drawAt w7 2 = m2 at *
        refine Mine.SR.of fun A ok s H₂ k₂ σ Q E q => ?_
        have hbig : 1 < s.heap.objs.size := by
          have e759 : ∃ o, c.K.lookup 759 = some o := by rw [hK]; exact ⟨_, by k_is⟩
          obtain ⟨o, e759⟩ := e759
          have e2 := σ.base.inv.le _ _ (σ.base.inv.base _ _ (c.k _ _ e759))
          rcases Nat.lt_or_ge 1 s.heap.objs.size with h | h
          · exact h
          · rw [Heap.get?_none_of_le (Nat.le_trans h (by decide))] at e2; cases e2
        refine Mine.Fs.mkTwo σ ok (Mine.apart1 rfl) (.inl rfl) (.inl rfl) fun a1 a2 h3 t3 τ n1 n2 hne lo hl hd => ?_
        have lo := lo hbig
        refine Mine.Fm.loop (s := { s with heap := h3, toks := t3 }) τ ok rfl (Mine.apart1 rfl) (.inl rfl) (ds := [m0, m1, m2].map Mine.D.int) (Mine.IT.list (Mine.PE.name (v := v) rfl (hd3.mono k₂) (.inl rfl))) (Mine.JA c a1 a2 [m0, m1, m2]) ⟨rfl, rfl, ⟨#[], 0, hl, .nil⟩, hd⟩ ?_ ?_ ?_
        · rintro i ρ' Ha ha Hb hb ⟨e1, e2, ⟨vs, m, g1, g2⟩, g3⟩ hle hkeep
          exact ⟨e1, e2, ⟨vs, m, hkeep _ (by simp) _ g1, g2.mono hle⟩, Heap.DictOf.at g3 fun o e => hkeep _ (by simp) o e⟩
        · rintro i d u ρ' H' s' hd hle ru ⟨e1, e2, ⟨vs, m, g1, g2⟩, g3⟩ σ' Q' E' q'
          have hn : ∃ n : Int, [m0, m1, m2][i]? = some n ∧ d = .int n := by
            rw [List.getElem?_map] at hd
            obtain ⟨n, h1, h2⟩ := Option.map_eq_some_iff.mp hd
            exact ⟨n, h1, h2.symm⟩
          obtain ⟨n, hn, rfl⟩ := hn
          obtain ⟨k, ek, lk⟩ := Mine.fmod_nat n 4 (by decide)
          obtain ⟨a, ea, la⟩ := Mine.fmod_nat (n.fdiv 4) 2 (by decide)
          obtain ⟨b, eb, lb⟩ := Mine.fmod_nat (n.fdiv 8) 2 (by decide)
          have hs : Mine.slotOf n = Mine.shape k a b := by
            unfold Mine.slotOf
            rw [show n.fmod 4 = (k : Int) from ek, show (n.fdiv 4).fmod 2 = (a : Int) from ea, show (n.fdiv 8).fmod 2 = (b : Int) from eb]; rfl
          refine Mine.Fm.unpack2s σ' ok (Mine.apart1 rfl) (.inl rfl) (.inl rfl) (d1 := .int (a : Int)) (d2 := .int (b : Int)) ?_ fun v1 v2 H4 h4 t4 σ4 k4 r1 r2 keep => ?_
          · rw [← ea, ← eb]
            exact Mine.PE.tupD (Mine.PEs.two (Mine.PE.bin (Mine.PE.bin (Mine.PE.name (v := u) rfl ru (.inl rfl)) Mine.PE.constInt (Mine.BinR.floorI (by decide) (by decide))) Mine.PE.constInt (Mine.BinR.modI (by decide))) (Mine.PE.bin (Mine.PE.bin (Mine.PE.name (v := u) rfl ru (.inl rfl)) Mine.PE.constInt (Mine.BinR.floorI (by decide) (by decide))) Mine.PE.constInt (Mine.BinR.modI (by decide)))) (by show 2 ≤ sizeLine; decide)
          have hvs : vs.size ≤ sizeLine := by
            have := g2.length
            rw [List.length_map, List.length_take, Array.length_toList] at this
            have e3 : [m0, m1, m2].length = 3 := rfl
            rw [e3] at this
            omega
          refine Mine.Fm.app (s := { s' with heap := h4, toks := t4 }) (a := a1) (vs := vs) (m := m) (d := Mine.slotOf n) σ4 ok (by simp) e1 rfl (keep _ (by simp) _ g1) hvs ?_ (fun w m' H5 h5 t5 σ5 k5 r5 g5 keep5 => ?_) (.mk (fun _ _ => rfl) (fun _ => rfl) (by decide) (by decide))
          · rw [hs]
            refine Mine.PE.idxT (l := [Mine.nD a, .list [Mine.nD a], .list [Mine.nD a, Mine.nD b], .list [.list [Mine.nD a], Mine.nD b]]) (i := k) ?_ ?_ ?_ (by omega)
            · refine Mine.PE.tupD (.cons (by intro _; rfl) (d := Mine.nD a) (Mine.PE.name (v := v1) rfl r1 (.inl rfl)) (.cons (by intro _; rfl) (Mine.PE.listD (Mine.PEs.one (Mine.PE.name (v := v1) rfl r1 (.inl rfl))) (by show 1 ≤ sizeLine; decide)) (.cons (by intro _; rfl) (Mine.PE.listD (Mine.PEs.two (Mine.PE.name (v := v1) rfl r1 (.inl rfl)) (Mine.PE.name (v := v2) rfl r2 (.inl rfl))) (by show 2 ≤ sizeLine; decide)) (.cons (by intro _; rfl) (Mine.PE.listD (Mine.PEs.two (Mine.PE.listD (Mine.PEs.one (Mine.PE.name (v := v1) rfl r1 (.inl rfl))) (by show 1 ≤ sizeLine; decide)) (Mine.PE.name (v := v2) rfl r2 (.inl rfl))) (by show 2 ≤ sizeLine; decide)) .nil)))) (by show 4 ≤ sizeLine; decide)
            · rw [← ek]
              exact Mine.PE.bin (Mine.PE.name (v := u) rfl (ru.mono k4) (.inl rfl)) Mine.PE.constInt (Mine.BinR.modI (by decide))
            · have : k = 0 ∨ k = 1 ∨ k = 2 ∨ k = 3 := by omega
              rcases this with rfl | rfl | rfl | rfl <;> rfl
          · refine wpAny_execs_nil (q' _ H5 h5 t5 σ5 (k4.trans k5) ⟨e1, e2, ⟨_, m', g5, ?_⟩, ?_⟩)
            · rw [List.take_add_one, hn, List.map_append, Array.toList_push]
              exact ((g2.mono k4).mono k5).append (.cons r5 .nil)
            · exact Heap.DictOf.at g3 fun o e => keep5 a2 (by simp) (Ne.symm hne) o (keep a2 (by simp) o e)
        rintro ρ' H' h' tk' σ' hle ⟨e1, e2, ⟨vs, m, g1, g2⟩, g3⟩
        have g2' : Mine.RelL H' vs.toList [Mine.slotOf m0, Mine.slotOf m1, Mine.slotOf m2] := g2
        clear g2
        obtain ⟨σ5, k5, rt⟩ := σ'.swap.freezeL n1 (fun q => hne (List.mem_singleton.mp q)) g1 g2'
        have nht := N.ht
        have nlen := N.len
        have npos := N.pos
        have ntop := N.top
        generalize Mine.D.list [Mine.slotOf m0, Mine.slotOf m1, Mine.slotOf m2] = T at *
        refine Mine.Fm.unpack2s (s := { s with heap := h', toks := tk' }) σ5 ok (Mine.apart1 rfl) (.inl rfl) (.inl rfl) (d1 := .list (Mine.ords T)) (d2 := .int ((Mine.stl T : Nat) : Int)) (Mine.PE.tupD (Mine.PEs.two (Mine.PE.call rfl (.inl (by rw [hK]; k_is)) (.fn (by rw [hK]; k_is)) (Mine.PEs.one (Mine.PE.name (v := .ref a1) e1 rt (.inl rfl))) ((Mine.orders_sp hK N.tr 30 _).mono (by omega) (.refl _))) (Mine.PE.call rfl (.inl (by rw [hK]; k_is)) (.fn (by rw [hK]; k_is)) (Mine.PEs.one (Mine.PE.name (v := .ref a1) e1 rt (.inl rfl))) ((Mine.still_sp hK N.tr 30 _).mono (by omega) (.refl _)))) (by show 2 ≤ sizeLine; decide)) fun v1 v2 H6 h6 t6 σ6 k6 r1 r2 keep6 => ?_
        refine Mine.Fm.loop (s := { s with heap := h6, toks := t6 }) σ6 ok rfl (Mine.apart1 rfl) (.inl rfl) (ds := Mine.ords T) (Mine.IT.list (Mine.PE.name (v := v1) rfl r1 (.inl rfl))) (Mine.JB c a2 v1 v2 T) ⟨rfl, rfl, e2, r1, r2, [], Heap.DictOf.at g3 fun o e => keep6 a2 (by simp) o e, .nil⟩ ?_ ?_ ?_
        · rintro i ρ'' Ha ha Hb hb ⟨e1, e2, e3, r1, r2, kvs, g1, g2⟩ hle hkeep
          exact ⟨e1, e2, e3, r1.mono hle, r2.mono hle, kvs, Heap.DictOf.at g1 fun o e => hkeep _ (by simp) o e, g2.mono hle⟩
        · rintro i d u ρ'' H' s' hd hle ru ⟨e1, e2, e3, r1, r2, kvs, g1, g2⟩ σ' Q' E' q'
          have hmem := List.mem_of_getElem? hd
          obtain ⟨l, hl, harr, hsz, hht⟩ := N.os d hmem
          have hdz : d.sz ≤ 1000000 := by rw [hl, Mine.D.sz]; omega
          refine Mine.Fm.asg σ' ok (s := s') rfl (Mine.apart1 rfl) (.inl rfl) (d := .str d.txt) (Mine.PE.call rfl (.inl (by rw [hK]; k_is)) (.fn (by rw [hK]; k_is)) (Mine.PEs.one (Mine.PE.name (v := u) rfl ru (.inl rfl))) ((Mine.array_out_sp2 hK harr hdz 30 _).mono (by omega) (.refl _))) fun w H4 h4 t4 σ4 k4 r4 keep4 => ?_
          refine Mine.Fm.group (pD := ⟨0, 0, 0, 0⟩) (s := { s' with heap := h4, toks := t4 }) (k := d.txt) (d := d) (vx := w) (vy := u) σ4 ok (by simp) lo e3 rfl rfl r4 rfl rfl (ru.mono k4) rfl (Heap.DictOf.at g1 fun o e => keep4 a2 (by simp) o e) (g2.mono k4) ?_ ?_ (fun kvs' H5 h5 t5 σ5 k5 g5 kv5 _ => ?_) (.mk (fun _ _ => rfl) (fun _ => rfl) (by decide) (by decide))
          · have h1 := g2.length
            have h2 := Mine.grp_length_le ((Mine.ords T).take i)
            rw [List.length_take] at h2
            omega
          · have h2 := Mine.vAt_len ((Mine.ords T).take i) d.txt
            rw [List.length_take] at h2
            omega
          · refine wpAny_execs_nil (q' _ H5 h5 t5 σ5 (k4.trans k5) ⟨e1, e2, e3, (r1.mono k4).mono k5, (r2.mono k4).mono k5, kvs', g5, ?_⟩)
            rw [List.take_add_one, hd]
            show Mine.KV H5 kvs' (Mine.grp ((Mine.ords T).take i ++ [d]))
            rw [Mine.grp_snoc]; exact kv5
        clear e1 e2 r1 r2 g1 g3 g2' rt σ5 k5 σ' hle nht
        rintro ρ'' H' h' tk' σ' hle ⟨e1, e2, e3, r1, r2, kvs, g1, g2⟩
        rw [List.take_length] at g2
        obtain ⟨o, σ7, k7, fz⟩ := σ'.freezeD n2 List.not_mem_nil lo g1 g2
        have r1 := r1.mono k7
        have r2 := r2.mono k7
        have gl : ∀ g ∈ Mine.grp (Mine.ords T), g.2.length ≤ 48 := fun g hg => by
          obtain ⟨h2, _⟩ := (Mine.grp_ok (Mine.ords T)).all g hg
          have h3 := List.length_filter_le (fun o : Mine.D => o.txt == g.1) (Mine.ords T)
          rw [h2]
          exact Nat.le_trans h3 nlen
        have gn := Mine.grp_length_le (Mine.ords T)
        have hdv := Nat.div_le_self (Mine.ords T).length (Mine.stl T)
        refine σ7.sr (fun b hb => absurd hb List.not_mem_nil) ?_ ok (s := { s with heap := h', toks := tk' }) rfl q
        refine Mine.SR.ifRet (b := false) (Mine.PT.cmp (a := .list ((List.replicate ((Mine.ords T).length / Mine.stl T) ((Mine.stl T : Nat) : Int)).map Mine.D.int)) (b := .list ((List.replicate ((Mine.ords T).length / Mine.stl T) ((Mine.stl T : Nat) : Int)).map Mine.D.int)) ?_ ?_ (Mine.CmpR.neSame (Mine.ints_pln _) (Mine.ints_shaped _))) (fun h => by cases h) fun _ => ?_
        · refine Mine.PE.call rfl (Mine.globB (v := .builtin "sorted") (by rw [hK]; k_is) (by decide +kernel)) (.builtin _) (Mine.PEs.one ?_) (Mine.Fun.sortedSame (a := ((Mine.stl T : Nat) : Int)) (fun x hx => List.eq_of_mem_replicate hx) (by rw [List.length_replicate]; omega))
          rw [← Mine.lens_same N.pos N.even]
          refine Mine.PE.listCompAll (by decide) (by decide) rfl (by decide) rfl (Mine.IT.dictValues fz (Mine.PE.name (v := .ref a2) e3 (.raw _) (.inl rfl)) (.mk (fun _ _ => rfl) (fun _ => rfl) (by decide) (by decide))) (by rw [List.length_map]; omega) ?_
          intro C d u H'' hd hH ru
          obtain ⟨g, hg, rfl⟩ := List.mem_map.mp hd
          have := gl g hg
          exact Mine.PE.call rfl (Mine.globB (by rw [hK]; k_is) (by decide +kernel)) (.builtin _) (Mine.PEs.one (Mine.PE.name (v := u) rfl ru (.inl rfl))) (Mine.Fun.len (by omega))
        · have e : (List.replicate ((Mine.ords T).length / Mine.stl T) ((Mine.stl T : Nat) : Int)).map Mine.D.int = List.replicate ((((Mine.ords T).length : Int)).fdiv ((Mine.stl T : Nat) : Int)).toNat (.int ((Mine.stl T : Nat) : Int)) := by
            rw [Mine.fdiv_nat, List.map_replicate]
          have hx : (((Mine.ords T).length : Int)).fdiv ((Mine.stl T : Nat) : Int) = (((Mine.ords T).length / Mine.stl T : Nat) : Int) := by
            rw [Int.fdiv_eq_ediv_of_nonneg _ (Int.natCast_nonneg _)]; rfl
          rw [e]
          refine Mine.PE.bin (Mine.PE.listD (Mine.PEs.one (Mine.PE.name (v := v2) e2 r2 (.inl rfl))) (by show 1 ≤ sizeLine; decide)) (Mine.PE.bin (a := .int ((Mine.ords T).length : Int)) (Mine.PE.call rfl (Mine.globB (by rw [hK]; k_is) (by decide +kernel)) (.builtin _) (Mine.PEs.one (Mine.PE.name (v := v1) e1 r1 (.inl rfl))) (Mine.Fun.len (by omega))) (Mine.PE.name (v := v2) e2 r2 (.inl rfl)) (Mine.BinR.floorI (by omega) (by omega))) (Mine.BinR.mulOne (by rw [hx]; exact Int.natCast_nonneg _) (by rw [hx]; omega))
        have hos : ∀ g ∈ Mine.grp (Mine.ords T), ∃ o l, o ∈ Mine.ords T ∧ o.txt = g.1 ∧ g.2.headD .none = o ∧ g.2[0]? = some o ∧ o = .list l ∧ o.Arr ∧ Mine.szs l ≤ 1000 ∧ o.ht ≤ 4 := fun g hg => by
          obtain ⟨o, h1, h2, h3, h4⟩ := Mine.grp_head hg
          obtain ⟨l, h5, h6, h7, h8⟩ := N.os o h1
          exact ⟨o, l, h1, h2, h3, h4, h5, h6, h7, h8⟩
        have hsh := Mine.arrs_shaped (l := ((Mine.grp (Mine.ords T)).map fun g => Mine.D.list g.2).map Mine.hd1) (by
          intro t ht
          obtain ⟨d, hd, rfl⟩ := List.mem_map.mp ht
          obtain ⟨g, hg, rfl⟩ := List.mem_map.mp hd
          obtain ⟨o, l, h1, h2, h3, h4, h5, h6, h7, h8⟩ := hos g hg
          show (g.2.headD .none).Arr ∧ (g.2.headD .none).ht ≤ 4
          rw [h3]
          exact ⟨h6, h8⟩)
        refine Mine.SR.ret (Mine.PE.cmp (a := .list (((Mine.grp (Mine.ords T)).map fun g => Mine.D.list g.2).map Mine.hd1)) (b := .list (((Mine.grp (Mine.ords T)).map fun g => Mine.D.list g.2).map Mine.hd1)) ?_ ?_ (Mine.CmpR.eqSame hsh.1 hsh.2))
        · rw [← Mine.heads_same]
          refine Mine.PE.listCompAll (by decide) (by decide) rfl (by decide) rfl (Mine.IT.dictKeys fz (Mine.PE.name (v := .ref a2) e3 (.raw _) (.inl rfl))) (by rw [List.length_map]; omega) ?_
          intro C d u H'' hd hH ru
          obtain ⟨g, hg, rfl⟩ := List.mem_map.mp hd
          obtain ⟨o, l, h1, h2, h3, h4, h5, h6, h7, h8⟩ := hos g hg
          have e : Mine.backD (Mine.grp (Mine.ords T)) (.str g.1) = o := by
            show ((Mine.vAt (Mine.grp (Mine.ords T)) g.1).getD []).headD .none = o
            rw [Mine.vAt_mem (Mine.grp_ok _).nodup hg]
            exact h3
          rw [e]
          rw [← h2] at ru
          subst h5
          exact Mine.PE.call rfl (.inl (by rw [hK]; k_is)) (.fn (by rw [hK]; k_is)) (Mine.PEs.one (Mine.PE.name (v := u) rfl ru (.inl rfl))) (Mine.int_array_in_sp X (n := 34) h6 (by omega))
        · refine Mine.PE.listCompAll (by decide) (by decide) rfl (by decide) rfl (Mine.IT.dictValues fz (Mine.PE.name (v := .ref a2) e3 (.raw _) (.inl rfl)) (.mk (fun _ _ => rfl) (fun _ => rfl) (by decide) (by decide))) (by rw [List.length_map]; omega) ?_
          intro C d u H'' hd hH ru
          obtain ⟨g, hg, rfl⟩ := List.mem_map.mp hd
          obtain ⟨o, l, h1, h2, h3, h4, h5, h6, h7, h8⟩ := hos g hg
          show Mine.PE c _ _ _ H'' _ (g.2.headD .none)
          rw [h3]
          exact Mine.PE.idx (i := 0) (Mine.PE.name (v := u) rfl ru (.inl rfl)) Mine.PE.constInt h4 (by decide)))
