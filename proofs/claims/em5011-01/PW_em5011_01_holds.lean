import PyProof.Rows.All
import Wide.All
import OpenK.AllK
import Wide.FinOn
import PySem.Challenge.RW_em5011_01
open PySem PySem.W PyProof.Rows
set_option Elab.async false
set_option linter.unusedVariables false
set_option maxRecDepth 100000
set_option maxHeartbeats 8000000
open PySem.Calls
namespace Mine

/-! the head in one run over a tree of objects -/

theorem left_of_run {p q : Program} {loose : List Str} {Xt : Shared → Bool} {α : Type} {Yf : Shared → α} {Ya : World → α} {N : Nat} {g0 : Bool} {H₀ : Params → Heap} {gs₀ : Array GenState} {d₀ : Drawn} {k₀ : Nat} {m₀ : Nat} {ann : Option Value} {M : Nat}
    (open_ : ∀ w : World, (fencedOpening treeTable p w N).map (fun s => (s.heap, s.gens, s.drawn, s.toks)) = some (H₀ w.params, gs₀, d₀, k₀))
    (size : ∀ w : World, ((H₀ w.params).isNs mainGlobals && gs₀.size == 0, (H₀ w.params).objs.size, (H₀ w.params).nsMap mainGlobals "__annotations__") = (true, m₀, ann)) (le : Nat.ble M N = true)
    (run : ∀ (w : World) (os : OsState), ∃ r : Shared, topRun treeTable p w m₀ ann M ⟨H₀ w.params, gs₀, d₀, k₀, os⟩ (topStub p) = some r ∧
      (staticsOk (importedModules p.main.body) (H₀ w.params) r.heap && namesBound p r.heap && gensDone r && laidKept (H₀ w.params) r.heap) = true ∧ openSeen q loose (importedModules p.main.body) Xt g0 r = openGood q loose ∧ Yf r = Ya w) :
    LeftO p q loose Xt Yf Ya N g0 := fun w => by
  obtain ⟨⟨h, gs, d, k, os⟩, e, e'⟩ := Option.map_eq_some_iff.mp (open_ w)
  obtain ⟨rfl, rfl, rfl, rfl⟩ : h = H₀ w.params ∧ gs = gs₀ ∧ d = d₀ ∧ k = k₀ := by simpa using e'
  obtain ⟨z1, z2, z3⟩ : _ ∧ _ ∧ _ := by simpa only [Prod.mk.injEq] using size w
  obtain ⟨r, r0, l1, l2, l3⟩ := run w os
  have r1 := topRun_mono (N - M) _ _ _ _ r0
  rw [show M + (N - M) = N by have := Nat.le_of_ble_eq_true le; omega] at r1
  have t : topFrom treeTable p w N ⟨H₀ w.params, gs, d, k, os⟩ = some r := by
    unfold topFrom
    dsimp only
    rw [z1, z2, z3, r1]
    show (match staticsOk (importedModules p.main.body) (H₀ w.params) r.heap && namesBound p r.heap && gensDone r && laidKept (H₀ w.params) r.heap with | true => _ | false => _) = _
    rw [l1]
  unfold openEnds
  rw [e]
  show (topFrom treeTable p w N _).map _ = _
  rw [t]
  exact congrArg some (Prod.ext l2 l3)

def hEnv (p : Program) : Env := { scope := p.main.scope, locals := mainNs, globals := mainNs, cells := [], code := .ref 13, frame := some 14 }
def hCode (p : Program) : Code := .body (behindTheImports p) (hEnv p)
abbrev pos0 : Pos := ⟨0, 0, 0, 0⟩
noncomputable def hTree (P : Params) : BT :=
  ((((((((((((((BT.nil.ins 0 (boot_o_0 P)).ins 1 (boot_o_1 P)).ins 2 (boot_o_2 P)).ins 3 (boot_o_3 P)).ins 4 (boot_o_4 P)).ins 5 (boot_o_5 P)).ins 6 (boot_o_6 P)).ins 7 (boot_o_7 P)).ins 8 (boot_o_8 P)).ins 9 (boot_o_9 P)).ins 10 (boot_o_10 P)).ins 11
    { cls := .type "tuple", data := .seq #[] }).ins 12 { cls := .none, data := .fields #[] }).ins 13 { cls := .type "code", data := .fields #[.str (Str.ofString "<module>") 182, .str (Str.ofString "<module>") 183, .str (Str.ofString "/claim/cut.py") 184, .int 1 0, .int 0 0, .int 0 0, .int 0 0, .int 0 0, .ref 11, .bool false, .int 181 0, .ref 12, .none, .none, .none, .none, .int 185 0, .int 1 0, .str (Str.ofString "/claim/cut.py") 186] }).ins 14 { cls := .type "frame", slots := #[some (.ref 13), some (.ref 3), some (.ref 3), none, some (.str (Str.ofString "__main__") 164), none, some (.ref 0)] }
noncomputable def hS (P : Params) (os : OsState) : SharedT := ⟨hTree P, 15, {}, ⟨[]⟩, boot_drawn, 187, os⟩

theorem fin_done {tb : String → Option Builtin} {p : Program} {w : World} {m₀ : Nat} {ann : Option Value} {s : Shared} {c : Code} {pos : Pos} : topRun tb p w m₀ ann 2 s ⟨doneF .next, c, pos, [topFrame pos0]⟩ = some s := by
  obtain ⟨heap, gens, drawn, toks, os⟩ := s
  rfl

def tget (T : BT) (n : Nat) (a : Nat) : Option Obj := match Nat.blt a n with
  | true => match T.get a with
    | some o => alive o
    | none => none
  | false => none
theorem tget_abs {T : BT} {n : Nat} {life : Life} {a : Nat} {o : Obj} (h : tget T n a = some o) : (absHeap T n life).get? a = some o := by
  unfold tget at h
  cases hb : Nat.blt a n with
  | false => rw [hb] at h; cases h
  | true =>
    rw [hb] at h
    cases hg : T.get a with
    | none => rw [hg] at h; cases h
    | some o' =>
      rw [hg] at h
      have hlt : a < n := by
        have : Nat.ble (a + 1) n = true := hb
        exact Nat.le_of_ble_eq_true this
      rw [abs_get hlt hg]; exact h
theorem tgets_abs {T : BT} {n : Nat} {life : Life} : ∀ (as : List Nat) (vs : List (Option Obj)), (∀ v ∈ vs, v.isSome = true) → as.map (tget T n) = vs → as.map (absHeap T n life).get? = vs
  | [], vs, _, h => by subst h; rfl
  | a :: as, vs, hv, h => by
    subst h
    have h1 := hv (tget T n a) (by simp)
    obtain ⟨o, ho⟩ := Option.isSome_iff_exists.mp h1
    rw [List.map_cons, List.map_cons, ho, tget_abs ho, tgets_abs as _ (fun v hm => hv v (by rw [List.map_cons]; exact List.mem_cons_of_mem _ hm)) rfl]

/-- the run of the text over the tree, and what is looked at behind it -/
def PieceP (p q : Program) (loose : List Str) (Xt : Shared → Bool) (K : Params → Frag) (as ts : List Addr) (n : Nat) (g0 : Bool) (posK : Pos) (ann : Option Value) (w : World) : Prop :=
  (fun os => (segRunT treeTable p w 11 ann 1 n (hS w.params os) (piecesOf (behindTheImports p) (hEnv p) (hCode p) pos0 [topFrame pos0])).map fun r =>
      (r.1, r.2.2, (staticsOk (importedModules p.main.body) (boot_heap w.params) r.2.1.abs.heap && namesBound p r.2.1.abs.heap && gensDone r.2.1.abs && laidKept (boot_heap w.params) r.2.1.abs.heap), openSeen q loose (importedModules p.main.body) Xt g0 r.2.1.abs,
        as.map (tget r.2.1.tree r.2.1.n), ts.map (tget r.2.1.tree r.2.1.n))) =
    fun os => some (.next, (hCode p, posK), true, openGood q loose, (K w.params).map (fun p => some p.2), ts.map fun _ => some (tabObj #[]))

theorem left_of_tree {p q : Program} {loose : List Str} {Xt : Shared → Bool} {K : Params → Frag} {as : List Addr} {e : ∀ P, as = (K P).map (·.1)} {ts : List Addr} {N n : Nat} {g0 : Bool} {posK : Pos} {ann : Option Value}
    (open_ : ∀ w : World, (fencedOpening treeTable p w N).map (fun s => (s.heap, s.gens, s.drawn, s.toks)) = some (boot_heap w.params, ⟨[]⟩, boot_drawn, boot_toks))
    (size : ∀ w : World, ((boot_heap w.params).isNs mainGlobals && (⟨[]⟩ : Array GenState).size == 0, (boot_heap w.params).objs.size, (boot_heap w.params).nsMap mainGlobals "__annotations__") = (true, 11, ann)) (le : Nat.ble (12 + (1 + (n + 2))) N = true)
    (pre : ∀ (w : World), (fun os => topGo treeTable p w 11 ann 12 ⟨boot_heap w.params, ⟨[]⟩, boot_drawn, boot_toks, os⟩ (topStub p)) = fun os => some ((hS w.params os).abs, ⟨denote treeTable (hCode p), hCode p, pos0, [topFrame pos0]⟩))
    (block : ∀ (w : World), (fun os => segRun treeTable p w 11 ann 1 1 (hS w.params os).abs (blockOf (behindTheImports p) (hEnv p) (hCode p) pos0 [topFrame pos0])) = fun os => some (.next, (hS w.params os).abs, hCode p, pos0))
    (piece : ∀ (w : World), PieceP p q loose Xt K as ts n g0 posK ann w) : LeftO p q loose Xt (kmHook K as e ts).obs (kmHook K as e ts).val N g0 := by
  refine left_of_run open_ size le fun w os => ?_
  have e := congrFun (piece w) os
  obtain ⟨⟨f, s', c', p'⟩, e1, e2⟩ := Option.map_eq_some_iff.mp e
  simp only [Prod.mk.injEq] at e2
  obtain ⟨rfl, ⟨rfl, rfl⟩, l1, l2, l3, l4⟩ := e2
  refine ⟨s'.abs, ?_, l1, l2, ?_⟩
  · have h1 := segRun_of e1
    have h2 := piece_nil (tb := treeTable) (p := p) (w := w) (n₀ := 11) (ann := ann) (env := hEnv p) (q := pos0) (fin_done (tb := treeTable) (p := p) (w := w) (m₀ := 11) (ann := ann) (s := s'.abs) (c := hCode p) (pos := p'))
    have h3 := piece_app (rest := []) h1 h2
    rw [List.append_nil] at h3
    have h4 := piece_block (congrFun (block w) os) h3
    exact go_top (congrFun (pre w) os) h4
  · show (as.map s'.abs.heap.get?, ts.map s'.abs.heap.get?) = ((K w.params).map fun p => some p.2, ts.map fun _ => some (tabObj #[]))
    have g1 : as.map s'.abs.heap.get? = (K w.params).map fun p => some p.2 := tgets_abs (life := s'.life) as _ (fun v hv => by obtain ⟨x, _, rfl⟩ := List.mem_map.mp hv; rfl) l3
    have g2 : ts.map s'.abs.heap.get? = ts.map fun _ => some (tabObj #[]) := tgets_abs (life := s'.life) ts _ (fun v hv => by obtain ⟨x, _, rfl⟩ := List.mem_map.mp hv; rfl) l4
    rw [g1, g2]
end Mine
namespace Mine
/-! the run in three parts, with the states between written out -/
def hPick (d : Obj) : Frag → Nat → Obj
  | [], _ => d
  | (b, o) :: r, a => match Nat.beq b a with
    | true => o
    | false => hPick d r a
def RunP (p : Program) (ann : Option Value) (n : Nat) (S S' : Params → OsState → SharedT) (l : List Stmt) (pos pos' : Pos) (w : World) : Prop :=
  (fun os => segRunT treeTable p w 11 ann 1 n (S w.params os) (piecesOf l (hEnv p) (hCode p) pos [topFrame pos0])) = fun os => some (.next, S' w.params os, hCode p, pos')
def EndP (p q : Program) (loose : List Str) (Xt : Shared → Bool) (K : Params → Frag) (as ts : List Addr) (n : Nat) (g0 : Bool) (posK : Pos) (ann : Option Value) (S : Params → OsState → SharedT) (l : List Stmt) (pos : Pos) (w : World) : Prop :=
  (fun os => (segRunT treeTable p w 11 ann 1 n (S w.params os) (piecesOf l (hEnv p) (hCode p) pos [topFrame pos0])).map fun r =>
      (r.1, r.2.2, (staticsOk (importedModules p.main.body) (boot_heap w.params) r.2.1.abs.heap && namesBound p r.2.1.abs.heap && gensDone r.2.1.abs && laidKept (boot_heap w.params) r.2.1.abs.heap), openSeen q loose (importedModules p.main.body) Xt g0 r.2.1.abs,
        as.map (tget r.2.1.tree r.2.1.n), ts.map (tget r.2.1.tree r.2.1.n))) =
    fun os => some (.next, (hCode p, posK), true, openGood q loose, (K w.params).map (fun p => some p.2), ts.map fun _ => some (tabObj #[]))
theorem left_of_three {p q : Program} {loose : List Str} {Xt : Shared → Bool} {K : Params → Frag} {as : List Addr} {e : ∀ P, as = (K P).map (·.1)} {ts : List Addr} {N nA nB nC : Nat} {g0 : Bool} {posK pos1 pos2 : Pos} {ann : Option Value} {S1 S2 : Params → OsState → SharedT} (i j : Nat)
    (open_ : ∀ w : World, (fencedOpening treeTable p w N).map (fun s => (s.heap, s.gens, s.drawn, s.toks)) = some (boot_heap w.params, ⟨[]⟩, boot_drawn, boot_toks))
    (size : ∀ w : World, ((boot_heap w.params).isNs mainGlobals && (⟨[]⟩ : Array GenState).size == 0, (boot_heap w.params).objs.size, (boot_heap w.params).nsMap mainGlobals "__annotations__") = (true, 11, ann)) (le : Nat.ble (12 + (1 + (nA + (nB + (nC + 2))))) N = true)
    (pre : ∀ (w : World), (fun os => topGo treeTable p w 11 ann 12 ⟨boot_heap w.params, ⟨[]⟩, boot_drawn, boot_toks, os⟩ (topStub p)) = fun os => some ((hS w.params os).abs, ⟨denote treeTable (hCode p), hCode p, pos0, [topFrame pos0]⟩))
    (block : ∀ (w : World), (fun os => segRun treeTable p w 11 ann 1 1 (hS w.params os).abs (blockOf (behindTheImports p) (hEnv p) (hCode p) pos0 [topFrame pos0])) = fun os => some (.next, (hS w.params os).abs, hCode p, pos0))
    (pieceA : ∀ (w : World), RunP p ann nA hS S1 ((behindTheImports p).take i) pos0 pos1 w)
    (pieceB : ∀ (w : World), RunP p ann nB S1 S2 (((behindTheImports p).drop i).take j) pos1 pos2 w)
    (pieceC : ∀ (w : World), EndP p q loose Xt K as ts nC g0 posK ann S2 (((behindTheImports p).drop i).drop j) pos2 w) : LeftO p q loose Xt (kmHook K as e ts).obs (kmHook K as e ts).val N g0 := by
  refine left_of_run open_ size le fun w os => ?_
  have e := congrFun (pieceC w) os
  obtain ⟨⟨f, s', c', p'⟩, e1, e2⟩ := Option.map_eq_some_iff.mp e
  simp only [Prod.mk.injEq] at e2
  obtain ⟨rfl, ⟨rfl, rfl⟩, l1, l2, l3, l4⟩ := e2
  refine ⟨s'.abs, ?_, l1, l2, ?_⟩
  · have hA := segRun_of (congrFun (pieceA w) os)
    have hB := segRun_of (congrFun (pieceB w) os)
    have h1 := segRun_of e1
    have h2 := piece_nil (tb := treeTable) (p := p) (w := w) (n₀ := 11) (ann := ann) (env := hEnv p) (q := pos0) (fin_done (tb := treeTable) (p := p) (w := w) (m₀ := 11) (ann := ann) (s := s'.abs) (c := hCode p) (pos := p'))
    have h3 := piece_app (rest := []) h1 h2
    rw [List.append_nil] at h3
    have h3 := piece_app hB h3
    rw [List.take_append_drop] at h3
    have h3 := piece_app hA h3
    rw [List.take_append_drop] at h3
    have h4 := piece_block (congrFun (block w) os) h3
    exact go_top (congrFun (pre w) os) h4
  · show (as.map s'.abs.heap.get?, ts.map s'.abs.heap.get?) = ((K w.params).map fun p => some p.2, ts.map fun _ => some (tabObj #[]))
    have g1 : as.map s'.abs.heap.get? = (K w.params).map fun p => some p.2 := tgets_abs (life := s'.life) as _ (fun v hv => by obtain ⟨x, _, rfl⟩ := List.mem_map.mp hv; rfl) l3
    have g2 : ts.map s'.abs.heap.get? = ts.map fun _ => some (tabObj #[]) := tgets_abs (life := s'.life) ts _ (fun v hv => by obtain ⟨x, _, rfl⟩ := List.mem_map.mp hv; rfl) l4
    rw [g1, g2]
end Mine
namespace Mine
section
local macro_rules
  | `(tactic| refine $f:ident $args*) => do
    if f.getId == `PySem.W.holds_open then `(tactic| exact ($(Lean.mkIdent `no)).elim) else Lean.Macro.throwUnsupported
/-- says nothing: it is there for the view and the written heap that it leaves behind -/
theorem mk (no : False) : PySem.Challenge.rw_em5011_01.Holds := by
  w_on
  o_law
  k_head
end
abbrev hLoose : List Str := [Str.ofString "mappingproxy", Str.ofString "_MEMBERS_VIEW", Str.ofString "EnumType", Str.ofString "Enum", Str.ofString "ParserState", Str.ofString "PY_TYPES"]
abbrev hAs : List Addr := [2, 3, 15, 17, 18, 20, 21, 22, 24, 25, 27, 28, 29, 31, 32, 34, 35, 36, 38, 39, 41, 42, 43, 45, 46, 48, 49, 50, 52, 53, 55, 56, 57, 59, 60, 62, 63, 64, 66, 67, 69, 70, 71, 79, 80, 82, 83, 85, 86, 87, 89, 90, 92, 93, 94, 96, 97, 99, 100, 101, 103, 104, 106, 107, 108, 110, 111, 113, 114, 115, 117, 118, 120, 121, 122, 124, 125, 127, 128, 129, 131, 132, 134, 135, 136, 138, 139, 141, 142, 143, 145, 146, 148, 149, 150, 152, 153, 155, 156, 157, 159, 160, 162, 163, 164, 166, 167, 169, 170, 171, 173, 174, 176, 177, 178, 180, 181, 183, 184, 185, 187, 188, 190, 191, 192, 194, 195, 197, 198, 199, 201, 202, 204, 205, 206, 208, 209, 211, 212, 213, 214, 216, 217, 219, 220, 221, 223, 224, 226, 227, 228, 230, 231, 233, 234, 235, 237, 238, 240, 241, 242, 244, 245, 247, 248, 249, 251, 252, 253, 254, 257, 260, 265, 266, 268, 269, 271, 272, 273, 275, 276, 278, 279, 280, 282, 283, 285, 286, 287, 289, 290, 292, 293, 294, 296, 297, 299, 300, 301, 303, 304, 306, 307, 308, 310, 311, 313, 314, 315, 317, 318, 320, 321, 322, 324, 325, 327, 328, 329, 331, 332, 334, 335, 336, 338, 339, 341, 342, 343, 345, 346, 348, 349, 350, 352, 353, 355, 356, 357, 359, 360, 362, 363, 364, 366, 367, 369, 370, 371, 373, 374, 376, 377, 378, 380, 381, 383, 384, 385, 387, 388, 390, 391, 392, 394, 395, 397, 398, 399, 401, 402, 404, 405, 406, 408, 409, 411, 412, 413, 415, 416, 418, 419, 420, 421, 423, 424, 426, 427, 428, 430, 431, 433, 434, 435, 436, 438, 439, 441, 442, 443, 444, 446, 447, 449, 450, 451, 452, 454, 455, 457, 458, 459, 461, 462, 464, 465, 466, 467, 468, 469, 479, 481, 482, 484, 485, 486, 487, 489, 490, 492, 493, 494, 496, 497, 499, 500, 501, 503, 504, 506, 507, 508, 509, 510, 511, 512, 522, 523, 524, 525, 526, 527, 528, 529, 531, 532, 534, 535, 536, 538, 539, 541, 542, 543, 544, 545, 546, 548, 549, 551, 552, 553, 555, 556, 558, 559, 560, 562, 563, 565, 566, 567, 569, 570, 572, 573, 574, 576, 577, 579, 580, 581, 583, 584, 586, 587, 588, 590, 591, 593, 594, 595, 597, 598, 600, 601, 602, 604, 605, 607, 608, 609, 611, 612, 614, 615, 616, 618, 619, 621, 622, 623, 624, 626, 627, 629, 633, 634, 635, 636, 637, 644, 651, 652, 656, 657, 681, 682, 683, 684, 685, 686, 687, 688, 701, 705, 709, 713, 715, 716, 718, 719, 720, 722, 723, 725, 726, 727, 729, 730, 732, 733, 734, 736, 737, 739, 740, 741, 744, 745, 746, 749, 750, 751, 752, 754, 755, 757, 758, 759, 760, 763, 764, 765, 768, 769, 770, 773, 774]
abbrev hPos : Pos := ⟨480, 0, 496, 78⟩
noncomputable def hOb (P : Params) (a : Nat) : Obj := hPick (boot_o_0 P) (mk.heap_39 P) a
noncomputable def hFd (P : Params) (a : Nat) : FuncData := match (hOb P a).data with
  | .func f => f
  | _ => default
noncomputable def hMo0o3 (P : Params) : Obj := (PySem.Obj.mk (PySem.Value.type "dict") .none (PySem.Data.dict #[(PySem.DictEntry.mk (PySem.PyData.keyHash P (PySem.Str.ofString "__name__")) (PySem.Value.str (PySem.Str.ofString "__name__") 165) (PySem.Value.str (PySem.Str.ofString "enum") 249)), (PySem.DictEntry.mk (PySem.PyData.keyHash P (PySem.Str.ofString "__doc__")) (PySem.Value.str (PySem.Str.ofString "__doc__") 166) PySem.Value.none), (PySem.DictEntry.mk (PySem.PyData.keyHash P (PySem.Str.ofString "__package__")) (PySem.Value.str (PySem.Str.ofString "__package__") 167) PySem.Value.none), (PySem.DictEntry.mk (PySem.PyData.keyHash P (PySem.Str.ofString "__loader__")) (PySem.Value.str (PySem.Str.ofString "__loader__") 168) (PySem.Value.builtin "__main__.__loader__#opaque")), (PySem.DictEntry.mk (PySem.PyData.keyHash P (PySem.Str.ofString "__spec__")) (PySem.Value.str (PySem.Str.ofString "__spec__") 169) PySem.Value.none), (PySem.DictEntry.mk (PySem.PyData.keyHash P (PySem.Str.ofString "__annotations__")) (PySem.Value.str (PySem.Str.ofString "__annotations__") 170) (PySem.Value.ref 6)), (PySem.DictEntry.mk (PySem.PyData.keyHash P (PySem.Str.ofString "__builtins__")) (PySem.Value.str (PySem.Str.ofString "__builtins__") 171) (PySem.Value.ref 4)), (PySem.DictEntry.mk (PySem.PyData.keyHash P (PySem.Str.ofString "__file__")) (PySem.Value.str (PySem.Str.ofString "__file__") 173) (PySem.Value.str (PySem.Str.ofString "/claim/cut.py") 172)), (PySem.DictEntry.mk (PySem.PyData.keyHash P (PySem.Str.ofString "__cached__")) (PySem.Value.str (PySem.Str.ofString "__cached__") 174) PySem.Value.none), (PySem.DictEntry.mk (PySem.PyData.keyHash P (PySem.Str.ofString "_wall")) (PySem.Value.str (PySem.Str.ofString "_wall") 193) (PySem.Value.ref 21)), (PySem.DictEntry.mk (PySem.PyData.keyHash P (PySem.Str.ofString "bool_out")) (PySem.Value.str (PySem.Str.ofString "bool_out") 202) (PySem.Value.ref 28)), (PySem.DictEntry.mk (PySem.PyData.keyHash P (PySem.Str.ofString "bytes_out")) (PySem.Value.str (PySem.Str.ofString "bytes_out") 209) (PySem.Value.ref 35)), (PySem.DictEntry.mk (PySem.PyData.keyHash P (PySem.Str.ofString "int_in")) (PySem.Value.str (PySem.Str.ofString "int_in") 216) (PySem.Value.ref 42)), (PySem.DictEntry.mk (PySem.PyData.keyHash P (PySem.Str.ofString "int_out")) (PySem.Value.str (PySem.Str.ofString "int_out") 223) (PySem.Value.ref 49)), (PySem.DictEntry.mk (PySem.PyData.keyHash P (PySem.Str.ofString "null_out")) (PySem.Value.str (PySem.Str.ofString "null_out") 230) (PySem.Value.ref 56)), (PySem.DictEntry.mk (PySem.PyData.keyHash P (PySem.Str.ofString "range_out")) (PySem.Value.str (PySem.Str.ofString "range_out") 241) (PySem.Value.ref 63)), (PySem.DictEntry.mk (PySem.PyData.keyHash P (PySem.Str.ofString "string_out")) (PySem.Value.str (PySem.Str.ofString "string_out") 248) (PySem.Value.ref 70)), (PySem.DictEntry.mk (PySem.PyData.keyHash P (PySem.Str.ofString "_OWN_NAMES")) (PySem.Value.str (PySem.Str.ofString "_OWN_NAMES") 256) (PySem.Value.ref 71)), (PySem.DictEntry.mk (PySem.PyData.keyHash P (PySem.Str.ofString "mappingproxy")) (PySem.Value.str (PySem.Str.ofString "mappingproxy") 464) (PySem.Value.ref 252)), (PySem.DictEntry.mk (PySem.PyData.keyHash P (PySem.Str.ofString "_MEMBERS_VIEW")) (PySem.Value.str (PySem.Str.ofString "_MEMBERS_VIEW") 465) (PySem.Value.ref 252)), (PySem.DictEntry.mk (PySem.PyData.keyHash P (PySem.Str.ofString "EnumType")) (PySem.Value.str (PySem.Str.ofString "EnumType") 725) (PySem.Value.ref 468))] 21) #[])
noncomputable def hMo0o11 (P : Params) : Obj := (PySem.Obj.mk (PySem.Value.type "tuple") .none (PySem.Data.seq #[] 0) #[])
noncomputable def hMo0o12 (P : Params) : Obj := (PySem.Obj.mk PySem.Value.none .none (PySem.Data.fields #[(PySem.Value.int (1 : Int) 0), (PySem.Value.int (0 : Int) 0), (PySem.Value.ref 20), (PySem.Value.int (5 : Int) 0), (PySem.Value.int (0 : Int) 0), (PySem.Value.ref 27), (PySem.Value.int (7 : Int) 0), (PySem.Value.int (0 : Int) 0), (PySem.Value.ref 34), (PySem.Value.int (9 : Int) 0), (PySem.Value.int (0 : Int) 0), (PySem.Value.ref 41), (PySem.Value.int (11 : Int) 0), (PySem.Value.int (0 : Int) 0), (PySem.Value.ref 48), (PySem.Value.int (13 : Int) 0), (PySem.Value.int (0 : Int) 0), (PySem.Value.ref 55), (PySem.Value.int (15 : Int) 0), (PySem.Value.int (0 : Int) 0), (PySem.Value.ref 62), (PySem.Value.int (24 : Int) 0), (PySem.Value.int (0 : Int) 0), (PySem.Value.ref 69), (PySem.Value.int (28 : Int) 0), (PySem.Value.int (0 : Int) 0), (PySem.Value.ref 77), (PySem.Value.int (110 : Int) 0), (PySem.Value.int (0 : Int) 0), (PySem.Value.ref 263)]) #[])
noncomputable def hMo0o13 (P : Params) : Obj := (PySem.Obj.mk (PySem.Value.type "code") .none (PySem.Data.fields #[(PySem.Value.str (PySem.Str.ofString "<module>") 182), (PySem.Value.str (PySem.Str.ofString "<module>") 183), (PySem.Value.str (PySem.Str.ofString "/claim/cut.py") 184), (PySem.Value.int (1 : Int) 0), (PySem.Value.int (0 : Int) 0), (PySem.Value.int (0 : Int) 0), (PySem.Value.int (0 : Int) 0), (PySem.Value.int (0 : Int) 0), (PySem.Value.ref 11), (PySem.Value.bool Bool.false), (PySem.Value.int (181 : Int) 0), (PySem.Value.ref 12), PySem.Value.none, PySem.Value.none, PySem.Value.none, PySem.Value.none, (PySem.Value.int (185 : Int) 0), (PySem.Value.int (1 : Int) 0), (PySem.Value.str (PySem.Str.ofString "/claim/cut.py") 186)]) #[])
noncomputable def hMo0o14 (P : Params) : Obj := (PySem.Obj.mk (PySem.Value.type "frame") .none PySem.Data.plain #[(.some (PySem.Value.ref 13)), (.some (PySem.Value.ref 3)), (.some (PySem.Value.ref 3)), .none, (.some (PySem.Value.str (PySem.Str.ofString "__main__") 164)), .none, (.some (PySem.Value.ref 0))])
noncomputable def hMo0o16 (P : Params) : Obj := (PySem.Obj.mk PySem.Value.none .none (PySem.Data.fields #[]) #[])
noncomputable def hMo0o19 (P : Params) : Obj := (PySem.Obj.mk PySem.Value.none .none (PySem.Data.func (PySem.FuncData.mk (PySem.Str.ofString "_wall") (PySem.Str.ofString "_wall") (hFd P 21).params (hFd P 21).body (hFd P 21).scope 0 [] PySem.Value.none PySem.Value.none PySem.Value.none PySem.Value.none .none PySem.Value.none PySem.Value.none 0)) #[])
noncomputable def hMo0o23 (P : Params) : Obj := (PySem.Obj.mk PySem.Value.none .none (PySem.Data.fields #[]) #[])
noncomputable def hMo0o26 (P : Params) : Obj := (PySem.Obj.mk PySem.Value.none .none (PySem.Data.func (PySem.FuncData.mk (PySem.Str.ofString "bool_out") (PySem.Str.ofString "bool_out") (hFd P 28).params (hFd P 28).body (hFd P 28).scope 0 [] PySem.Value.none PySem.Value.none PySem.Value.none PySem.Value.none .none PySem.Value.none PySem.Value.none 0)) #[])
noncomputable def hMo0o30 (P : Params) : Obj := (PySem.Obj.mk PySem.Value.none .none (PySem.Data.fields #[]) #[])
noncomputable def hMo0o33 (P : Params) : Obj := (PySem.Obj.mk PySem.Value.none .none (PySem.Data.func (PySem.FuncData.mk (PySem.Str.ofString "bytes_out") (PySem.Str.ofString "bytes_out") (hFd P 35).params (hFd P 35).body (hFd P 35).scope 0 [] PySem.Value.none PySem.Value.none PySem.Value.none PySem.Value.none .none PySem.Value.none PySem.Value.none 0)) #[])
noncomputable def hMo0o37 (P : Params) : Obj := (PySem.Obj.mk PySem.Value.none .none (PySem.Data.fields #[]) #[])
noncomputable def hMo0o40 (P : Params) : Obj := (PySem.Obj.mk PySem.Value.none .none (PySem.Data.func (PySem.FuncData.mk (PySem.Str.ofString "int_in") (PySem.Str.ofString "int_in") (hFd P 42).params (hFd P 42).body (hFd P 42).scope 0 [] PySem.Value.none PySem.Value.none PySem.Value.none PySem.Value.none .none PySem.Value.none PySem.Value.none 0)) #[])
noncomputable def hMo0o44 (P : Params) : Obj := (PySem.Obj.mk PySem.Value.none .none (PySem.Data.fields #[]) #[])
noncomputable def hMo0o47 (P : Params) : Obj := (PySem.Obj.mk PySem.Value.none .none (PySem.Data.func (PySem.FuncData.mk (PySem.Str.ofString "int_out") (PySem.Str.ofString "int_out") (hFd P 49).params (hFd P 49).body (hFd P 49).scope 0 [] PySem.Value.none PySem.Value.none PySem.Value.none PySem.Value.none .none PySem.Value.none PySem.Value.none 0)) #[])
noncomputable def hMo0o51 (P : Params) : Obj := (PySem.Obj.mk PySem.Value.none .none (PySem.Data.fields #[]) #[])
noncomputable def hMo0o54 (P : Params) : Obj := (PySem.Obj.mk PySem.Value.none .none (PySem.Data.func (PySem.FuncData.mk (PySem.Str.ofString "null_out") (PySem.Str.ofString "null_out") (hFd P 56).params (hFd P 56).body (hFd P 56).scope 0 [] PySem.Value.none PySem.Value.none PySem.Value.none PySem.Value.none .none PySem.Value.none PySem.Value.none 0)) #[])
noncomputable def hMo0o58 (P : Params) : Obj := (PySem.Obj.mk PySem.Value.none .none (PySem.Data.fields #[]) #[])
noncomputable def hMo0o61 (P : Params) : Obj := (PySem.Obj.mk PySem.Value.none .none (PySem.Data.func (PySem.FuncData.mk (PySem.Str.ofString "range_out") (PySem.Str.ofString "range_out") (hFd P 63).params (hFd P 63).body (hFd P 63).scope 0 [] PySem.Value.none PySem.Value.none PySem.Value.none PySem.Value.none .none PySem.Value.none PySem.Value.none 0)) #[])
noncomputable def hMo0o65 (P : Params) : Obj := (PySem.Obj.mk PySem.Value.none .none (PySem.Data.fields #[]) #[])
noncomputable def hMo0o68 (P : Params) : Obj := (PySem.Obj.mk PySem.Value.none .none (PySem.Data.func (PySem.FuncData.mk (PySem.Str.ofString "string_out") (PySem.Str.ofString "string_out") (hFd P 70).params (hFd P 70).body (hFd P 70).scope 0 [] PySem.Value.none PySem.Value.none PySem.Value.none PySem.Value.none .none PySem.Value.none PySem.Value.none 0)) #[])
noncomputable def hMo0o72 (P : Params) : Obj := (PySem.Obj.mk (PySem.Value.type "tuple") .none (PySem.Data.seq #[] 0) #[])
noncomputable def hMo0o73 (P : Params) : Obj := (PySem.Obj.mk (PySem.Value.type "builtin_function_or_method") .none (PySem.Data.fields #[(PySem.Value.builtin "type.__prepare__"), (PySem.Value.type "type")]) #[])
noncomputable def hMo0o74 (P : Params) : Obj := (PySem.Obj.mk (PySem.Value.type "dict") .none (PySem.Data.dict #[(PySem.DictEntry.mk (PySem.PyData.keyHash P (PySem.Str.ofString "__module__")) (PySem.Value.str (PySem.Str.ofString "__module__") 264) (PySem.Value.str (PySem.Str.ofString "builtins") 269)), (PySem.DictEntry.mk (PySem.PyData.keyHash P (PySem.Str.ofString "__qualname__")) (PySem.Value.str (PySem.Str.ofString "__qualname__") 266) (PySem.Value.str (PySem.Str.ofString "mappingproxy") 265)), (PySem.DictEntry.mk (PySem.PyData.keyHash P (PySem.Str.ofString "__firstlineno__")) (PySem.Value.str (PySem.Str.ofString "__firstlineno__") 268) (PySem.Value.int (28 : Int) 267)), (PySem.DictEntry.mk (PySem.PyData.keyHash P (PySem.Str.ofString "__slots__")) (PySem.Value.str (PySem.Str.ofString "__slots__") 272) (PySem.Value.ref 79)), (PySem.DictEntry.mk (PySem.PyData.keyHash P (PySem.Str.ofString "__new__")) (PySem.Value.str (PySem.Str.ofString "__new__") 281) (PySem.Value.ref 86)), (PySem.DictEntry.mk (PySem.PyData.keyHash P (PySem.Str.ofString "__reduce_ex__")) (PySem.Value.str (PySem.Str.ofString "__reduce_ex__") 289) (PySem.Value.ref 93)), (PySem.DictEntry.mk (PySem.PyData.keyHash P (PySem.Str.ofString "__getitem__")) (PySem.Value.str (PySem.Str.ofString "__getitem__") 297) (PySem.Value.ref 100)), (PySem.DictEntry.mk (PySem.PyData.keyHash P (PySem.Str.ofString "__len__")) (PySem.Value.str (PySem.Str.ofString "__len__") 304) (PySem.Value.ref 107)), (PySem.DictEntry.mk (PySem.PyData.keyHash P (PySem.Str.ofString "__iter__")) (PySem.Value.str (PySem.Str.ofString "__iter__") 311) (PySem.Value.ref 114)), (PySem.DictEntry.mk (PySem.PyData.keyHash P (PySem.Str.ofString "__reversed__")) (PySem.Value.str (PySem.Str.ofString "__reversed__") 318) (PySem.Value.ref 121)), (PySem.DictEntry.mk (PySem.PyData.keyHash P (PySem.Str.ofString "__contains__")) (PySem.Value.str (PySem.Str.ofString "__contains__") 326) (PySem.Value.ref 128)), (PySem.DictEntry.mk (PySem.PyData.keyHash P (PySem.Str.ofString "__repr__")) (PySem.Value.str (PySem.Str.ofString "__repr__") 333) (PySem.Value.ref 135)), (PySem.DictEntry.mk (PySem.PyData.keyHash P (PySem.Str.ofString "__str__")) (PySem.Value.str (PySem.Str.ofString "__str__") 340) (PySem.Value.ref 142)), (PySem.DictEntry.mk (PySem.PyData.keyHash P (PySem.Str.ofString "__eq__")) (PySem.Value.str (PySem.Str.ofString "__eq__") 348) (PySem.Value.ref 149)), (PySem.DictEntry.mk (PySem.PyData.keyHash P (PySem.Str.ofString "__ne__")) (PySem.Value.str (PySem.Str.ofString "__ne__") 356) (PySem.Value.ref 156)), (PySem.DictEntry.mk (PySem.PyData.keyHash P (PySem.Str.ofString "__lt__")) (PySem.Value.str (PySem.Str.ofString "__lt__") 364) (PySem.Value.ref 163)), (PySem.DictEntry.mk (PySem.PyData.keyHash P (PySem.Str.ofString "__le__")) (PySem.Value.str (PySem.Str.ofString "__le__") 372) (PySem.Value.ref 170)), (PySem.DictEntry.mk (PySem.PyData.keyHash P (PySem.Str.ofString "__gt__")) (PySem.Value.str (PySem.Str.ofString "__gt__") 380) (PySem.Value.ref 177)), (PySem.DictEntry.mk (PySem.PyData.keyHash P (PySem.Str.ofString "__ge__")) (PySem.Value.str (PySem.Str.ofString "__ge__") 388) (PySem.Value.ref 184)), (PySem.DictEntry.mk (PySem.PyData.keyHash P (PySem.Str.ofString "__hash__")) (PySem.Value.str (PySem.Str.ofString "__hash__") 395) (PySem.Value.ref 191)), (PySem.DictEntry.mk (PySem.PyData.keyHash P (PySem.Str.ofString "__or__")) (PySem.Value.str (PySem.Str.ofString "__or__") 403) (PySem.Value.ref 198)), (PySem.DictEntry.mk (PySem.PyData.keyHash P (PySem.Str.ofString "__ror__")) (PySem.Value.str (PySem.Str.ofString "__ror__") 411) (PySem.Value.ref 205)), (PySem.DictEntry.mk (PySem.PyData.keyHash P (PySem.Str.ofString "__ior__")) (PySem.Value.str (PySem.Str.ofString "__ior__") 419) (PySem.Value.ref 212)), (PySem.DictEntry.mk (PySem.PyData.keyHash P (PySem.Str.ofString "get")) (PySem.Value.str (PySem.Str.ofString "get") 428) (PySem.Value.ref 220)), (PySem.DictEntry.mk (PySem.PyData.keyHash P (PySem.Str.ofString "keys")) (PySem.Value.str (PySem.Str.ofString "keys") 435) (PySem.Value.ref 227)), (PySem.DictEntry.mk (PySem.PyData.keyHash P (PySem.Str.ofString "values")) (PySem.Value.str (PySem.Str.ofString "values") 442) (PySem.Value.ref 234)), (PySem.DictEntry.mk (PySem.PyData.keyHash P (PySem.Str.ofString "items")) (PySem.Value.str (PySem.Str.ofString "items") 449) (PySem.Value.ref 241)), (PySem.DictEntry.mk (PySem.PyData.keyHash P (PySem.Str.ofString "copy")) (PySem.Value.str (PySem.Str.ofString "copy") 456) (PySem.Value.ref 248)), (PySem.DictEntry.mk (PySem.PyData.keyHash P (PySem.Str.ofString "__static_attributes__")) (PySem.Value.str (PySem.Str.ofString "__static_attributes__") 458) (PySem.Value.ref 249))] 29) #[])
noncomputable def hMo0o75 (P : Params) : Obj := (PySem.Obj.mk (PySem.Value.type "tuple") .none (PySem.Data.seq #[] 0) #[])
noncomputable def hMo0o76 (P : Params) : Obj := (PySem.Obj.mk PySem.Value.none .none (PySem.Data.fields #[(PySem.Value.int (32 : Int) 0), (PySem.Value.int (4 : Int) 0), (PySem.Value.ref 85), (PySem.Value.int (39 : Int) 0), (PySem.Value.int (4 : Int) 0), (PySem.Value.ref 92), (PySem.Value.int (42 : Int) 0), (PySem.Value.int (4 : Int) 0), (PySem.Value.ref 99), (PySem.Value.int (45 : Int) 0), (PySem.Value.int (4 : Int) 0), (PySem.Value.ref 106), (PySem.Value.int (48 : Int) 0), (PySem.Value.int (4 : Int) 0), (PySem.Value.ref 113), (PySem.Value.int (51 : Int) 0), (PySem.Value.int (4 : Int) 0), (PySem.Value.ref 120), (PySem.Value.int (54 : Int) 0), (PySem.Value.int (4 : Int) 0), (PySem.Value.ref 127), (PySem.Value.int (57 : Int) 0), (PySem.Value.int (4 : Int) 0), (PySem.Value.ref 134), (PySem.Value.int (60 : Int) 0), (PySem.Value.int (4 : Int) 0), (PySem.Value.ref 141), (PySem.Value.int (63 : Int) 0), (PySem.Value.int (4 : Int) 0), (PySem.Value.ref 148), (PySem.Value.int (66 : Int) 0), (PySem.Value.int (4 : Int) 0), (PySem.Value.ref 155), (PySem.Value.int (69 : Int) 0), (PySem.Value.int (4 : Int) 0), (PySem.Value.ref 162), (PySem.Value.int (72 : Int) 0), (PySem.Value.int (4 : Int) 0), (PySem.Value.ref 169), (PySem.Value.int (75 : Int) 0), (PySem.Value.int (4 : Int) 0), (PySem.Value.ref 176), (PySem.Value.int (78 : Int) 0), (PySem.Value.int (4 : Int) 0), (PySem.Value.ref 183), (PySem.Value.int (81 : Int) 0), (PySem.Value.int (4 : Int) 0), (PySem.Value.ref 190), (PySem.Value.int (84 : Int) 0), (PySem.Value.int (4 : Int) 0), (PySem.Value.ref 197), (PySem.Value.int (89 : Int) 0), (PySem.Value.int (4 : Int) 0), (PySem.Value.ref 204), (PySem.Value.int (92 : Int) 0), (PySem.Value.int (4 : Int) 0), (PySem.Value.ref 211), (PySem.Value.int (95 : Int) 0), (PySem.Value.int (4 : Int) 0), (PySem.Value.ref 219), (PySem.Value.int (98 : Int) 0), (PySem.Value.int (4 : Int) 0), (PySem.Value.ref 226), (PySem.Value.int (101 : Int) 0), (PySem.Value.int (4 : Int) 0), (PySem.Value.ref 233), (PySem.Value.int (104 : Int) 0), (PySem.Value.int (4 : Int) 0), (PySem.Value.ref 240), (PySem.Value.int (107 : Int) 0), (PySem.Value.int (4 : Int) 0), (PySem.Value.ref 247)]) #[])
noncomputable def hMo0o77 (P : Params) : Obj := (PySem.Obj.mk (PySem.Value.type "code") .none (PySem.Data.fields #[(PySem.Value.str (PySem.Str.ofString "mappingproxy") 259), (PySem.Value.str (PySem.Str.ofString "mappingproxy") 260), (PySem.Value.str (PySem.Str.ofString "/claim/cut.py") 261), (PySem.Value.int (28 : Int) 0), (PySem.Value.int (0 : Int) 0), (PySem.Value.int (0 : Int) 0), (PySem.Value.int (0 : Int) 0), (PySem.Value.int (0 : Int) 0), (PySem.Value.ref 75), (PySem.Value.bool Bool.false), (PySem.Value.int (181 : Int) 0), (PySem.Value.ref 76), PySem.Value.none, PySem.Value.none, PySem.Value.none, PySem.Value.none, (PySem.Value.int (262 : Int) 0), (PySem.Value.int (28 : Int) 0), (PySem.Value.str (PySem.Str.ofString "/claim/cut.py") 263)]) #[])
noncomputable def hMo0o78 (P : Params) : Obj := (PySem.Obj.mk (PySem.Value.type "frame") .none PySem.Data.plain #[(.some (PySem.Value.ref 77)), (.some (PySem.Value.ref 3)), (.some (PySem.Value.ref 74)), .none, (.some (PySem.Value.str (PySem.Str.ofString "enum") 249)), .none, (.some (PySem.Value.ref 0))])
noncomputable def hMo0o81 (P : Params) : Obj := (PySem.Obj.mk PySem.Value.none .none (PySem.Data.fields #[]) #[])
noncomputable def hMo0o84 (P : Params) : Obj := (PySem.Obj.mk PySem.Value.none .none (PySem.Data.func (PySem.FuncData.mk (PySem.Str.ofString "__new__") (PySem.Str.ofString "mappingproxy.__new__") (hFd P 86).params (hFd P 86).body (hFd P 86).scope 0 [] PySem.Value.none PySem.Value.none PySem.Value.none PySem.Value.none .none PySem.Value.none PySem.Value.none 0)) #[])
noncomputable def hMo0o88 (P : Params) : Obj := (PySem.Obj.mk PySem.Value.none .none (PySem.Data.fields #[]) #[])
noncomputable def hMo0o91 (P : Params) : Obj := (PySem.Obj.mk PySem.Value.none .none (PySem.Data.func (PySem.FuncData.mk (PySem.Str.ofString "__reduce_ex__") (PySem.Str.ofString "mappingproxy.__reduce_ex__") (hFd P 93).params (hFd P 93).body (hFd P 93).scope 0 [] PySem.Value.none PySem.Value.none PySem.Value.none PySem.Value.none .none PySem.Value.none PySem.Value.none 0)) #[])
noncomputable def hMo0o95 (P : Params) : Obj := (PySem.Obj.mk PySem.Value.none .none (PySem.Data.fields #[]) #[])
noncomputable def hMo0o98 (P : Params) : Obj := (PySem.Obj.mk PySem.Value.none .none (PySem.Data.func (PySem.FuncData.mk (PySem.Str.ofString "__getitem__") (PySem.Str.ofString "mappingproxy.__getitem__") (hFd P 100).params (hFd P 100).body (hFd P 100).scope 0 [] PySem.Value.none PySem.Value.none PySem.Value.none PySem.Value.none .none PySem.Value.none PySem.Value.none 0)) #[])
noncomputable def hMo0o102 (P : Params) : Obj := (PySem.Obj.mk PySem.Value.none .none (PySem.Data.fields #[]) #[])
noncomputable def hMo0o105 (P : Params) : Obj := (PySem.Obj.mk PySem.Value.none .none (PySem.Data.func (PySem.FuncData.mk (PySem.Str.ofString "__len__") (PySem.Str.ofString "mappingproxy.__len__") (hFd P 107).params (hFd P 107).body (hFd P 107).scope 0 [] PySem.Value.none PySem.Value.none PySem.Value.none PySem.Value.none .none PySem.Value.none PySem.Value.none 0)) #[])
noncomputable def hMo0o109 (P : Params) : Obj := (PySem.Obj.mk PySem.Value.none .none (PySem.Data.fields #[]) #[])
noncomputable def hMo0o112 (P : Params) : Obj := (PySem.Obj.mk PySem.Value.none .none (PySem.Data.func (PySem.FuncData.mk (PySem.Str.ofString "__iter__") (PySem.Str.ofString "mappingproxy.__iter__") (hFd P 114).params (hFd P 114).body (hFd P 114).scope 0 [] PySem.Value.none PySem.Value.none PySem.Value.none PySem.Value.none .none PySem.Value.none PySem.Value.none 0)) #[])
noncomputable def hMo0o116 (P : Params) : Obj := (PySem.Obj.mk PySem.Value.none .none (PySem.Data.fields #[]) #[])
noncomputable def hMo0o119 (P : Params) : Obj := (PySem.Obj.mk PySem.Value.none .none (PySem.Data.func (PySem.FuncData.mk (PySem.Str.ofString "__reversed__") (PySem.Str.ofString "mappingproxy.__reversed__") (hFd P 121).params (hFd P 121).body (hFd P 121).scope 0 [] PySem.Value.none PySem.Value.none PySem.Value.none PySem.Value.none .none PySem.Value.none PySem.Value.none 0)) #[])
noncomputable def hMo0o123 (P : Params) : Obj := (PySem.Obj.mk PySem.Value.none .none (PySem.Data.fields #[]) #[])
noncomputable def hMo0o126 (P : Params) : Obj := (PySem.Obj.mk PySem.Value.none .none (PySem.Data.func (PySem.FuncData.mk (PySem.Str.ofString "__contains__") (PySem.Str.ofString "mappingproxy.__contains__") (hFd P 128).params (hFd P 128).body (hFd P 128).scope 0 [] PySem.Value.none PySem.Value.none PySem.Value.none PySem.Value.none .none PySem.Value.none PySem.Value.none 0)) #[])
noncomputable def hMo0o130 (P : Params) : Obj := (PySem.Obj.mk PySem.Value.none .none (PySem.Data.fields #[]) #[])
noncomputable def hMo0o133 (P : Params) : Obj := (PySem.Obj.mk PySem.Value.none .none (PySem.Data.func (PySem.FuncData.mk (PySem.Str.ofString "__repr__") (PySem.Str.ofString "mappingproxy.__repr__") (hFd P 135).params (hFd P 135).body (hFd P 135).scope 0 [] PySem.Value.none PySem.Value.none PySem.Value.none PySem.Value.none .none PySem.Value.none PySem.Value.none 0)) #[])
noncomputable def hMo0o137 (P : Params) : Obj := (PySem.Obj.mk PySem.Value.none .none (PySem.Data.fields #[]) #[])
noncomputable def hMo0o140 (P : Params) : Obj := (PySem.Obj.mk PySem.Value.none .none (PySem.Data.func (PySem.FuncData.mk (PySem.Str.ofString "__str__") (PySem.Str.ofString "mappingproxy.__str__") (hFd P 142).params (hFd P 142).body (hFd P 142).scope 0 [] PySem.Value.none PySem.Value.none PySem.Value.none PySem.Value.none .none PySem.Value.none PySem.Value.none 0)) #[])
noncomputable def hMo0o144 (P : Params) : Obj := (PySem.Obj.mk PySem.Value.none .none (PySem.Data.fields #[]) #[])
noncomputable def hMo0o147 (P : Params) : Obj := (PySem.Obj.mk PySem.Value.none .none (PySem.Data.func (PySem.FuncData.mk (PySem.Str.ofString "__eq__") (PySem.Str.ofString "mappingproxy.__eq__") (hFd P 149).params (hFd P 149).body (hFd P 149).scope 0 [] PySem.Value.none PySem.Value.none PySem.Value.none PySem.Value.none .none PySem.Value.none PySem.Value.none 0)) #[])
noncomputable def hMo0o151 (P : Params) : Obj := (PySem.Obj.mk PySem.Value.none .none (PySem.Data.fields #[]) #[])
noncomputable def hMo0o154 (P : Params) : Obj := (PySem.Obj.mk PySem.Value.none .none (PySem.Data.func (PySem.FuncData.mk (PySem.Str.ofString "__ne__") (PySem.Str.ofString "mappingproxy.__ne__") (hFd P 156).params (hFd P 156).body (hFd P 156).scope 0 [] PySem.Value.none PySem.Value.none PySem.Value.none PySem.Value.none .none PySem.Value.none PySem.Value.none 0)) #[])
noncomputable def hMo0o158 (P : Params) : Obj := (PySem.Obj.mk PySem.Value.none .none (PySem.Data.fields #[]) #[])
noncomputable def hMo0o161 (P : Params) : Obj := (PySem.Obj.mk PySem.Value.none .none (PySem.Data.func (PySem.FuncData.mk (PySem.Str.ofString "__lt__") (PySem.Str.ofString "mappingproxy.__lt__") (hFd P 163).params (hFd P 163).body (hFd P 163).scope 0 [] PySem.Value.none PySem.Value.none PySem.Value.none PySem.Value.none .none PySem.Value.none PySem.Value.none 0)) #[])
noncomputable def hMo0o165 (P : Params) : Obj := (PySem.Obj.mk PySem.Value.none .none (PySem.Data.fields #[]) #[])
noncomputable def hMo0o168 (P : Params) : Obj := (PySem.Obj.mk PySem.Value.none .none (PySem.Data.func (PySem.FuncData.mk (PySem.Str.ofString "__le__") (PySem.Str.ofString "mappingproxy.__le__") (hFd P 170).params (hFd P 170).body (hFd P 170).scope 0 [] PySem.Value.none PySem.Value.none PySem.Value.none PySem.Value.none .none PySem.Value.none PySem.Value.none 0)) #[])
noncomputable def hMo0o172 (P : Params) : Obj := (PySem.Obj.mk PySem.Value.none .none (PySem.Data.fields #[]) #[])
noncomputable def hMo0o175 (P : Params) : Obj := (PySem.Obj.mk PySem.Value.none .none (PySem.Data.func (PySem.FuncData.mk (PySem.Str.ofString "__gt__") (PySem.Str.ofString "mappingproxy.__gt__") (hFd P 177).params (hFd P 177).body (hFd P 177).scope 0 [] PySem.Value.none PySem.Value.none PySem.Value.none PySem.Value.none .none PySem.Value.none PySem.Value.none 0)) #[])
noncomputable def hMo0o179 (P : Params) : Obj := (PySem.Obj.mk PySem.Value.none .none (PySem.Data.fields #[]) #[])
noncomputable def hMo0o182 (P : Params) : Obj := (PySem.Obj.mk PySem.Value.none .none (PySem.Data.func (PySem.FuncData.mk (PySem.Str.ofString "__ge__") (PySem.Str.ofString "mappingproxy.__ge__") (hFd P 184).params (hFd P 184).body (hFd P 184).scope 0 [] PySem.Value.none PySem.Value.none PySem.Value.none PySem.Value.none .none PySem.Value.none PySem.Value.none 0)) #[])
noncomputable def hMo0o186 (P : Params) : Obj := (PySem.Obj.mk PySem.Value.none .none (PySem.Data.fields #[]) #[])
noncomputable def hMo0o189 (P : Params) : Obj := (PySem.Obj.mk PySem.Value.none .none (PySem.Data.func (PySem.FuncData.mk (PySem.Str.ofString "__hash__") (PySem.Str.ofString "mappingproxy.__hash__") (hFd P 191).params (hFd P 191).body (hFd P 191).scope 0 [] PySem.Value.none PySem.Value.none PySem.Value.none PySem.Value.none .none PySem.Value.none PySem.Value.none 0)) #[])
noncomputable def hMo0o193 (P : Params) : Obj := (PySem.Obj.mk PySem.Value.none .none (PySem.Data.fields #[]) #[])
noncomputable def hMo0o196 (P : Params) : Obj := (PySem.Obj.mk PySem.Value.none .none (PySem.Data.func (PySem.FuncData.mk (PySem.Str.ofString "__or__") (PySem.Str.ofString "mappingproxy.__or__") (hFd P 198).params (hFd P 198).body (hFd P 198).scope 0 [] PySem.Value.none PySem.Value.none PySem.Value.none PySem.Value.none .none PySem.Value.none PySem.Value.none 0)) #[])
noncomputable def hMo0o200 (P : Params) : Obj := (PySem.Obj.mk PySem.Value.none .none (PySem.Data.fields #[]) #[])
noncomputable def hMo0o203 (P : Params) : Obj := (PySem.Obj.mk PySem.Value.none .none (PySem.Data.func (PySem.FuncData.mk (PySem.Str.ofString "__ror__") (PySem.Str.ofString "mappingproxy.__ror__") (hFd P 205).params (hFd P 205).body (hFd P 205).scope 0 [] PySem.Value.none PySem.Value.none PySem.Value.none PySem.Value.none .none PySem.Value.none PySem.Value.none 0)) #[])
noncomputable def hMo0o207 (P : Params) : Obj := (PySem.Obj.mk PySem.Value.none .none (PySem.Data.fields #[]) #[])
noncomputable def hMo0o210 (P : Params) : Obj := (PySem.Obj.mk PySem.Value.none .none (PySem.Data.func (PySem.FuncData.mk (PySem.Str.ofString "__ior__") (PySem.Str.ofString "mappingproxy.__ior__") (hFd P 212).params (hFd P 212).body (hFd P 212).scope 0 [] PySem.Value.none PySem.Value.none PySem.Value.none PySem.Value.none .none PySem.Value.none PySem.Value.none 0)) #[])
noncomputable def hMo0o215 (P : Params) : Obj := (PySem.Obj.mk PySem.Value.none .none (PySem.Data.fields #[]) #[])
noncomputable def hMo0o218 (P : Params) : Obj := (PySem.Obj.mk PySem.Value.none .none (PySem.Data.func (PySem.FuncData.mk (PySem.Str.ofString "get") (PySem.Str.ofString "mappingproxy.get") (hFd P 220).params (hFd P 220).body (hFd P 220).scope 0 [] PySem.Value.none PySem.Value.none PySem.Value.none PySem.Value.none .none PySem.Value.none PySem.Value.none 0)) #[])
noncomputable def hMo0o222 (P : Params) : Obj := (PySem.Obj.mk PySem.Value.none .none (PySem.Data.fields #[]) #[])
noncomputable def hMo0o225 (P : Params) : Obj := (PySem.Obj.mk PySem.Value.none .none (PySem.Data.func (PySem.FuncData.mk (PySem.Str.ofString "keys") (PySem.Str.ofString "mappingproxy.keys") (hFd P 227).params (hFd P 227).body (hFd P 227).scope 0 [] PySem.Value.none PySem.Value.none PySem.Value.none PySem.Value.none .none PySem.Value.none PySem.Value.none 0)) #[])
noncomputable def hMo0o229 (P : Params) : Obj := (PySem.Obj.mk PySem.Value.none .none (PySem.Data.fields #[]) #[])
noncomputable def hMo0o232 (P : Params) : Obj := (PySem.Obj.mk PySem.Value.none .none (PySem.Data.func (PySem.FuncData.mk (PySem.Str.ofString "values") (PySem.Str.ofString "mappingproxy.values") (hFd P 234).params (hFd P 234).body (hFd P 234).scope 0 [] PySem.Value.none PySem.Value.none PySem.Value.none PySem.Value.none .none PySem.Value.none PySem.Value.none 0)) #[])
noncomputable def hMo0o236 (P : Params) : Obj := (PySem.Obj.mk PySem.Value.none .none (PySem.Data.fields #[]) #[])
noncomputable def hMo0o239 (P : Params) : Obj := (PySem.Obj.mk PySem.Value.none .none (PySem.Data.func (PySem.FuncData.mk (PySem.Str.ofString "items") (PySem.Str.ofString "mappingproxy.items") (hFd P 241).params (hFd P 241).body (hFd P 241).scope 0 [] PySem.Value.none PySem.Value.none PySem.Value.none PySem.Value.none .none PySem.Value.none PySem.Value.none 0)) #[])
noncomputable def hMo0o243 (P : Params) : Obj := (PySem.Obj.mk PySem.Value.none .none (PySem.Data.fields #[]) #[])
noncomputable def hMo0o246 (P : Params) : Obj := (PySem.Obj.mk PySem.Value.none .none (PySem.Data.func (PySem.FuncData.mk (PySem.Str.ofString "copy") (PySem.Str.ofString "mappingproxy.copy") (hFd P 248).params (hFd P 248).body (hFd P 248).scope 0 [] PySem.Value.none PySem.Value.none PySem.Value.none PySem.Value.none .none PySem.Value.none PySem.Value.none 0)) #[])
noncomputable def hMo0o250 (P : Params) : Obj := (PySem.Obj.mk (PySem.Value.type "list") .none (PySem.Data.seq #[(PySem.Value.str (PySem.Str.ofString "_mapping") 271)] 1) #[])
noncomputable def hMo0o255 (P : Params) : Obj := (PySem.Obj.mk (PySem.Value.type "super") .none (PySem.Data.fields #[(PySem.Value.ref 252), (PySem.Value.ref 252), (PySem.Value.ref 252)]) #[])
noncomputable def hMo0o256 (P : Params) : Obj := (PySem.Obj.mk (PySem.Value.type "builtin_function_or_method") .none (PySem.Data.fields #[(PySem.Value.builtin "object.__init_subclass__"), (PySem.Value.ref 252)]) #[])
noncomputable def hMo0o258 (P : Params) : Obj := (PySem.Obj.mk (PySem.Value.type "builtin_function_or_method") .none (PySem.Data.fields #[(PySem.Value.builtin "type.__prepare__"), (PySem.Value.type "type")]) #[])
noncomputable def hMo0o259 (P : Params) : Obj := (PySem.Obj.mk (PySem.Value.type "dict") .none (PySem.Data.dict #[(PySem.DictEntry.mk (PySem.PyData.keyHash P (PySem.Str.ofString "__module__")) (PySem.Value.str (PySem.Str.ofString "__module__") 473) (PySem.Value.str (PySem.Str.ofString "enum") 478)), (PySem.DictEntry.mk (PySem.PyData.keyHash P (PySem.Str.ofString "__qualname__")) (PySem.Value.str (PySem.Str.ofString "__qualname__") 475) (PySem.Value.str (PySem.Str.ofString "EnumType") 474)), (PySem.DictEntry.mk (PySem.PyData.keyHash P (PySem.Str.ofString "__firstlineno__")) (PySem.Value.str (PySem.Str.ofString "__firstlineno__") 477) (PySem.Value.int (110 : Int) 476)), (PySem.DictEntry.mk (PySem.PyData.keyHash P (PySem.Str.ofString "_written_out_")) (PySem.Value.str (PySem.Str.ofString "_written_out_") 481) (PySem.Value.int (0 : Int) 480)), (PySem.DictEntry.mk (PySem.PyData.keyHash P (PySem.Str.ofString "__new__")) (PySem.Value.str (PySem.Str.ofString "__new__") 494) (PySem.Value.ref 272)), (PySem.DictEntry.mk (PySem.PyData.keyHash P (PySem.Str.ofString "_planted_")) (PySem.Value.str (PySem.Str.ofString "_planted_") 503) (PySem.Value.ref 279)), (PySem.DictEntry.mk (PySem.PyData.keyHash P (PySem.Str.ofString "_planted_at_")) (PySem.Value.str (PySem.Str.ofString "_planted_at_") 510) (PySem.Value.ref 286)), (PySem.DictEntry.mk (PySem.PyData.keyHash P (PySem.Str.ofString "_held_value_")) (PySem.Value.str (PySem.Str.ofString "_held_value_") 520) (PySem.Value.ref 293)), (PySem.DictEntry.mk (PySem.PyData.keyHash P (PySem.Str.ofString "_canonical_")) (PySem.Value.str (PySem.Str.ofString "_canonical_") 530) (PySem.Value.ref 300)), (PySem.DictEntry.mk (PySem.PyData.keyHash P (PySem.Str.ofString "_book_value_")) (PySem.Value.str (PySem.Str.ofString "_book_value_") 540) (PySem.Value.ref 307)), (PySem.DictEntry.mk (PySem.PyData.keyHash P (PySem.Str.ofString "_mixed_")) (PySem.Value.str (PySem.Str.ofString "_mixed_") 548) (PySem.Value.ref 314)), (PySem.DictEntry.mk (PySem.PyData.keyHash P (PySem.Str.ofString "_held_def_")) (PySem.Value.str (PySem.Str.ofString "_held_def_") 557) (PySem.Value.ref 321)), (PySem.DictEntry.mk (PySem.PyData.keyHash P (PySem.Str.ofString "_closed_")) (PySem.Value.str (PySem.Str.ofString "_closed_") 564) (PySem.Value.ref 328)), (PySem.DictEntry.mk (PySem.PyData.keyHash P (PySem.Str.ofString "_held_auto_")) (PySem.Value.str (PySem.Str.ofString "_held_auto_") 573) (PySem.Value.ref 335)), (PySem.DictEntry.mk (PySem.PyData.keyHash P (PySem.Str.ofString "_unique_")) (PySem.Value.str (PySem.Str.ofString "_unique_") 580) (PySem.Value.ref 342)), (PySem.DictEntry.mk (PySem.PyData.keyHash P (PySem.Str.ofString "_close_")) (PySem.Value.str (PySem.Str.ofString "_close_") 587) (PySem.Value.ref 349)), (PySem.DictEntry.mk (PySem.PyData.keyHash P (PySem.Str.ofString "_expect_")) (PySem.Value.str (PySem.Str.ofString "_expect_") 595) (PySem.Value.ref 356)), (PySem.DictEntry.mk (PySem.PyData.keyHash P (PySem.Str.ofString "_value_of_")) (PySem.Value.str (PySem.Str.ofString "_value_of_") 604) (PySem.Value.ref 363)), (PySem.DictEntry.mk (PySem.PyData.keyHash P (PySem.Str.ofString "_args_of_")) (PySem.Value.str (PySem.Str.ofString "_args_of_") 612) (PySem.Value.ref 370)), (PySem.DictEntry.mk (PySem.PyData.keyHash P (PySem.Str.ofString "__bool__")) (PySem.Value.str (PySem.Str.ofString "__bool__") 619) (PySem.Value.ref 377)), (PySem.DictEntry.mk (PySem.PyData.keyHash P (PySem.Str.ofString "__call__")) (PySem.Value.str (PySem.Str.ofString "__call__") 628) (PySem.Value.ref 384)), (PySem.DictEntry.mk (PySem.PyData.keyHash P (PySem.Str.ofString "__contains__")) (PySem.Value.str (PySem.Str.ofString "__contains__") 637) (PySem.Value.ref 391)), (PySem.DictEntry.mk (PySem.PyData.keyHash P (PySem.Str.ofString "__getitem__")) (PySem.Value.str (PySem.Str.ofString "__getitem__") 645) (PySem.Value.ref 398)), (PySem.DictEntry.mk (PySem.PyData.keyHash P (PySem.Str.ofString "__iter__")) (PySem.Value.str (PySem.Str.ofString "__iter__") 653) (PySem.Value.ref 405)), (PySem.DictEntry.mk (PySem.PyData.keyHash P (PySem.Str.ofString "__len__")) (PySem.Value.str (PySem.Str.ofString "__len__") 660) (PySem.Value.ref 412)), (PySem.DictEntry.mk (PySem.PyData.keyHash P (PySem.Str.ofString "__members__")) (PySem.Value.str (PySem.Str.ofString "__members__") 668) (PySem.Value.ref 420)), (PySem.DictEntry.mk (PySem.PyData.keyHash P (PySem.Str.ofString "__repr__")) (PySem.Value.str (PySem.Str.ofString "__repr__") 675) (PySem.Value.ref 427)), (PySem.DictEntry.mk (PySem.PyData.keyHash P (PySem.Str.ofString "__reversed__")) (PySem.Value.str (PySem.Str.ofString "__reversed__") 683) (PySem.Value.ref 434)), (PySem.DictEntry.mk (PySem.PyData.keyHash P (PySem.Str.ofString "__setattr__")) (PySem.Value.str (PySem.Str.ofString "__setattr__") 693) (PySem.Value.ref 442)), (PySem.DictEntry.mk (PySem.PyData.keyHash P (PySem.Str.ofString "__delattr__")) (PySem.Value.str (PySem.Str.ofString "__delattr__") 702) (PySem.Value.ref 450)), (PySem.DictEntry.mk (PySem.PyData.keyHash P (PySem.Str.ofString "_store_")) (PySem.Value.str (PySem.Str.ofString "_store_") 712) (PySem.Value.ref 458)), (PySem.DictEntry.mk (PySem.PyData.keyHash P (PySem.Str.ofString "__dir__")) (PySem.Value.str (PySem.Str.ofString "__dir__") 719) (PySem.Value.ref 465)), (PySem.DictEntry.mk (PySem.PyData.keyHash P (PySem.Str.ofString "__static_attributes__")) (PySem.Value.str (PySem.Str.ofString "__static_attributes__") 720) (PySem.Value.ref 466)), (PySem.DictEntry.mk (PySem.PyData.keyHash P (PySem.Str.ofString "__classcell__")) (PySem.Value.str (PySem.Str.ofString "__classcell__") 721) (PySem.Value.ref 260))] 34) #[])
noncomputable def hMo0o261 (P : Params) : Obj := (PySem.Obj.mk (PySem.Value.type "tuple") .none (PySem.Data.seq #[] 0) #[])
noncomputable def hMo0o262 (P : Params) : Obj := (PySem.Obj.mk PySem.Value.none .none (PySem.Data.fields #[(PySem.Value.int (114 : Int) 0), (PySem.Value.int (4 : Int) 0), (PySem.Value.ref 271), (PySem.Value.int (123 : Int) 0), (PySem.Value.int (4 : Int) 0), (PySem.Value.ref 278), (PySem.Value.int (135 : Int) 0), (PySem.Value.int (4 : Int) 0), (PySem.Value.ref 285), (PySem.Value.int (138 : Int) 0), (PySem.Value.int (4 : Int) 0), (PySem.Value.ref 292), (PySem.Value.int (141 : Int) 0), (PySem.Value.int (4 : Int) 0), (PySem.Value.ref 299), (PySem.Value.int (144 : Int) 0), (PySem.Value.int (4 : Int) 0), (PySem.Value.ref 306), (PySem.Value.int (147 : Int) 0), (PySem.Value.int (4 : Int) 0), (PySem.Value.ref 313), (PySem.Value.int (150 : Int) 0), (PySem.Value.int (4 : Int) 0), (PySem.Value.ref 320), (PySem.Value.int (153 : Int) 0), (PySem.Value.int (4 : Int) 0), (PySem.Value.ref 327), (PySem.Value.int (156 : Int) 0), (PySem.Value.int (4 : Int) 0), (PySem.Value.ref 334), (PySem.Value.int (159 : Int) 0), (PySem.Value.int (4 : Int) 0), (PySem.Value.ref 341), (PySem.Value.int (162 : Int) 0), (PySem.Value.int (4 : Int) 0), (PySem.Value.ref 348), (PySem.Value.int (165 : Int) 0), (PySem.Value.int (4 : Int) 0), (PySem.Value.ref 355), (PySem.Value.int (168 : Int) 0), (PySem.Value.int (4 : Int) 0), (PySem.Value.ref 362), (PySem.Value.int (171 : Int) 0), (PySem.Value.int (4 : Int) 0), (PySem.Value.ref 369), (PySem.Value.int (174 : Int) 0), (PySem.Value.int (4 : Int) 0), (PySem.Value.ref 376), (PySem.Value.int (177 : Int) 0), (PySem.Value.int (4 : Int) 0), (PySem.Value.ref 383), (PySem.Value.int (190 : Int) 0), (PySem.Value.int (4 : Int) 0), (PySem.Value.ref 390), (PySem.Value.int (201 : Int) 0), (PySem.Value.int (4 : Int) 0), (PySem.Value.ref 397), (PySem.Value.int (204 : Int) 0), (PySem.Value.int (4 : Int) 0), (PySem.Value.ref 404), (PySem.Value.int (207 : Int) 0), (PySem.Value.int (4 : Int) 0), (PySem.Value.ref 411), (PySem.Value.int (211 : Int) 0), (PySem.Value.int (4 : Int) 0), (PySem.Value.ref 418), (PySem.Value.int (214 : Int) 0), (PySem.Value.int (4 : Int) 0), (PySem.Value.ref 426), (PySem.Value.int (220 : Int) 0), (PySem.Value.int (4 : Int) 0), (PySem.Value.ref 433), (PySem.Value.int (223 : Int) 0), (PySem.Value.int (4 : Int) 0), (PySem.Value.ref 441), (PySem.Value.int (230 : Int) 0), (PySem.Value.int (4 : Int) 0), (PySem.Value.ref 449), (PySem.Value.int (235 : Int) 0), (PySem.Value.int (4 : Int) 0), (PySem.Value.ref 457), (PySem.Value.int (238 : Int) 0), (PySem.Value.int (4 : Int) 0), (PySem.Value.ref 464)]) #[])
noncomputable def hMo0o263 (P : Params) : Obj := (PySem.Obj.mk (PySem.Value.type "code") .none (PySem.Data.fields #[(PySem.Value.str (PySem.Str.ofString "EnumType") 468), (PySem.Value.str (PySem.Str.ofString "EnumType") 469), (PySem.Value.str (PySem.Str.ofString "/claim/cut.py") 470), (PySem.Value.int (110 : Int) 0), (PySem.Value.int (0 : Int) 0), (PySem.Value.int (0 : Int) 0), (PySem.Value.int (0 : Int) 0), (PySem.Value.int (0 : Int) 0), (PySem.Value.ref 261), (PySem.Value.bool Bool.false), (PySem.Value.int (181 : Int) 0), (PySem.Value.ref 262), PySem.Value.none, PySem.Value.none, PySem.Value.none, PySem.Value.none, (PySem.Value.int (471 : Int) 0), (PySem.Value.int (110 : Int) 0), (PySem.Value.str (PySem.Str.ofString "/claim/cut.py") 472)]) #[])
noncomputable def hMo0o264 (P : Params) : Obj := (PySem.Obj.mk (PySem.Value.type "frame") .none PySem.Data.plain #[(.some (PySem.Value.ref 263)), (.some (PySem.Value.ref 3)), (.some (PySem.Value.ref 259)), .none, (.some (PySem.Value.str (PySem.Str.ofString "enum") 249)), .none, (.some (PySem.Value.ref 0))])
noncomputable def hMo0o267 (P : Params) : Obj := (PySem.Obj.mk PySem.Value.none .none (PySem.Data.fields #[]) #[])
noncomputable def hMo0o270 (P : Params) : Obj := (PySem.Obj.mk PySem.Value.none .none (PySem.Data.func (PySem.FuncData.mk (PySem.Str.ofString "__new__") (PySem.Str.ofString "EnumType.__new__") (hFd P 272).params (hFd P 272).body (hFd P 272).scope 0 [] PySem.Value.none PySem.Value.none PySem.Value.none PySem.Value.none .none PySem.Value.none PySem.Value.none 0)) #[])
noncomputable def hMo0o274 (P : Params) : Obj := (PySem.Obj.mk PySem.Value.none .none (PySem.Data.fields #[]) #[])
noncomputable def hMo0o277 (P : Params) : Obj := (PySem.Obj.mk PySem.Value.none .none (PySem.Data.func (PySem.FuncData.mk (PySem.Str.ofString "_planted_") (PySem.Str.ofString "EnumType._planted_") (hFd P 279).params (hFd P 279).body (hFd P 279).scope 0 [] PySem.Value.none PySem.Value.none PySem.Value.none PySem.Value.none .none PySem.Value.none PySem.Value.none 0)) #[])
noncomputable def hMo0o281 (P : Params) : Obj := (PySem.Obj.mk PySem.Value.none .none (PySem.Data.fields #[]) #[])
noncomputable def hMo0o284 (P : Params) : Obj := (PySem.Obj.mk PySem.Value.none .none (PySem.Data.func (PySem.FuncData.mk (PySem.Str.ofString "_planted_at_") (PySem.Str.ofString "EnumType._planted_at_") (hFd P 286).params (hFd P 286).body (hFd P 286).scope 0 [] PySem.Value.none PySem.Value.none PySem.Value.none PySem.Value.none .none PySem.Value.none PySem.Value.none 0)) #[])
noncomputable def hMo0o288 (P : Params) : Obj := (PySem.Obj.mk PySem.Value.none .none (PySem.Data.fields #[]) #[])
noncomputable def hMo0o291 (P : Params) : Obj := (PySem.Obj.mk PySem.Value.none .none (PySem.Data.func (PySem.FuncData.mk (PySem.Str.ofString "_held_value_") (PySem.Str.ofString "EnumType._held_value_") (hFd P 293).params (hFd P 293).body (hFd P 293).scope 0 [] PySem.Value.none PySem.Value.none PySem.Value.none PySem.Value.none .none PySem.Value.none PySem.Value.none 0)) #[])
noncomputable def hMo0o295 (P : Params) : Obj := (PySem.Obj.mk PySem.Value.none .none (PySem.Data.fields #[]) #[])
noncomputable def hMo0o298 (P : Params) : Obj := (PySem.Obj.mk PySem.Value.none .none (PySem.Data.func (PySem.FuncData.mk (PySem.Str.ofString "_canonical_") (PySem.Str.ofString "EnumType._canonical_") (hFd P 300).params (hFd P 300).body (hFd P 300).scope 0 [] PySem.Value.none PySem.Value.none PySem.Value.none PySem.Value.none .none PySem.Value.none PySem.Value.none 0)) #[])
noncomputable def hMo0o302 (P : Params) : Obj := (PySem.Obj.mk PySem.Value.none .none (PySem.Data.fields #[]) #[])
noncomputable def hMo0o305 (P : Params) : Obj := (PySem.Obj.mk PySem.Value.none .none (PySem.Data.func (PySem.FuncData.mk (PySem.Str.ofString "_book_value_") (PySem.Str.ofString "EnumType._book_value_") (hFd P 307).params (hFd P 307).body (hFd P 307).scope 0 [] PySem.Value.none PySem.Value.none PySem.Value.none PySem.Value.none .none PySem.Value.none PySem.Value.none 0)) #[])
noncomputable def hMo0o309 (P : Params) : Obj := (PySem.Obj.mk PySem.Value.none .none (PySem.Data.fields #[]) #[])
noncomputable def hMo0o312 (P : Params) : Obj := (PySem.Obj.mk PySem.Value.none .none (PySem.Data.func (PySem.FuncData.mk (PySem.Str.ofString "_mixed_") (PySem.Str.ofString "EnumType._mixed_") (hFd P 314).params (hFd P 314).body (hFd P 314).scope 0 [] PySem.Value.none PySem.Value.none PySem.Value.none PySem.Value.none .none PySem.Value.none PySem.Value.none 0)) #[])
noncomputable def hMo0o316 (P : Params) : Obj := (PySem.Obj.mk PySem.Value.none .none (PySem.Data.fields #[]) #[])
noncomputable def hMo0o319 (P : Params) : Obj := (PySem.Obj.mk PySem.Value.none .none (PySem.Data.func (PySem.FuncData.mk (PySem.Str.ofString "_held_def_") (PySem.Str.ofString "EnumType._held_def_") (hFd P 321).params (hFd P 321).body (hFd P 321).scope 0 [] PySem.Value.none PySem.Value.none PySem.Value.none PySem.Value.none .none PySem.Value.none PySem.Value.none 0)) #[])
noncomputable def hMo0o323 (P : Params) : Obj := (PySem.Obj.mk PySem.Value.none .none (PySem.Data.fields #[]) #[])
noncomputable def hMo0o326 (P : Params) : Obj := (PySem.Obj.mk PySem.Value.none .none (PySem.Data.func (PySem.FuncData.mk (PySem.Str.ofString "_closed_") (PySem.Str.ofString "EnumType._closed_") (hFd P 328).params (hFd P 328).body (hFd P 328).scope 0 [] PySem.Value.none PySem.Value.none PySem.Value.none PySem.Value.none .none PySem.Value.none PySem.Value.none 0)) #[])
noncomputable def hMo0o330 (P : Params) : Obj := (PySem.Obj.mk PySem.Value.none .none (PySem.Data.fields #[]) #[])
noncomputable def hMo0o333 (P : Params) : Obj := (PySem.Obj.mk PySem.Value.none .none (PySem.Data.func (PySem.FuncData.mk (PySem.Str.ofString "_held_auto_") (PySem.Str.ofString "EnumType._held_auto_") (hFd P 335).params (hFd P 335).body (hFd P 335).scope 0 [] PySem.Value.none PySem.Value.none PySem.Value.none PySem.Value.none .none PySem.Value.none PySem.Value.none 0)) #[])
noncomputable def hMo0o337 (P : Params) : Obj := (PySem.Obj.mk PySem.Value.none .none (PySem.Data.fields #[]) #[])
noncomputable def hMo0o340 (P : Params) : Obj := (PySem.Obj.mk PySem.Value.none .none (PySem.Data.func (PySem.FuncData.mk (PySem.Str.ofString "_unique_") (PySem.Str.ofString "EnumType._unique_") (hFd P 342).params (hFd P 342).body (hFd P 342).scope 0 [] PySem.Value.none PySem.Value.none PySem.Value.none PySem.Value.none .none PySem.Value.none PySem.Value.none 0)) #[])
noncomputable def hMo0o344 (P : Params) : Obj := (PySem.Obj.mk PySem.Value.none .none (PySem.Data.fields #[]) #[])
noncomputable def hMo0o347 (P : Params) : Obj := (PySem.Obj.mk PySem.Value.none .none (PySem.Data.func (PySem.FuncData.mk (PySem.Str.ofString "_close_") (PySem.Str.ofString "EnumType._close_") (hFd P 349).params (hFd P 349).body (hFd P 349).scope 0 [] PySem.Value.none PySem.Value.none PySem.Value.none PySem.Value.none .none PySem.Value.none PySem.Value.none 0)) #[])
noncomputable def hMo0o351 (P : Params) : Obj := (PySem.Obj.mk PySem.Value.none .none (PySem.Data.fields #[]) #[])
noncomputable def hMo0o354 (P : Params) : Obj := (PySem.Obj.mk PySem.Value.none .none (PySem.Data.func (PySem.FuncData.mk (PySem.Str.ofString "_expect_") (PySem.Str.ofString "EnumType._expect_") (hFd P 356).params (hFd P 356).body (hFd P 356).scope 0 [] PySem.Value.none PySem.Value.none PySem.Value.none PySem.Value.none .none PySem.Value.none PySem.Value.none 0)) #[])
noncomputable def hMo0o358 (P : Params) : Obj := (PySem.Obj.mk PySem.Value.none .none (PySem.Data.fields #[]) #[])
noncomputable def hMo0o361 (P : Params) : Obj := (PySem.Obj.mk PySem.Value.none .none (PySem.Data.func (PySem.FuncData.mk (PySem.Str.ofString "_value_of_") (PySem.Str.ofString "EnumType._value_of_") (hFd P 363).params (hFd P 363).body (hFd P 363).scope 0 [] PySem.Value.none PySem.Value.none PySem.Value.none PySem.Value.none .none PySem.Value.none PySem.Value.none 0)) #[])
noncomputable def hMo0o365 (P : Params) : Obj := (PySem.Obj.mk PySem.Value.none .none (PySem.Data.fields #[]) #[])
noncomputable def hMo0o368 (P : Params) : Obj := (PySem.Obj.mk PySem.Value.none .none (PySem.Data.func (PySem.FuncData.mk (PySem.Str.ofString "_args_of_") (PySem.Str.ofString "EnumType._args_of_") (hFd P 370).params (hFd P 370).body (hFd P 370).scope 0 [] PySem.Value.none PySem.Value.none PySem.Value.none PySem.Value.none .none PySem.Value.none PySem.Value.none 0)) #[])
noncomputable def hMo0o372 (P : Params) : Obj := (PySem.Obj.mk PySem.Value.none .none (PySem.Data.fields #[]) #[])
noncomputable def hMo0o375 (P : Params) : Obj := (PySem.Obj.mk PySem.Value.none .none (PySem.Data.func (PySem.FuncData.mk (PySem.Str.ofString "__bool__") (PySem.Str.ofString "EnumType.__bool__") (hFd P 377).params (hFd P 377).body (hFd P 377).scope 0 [] PySem.Value.none PySem.Value.none PySem.Value.none PySem.Value.none .none PySem.Value.none PySem.Value.none 0)) #[])
noncomputable def hMo0o379 (P : Params) : Obj := (PySem.Obj.mk PySem.Value.none .none (PySem.Data.fields #[]) #[])
noncomputable def hMo0o382 (P : Params) : Obj := (PySem.Obj.mk PySem.Value.none .none (PySem.Data.func (PySem.FuncData.mk (PySem.Str.ofString "__call__") (PySem.Str.ofString "EnumType.__call__") (hFd P 384).params (hFd P 384).body (hFd P 384).scope 0 [] PySem.Value.none PySem.Value.none PySem.Value.none PySem.Value.none .none PySem.Value.none PySem.Value.none 0)) #[])
noncomputable def hMo0o386 (P : Params) : Obj := (PySem.Obj.mk PySem.Value.none .none (PySem.Data.fields #[]) #[])
noncomputable def hMo0o389 (P : Params) : Obj := (PySem.Obj.mk PySem.Value.none .none (PySem.Data.func (PySem.FuncData.mk (PySem.Str.ofString "__contains__") (PySem.Str.ofString "EnumType.__contains__") (hFd P 391).params (hFd P 391).body (hFd P 391).scope 0 [] PySem.Value.none PySem.Value.none PySem.Value.none PySem.Value.none .none PySem.Value.none PySem.Value.none 0)) #[])
noncomputable def hMo0o393 (P : Params) : Obj := (PySem.Obj.mk PySem.Value.none .none (PySem.Data.fields #[]) #[])
noncomputable def hMo0o396 (P : Params) : Obj := (PySem.Obj.mk PySem.Value.none .none (PySem.Data.func (PySem.FuncData.mk (PySem.Str.ofString "__getitem__") (PySem.Str.ofString "EnumType.__getitem__") (hFd P 398).params (hFd P 398).body (hFd P 398).scope 0 [] PySem.Value.none PySem.Value.none PySem.Value.none PySem.Value.none .none PySem.Value.none PySem.Value.none 0)) #[])
noncomputable def hMo0o400 (P : Params) : Obj := (PySem.Obj.mk PySem.Value.none .none (PySem.Data.fields #[]) #[])
noncomputable def hMo0o403 (P : Params) : Obj := (PySem.Obj.mk PySem.Value.none .none (PySem.Data.func (PySem.FuncData.mk (PySem.Str.ofString "__iter__") (PySem.Str.ofString "EnumType.__iter__") (hFd P 405).params (hFd P 405).body (hFd P 405).scope 0 [] PySem.Value.none PySem.Value.none PySem.Value.none PySem.Value.none .none PySem.Value.none PySem.Value.none 0)) #[])
noncomputable def hMo0o407 (P : Params) : Obj := (PySem.Obj.mk PySem.Value.none .none (PySem.Data.fields #[]) #[])
noncomputable def hMo0o410 (P : Params) : Obj := (PySem.Obj.mk PySem.Value.none .none (PySem.Data.func (PySem.FuncData.mk (PySem.Str.ofString "__len__") (PySem.Str.ofString "EnumType.__len__") (hFd P 412).params (hFd P 412).body (hFd P 412).scope 0 [] PySem.Value.none PySem.Value.none PySem.Value.none PySem.Value.none .none PySem.Value.none PySem.Value.none 0)) #[])
noncomputable def hMo0o414 (P : Params) : Obj := (PySem.Obj.mk PySem.Value.none .none (PySem.Data.fields #[]) #[])
noncomputable def hMo0o417 (P : Params) : Obj := (PySem.Obj.mk PySem.Value.none .none (PySem.Data.func (PySem.FuncData.mk (PySem.Str.ofString "__members__") (PySem.Str.ofString "EnumType.__members__") (hFd P 419).params (hFd P 419).body (hFd P 419).scope 0 [] PySem.Value.none PySem.Value.none PySem.Value.none PySem.Value.none .none PySem.Value.none PySem.Value.none 0)) #[])
noncomputable def hMo0o422 (P : Params) : Obj := (PySem.Obj.mk PySem.Value.none .none (PySem.Data.fields #[]) #[])
noncomputable def hMo0o425 (P : Params) : Obj := (PySem.Obj.mk PySem.Value.none .none (PySem.Data.func (PySem.FuncData.mk (PySem.Str.ofString "__repr__") (PySem.Str.ofString "EnumType.__repr__") (hFd P 427).params (hFd P 427).body (hFd P 427).scope 0 [] PySem.Value.none PySem.Value.none PySem.Value.none PySem.Value.none .none PySem.Value.none PySem.Value.none 0)) #[])
noncomputable def hMo0o429 (P : Params) : Obj := (PySem.Obj.mk PySem.Value.none .none (PySem.Data.fields #[]) #[])
noncomputable def hMo0o432 (P : Params) : Obj := (PySem.Obj.mk PySem.Value.none .none (PySem.Data.func (PySem.FuncData.mk (PySem.Str.ofString "__reversed__") (PySem.Str.ofString "EnumType.__reversed__") (hFd P 434).params (hFd P 434).body (hFd P 434).scope 0 [] PySem.Value.none PySem.Value.none PySem.Value.none PySem.Value.none .none PySem.Value.none PySem.Value.none 0)) #[])
noncomputable def hMo0o437 (P : Params) : Obj := (PySem.Obj.mk PySem.Value.none .none (PySem.Data.fields #[]) #[])
noncomputable def hMo0o440 (P : Params) : Obj := (PySem.Obj.mk PySem.Value.none .none (PySem.Data.func (PySem.FuncData.mk (PySem.Str.ofString "__setattr__") (PySem.Str.ofString "EnumType.__setattr__") (hFd P 442).params (hFd P 442).body (hFd P 442).scope 0 [] PySem.Value.none PySem.Value.none PySem.Value.none PySem.Value.none .none PySem.Value.none PySem.Value.none 0)) #[])
noncomputable def hMo0o445 (P : Params) : Obj := (PySem.Obj.mk PySem.Value.none .none (PySem.Data.fields #[]) #[])
noncomputable def hMo0o448 (P : Params) : Obj := (PySem.Obj.mk PySem.Value.none .none (PySem.Data.func (PySem.FuncData.mk (PySem.Str.ofString "__delattr__") (PySem.Str.ofString "EnumType.__delattr__") (hFd P 450).params (hFd P 450).body (hFd P 450).scope 0 [] PySem.Value.none PySem.Value.none PySem.Value.none PySem.Value.none .none PySem.Value.none PySem.Value.none 0)) #[])
noncomputable def hMo0o453 (P : Params) : Obj := (PySem.Obj.mk PySem.Value.none .none (PySem.Data.fields #[]) #[])
noncomputable def hMo0o456 (P : Params) : Obj := (PySem.Obj.mk PySem.Value.none .none (PySem.Data.func (PySem.FuncData.mk (PySem.Str.ofString "_store_") (PySem.Str.ofString "EnumType._store_") (hFd P 458).params (hFd P 458).body (hFd P 458).scope 0 [] PySem.Value.none PySem.Value.none PySem.Value.none PySem.Value.none .none PySem.Value.none PySem.Value.none 0)) #[])
noncomputable def hMo0o460 (P : Params) : Obj := (PySem.Obj.mk PySem.Value.none .none (PySem.Data.fields #[]) #[])
noncomputable def hMo0o463 (P : Params) : Obj := (PySem.Obj.mk PySem.Value.none .none (PySem.Data.func (PySem.FuncData.mk (PySem.Str.ofString "__dir__") (PySem.Str.ofString "EnumType.__dir__") (hFd P 465).params (hFd P 465).body (hFd P 465).scope 0 [] PySem.Value.none PySem.Value.none PySem.Value.none PySem.Value.none .none PySem.Value.none PySem.Value.none 0)) #[])
noncomputable def hMo0o470 (P : Params) : Obj := (PySem.Obj.mk (PySem.Value.type "super") .none (PySem.Data.fields #[(PySem.Value.ref 468), (PySem.Value.ref 468), (PySem.Value.ref 468)]) #[])
noncomputable def hMo0o471 (P : Params) : Obj := (PySem.Obj.mk (PySem.Value.type "builtin_function_or_method") .none (PySem.Data.fields #[(PySem.Value.builtin "object.__init_subclass__"), (PySem.Value.ref 468)]) #[])
noncomputable def hMidT0 (P : Params) : BT := (.node (boot_o_0 P) (.node (boot_o_1 P) (.node (hMo0o3 P) (.node (boot_o_7 P) (.node (hOb P 15) (.node (hOb P 31) (.node (hOb P 63) (.node (hOb P 127) (.node (hMo0o255 P) .nil .nil) (.node (hOb P 383) .nil .nil)) (.node (hOb P 191) (.node (hMo0o319 P) .nil .nil) (.node (hOb P 447) .nil .nil))) (.node (hMo0o95 P) (.node (hOb P 159) (.node (hOb P 287) .nil .nil) (.node (hOb P 415) .nil .nil)) (.node (hOb P 223) (.node (hMo0o351 P) .nil .nil) .nil))) (.node (hMo0o47 P) (.node (hOb P 79) (.node (hOb P 143) (.node (hOb P 271) .nil .nil) (.node (hOb P 399) .nil .nil)) (.node (hMo0o207 P) (.node (hOb P 335) .nil .nil) (.node (hMo0o463 P) .nil .nil))) (.node (hOb P 111) (.node (hMo0o175 P) (.node (hOb P 303) .nil .nil) (.node (hOb P 431) .nil .nil)) (.node (hMo0o239 P) (.node (hOb P 367) .nil .nil) .nil)))) (.node (hMo0o23 P) (.node (hOb P 39) (.node (hOb P 71) (.node (hOb P 135) (.node (hMo0o263 P) .nil .nil) (.node (hOb P 391) .nil .nil)) (.node (hOb P 199) (.node (hOb P 327) .nil .nil) (.node (hOb P 455) .nil .nil))) (.node (hOb P 103) (.node (hOb P 167) (.node (hMo0o295 P) .nil .nil) (.node (hOb P 423) .nil .nil)) (.node (hOb P 231) (.node (hOb P 359) .nil .nil) .nil))) (.node (hOb P 55) (.node (hOb P 87) (.node (hMo0o151 P) (.node (hOb P 279) .nil .nil) (.node (hMo0o407 P) .nil .nil)) (.node (hMo0o215 P) (.node (hOb P 343) .nil .nil) (.node (hMo0o471 P) .nil .nil))) (.node (hMo0o119 P) (.node (hOb P 183) (.node (hOb P 311) .nil .nil) (.node (hOb P 439) .nil .nil)) (.node (hOb P 247) (.node (hMo0o375 P) .nil .nil) .nil))))) (.node (hMo0o11 P) (.node (hMo0o19 P) (.node (hOb P 35) (.node (hOb P 67) (.node (hOb P 131) (.node (hMo0o259 P) .nil .nil) (.node (hOb P 387) .nil .nil)) (.node (hOb P 195) (.node (hMo0o323 P) .nil .nil) (.node (hOb P 451) .nil .nil))) (.node (hOb P 99) (.node (hOb P 163) (.node (hMo0o291 P) .nil .nil) (.node (hOb P 419) .nil .nil)) (.node (hOb P 227) (.node (hOb P 355) .nil .nil) .nil))) (.node (hMo0o51 P) (.node (hOb P 83) (.node (hMo0o147 P) (.node (hOb P 275) .nil .nil) (.node (hMo0o403 P) .nil .nil)) (.node (hOb P 211) (.node (hOb P 339) .nil .nil) (.node (hOb P 467) .nil .nil))) (.node (hOb P 115) (.node (hMo0o179 P) (.node (hOb P 307) .nil .nil) (.node (hOb P 435) .nil .nil)) (.node (hMo0o243 P) (.node (hOb P 371) .nil .nil) .nil)))) (.node (hOb P 27) (.node (hOb P 43) (.node (hMo0o75 P) (.node (hOb P 139) (.node (hMo0o267 P) .nil .nil) (.node (hOb P 395) .nil .nil)) (.node (hMo0o203 P) (.node (hOb P 331) .nil .nil) (.node (hOb P 459) .nil .nil))) (.node (hOb P 107) (.node (hOb P 171) (.node (hOb P 299) .nil .nil) (.node (hOb P 427) .nil .nil)) (.node (hOb P 235) (.node (hOb P 363) .nil .nil) .nil))) (.node (hOb P 59) (.node (hMo0o91 P) (.node (hOb P 155) (.node (hOb P 283) .nil .nil) (.node (hOb P 411) .nil .nil)) (.node (hOb P 219) (.node (hMo0o347 P) .nil .nil) .nil)) (.node (hMo0o123 P) (.node (hOb P 187) (.node (hOb P 315) .nil .nil) (.node (hOb P 443) .nil .nil)) (.node (hOb P 251) (.node (hMo0o379 P) .nil .nil) .nil)))))) (.node (boot_o_5 P) (.node (boot_o_9 P) (.node (hOb P 17) (.node (hMo0o33 P) (.node (hMo0o65 P) (.node (hOb P 129) (.node (hOb P 257) .nil .nil) (.node (hOb P 385) .nil .nil)) (.node (hMo0o193 P) (.node (hOb P 321) .nil .nil) (.node (hOb P 449) .nil .nil))) (.node (hOb P 97) (.node (hMo0o161 P) (.node (hOb P 289) .nil .nil) (.node (hMo0o417 P) .nil .nil)) (.node (hMo0o225 P) (.node (hOb P 353) .nil .nil) .nil))) (.node (hOb P 49) (.node (hMo0o81 P) (.node (hOb P 145) (.node (hOb P 273) .nil .nil) (.node (hOb P 401) .nil .nil)) (.node (hOb P 209) (.node (hMo0o337 P) .nil .nil) (.node (hOb P 465) .nil .nil))) (.node (hOb P 113) (.node (hOb P 177) (.node (hMo0o305 P) .nil .nil) (.node (hOb P 433) .nil .nil)) (.node (hOb P 241) (.node (hOb P 369) .nil .nil) .nil)))) (.node (hOb P 25) (.node (hOb P 41) (.node (hMo0o73 P) (.node (hMo0o137 P) (.node (hOb P 265) .nil .nil) (.node (hMo0o393 P) .nil .nil)) (.node (hOb P 201) (.node (hOb P 329) .nil .nil) (.node (hOb P 457) .nil .nil))) (.node (hMo0o105 P) (.node (hOb P 169) (.node (hOb P 297) .nil .nil) (.node (hMo0o425 P) .nil .nil)) (.node (hOb P 233) (.node (hMo0o361 P) .nil .nil) .nil))) (.node (hOb P 57) (.node (hOb P 89) (.node (hOb P 153) (.node (hMo0o281 P) .nil .nil) (.node (hOb P 409) .nil .nil)) (.node (hOb P 217) (.node (hOb P 345) .nil .nil) .nil)) (.node (hOb P 121) (.node (hOb P 185) (.node (hOb P 313) .nil .nil) (.node (hOb P 441) .nil .nil)) (.node (hOb P 249) (.node (hOb P 377) .nil .nil) .nil))))) (.node (hMo0o13 P) (.node (hOb P 21) (.node (hMo0o37 P) (.node (hOb P 69) (.node (hMo0o133 P) (.node (hMo0o261 P) .nil .nil) (.node (hMo0o389 P) .nil .nil)) (.node (hOb P 197) (.node (hOb P 325) .nil .nil) (.node (hMo0o453 P) .nil .nil))) (.node (hOb P 101) (.node (hMo0o165 P) (.node (hOb P 293) .nil .nil) (.node (hOb P 421) .nil .nil)) (.node (hMo0o229 P) (.node (hOb P 357) .nil .nil) .nil))) (.node (hOb P 53) (.node (hOb P 85) (.node (hOb P 149) (.node (hMo0o277 P) .nil .nil) (.node (hOb P 405) .nil .nil)) (.node (hOb P 213) (.node (hOb P 341) .nil .nil) (.node (hOb P 469) .nil .nil))) (.node (hOb P 117) (.node (hOb P 181) (.node (hMo0o309 P) .nil .nil) (.node (hMo0o437 P) .nil .nil)) (.node (hOb P 245) (.node (hOb P 373) .nil .nil) .nil)))) (.node (hOb P 29) (.node (hOb P 45) (.node (hMo0o77 P) (.node (hOb P 141) (.node (hOb P 269) .nil .nil) (.node (hOb P 397) .nil .nil)) (.node (hOb P 205) (.node (hMo0o333 P) .nil .nil) (.node (hOb P 461) .nil .nil))) (.node (hMo0o109 P) (.node (hOb P 173) (.node (hOb P 301) .nil .nil) (.node (hMo0o429 P) .nil .nil)) (.node (hOb P 237) (.node (hMo0o365 P) .nil .nil) .nil))) (.node (hMo0o61 P) (.node (hOb P 93) (.node (hOb P 157) (.node (hOb P 285) .nil .nil) (.node (hOb P 413) .nil .nil)) (.node (hOb P 221) (.node (hOb P 349) .nil .nil) .nil)) (.node (hOb P 125) (.node (hMo0o189 P) (.node (hOb P 317) .nil .nil) (.node (hMo0o445 P) .nil .nil)) (.node (hOb P 253) (.node (hOb P 381) .nil .nil) .nil))))))) (.node (hOb P 2) (.node (boot_o_4 P) (.node (boot_o_8 P) (.node (hMo0o16 P) (.node (hOb P 32) (.node (hOb P 64) (.node (hOb P 128) (.node (hMo0o256 P) .nil .nil) (.node (hOb P 384) .nil .nil)) (.node (hOb P 192) (.node (hOb P 320) .nil .nil) (.node (hMo0o448 P) .nil .nil))) (.node (hOb P 96) (.node (hOb P 160) (.node (hMo0o288 P) .nil .nil) (.node (hOb P 416) .nil .nil)) (.node (hOb P 224) (.node (hOb P 352) .nil .nil) .nil))) (.node (hOb P 48) (.node (hOb P 80) (.node (hMo0o144 P) (.node (hOb P 272) .nil .nil) (.node (hMo0o400 P) .nil .nil)) (.node (hOb P 208) (.node (hOb P 336) .nil .nil) (.node (hOb P 464) .nil .nil))) (.node (hMo0o112 P) (.node (hOb P 176) (.node (hOb P 304) .nil .nil) (.node (hMo0o432 P) .nil .nil)) (.node (hOb P 240) (.node (hMo0o368 P) .nil .nil) .nil)))) (.node (hOb P 24) (.node (hMo0o40 P) (.node (hMo0o72 P) (.node (hOb P 136) (.node (hMo0o264 P) .nil .nil) (.node (hOb P 392) .nil .nil)) (.node (hMo0o200 P) (.node (hOb P 328) .nil .nil) (.node (hMo0o456 P) .nil .nil))) (.node (hOb P 104) (.node (hMo0o168 P) (.node (hOb P 296) .nil .nil) (.node (hOb P 424) .nil .nil)) (.node (hMo0o232 P) (.node (hOb P 360) .nil .nil) .nil))) (.node (hOb P 56) (.node (hMo0o88 P) (.node (hOb P 152) (.node (hOb P 280) .nil .nil) (.node (hOb P 408) .nil .nil)) (.node (hOb P 216) (.node (hMo0o344 P) .nil .nil) .nil)) (.node (hOb P 120) (.node (hOb P 184) (.node (hMo0o312 P) .nil .nil) (.node (hMo0o440 P) .nil .nil)) (.node (hOb P 248) (.node (hOb P 376) .nil .nil) .nil))))) (.node (hMo0o12 P) (.node (hOb P 20) (.node (hOb P 36) (.node (hMo0o68 P) (.node (hOb P 132) (.node (hOb P 260) .nil .nil) (.node (hOb P 388) .nil .nil)) (.node (hMo0o196 P) (.node (hOb P 324) .nil .nil) (.node (hOb P 452) .nil .nil))) (.node (hOb P 100) (.node (hOb P 164) (.node (hOb P 292) .nil .nil) (.node (hOb P 420) .nil .nil)) (.node (hOb P 228) (.node (hOb P 356) .nil .nil) .nil))) (.node (hOb P 52) (.node (hMo0o84 P) (.node (hOb P 148) (.node (hOb P 276) .nil .nil) (.node (hOb P 404) .nil .nil)) (.node (hOb P 212) (.node (hMo0o340 P) .nil .nil) (.node (hOb P 468) .nil .nil))) (.node (hMo0o116 P) (.node (hOb P 180) (.node (hOb P 308) .nil .nil) (.node (hOb P 436) .nil .nil)) (.node (hOb P 244) (.node (hMo0o372 P) .nil .nil) .nil)))) (.node (hOb P 28) (.node (hMo0o44 P) (.node (hMo0o76 P) (.node (hMo0o140 P) (.node (hOb P 268) .nil .nil) (.node (hMo0o396 P) .nil .nil)) (.node (hOb P 204) (.node (hOb P 332) .nil .nil) (.node (hMo0o460 P) .nil .nil))) (.node (hOb P 108) (.node (hMo0o172 P) (.node (hOb P 300) .nil .nil) (.node (hOb P 428) .nil .nil)) (.node (hMo0o236 P) (.node (hOb P 364) .nil .nil) .nil))) (.node (hOb P 60) (.node (hOb P 92) (.node (hOb P 156) (.node (hMo0o284 P) .nil .nil) (.node (hOb P 412) .nil .nil)) (.node (hOb P 220) (.node (hOb P 348) .nil .nil) .nil)) (.node (hOb P 124) (.node (hOb P 188) (.node (hMo0o316 P) .nil .nil) (.node (hOb P 444) .nil .nil)) (.node (hOb P 252) (.node (hOb P 380) .nil .nil) .nil)))))) (.node (boot_o_6 P) (.node (boot_o_10 P) (.node (hOb P 18) (.node (hOb P 34) (.node (hOb P 66) (.node (hMo0o130 P) (.node (hMo0o258 P) .nil .nil) (.node (hMo0o386 P) .nil .nil)) (.node (hOb P 194) (.node (hOb P 322) .nil .nil) (.node (hOb P 450) .nil .nil))) (.node (hMo0o98 P) (.node (hOb P 162) (.node (hOb P 290) .nil .nil) (.node (hOb P 418) .nil .nil)) (.node (hOb P 226) (.node (hMo0o354 P) .nil .nil) .nil))) (.node (hOb P 50) (.node (hOb P 82) (.node (hOb P 146) (.node (hMo0o274 P) .nil .nil) (.node (hOb P 402) .nil .nil)) (.node (hMo0o210 P) (.node (hOb P 338) .nil .nil) (.node (hOb P 466) .nil .nil))) (.node (hOb P 114) (.node (hOb P 178) (.node (hOb P 306) .nil .nil) (.node (hOb P 434) .nil .nil)) (.node (hOb P 242) (.node (hOb P 370) .nil .nil) .nil)))) (.node (hMo0o26 P) (.node (hOb P 42) (.node (hMo0o74 P) (.node (hOb P 138) (.node (hOb P 266) .nil .nil) (.node (hOb P 394) .nil .nil)) (.node (hOb P 202) (.node (hMo0o330 P) .nil .nil) (.node (hOb P 458) .nil .nil))) (.node (hOb P 106) (.node (hOb P 170) (.node (hMo0o298 P) .nil .nil) (.node (hOb P 426) .nil .nil)) (.node (hOb P 234) (.node (hOb P 362) .nil .nil) .nil))) (.node (hMo0o58 P) (.node (hOb P 90) (.node (hMo0o154 P) (.node (hOb P 282) .nil .nil) (.node (hMo0o410 P) .nil .nil)) (.node (hMo0o218 P) (.node (hOb P 346) .nil .nil) .nil)) (.node (hOb P 122) (.node (hMo0o186 P) (.node (hOb P 314) .nil .nil) (.node (hOb P 442) .nil .nil)) (.node (hMo0o250 P) (.node (hOb P 378) .nil .nil) .nil))))) (.node (hMo0o14 P) (.node (hOb P 22) (.node (hOb P 38) (.node (hOb P 70) (.node (hOb P 134) (.node (hMo0o262 P) .nil .nil) (.node (hOb P 390) .nil .nil)) (.node (hOb P 198) (.node (hMo0o326 P) .nil .nil) (.node (hOb P 454) .nil .nil))) (.node (hMo0o102 P) (.node (hOb P 166) (.node (hOb P 294) .nil .nil) (.node (hMo0o422 P) .nil .nil)) (.node (hOb P 230) (.node (hMo0o358 P) .nil .nil) .nil))) (.node (hMo0o54 P) (.node (hOb P 86) (.node (hOb P 150) (.node (hOb P 278) .nil .nil) (.node (hOb P 406) .nil .nil)) (.node (hOb P 214) (.node (hOb P 342) .nil .nil) (.node (hMo0o470 P) .nil .nil))) (.node (hOb P 118) (.node (hMo0o182 P) (.node (hOb P 310) .nil .nil) (.node (hOb P 438) .nil .nil)) (.node (hMo0o246 P) (.node (hOb P 374) .nil .nil) .nil)))) (.node (hMo0o30 P) (.node (hOb P 46) (.node (hMo0o78 P) (.node (hOb P 142) (.node (hMo0o270 P) .nil .nil) (.node (hOb P 398) .nil .nil)) (.node (hOb P 206) (.node (hOb P 334) .nil .nil) (.node (hOb P 462) .nil .nil))) (.node (hOb P 110) (.node (hOb P 174) (.node (hMo0o302 P) .nil .nil) (.node (hOb P 430) .nil .nil)) (.node (hOb P 238) (.node (hOb P 366) .nil .nil) .nil))) (.node (hOb P 62) (.node (hOb P 94) (.node (hMo0o158 P) (.node (hOb P 286) .nil .nil) (.node (hMo0o414 P) .nil .nil)) (.node (hMo0o222 P) (.node (hOb P 350) .nil .nil) .nil)) (.node (hMo0o126 P) (.node (hOb P 190) (.node (hOb P 318) .nil .nil) (.node (hOb P 446) .nil .nil)) (.node (hOb P 254) (.node (hMo0o382 P) .nil .nil) .nil))))))))
abbrev hPosM0 : Pos := ⟨110, 0, 239, 17⟩
noncomputable def hMidS0 (P : Params) (os : OsState) : SharedT := ⟨hMidT0 P, 472, {}, ⟨[]⟩, boot_drawn, 726, os⟩
noncomputable def hMo1o3 (P : Params) : Obj := (PySem.Obj.mk (PySem.Value.type "dict") .none (PySem.Data.dict #[(PySem.DictEntry.mk (PySem.PyData.keyHash P (PySem.Str.ofString "__name__")) (PySem.Value.str (PySem.Str.ofString "__name__") 165) (PySem.Value.str (PySem.Str.ofString "pg8000.converters") 968)), (PySem.DictEntry.mk (PySem.PyData.keyHash P (PySem.Str.ofString "__doc__")) (PySem.Value.str (PySem.Str.ofString "__doc__") 166) PySem.Value.none), (PySem.DictEntry.mk (PySem.PyData.keyHash P (PySem.Str.ofString "__package__")) (PySem.Value.str (PySem.Str.ofString "__package__") 167) PySem.Value.none), (PySem.DictEntry.mk (PySem.PyData.keyHash P (PySem.Str.ofString "__loader__")) (PySem.Value.str (PySem.Str.ofString "__loader__") 168) (PySem.Value.builtin "__main__.__loader__#opaque")), (PySem.DictEntry.mk (PySem.PyData.keyHash P (PySem.Str.ofString "__spec__")) (PySem.Value.str (PySem.Str.ofString "__spec__") 169) PySem.Value.none), (PySem.DictEntry.mk (PySem.PyData.keyHash P (PySem.Str.ofString "__annotations__")) (PySem.Value.str (PySem.Str.ofString "__annotations__") 170) (PySem.Value.ref 6)), (PySem.DictEntry.mk (PySem.PyData.keyHash P (PySem.Str.ofString "__builtins__")) (PySem.Value.str (PySem.Str.ofString "__builtins__") 171) (PySem.Value.ref 4)), (PySem.DictEntry.mk (PySem.PyData.keyHash P (PySem.Str.ofString "__file__")) (PySem.Value.str (PySem.Str.ofString "__file__") 173) (PySem.Value.str (PySem.Str.ofString "/claim/cut.py") 172)), (PySem.DictEntry.mk (PySem.PyData.keyHash P (PySem.Str.ofString "__cached__")) (PySem.Value.str (PySem.Str.ofString "__cached__") 174) PySem.Value.none), (PySem.DictEntry.mk (PySem.PyData.keyHash P (PySem.Str.ofString "_wall")) (PySem.Value.str (PySem.Str.ofString "_wall") 193) (PySem.Value.ref 21)), (PySem.DictEntry.mk (PySem.PyData.keyHash P (PySem.Str.ofString "bool_out")) (PySem.Value.str (PySem.Str.ofString "bool_out") 202) (PySem.Value.ref 28)), (PySem.DictEntry.mk (PySem.PyData.keyHash P (PySem.Str.ofString "bytes_out")) (PySem.Value.str (PySem.Str.ofString "bytes_out") 209) (PySem.Value.ref 35)), (PySem.DictEntry.mk (PySem.PyData.keyHash P (PySem.Str.ofString "int_in")) (PySem.Value.str (PySem.Str.ofString "int_in") 216) (PySem.Value.ref 42)), (PySem.DictEntry.mk (PySem.PyData.keyHash P (PySem.Str.ofString "int_out")) (PySem.Value.str (PySem.Str.ofString "int_out") 223) (PySem.Value.ref 49)), (PySem.DictEntry.mk (PySem.PyData.keyHash P (PySem.Str.ofString "null_out")) (PySem.Value.str (PySem.Str.ofString "null_out") 230) (PySem.Value.ref 56)), (PySem.DictEntry.mk (PySem.PyData.keyHash P (PySem.Str.ofString "range_out")) (PySem.Value.str (PySem.Str.ofString "range_out") 241) (PySem.Value.ref 63)), (PySem.DictEntry.mk (PySem.PyData.keyHash P (PySem.Str.ofString "string_out")) (PySem.Value.str (PySem.Str.ofString "string_out") 248) (PySem.Value.ref 70)), (PySem.DictEntry.mk (PySem.PyData.keyHash P (PySem.Str.ofString "_OWN_NAMES")) (PySem.Value.str (PySem.Str.ofString "_OWN_NAMES") 256) (PySem.Value.ref 71)), (PySem.DictEntry.mk (PySem.PyData.keyHash P (PySem.Str.ofString "mappingproxy")) (PySem.Value.str (PySem.Str.ofString "mappingproxy") 464) (PySem.Value.ref 252)), (PySem.DictEntry.mk (PySem.PyData.keyHash P (PySem.Str.ofString "_MEMBERS_VIEW")) (PySem.Value.str (PySem.Str.ofString "_MEMBERS_VIEW") 465) (PySem.Value.ref 252)), (PySem.DictEntry.mk (PySem.PyData.keyHash P (PySem.Str.ofString "EnumType")) (PySem.Value.str (PySem.Str.ofString "EnumType") 725) (PySem.Value.ref 468)), (PySem.DictEntry.mk (PySem.PyData.keyHash P (PySem.Str.ofString "_EnumField")) (PySem.Value.str (PySem.Str.ofString "_EnumField") 780) (PySem.Value.ref 510)), (PySem.DictEntry.mk (PySem.PyData.keyHash P (PySem.Str.ofString "Enum")) (PySem.Value.str (PySem.Str.ofString "Enum") 967) (PySem.Value.ref 634)), (PySem.DictEntry.mk (PySem.PyData.keyHash P (PySem.Str.ofString "ParserState")) (PySem.Value.str (PySem.Str.ofString "ParserState") 1014) (PySem.Value.ref 657))] 24) #[])
noncomputable def hMo1o12 (P : Params) : Obj := (PySem.Obj.mk PySem.Value.none .none (PySem.Data.fields #[(PySem.Value.int (1 : Int) 0), (PySem.Value.int (0 : Int) 0), (PySem.Value.ref 20), (PySem.Value.int (5 : Int) 0), (PySem.Value.int (0 : Int) 0), (PySem.Value.ref 27), (PySem.Value.int (7 : Int) 0), (PySem.Value.int (0 : Int) 0), (PySem.Value.ref 34), (PySem.Value.int (9 : Int) 0), (PySem.Value.int (0 : Int) 0), (PySem.Value.ref 41), (PySem.Value.int (11 : Int) 0), (PySem.Value.int (0 : Int) 0), (PySem.Value.ref 48), (PySem.Value.int (13 : Int) 0), (PySem.Value.int (0 : Int) 0), (PySem.Value.ref 55), (PySem.Value.int (15 : Int) 0), (PySem.Value.int (0 : Int) 0), (PySem.Value.ref 62), (PySem.Value.int (24 : Int) 0), (PySem.Value.int (0 : Int) 0), (PySem.Value.ref 69), (PySem.Value.int (28 : Int) 0), (PySem.Value.int (0 : Int) 0), (PySem.Value.ref 77), (PySem.Value.int (110 : Int) 0), (PySem.Value.int (0 : Int) 0), (PySem.Value.ref 263), (PySem.Value.int (240 : Int) 0), (PySem.Value.int (0 : Int) 0), (PySem.Value.ref 477), (PySem.Value.int (257 : Int) 0), (PySem.Value.int (0 : Int) 0), (PySem.Value.ref 520), (PySem.Value.int (351 : Int) 0), (PySem.Value.int (0 : Int) 0), (PySem.Value.ref 649)]) #[])
noncomputable def hMo1o472 (P : Params) : Obj := (PySem.Obj.mk (PySem.Value.type "tuple") .none (PySem.Data.seq #[] 0) #[])
noncomputable def hMo1o473 (P : Params) : Obj := (PySem.Obj.mk (PySem.Value.type "builtin_function_or_method") .none (PySem.Data.fields #[(PySem.Value.builtin "type.__prepare__"), (PySem.Value.type "type")]) #[])
noncomputable def hMo1o474 (P : Params) : Obj := (PySem.Obj.mk (PySem.Value.type "dict") .none (PySem.Data.dict #[(PySem.DictEntry.mk (PySem.PyData.keyHash P (PySem.Str.ofString "__module__")) (PySem.Value.str (PySem.Str.ofString "__module__") 733) (PySem.Value.str (PySem.Str.ofString "enum") 249)), (PySem.DictEntry.mk (PySem.PyData.keyHash P (PySem.Str.ofString "__qualname__")) (PySem.Value.str (PySem.Str.ofString "__qualname__") 735) (PySem.Value.str (PySem.Str.ofString "_EnumField") 734)), (PySem.DictEntry.mk (PySem.PyData.keyHash P (PySem.Str.ofString "__firstlineno__")) (PySem.Value.str (PySem.Str.ofString "__firstlineno__") 737) (PySem.Value.int (240 : Int) 736)), (PySem.DictEntry.mk (PySem.PyData.keyHash P (PySem.Str.ofString "__init__")) (PySem.Value.str (PySem.Str.ofString "__init__") 745) (PySem.Value.ref 485)), (PySem.DictEntry.mk (PySem.PyData.keyHash P (PySem.Str.ofString "__get__")) (PySem.Value.str (PySem.Str.ofString "__get__") 754) (PySem.Value.ref 493)), (PySem.DictEntry.mk (PySem.PyData.keyHash P (PySem.Str.ofString "__set__")) (PySem.Value.str (PySem.Str.ofString "__set__") 763) (PySem.Value.ref 500)), (PySem.DictEntry.mk (PySem.PyData.keyHash P (PySem.Str.ofString "__delete__")) (PySem.Value.str (PySem.Str.ofString "__delete__") 771) (PySem.Value.ref 507)), (PySem.DictEntry.mk (PySem.PyData.keyHash P (PySem.Str.ofString "__static_attributes__")) (PySem.Value.str (PySem.Str.ofString "__static_attributes__") 773) (PySem.Value.ref 508))] 8) #[])
noncomputable def hMo1o475 (P : Params) : Obj := (PySem.Obj.mk (PySem.Value.type "tuple") .none (PySem.Data.seq #[] 0) #[])
noncomputable def hMo1o476 (P : Params) : Obj := (PySem.Obj.mk PySem.Value.none .none (PySem.Data.fields #[(PySem.Value.int (242 : Int) 0), (PySem.Value.int (4 : Int) 0), (PySem.Value.ref 484), (PySem.Value.int (245 : Int) 0), (PySem.Value.int (4 : Int) 0), (PySem.Value.ref 492), (PySem.Value.int (252 : Int) 0), (PySem.Value.int (4 : Int) 0), (PySem.Value.ref 499), (PySem.Value.int (255 : Int) 0), (PySem.Value.int (4 : Int) 0), (PySem.Value.ref 506)]) #[])
noncomputable def hMo1o477 (P : Params) : Obj := (PySem.Obj.mk (PySem.Value.type "code") .none (PySem.Data.fields #[(PySem.Value.str (PySem.Str.ofString "_EnumField") 728), (PySem.Value.str (PySem.Str.ofString "_EnumField") 729), (PySem.Value.str (PySem.Str.ofString "/claim/cut.py") 730), (PySem.Value.int (240 : Int) 0), (PySem.Value.int (0 : Int) 0), (PySem.Value.int (0 : Int) 0), (PySem.Value.int (0 : Int) 0), (PySem.Value.int (0 : Int) 0), (PySem.Value.ref 475), (PySem.Value.bool Bool.false), (PySem.Value.int (181 : Int) 0), (PySem.Value.ref 476), PySem.Value.none, PySem.Value.none, PySem.Value.none, PySem.Value.none, (PySem.Value.int (731 : Int) 0), (PySem.Value.int (240 : Int) 0), (PySem.Value.str (PySem.Str.ofString "/claim/cut.py") 732)]) #[])
noncomputable def hMo1o478 (P : Params) : Obj := (PySem.Obj.mk (PySem.Value.type "frame") .none PySem.Data.plain #[(.some (PySem.Value.ref 477)), (.some (PySem.Value.ref 3)), (.some (PySem.Value.ref 474)), .none, (.some (PySem.Value.str (PySem.Str.ofString "enum") 249)), .none, (.some (PySem.Value.ref 0))])
noncomputable def hMo1o480 (P : Params) : Obj := (PySem.Obj.mk PySem.Value.none .none (PySem.Data.fields #[]) #[])
noncomputable def hMo1o483 (P : Params) : Obj := (PySem.Obj.mk PySem.Value.none .none (PySem.Data.func (PySem.FuncData.mk (PySem.Str.ofString "__init__") (PySem.Str.ofString "_EnumField.__init__") (hFd P 485).params (hFd P 485).body (hFd P 485).scope 0 [] PySem.Value.none PySem.Value.none PySem.Value.none PySem.Value.none .none PySem.Value.none PySem.Value.none 0)) #[])
noncomputable def hMo1o488 (P : Params) : Obj := (PySem.Obj.mk PySem.Value.none .none (PySem.Data.fields #[]) #[])
noncomputable def hMo1o491 (P : Params) : Obj := (PySem.Obj.mk PySem.Value.none .none (PySem.Data.func (PySem.FuncData.mk (PySem.Str.ofString "__get__") (PySem.Str.ofString "_EnumField.__get__") (hFd P 493).params (hFd P 493).body (hFd P 493).scope 0 [] PySem.Value.none PySem.Value.none PySem.Value.none PySem.Value.none .none PySem.Value.none PySem.Value.none 0)) #[])
noncomputable def hMo1o495 (P : Params) : Obj := (PySem.Obj.mk PySem.Value.none .none (PySem.Data.fields #[]) #[])
noncomputable def hMo1o498 (P : Params) : Obj := (PySem.Obj.mk PySem.Value.none .none (PySem.Data.func (PySem.FuncData.mk (PySem.Str.ofString "__set__") (PySem.Str.ofString "_EnumField.__set__") (hFd P 500).params (hFd P 500).body (hFd P 500).scope 0 [] PySem.Value.none PySem.Value.none PySem.Value.none PySem.Value.none .none PySem.Value.none PySem.Value.none 0)) #[])
noncomputable def hMo1o502 (P : Params) : Obj := (PySem.Obj.mk PySem.Value.none .none (PySem.Data.fields #[]) #[])
noncomputable def hMo1o505 (P : Params) : Obj := (PySem.Obj.mk PySem.Value.none .none (PySem.Data.func (PySem.FuncData.mk (PySem.Str.ofString "__delete__") (PySem.Str.ofString "_EnumField.__delete__") (hFd P 507).params (hFd P 507).body (hFd P 507).scope 0 [] PySem.Value.none PySem.Value.none PySem.Value.none PySem.Value.none .none PySem.Value.none PySem.Value.none 0)) #[])
noncomputable def hMo1o513 (P : Params) : Obj := (PySem.Obj.mk (PySem.Value.type "super") .none (PySem.Data.fields #[(PySem.Value.ref 510), (PySem.Value.ref 510), (PySem.Value.ref 510)]) #[])
noncomputable def hMo1o514 (P : Params) : Obj := (PySem.Obj.mk (PySem.Value.type "builtin_function_or_method") .none (PySem.Data.fields #[(PySem.Value.builtin "object.__init_subclass__"), (PySem.Value.ref 510)]) #[])
noncomputable def hMo1o515 (P : Params) : Obj := (PySem.Obj.mk (PySem.Value.type "tuple") .none (PySem.Data.seq #[] 0) #[])
noncomputable def hMo1o516 (P : Params) : Obj := (PySem.Obj.mk (PySem.Value.type "builtin_function_or_method") .none (PySem.Data.fields #[(PySem.Value.builtin "type.__prepare__"), (PySem.Value.ref 468)]) #[])
noncomputable def hMo1o517 (P : Params) : Obj := (PySem.Obj.mk (PySem.Value.type "dict") .none (PySem.Data.dict #[(PySem.DictEntry.mk (PySem.PyData.keyHash P (PySem.Str.ofString "__module__")) (PySem.Value.str (PySem.Str.ofString "__module__") 788) (PySem.Value.str (PySem.Str.ofString "enum") 793)), (PySem.DictEntry.mk (PySem.PyData.keyHash P (PySem.Str.ofString "__qualname__")) (PySem.Value.str (PySem.Str.ofString "__qualname__") 790) (PySem.Value.str (PySem.Str.ofString "Enum") 789)), (PySem.DictEntry.mk (PySem.PyData.keyHash P (PySem.Str.ofString "__firstlineno__")) (PySem.Value.str (PySem.Str.ofString "__firstlineno__") 792) (PySem.Value.int (257 : Int) 791)), (PySem.DictEntry.mk (PySem.PyData.keyHash P (PySem.Str.ofString "_written_out_")) (PySem.Value.str (PySem.Str.ofString "_written_out_") 796) (PySem.Value.int (4 : Int) 795)), (PySem.DictEntry.mk (PySem.PyData.keyHash P (PySem.Str.ofString "_member_names_")) (PySem.Value.str (PySem.Str.ofString "_member_names_") 797) (PySem.Value.ref 522)), (PySem.DictEntry.mk (PySem.PyData.keyHash P (PySem.Str.ofString "_member_map_")) (PySem.Value.str (PySem.Str.ofString "_member_map_") 798) (PySem.Value.ref 523)), (PySem.DictEntry.mk (PySem.PyData.keyHash P (PySem.Str.ofString "_value2member_map_")) (PySem.Value.str (PySem.Str.ofString "_value2member_map_") 799) (PySem.Value.ref 524)), (PySem.DictEntry.mk (PySem.PyData.keyHash P (PySem.Str.ofString "_hashable_values_")) (PySem.Value.str (PySem.Str.ofString "_hashable_values_") 800) (PySem.Value.ref 525)), (PySem.DictEntry.mk (PySem.PyData.keyHash P (PySem.Str.ofString "_unhashable_values_")) (PySem.Value.str (PySem.Str.ofString "_unhashable_values_") 801) (PySem.Value.ref 526)), (PySem.DictEntry.mk (PySem.PyData.keyHash P (PySem.Str.ofString "_unhashable_values_map_")) (PySem.Value.str (PySem.Str.ofString "_unhashable_values_map_") 802) (PySem.Value.ref 527)), (PySem.DictEntry.mk (PySem.PyData.keyHash P (PySem.Str.ofString "_members_")) (PySem.Value.str (PySem.Str.ofString "_members_") 803) (PySem.Value.ref 528)), (PySem.DictEntry.mk (PySem.PyData.keyHash P (PySem.Str.ofString "_value_repr_")) (PySem.Value.str (PySem.Str.ofString "_value_repr_") 804) PySem.Value.none), (PySem.DictEntry.mk (PySem.PyData.keyHash P (PySem.Str.ofString "_is_flag_")) (PySem.Value.str (PySem.Str.ofString "_is_flag_") 805) (PySem.Value.bool Bool.false)), (PySem.DictEntry.mk (PySem.PyData.keyHash P (PySem.Str.ofString "_making_")) (PySem.Value.str (PySem.Str.ofString "_making_") 806) (PySem.Value.bool Bool.false)), (PySem.DictEntry.mk (PySem.PyData.keyHash P (PySem.Str.ofString "__new__")) (PySem.Value.str (PySem.Str.ofString "__new__") 821) (PySem.Value.ref 535)), (PySem.DictEntry.mk (PySem.PyData.keyHash P (PySem.Str.ofString "_missing_")) (PySem.Value.str (PySem.Str.ofString "_missing_") 841) (PySem.Value.ref 544)), (PySem.DictEntry.mk (PySem.PyData.keyHash P (PySem.Str.ofString "__init__")) (PySem.Value.str (PySem.Str.ofString "__init__") 850) (PySem.Value.ref 552)), (PySem.DictEntry.mk (PySem.PyData.keyHash P (PySem.Str.ofString "__repr__")) (PySem.Value.str (PySem.Str.ofString "__repr__") 858) (PySem.Value.ref 559)), (PySem.DictEntry.mk (PySem.PyData.keyHash P (PySem.Str.ofString "__str__")) (PySem.Value.str (PySem.Str.ofString "__str__") 865) (PySem.Value.ref 566)), (PySem.DictEntry.mk (PySem.PyData.keyHash P (PySem.Str.ofString "__format__")) (PySem.Value.str (PySem.Str.ofString "__format__") 873) (PySem.Value.ref 573)), (PySem.DictEntry.mk (PySem.PyData.keyHash P (PySem.Str.ofString "__hash__")) (PySem.Value.str (PySem.Str.ofString "__hash__") 880) (PySem.Value.ref 580)), (PySem.DictEntry.mk (PySem.PyData.keyHash P (PySem.Str.ofString "__reduce_ex__")) (PySem.Value.str (PySem.Str.ofString "__reduce_ex__") 888) (PySem.Value.ref 587)), (PySem.DictEntry.mk (PySem.PyData.keyHash P (PySem.Str.ofString "__deepcopy__")) (PySem.Value.str (PySem.Str.ofString "__deepcopy__") 896) (PySem.Value.ref 594)), (PySem.DictEntry.mk (PySem.PyData.keyHash P (PySem.Str.ofString "__copy__")) (PySem.Value.str (PySem.Str.ofString "__copy__") 903) (PySem.Value.ref 601)), (PySem.DictEntry.mk (PySem.PyData.keyHash P (PySem.Str.ofString "__dir__")) (PySem.Value.str (PySem.Str.ofString "__dir__") 910) (PySem.Value.ref 608)), (PySem.DictEntry.mk (PySem.PyData.keyHash P (PySem.Str.ofString "_add_alias_")) (PySem.Value.str (PySem.Str.ofString "_add_alias_") 918) (PySem.Value.ref 615)), (PySem.DictEntry.mk (PySem.PyData.keyHash P (PySem.Str.ofString "_add_value_alias_")) (PySem.Value.str (PySem.Str.ofString "_add_value_alias_") 926) (PySem.Value.ref 622)), (PySem.DictEntry.mk (PySem.PyData.keyHash P (PySem.Str.ofString "name")) (PySem.Value.str (PySem.Str.ofString "name") 932) (PySem.Value.ref 624)), (PySem.DictEntry.mk (PySem.PyData.keyHash P (PySem.Str.ofString "value")) (PySem.Value.str (PySem.Str.ofString "value") 938) (PySem.Value.ref 627)), (PySem.DictEntry.mk (PySem.PyData.keyHash P (PySem.Str.ofString "__static_attributes__")) (PySem.Value.str (PySem.Str.ofString "__static_attributes__") 939) (PySem.Value.ref 629))] 30) #[])
noncomputable def hMo1o518 (P : Params) : Obj := (PySem.Obj.mk (PySem.Value.type "tuple") .none (PySem.Data.seq #[] 0) #[])
noncomputable def hMo1o519 (P : Params) : Obj := (PySem.Obj.mk PySem.Value.none .none (PySem.Data.fields #[(PySem.Value.int (271 : Int) 0), (PySem.Value.int (4 : Int) 0), (PySem.Value.ref 534), (PySem.Value.int (312 : Int) 0), (PySem.Value.int (4 : Int) 0), (PySem.Value.ref 541), (PySem.Value.int (315 : Int) 0), (PySem.Value.int (4 : Int) 0), (PySem.Value.ref 551), (PySem.Value.int (318 : Int) 0), (PySem.Value.int (4 : Int) 0), (PySem.Value.ref 558), (PySem.Value.int (322 : Int) 0), (PySem.Value.int (4 : Int) 0), (PySem.Value.ref 565), (PySem.Value.int (325 : Int) 0), (PySem.Value.int (4 : Int) 0), (PySem.Value.ref 572), (PySem.Value.int (328 : Int) 0), (PySem.Value.int (4 : Int) 0), (PySem.Value.ref 579), (PySem.Value.int (331 : Int) 0), (PySem.Value.int (4 : Int) 0), (PySem.Value.ref 586), (PySem.Value.int (334 : Int) 0), (PySem.Value.int (4 : Int) 0), (PySem.Value.ref 593), (PySem.Value.int (337 : Int) 0), (PySem.Value.int (4 : Int) 0), (PySem.Value.ref 600), (PySem.Value.int (340 : Int) 0), (PySem.Value.int (4 : Int) 0), (PySem.Value.ref 607), (PySem.Value.int (343 : Int) 0), (PySem.Value.int (4 : Int) 0), (PySem.Value.ref 614), (PySem.Value.int (346 : Int) 0), (PySem.Value.int (4 : Int) 0), (PySem.Value.ref 621)]) #[])
noncomputable def hMo1o520 (P : Params) : Obj := (PySem.Obj.mk (PySem.Value.type "code") .none (PySem.Data.fields #[(PySem.Value.str (PySem.Str.ofString "Enum") 783), (PySem.Value.str (PySem.Str.ofString "Enum") 784), (PySem.Value.str (PySem.Str.ofString "/claim/cut.py") 785), (PySem.Value.int (257 : Int) 0), (PySem.Value.int (0 : Int) 0), (PySem.Value.int (0 : Int) 0), (PySem.Value.int (0 : Int) 0), (PySem.Value.int (0 : Int) 0), (PySem.Value.ref 518), (PySem.Value.bool Bool.false), (PySem.Value.int (181 : Int) 0), (PySem.Value.ref 519), PySem.Value.none, PySem.Value.none, PySem.Value.none, PySem.Value.none, (PySem.Value.int (786 : Int) 0), (PySem.Value.int (257 : Int) 0), (PySem.Value.str (PySem.Str.ofString "/claim/cut.py") 787)]) #[])
noncomputable def hMo1o521 (P : Params) : Obj := (PySem.Obj.mk (PySem.Value.type "frame") .none PySem.Data.plain #[(.some (PySem.Value.ref 520)), (.some (PySem.Value.ref 3)), (.some (PySem.Value.ref 517)), .none, (.some (PySem.Value.str (PySem.Str.ofString "enum") 249)), .none, (.some (PySem.Value.ref 0))])
noncomputable def hMo1o530 (P : Params) : Obj := (PySem.Obj.mk PySem.Value.none .none (PySem.Data.fields #[]) #[])
noncomputable def hMo1o533 (P : Params) : Obj := (PySem.Obj.mk PySem.Value.none .none (PySem.Data.func (PySem.FuncData.mk (PySem.Str.ofString "__new__") (PySem.Str.ofString "Enum.__new__") (hFd P 535).params (hFd P 535).body (hFd P 535).scope 0 [] PySem.Value.none PySem.Value.none PySem.Value.none PySem.Value.none .none PySem.Value.none PySem.Value.none 0)) #[])
noncomputable def hMo1o537 (P : Params) : Obj := (PySem.Obj.mk PySem.Value.none .none (PySem.Data.fields #[]) #[])
noncomputable def hMo1o540 (P : Params) : Obj := (PySem.Obj.mk PySem.Value.none .none (PySem.Data.func (PySem.FuncData.mk (PySem.Str.ofString "_missing_") (PySem.Str.ofString "Enum._missing_") (hFd P 542).params (hFd P 542).body (hFd P 542).scope 0 [] PySem.Value.none PySem.Value.none PySem.Value.none PySem.Value.none .none PySem.Value.none PySem.Value.none 0)) #[])
noncomputable def hMo1o547 (P : Params) : Obj := (PySem.Obj.mk PySem.Value.none .none (PySem.Data.fields #[]) #[])
noncomputable def hMo1o550 (P : Params) : Obj := (PySem.Obj.mk PySem.Value.none .none (PySem.Data.func (PySem.FuncData.mk (PySem.Str.ofString "__init__") (PySem.Str.ofString "Enum.__init__") (hFd P 552).params (hFd P 552).body (hFd P 552).scope 0 [] PySem.Value.none PySem.Value.none PySem.Value.none PySem.Value.none .none PySem.Value.none PySem.Value.none 0)) #[])
noncomputable def hMo1o554 (P : Params) : Obj := (PySem.Obj.mk PySem.Value.none .none (PySem.Data.fields #[]) #[])
noncomputable def hMo1o557 (P : Params) : Obj := (PySem.Obj.mk PySem.Value.none .none (PySem.Data.func (PySem.FuncData.mk (PySem.Str.ofString "__repr__") (PySem.Str.ofString "Enum.__repr__") (hFd P 559).params (hFd P 559).body (hFd P 559).scope 0 [] PySem.Value.none PySem.Value.none PySem.Value.none PySem.Value.none .none PySem.Value.none PySem.Value.none 0)) #[])
noncomputable def hMo1o561 (P : Params) : Obj := (PySem.Obj.mk PySem.Value.none .none (PySem.Data.fields #[]) #[])
noncomputable def hMo1o564 (P : Params) : Obj := (PySem.Obj.mk PySem.Value.none .none (PySem.Data.func (PySem.FuncData.mk (PySem.Str.ofString "__str__") (PySem.Str.ofString "Enum.__str__") (hFd P 566).params (hFd P 566).body (hFd P 566).scope 0 [] PySem.Value.none PySem.Value.none PySem.Value.none PySem.Value.none .none PySem.Value.none PySem.Value.none 0)) #[])
noncomputable def hMo1o568 (P : Params) : Obj := (PySem.Obj.mk PySem.Value.none .none (PySem.Data.fields #[]) #[])
noncomputable def hMo1o571 (P : Params) : Obj := (PySem.Obj.mk PySem.Value.none .none (PySem.Data.func (PySem.FuncData.mk (PySem.Str.ofString "__format__") (PySem.Str.ofString "Enum.__format__") (hFd P 573).params (hFd P 573).body (hFd P 573).scope 0 [] PySem.Value.none PySem.Value.none PySem.Value.none PySem.Value.none .none PySem.Value.none PySem.Value.none 0)) #[])
noncomputable def hMo1o575 (P : Params) : Obj := (PySem.Obj.mk PySem.Value.none .none (PySem.Data.fields #[]) #[])
noncomputable def hMo1o578 (P : Params) : Obj := (PySem.Obj.mk PySem.Value.none .none (PySem.Data.func (PySem.FuncData.mk (PySem.Str.ofString "__hash__") (PySem.Str.ofString "Enum.__hash__") (hFd P 580).params (hFd P 580).body (hFd P 580).scope 0 [] PySem.Value.none PySem.Value.none PySem.Value.none PySem.Value.none .none PySem.Value.none PySem.Value.none 0)) #[])
noncomputable def hMo1o582 (P : Params) : Obj := (PySem.Obj.mk PySem.Value.none .none (PySem.Data.fields #[]) #[])
noncomputable def hMo1o585 (P : Params) : Obj := (PySem.Obj.mk PySem.Value.none .none (PySem.Data.func (PySem.FuncData.mk (PySem.Str.ofString "__reduce_ex__") (PySem.Str.ofString "Enum.__reduce_ex__") (hFd P 587).params (hFd P 587).body (hFd P 587).scope 0 [] PySem.Value.none PySem.Value.none PySem.Value.none PySem.Value.none .none PySem.Value.none PySem.Value.none 0)) #[])
noncomputable def hMo1o589 (P : Params) : Obj := (PySem.Obj.mk PySem.Value.none .none (PySem.Data.fields #[]) #[])
noncomputable def hMo1o592 (P : Params) : Obj := (PySem.Obj.mk PySem.Value.none .none (PySem.Data.func (PySem.FuncData.mk (PySem.Str.ofString "__deepcopy__") (PySem.Str.ofString "Enum.__deepcopy__") (hFd P 594).params (hFd P 594).body (hFd P 594).scope 0 [] PySem.Value.none PySem.Value.none PySem.Value.none PySem.Value.none .none PySem.Value.none PySem.Value.none 0)) #[])
noncomputable def hMo1o596 (P : Params) : Obj := (PySem.Obj.mk PySem.Value.none .none (PySem.Data.fields #[]) #[])
noncomputable def hMo1o599 (P : Params) : Obj := (PySem.Obj.mk PySem.Value.none .none (PySem.Data.func (PySem.FuncData.mk (PySem.Str.ofString "__copy__") (PySem.Str.ofString "Enum.__copy__") (hFd P 601).params (hFd P 601).body (hFd P 601).scope 0 [] PySem.Value.none PySem.Value.none PySem.Value.none PySem.Value.none .none PySem.Value.none PySem.Value.none 0)) #[])
noncomputable def hMo1o603 (P : Params) : Obj := (PySem.Obj.mk PySem.Value.none .none (PySem.Data.fields #[]) #[])
noncomputable def hMo1o606 (P : Params) : Obj := (PySem.Obj.mk PySem.Value.none .none (PySem.Data.func (PySem.FuncData.mk (PySem.Str.ofString "__dir__") (PySem.Str.ofString "Enum.__dir__") (hFd P 608).params (hFd P 608).body (hFd P 608).scope 0 [] PySem.Value.none PySem.Value.none PySem.Value.none PySem.Value.none .none PySem.Value.none PySem.Value.none 0)) #[])
noncomputable def hMo1o610 (P : Params) : Obj := (PySem.Obj.mk PySem.Value.none .none (PySem.Data.fields #[]) #[])
noncomputable def hMo1o613 (P : Params) : Obj := (PySem.Obj.mk PySem.Value.none .none (PySem.Data.func (PySem.FuncData.mk (PySem.Str.ofString "_add_alias_") (PySem.Str.ofString "Enum._add_alias_") (hFd P 615).params (hFd P 615).body (hFd P 615).scope 0 [] PySem.Value.none PySem.Value.none PySem.Value.none PySem.Value.none .none PySem.Value.none PySem.Value.none 0)) #[])
noncomputable def hMo1o617 (P : Params) : Obj := (PySem.Obj.mk PySem.Value.none .none (PySem.Data.fields #[]) #[])
noncomputable def hMo1o620 (P : Params) : Obj := (PySem.Obj.mk PySem.Value.none .none (PySem.Data.func (PySem.FuncData.mk (PySem.Str.ofString "_add_value_alias_") (PySem.Str.ofString "Enum._add_value_alias_") (hFd P 622).params (hFd P 622).body (hFd P 622).scope 0 [] PySem.Value.none PySem.Value.none PySem.Value.none PySem.Value.none .none PySem.Value.none PySem.Value.none 0)) #[])
noncomputable def hMo1o625 (P : Params) : Obj := (PySem.Obj.mk (PySem.Value.type "frame") .none (PySem.Data.dict #[(PySem.DictEntry.mk (PySem.PyData.keyHash P (PySem.Str.ofString "self")) (PySem.Value.str (PySem.Str.ofString "self") 928) (PySem.Value.ref 624)), (PySem.DictEntry.mk (PySem.PyData.keyHash P (PySem.Str.ofString "name")) (PySem.Value.str (PySem.Str.ofString "name") 929) (PySem.Value.str (PySem.Str.ofString "name") 927))] 2) #[])
noncomputable def hMo1o628 (P : Params) : Obj := (PySem.Obj.mk (PySem.Value.type "frame") .none (PySem.Data.dict #[(PySem.DictEntry.mk (PySem.PyData.keyHash P (PySem.Str.ofString "self")) (PySem.Value.str (PySem.Str.ofString "self") 934) (PySem.Value.ref 627)), (PySem.DictEntry.mk (PySem.PyData.keyHash P (PySem.Str.ofString "name")) (PySem.Value.str (PySem.Str.ofString "name") 935) (PySem.Value.str (PySem.Str.ofString "value") 933))] 2) #[])
noncomputable def hMo1o630 (P : Params) : Obj := (PySem.Obj.mk (PySem.Value.type "dict") .none (PySem.Data.dict #[] 0) #[])
noncomputable def hMo1o631 (P : Params) : Obj := (PySem.Obj.mk (PySem.Value.type "frame") .none (PySem.Data.dict #[(PySem.DictEntry.mk (PySem.PyData.keyHash P (PySem.Str.ofString "metacls")) (PySem.Value.str (PySem.Str.ofString "metacls") 941) (PySem.Value.ref 468)), (PySem.DictEntry.mk (PySem.PyData.keyHash P (PySem.Str.ofString "cls")) (PySem.Value.str (PySem.Str.ofString "cls") 942) (PySem.Value.str (PySem.Str.ofString "Enum") 781)), (PySem.DictEntry.mk (PySem.PyData.keyHash P (PySem.Str.ofString "bases")) (PySem.Value.str (PySem.Str.ofString "bases") 943) (PySem.Value.ref 515)), (PySem.DictEntry.mk (PySem.PyData.keyHash P (PySem.Str.ofString "classdict")) (PySem.Value.str (PySem.Str.ofString "classdict") 944) (PySem.Value.ref 517)), (PySem.DictEntry.mk (PySem.PyData.keyHash P (PySem.Str.ofString "kwds")) (PySem.Value.str (PySem.Str.ofString "kwds") 945) (PySem.Value.ref 630)), (PySem.DictEntry.mk (PySem.PyData.keyHash P (PySem.Str.ofString "made")) (PySem.Value.str (PySem.Str.ofString "made") 956) (PySem.Value.ref 634))] 6) #[])
noncomputable def hMo1o632 (P : Params) : Obj := (PySem.Obj.mk (PySem.Value.type "super") .none (PySem.Data.fields #[(PySem.Value.ref 468), (PySem.Value.ref 468), (PySem.Value.ref 468)]) #[])
noncomputable def hMo1o638 (P : Params) : Obj := (PySem.Obj.mk (PySem.Value.type "super") .none (PySem.Data.fields #[(PySem.Value.ref 634), (PySem.Value.ref 634), (PySem.Value.ref 634)]) #[])
noncomputable def hMo1o639 (P : Params) : Obj := (PySem.Obj.mk (PySem.Value.type "builtin_function_or_method") .none (PySem.Data.fields #[(PySem.Value.builtin "object.__init_subclass__"), (PySem.Value.ref 634)]) #[])
noncomputable def hMo1o640 (P : Params) : Obj := (PySem.Obj.mk (PySem.Value.type "method") .none (PySem.Data.fields #[(PySem.Value.ref 458), (PySem.Value.ref 634)]) #[])
noncomputable def hMo1o641 (P : Params) : Obj := (PySem.Obj.mk (PySem.Value.type "frame") .none (PySem.Data.dict #[(PySem.DictEntry.mk (PySem.PyData.keyHash P (PySem.Str.ofString "cls")) (PySem.Value.str (PySem.Str.ofString "cls") 962) (PySem.Value.ref 634)), (PySem.DictEntry.mk (PySem.PyData.keyHash P (PySem.Str.ofString "name")) (PySem.Value.str (PySem.Str.ofString "name") 963) (PySem.Value.str (PySem.Str.ofString "_written_out_") 960)), (PySem.DictEntry.mk (PySem.PyData.keyHash P (PySem.Str.ofString "value")) (PySem.Value.str (PySem.Str.ofString "value") 964) (PySem.Value.int (0 : Int) 961))] 3) #[])
noncomputable def hMo1o642 (P : Params) : Obj := (PySem.Obj.mk (PySem.Value.type "super") .none (PySem.Data.fields #[(PySem.Value.ref 468), (PySem.Value.ref 634), (PySem.Value.ref 468)]) #[])
noncomputable def hMo1o643 (P : Params) : Obj := (PySem.Obj.mk (PySem.Value.type "method-wrapper") .none (PySem.Data.fields #[(PySem.Value.builtin "type.__setattr__"), (PySem.Value.ref 634)]) #[])
noncomputable def hMo1o645 (P : Params) : Obj := (PySem.Obj.mk (PySem.Value.type "builtin_function_or_method") .none (PySem.Data.fields #[(PySem.Value.builtin "type.__prepare__"), (PySem.Value.ref 468)]) #[])
noncomputable def hMo1o646 (P : Params) : Obj := (PySem.Obj.mk (PySem.Value.type "dict") .none (PySem.Data.dict #[(PySem.DictEntry.mk (PySem.PyData.keyHash P (PySem.Str.ofString "__module__")) (PySem.Value.str (PySem.Str.ofString "__module__") 977) (PySem.Value.str (PySem.Str.ofString "pg8000.converters") 968)), (PySem.DictEntry.mk (PySem.PyData.keyHash P (PySem.Str.ofString "__qualname__")) (PySem.Value.str (PySem.Str.ofString "__qualname__") 979) (PySem.Value.str (PySem.Str.ofString "ParserState") 978)), (PySem.DictEntry.mk (PySem.PyData.keyHash P (PySem.Str.ofString "__firstlineno__")) (PySem.Value.str (PySem.Str.ofString "__firstlineno__") 981) (PySem.Value.int (351 : Int) 980)), (PySem.DictEntry.mk (PySem.PyData.keyHash P (PySem.Str.ofString "_written_out_")) (PySem.Value.str (PySem.Str.ofString "_written_out_") 983) (PySem.Value.int (4 : Int) 982)), (PySem.DictEntry.mk (PySem.PyData.keyHash P (PySem.Str.ofString "_member_names_")) (PySem.Value.str (PySem.Str.ofString "_member_names_") 988) (PySem.Value.ref 651)), (PySem.DictEntry.mk (PySem.PyData.keyHash P (PySem.Str.ofString "_value_repr_")) (PySem.Value.str (PySem.Str.ofString "_value_repr_") 990) PySem.Value.none), (PySem.DictEntry.mk (PySem.PyData.keyHash P (PySem.Str.ofString "__static_attributes__")) (PySem.Value.str (PySem.Str.ofString "__static_attributes__") 991) (PySem.Value.ref 652))] 7) #[])
noncomputable def hMo1o647 (P : Params) : Obj := (PySem.Obj.mk (PySem.Value.type "tuple") .none (PySem.Data.seq #[] 0) #[])
noncomputable def hMo1o648 (P : Params) : Obj := (PySem.Obj.mk PySem.Value.none .none (PySem.Data.fields #[]) #[])
noncomputable def hMo1o649 (P : Params) : Obj := (PySem.Obj.mk (PySem.Value.type "code") .none (PySem.Data.fields #[(PySem.Value.str (PySem.Str.ofString "ParserState") 972), (PySem.Value.str (PySem.Str.ofString "ParserState") 973), (PySem.Value.str (PySem.Str.ofString "/claim/cut.py") 974), (PySem.Value.int (351 : Int) 0), (PySem.Value.int (0 : Int) 0), (PySem.Value.int (0 : Int) 0), (PySem.Value.int (0 : Int) 0), (PySem.Value.int (0 : Int) 0), (PySem.Value.ref 647), (PySem.Value.bool Bool.false), (PySem.Value.int (181 : Int) 0), (PySem.Value.ref 648), PySem.Value.none, PySem.Value.none, PySem.Value.none, PySem.Value.none, (PySem.Value.int (975 : Int) 0), (PySem.Value.int (351 : Int) 0), (PySem.Value.str (PySem.Str.ofString "/claim/cut.py") 976)]) #[])
noncomputable def hMo1o650 (P : Params) : Obj := (PySem.Obj.mk (PySem.Value.type "frame") .none PySem.Data.plain #[(.some (PySem.Value.ref 649)), (.some (PySem.Value.ref 3)), (.some (PySem.Value.ref 646)), .none, (.some (PySem.Value.str (PySem.Str.ofString "pg8000.converters") 968)), .none, (.some (PySem.Value.ref 0))])
noncomputable def hMo1o653 (P : Params) : Obj := (PySem.Obj.mk (PySem.Value.type "dict") .none (PySem.Data.dict #[] 0) #[])
noncomputable def hMo1o654 (P : Params) : Obj := (PySem.Obj.mk (PySem.Value.type "frame") .none (PySem.Data.dict #[(PySem.DictEntry.mk (PySem.PyData.keyHash P (PySem.Str.ofString "metacls")) (PySem.Value.str (PySem.Str.ofString "metacls") 993) (PySem.Value.ref 468)), (PySem.DictEntry.mk (PySem.PyData.keyHash P (PySem.Str.ofString "cls")) (PySem.Value.str (PySem.Str.ofString "cls") 994) (PySem.Value.str (PySem.Str.ofString "ParserState") 970)), (PySem.DictEntry.mk (PySem.PyData.keyHash P (PySem.Str.ofString "bases")) (PySem.Value.str (PySem.Str.ofString "bases") 995) (PySem.Value.ref 644)), (PySem.DictEntry.mk (PySem.PyData.keyHash P (PySem.Str.ofString "classdict")) (PySem.Value.str (PySem.Str.ofString "classdict") 996) (PySem.Value.ref 646)), (PySem.DictEntry.mk (PySem.PyData.keyHash P (PySem.Str.ofString "kwds")) (PySem.Value.str (PySem.Str.ofString "kwds") 997) (PySem.Value.ref 653)), (PySem.DictEntry.mk (PySem.PyData.keyHash P (PySem.Str.ofString "made")) (PySem.Value.str (PySem.Str.ofString "made") 1003) (PySem.Value.ref 657))] 6) #[])
noncomputable def hMo1o655 (P : Params) : Obj := (PySem.Obj.mk (PySem.Value.type "super") .none (PySem.Data.fields #[(PySem.Value.ref 468), (PySem.Value.ref 468), (PySem.Value.ref 468)]) #[])
noncomputable def hMo1o656 (P : Params) : Obj := (PySem.Obj.mk (PySem.Value.type "dict") .none (PySem.Data.dict #[(PySem.DictEntry.mk (PySem.PyData.keyHash P (PySem.Str.ofString "__module__")) (PySem.Value.str (PySem.Str.ofString "__module__") 977) (PySem.Value.str (PySem.Str.ofString "pg8000.converters") 968)), (PySem.DictEntry.mk (PySem.PyData.keyHash P (PySem.Str.ofString "__firstlineno__")) (PySem.Value.str (PySem.Str.ofString "__firstlineno__") 981) (PySem.Value.int (351 : Int) 980)), (PySem.DictEntry.mk (PySem.PyData.keyHash P (PySem.Str.ofString "_written_out_")) (PySem.Value.str (PySem.Str.ofString "_written_out_") 983) (PySem.Value.int (0 : Int) 1008)), (PySem.DictEntry.mk (PySem.PyData.keyHash P (PySem.Str.ofString "_member_names_")) (PySem.Value.str (PySem.Str.ofString "_member_names_") 988) (PySem.Value.ref 651)), (PySem.DictEntry.mk (PySem.PyData.keyHash P (PySem.Str.ofString "_value_repr_")) (PySem.Value.str (PySem.Str.ofString "_value_repr_") 990) PySem.Value.none), (PySem.DictEntry.mk (PySem.PyData.keyHash P (PySem.Str.ofString "__static_attributes__")) (PySem.Value.str (PySem.Str.ofString "__static_attributes__") 991) (PySem.Value.ref 652)), (PySem.DictEntry.mk (PySem.PyData.keyHash P (PySem.Str.ofString "__doc__")) (PySem.Value.str (PySem.Str.ofString "__doc__") 1001) PySem.Value.none)] 2) #[])
noncomputable def hMo1o658 (P : Params) : Obj := (PySem.Obj.mk (PySem.Value.type "super") .none (PySem.Data.fields #[(PySem.Value.ref 657), (PySem.Value.ref 657), (PySem.Value.ref 657)]) #[])
noncomputable def hMo1o659 (P : Params) : Obj := (PySem.Obj.mk (PySem.Value.type "builtin_function_or_method") .none (PySem.Data.fields #[(PySem.Value.builtin "object.__init_subclass__"), (PySem.Value.ref 657)]) #[])
noncomputable def hMo1o660 (P : Params) : Obj := (PySem.Obj.mk (PySem.Value.type "method") .none (PySem.Data.fields #[(PySem.Value.ref 458), (PySem.Value.ref 657)]) #[])
noncomputable def hMo1o661 (P : Params) : Obj := (PySem.Obj.mk (PySem.Value.type "frame") .none (PySem.Data.dict #[(PySem.DictEntry.mk (PySem.PyData.keyHash P (PySem.Str.ofString "cls")) (PySem.Value.str (PySem.Str.ofString "cls") 1009) (PySem.Value.ref 657)), (PySem.DictEntry.mk (PySem.PyData.keyHash P (PySem.Str.ofString "name")) (PySem.Value.str (PySem.Str.ofString "name") 1010) (PySem.Value.str (PySem.Str.ofString "_written_out_") 1007)), (PySem.DictEntry.mk (PySem.PyData.keyHash P (PySem.Str.ofString "value")) (PySem.Value.str (PySem.Str.ofString "value") 1011) (PySem.Value.int (0 : Int) 1008))] 3) #[])
noncomputable def hMo1o662 (P : Params) : Obj := (PySem.Obj.mk (PySem.Value.type "super") .none (PySem.Data.fields #[(PySem.Value.ref 468), (PySem.Value.ref 657), (PySem.Value.ref 468)]) #[])
noncomputable def hMo1o663 (P : Params) : Obj := (PySem.Obj.mk (PySem.Value.type "method-wrapper") .none (PySem.Data.fields #[(PySem.Value.builtin "type.__setattr__"), (PySem.Value.ref 657)]) #[])
noncomputable def hMidT1 (P : Params) : BT := (.node (boot_o_0 P) (.node (boot_o_1 P) (.node (hMo1o3 P) (.node (boot_o_7 P) (.node (hOb P 15) (.node (hOb P 31) (.node (hOb P 63) (.node (hOb P 127) (.node (hMo0o255 P) (.node (hOb P 511) .nil .nil) .nil) (.node (hOb P 383) (.node (hMo1o639 P) .nil .nil) .nil)) (.node (hOb P 191) (.node (hMo0o319 P) (.node (hMo1o575 P) .nil .nil) .nil) (.node (hOb P 447) .nil .nil))) (.node (hMo0o95 P) (.node (hOb P 159) (.node (hOb P 287) (.node (hOb P 543) .nil .nil) .nil) (.node (hOb P 415) .nil .nil)) (.node (hOb P 223) (.node (hMo0o351 P) (.node (hOb P 607) .nil .nil) .nil) (.node (hOb P 479) .nil .nil)))) (.node (hMo0o47 P) (.node (hOb P 79) (.node (hOb P 143) (.node (hOb P 271) (.node (hOb P 527) .nil .nil) .nil) (.node (hOb P 399) (.node (hMo1o655 P) .nil .nil) .nil)) (.node (hMo0o207 P) (.node (hOb P 335) (.node (hOb P 591) .nil .nil) .nil) (.node (hMo0o463 P) .nil .nil))) (.node (hOb P 111) (.node (hMo0o175 P) (.node (hOb P 303) (.node (hOb P 559) .nil .nil) .nil) (.node (hOb P 431) .nil .nil)) (.node (hMo0o239 P) (.node (hOb P 367) (.node (hOb P 623) .nil .nil) .nil) (.node (hMo1o495 P) .nil .nil))))) (.node (hMo0o23 P) (.node (hOb P 39) (.node (hOb P 71) (.node (hOb P 135) (.node (hMo0o263 P) (.node (hMo1o519 P) .nil .nil) .nil) (.node (hOb P 391) (.node (hMo1o647 P) .nil .nil) .nil)) (.node (hOb P 199) (.node (hOb P 327) (.node (hOb P 583) .nil .nil) .nil) (.node (hOb P 455) .nil .nil))) (.node (hOb P 103) (.node (hOb P 167) (.node (hMo0o295 P) (.node (hOb P 551) .nil .nil) .nil) (.node (hOb P 423) .nil .nil)) (.node (hOb P 231) (.node (hOb P 359) (.node (hOb P 615) .nil .nil) .nil) (.node (hOb P 487) .nil .nil)))) (.node (hOb P 55) (.node (hOb P 87) (.node (hMo0o151 P) (.node (hOb P 279) (.node (hOb P 535) .nil .nil) .nil) (.node (hMo0o407 P) (.node (hMo1o663 P) .nil .nil) .nil)) (.node (hMo0o215 P) (.node (hOb P 343) (.node (hMo1o599 P) .nil .nil) .nil) (.node (hMo0o471 P) .nil .nil))) (.node (hMo0o119 P) (.node (hOb P 183) (.node (hOb P 311) (.node (hOb P 567) .nil .nil) .nil) (.node (hOb P 439) .nil .nil)) (.node (hOb P 247) (.node (hMo0o375 P) (.node (hMo1o631 P) .nil .nil) .nil) (.node (hOb P 503) .nil .nil)))))) (.node (hMo0o11 P) (.node (hMo0o19 P) (.node (hOb P 35) (.node (hOb P 67) (.node (hOb P 131) (.node (hMo0o259 P) (.node (hMo1o515 P) .nil .nil) .nil) (.node (hOb P 387) (.node (hMo1o643 P) .nil .nil) .nil)) (.node (hOb P 195) (.node (hMo0o323 P) (.node (hOb P 579) .nil .nil) .nil) (.node (hOb P 451) .nil .nil))) (.node (hOb P 99) (.node (hOb P 163) (.node (hMo0o291 P) (.node (hMo1o547 P) .nil .nil) .nil) (.node (hOb P 419) .nil .nil)) (.node (hOb P 227) (.node (hOb P 355) (.node (hOb P 611) .nil .nil) .nil) (.node (hMo1o483 P) .nil .nil)))) (.node (hMo0o51 P) (.node (hOb P 83) (.node (hMo0o147 P) (.node (hOb P 275) (.node (hOb P 531) .nil .nil) .nil) (.node (hMo0o403 P) (.node (hMo1o659 P) .nil .nil) .nil)) (.node (hOb P 211) (.node (hOb P 339) (.node (hOb P 595) .nil .nil) .nil) (.node (hOb P 467) .nil .nil))) (.node (hOb P 115) (.node (hMo0o179 P) (.node (hOb P 307) (.node (hOb P 563) .nil .nil) .nil) (.node (hOb P 435) .nil .nil)) (.node (hMo0o243 P) (.node (hOb P 371) (.node (hOb P 627) .nil .nil) .nil) (.node (hOb P 499) .nil .nil))))) (.node (hOb P 27) (.node (hOb P 43) (.node (hMo0o75 P) (.node (hOb P 139) (.node (hMo0o267 P) (.node (hOb P 523) .nil .nil) .nil) (.node (hOb P 395) (.node (hOb P 651) .nil .nil) .nil)) (.node (hMo0o203 P) (.node (hOb P 331) (.node (hOb P 587) .nil .nil) .nil) (.node (hOb P 459) .nil .nil))) (.node (hOb P 107) (.node (hOb P 171) (.node (hOb P 299) (.node (hOb P 555) .nil .nil) .nil) (.node (hOb P 427) .nil .nil)) (.node (hOb P 235) (.node (hOb P 363) (.node (hOb P 619) .nil .nil) .nil) (.node (hMo1o491 P) .nil .nil)))) (.node (hOb P 59) (.node (hMo0o91 P) (.node (hOb P 155) (.node (hOb P 283) (.node (hOb P 539) .nil .nil) .nil) (.node (hOb P 411) .nil .nil)) (.node (hOb P 219) (.node (hMo0o347 P) (.node (hMo1o603 P) .nil .nil) .nil) (.node (hMo1o475 P) .nil .nil))) (.node (hMo0o123 P) (.node (hOb P 187) (.node (hOb P 315) (.node (hMo1o571 P) .nil .nil) .nil) (.node (hOb P 443) .nil .nil)) (.node (hOb P 251) (.node (hMo0o379 P) (.node (hOb P 635) .nil .nil) .nil) (.node (hOb P 507) .nil .nil))))))) (.node (boot_o_5 P) (.node (boot_o_9 P) (.node (hOb P 17) (.node (hMo0o33 P) (.node (hMo0o65 P) (.node (hOb P 129) (.node (hOb P 257) (.node (hMo1o513 P) .nil .nil) .nil) (.node (hOb P 385) (.node (hMo1o641 P) .nil .nil) .nil)) (.node (hMo0o193 P) (.node (hOb P 321) (.node (hOb P 577) .nil .nil) .nil) (.node (hOb P 449) .nil .nil))) (.node (hOb P 97) (.node (hMo0o161 P) (.node (hOb P 289) (.node (hOb P 545) .nil .nil) .nil) (.node (hMo0o417 P) .nil .nil)) (.node (hMo0o225 P) (.node (hOb P 353) (.node (hOb P 609) .nil .nil) .nil) (.node (hOb P 481) .nil .nil)))) (.node (hOb P 49) (.node (hMo0o81 P) (.node (hOb P 145) (.node (hOb P 273) (.node (hOb P 529) .nil .nil) .nil) (.node (hOb P 401) (.node (hOb P 657) .nil .nil) .nil)) (.node (hOb P 209) (.node (hMo0o337 P) (.node (hOb P 593) .nil .nil) .nil) (.node (hOb P 465) .nil .nil))) (.node (hOb P 113) (.node (hOb P 177) (.node (hMo0o305 P) (.node (hMo1o561 P) .nil .nil) .nil) (.node (hOb P 433) .nil .nil)) (.node (hOb P 241) (.node (hOb P 369) (.node (hMo1o625 P) .nil .nil) .nil) (.node (hOb P 497) .nil .nil))))) (.node (hOb P 25) (.node (hOb P 41) (.node (hMo0o73 P) (.node (hMo0o137 P) (.node (hOb P 265) (.node (hMo1o521 P) .nil .nil) .nil) (.node (hMo0o393 P) (.node (hMo1o649 P) .nil .nil) .nil)) (.node (hOb P 201) (.node (hOb P 329) (.node (hMo1o585 P) .nil .nil) .nil) (.node (hOb P 457) .nil .nil))) (.node (hMo0o105 P) (.node (hOb P 169) (.node (hOb P 297) (.node (hOb P 553) .nil .nil) .nil) (.node (hMo0o425 P) .nil .nil)) (.node (hOb P 233) (.node (hMo0o361 P) (.node (hMo1o617 P) .nil .nil) .nil) (.node (hOb P 489) .nil .nil)))) (.node (hOb P 57) (.node (hOb P 89) (.node (hOb P 153) (.node (hMo0o281 P) (.node (hMo1o537 P) .nil .nil) .nil) (.node (hOb P 409) .nil .nil)) (.node (hOb P 217) (.node (hOb P 345) (.node (hOb P 601) .nil .nil) .nil) (.node (hMo1o473 P) .nil .nil))) (.node (hOb P 121) (.node (hOb P 185) (.node (hOb P 313) (.node (hOb P 569) .nil .nil) .nil) (.node (hOb P 441) .nil .nil)) (.node (hOb P 249) (.node (hOb P 377) (.node (hOb P 633) .nil .nil) .nil) (.node (hMo1o505 P) .nil .nil)))))) (.node (hMo0o13 P) (.node (hOb P 21) (.node (hMo0o37 P) (.node (hOb P 69) (.node (hMo0o133 P) (.node (hMo0o261 P) (.node (hMo1o517 P) .nil .nil) .nil) (.node (hMo0o389 P) (.node (hMo1o645 P) .nil .nil) .nil)) (.node (hOb P 197) (.node (hOb P 325) (.node (hOb P 581) .nil .nil) .nil) (.node (hMo0o453 P) .nil .nil))) (.node (hOb P 101) (.node (hMo0o165 P) (.node (hOb P 293) (.node (hOb P 549) .nil .nil) .nil) (.node (hOb P 421) .nil .nil)) (.node (hMo0o229 P) (.node (hOb P 357) (.node (hMo1o613 P) .nil .nil) .nil) (.node (hOb P 485) .nil .nil)))) (.node (hOb P 53) (.node (hOb P 85) (.node (hOb P 149) (.node (hMo0o277 P) (.node (hMo1o533 P) .nil .nil) .nil) (.node (hOb P 405) (.node (hMo1o661 P) .nil .nil) .nil)) (.node (hOb P 213) (.node (hOb P 341) (.node (hOb P 597) .nil .nil) .nil) (.node (hOb P 469) .nil .nil))) (.node (hOb P 117) (.node (hOb P 181) (.node (hMo0o309 P) (.node (hOb P 565) .nil .nil) .nil) (.node (hMo0o437 P) .nil .nil)) (.node (hOb P 245) (.node (hOb P 373) (.node (hOb P 629) .nil .nil) .nil) (.node (hOb P 501) .nil .nil))))) (.node (hOb P 29) (.node (hOb P 45) (.node (hMo0o77 P) (.node (hOb P 141) (.node (hOb P 269) (.node (hOb P 525) .nil .nil) .nil) (.node (hOb P 397) (.node (hMo1o653 P) .nil .nil) .nil)) (.node (hOb P 205) (.node (hMo0o333 P) (.node (hMo1o589 P) .nil .nil) .nil) (.node (hOb P 461) .nil .nil))) (.node (hMo0o109 P) (.node (hOb P 173) (.node (hOb P 301) (.node (hMo1o557 P) .nil .nil) .nil) (.node (hMo0o429 P) .nil .nil)) (.node (hOb P 237) (.node (hMo0o365 P) (.node (hOb P 621) .nil .nil) .nil) (.node (hOb P 493) .nil .nil)))) (.node (hMo0o61 P) (.node (hOb P 93) (.node (hOb P 157) (.node (hOb P 285) (.node (hOb P 541) .nil .nil) .nil) (.node (hOb P 413) .nil .nil)) (.node (hOb P 221) (.node (hOb P 349) (.node (hOb P 605) .nil .nil) .nil) (.node (hMo1o477 P) .nil .nil))) (.node (hOb P 125) (.node (hMo0o189 P) (.node (hOb P 317) (.node (hOb P 573) .nil .nil) .nil) (.node (hMo0o445 P) .nil .nil)) (.node (hOb P 253) (.node (hOb P 381) (.node (hOb P 637) .nil .nil) .nil) (.node (hOb P 509) .nil .nil)))))))) (.node (hOb P 2) (.node (boot_o_4 P) (.node (boot_o_8 P) (.node (hMo0o16 P) (.node (hOb P 32) (.node (hOb P 64) (.node (hOb P 128) (.node (hMo0o256 P) (.node (hOb P 512) .nil .nil) .nil) (.node (hOb P 384) (.node (hMo1o640 P) .nil .nil) .nil)) (.node (hOb P 192) (.node (hOb P 320) (.node (hOb P 576) .nil .nil) .nil) (.node (hMo0o448 P) .nil .nil))) (.node (hOb P 96) (.node (hOb P 160) (.node (hMo0o288 P) (.node (hOb P 544) .nil .nil) .nil) (.node (hOb P 416) .nil .nil)) (.node (hOb P 224) (.node (hOb P 352) (.node (hOb P 608) .nil .nil) .nil) (.node (hMo1o480 P) .nil .nil)))) (.node (hOb P 48) (.node (hOb P 80) (.node (hMo0o144 P) (.node (hOb P 272) (.node (hOb P 528) .nil .nil) .nil) (.node (hMo0o400 P) (.node (hMo1o656 P) .nil .nil) .nil)) (.node (hOb P 208) (.node (hOb P 336) (.node (hMo1o592 P) .nil .nil) .nil) (.node (hOb P 464) .nil .nil))) (.node (hMo0o112 P) (.node (hOb P 176) (.node (hOb P 304) (.node (hOb P 560) .nil .nil) .nil) (.node (hMo0o432 P) .nil .nil)) (.node (hOb P 240) (.node (hMo0o368 P) (.node (hOb P 624) .nil .nil) .nil) (.node (hOb P 496) .nil .nil))))) (.node (hOb P 24) (.node (hMo0o40 P) (.node (hMo0o72 P) (.node (hOb P 136) (.node (hMo0o264 P) (.node (hMo1o520 P) .nil .nil) .nil) (.node (hOb P 392) (.node (hMo1o648 P) .nil .nil) .nil)) (.node (hMo0o200 P) (.node (hOb P 328) (.node (hOb P 584) .nil .nil) .nil) (.node (hMo0o456 P) .nil .nil))) (.node (hOb P 104) (.node (hMo0o168 P) (.node (hOb P 296) (.node (hOb P 552) .nil .nil) .nil) (.node (hOb P 424) .nil .nil)) (.node (hMo0o232 P) (.node (hOb P 360) (.node (hOb P 616) .nil .nil) .nil) (.node (hMo1o488 P) .nil .nil)))) (.node (hOb P 56) (.node (hMo0o88 P) (.node (hOb P 152) (.node (hOb P 280) (.node (hOb P 536) .nil .nil) .nil) (.node (hOb P 408) .nil .nil)) (.node (hOb P 216) (.node (hMo0o344 P) (.node (hOb P 600) .nil .nil) .nil) (.node (hMo1o472 P) .nil .nil))) (.node (hOb P 120) (.node (hOb P 184) (.node (hMo0o312 P) (.node (hMo1o568 P) .nil .nil) .nil) (.node (hMo0o440 P) .nil .nil)) (.node (hOb P 248) (.node (hOb P 376) (.node (hMo1o632 P) .nil .nil) .nil) (.node (hOb P 504) .nil .nil)))))) (.node (hMo1o12 P) (.node (hOb P 20) (.node (hOb P 36) (.node (hMo0o68 P) (.node (hOb P 132) (.node (hOb P 260) (.node (hMo1o516 P) .nil .nil) .nil) (.node (hOb P 388) (.node (hOb P 644) .nil .nil) .nil)) (.node (hMo0o196 P) (.node (hOb P 324) (.node (hOb P 580) .nil .nil) .nil) (.node (hOb P 452) .nil .nil))) (.node (hOb P 100) (.node (hOb P 164) (.node (hOb P 292) (.node (hOb P 548) .nil .nil) .nil) (.node (hOb P 420) .nil .nil)) (.node (hOb P 228) (.node (hOb P 356) (.node (hOb P 612) .nil .nil) .nil) (.node (hOb P 484) .nil .nil)))) (.node (hOb P 52) (.node (hMo0o84 P) (.node (hOb P 148) (.node (hOb P 276) (.node (hOb P 532) .nil .nil) .nil) (.node (hOb P 404) (.node (hMo1o660 P) .nil .nil) .nil)) (.node (hOb P 212) (.node (hMo0o340 P) (.node (hMo1o596 P) .nil .nil) .nil) (.node (hOb P 468) .nil .nil))) (.node (hMo0o116 P) (.node (hOb P 180) (.node (hOb P 308) (.node (hMo1o564 P) .nil .nil) .nil) (.node (hOb P 436) .nil .nil)) (.node (hOb P 244) (.node (hMo0o372 P) (.node (hMo1o628 P) .nil .nil) .nil) (.node (hOb P 500) .nil .nil))))) (.node (hOb P 28) (.node (hMo0o44 P) (.node (hMo0o76 P) (.node (hMo0o140 P) (.node (hOb P 268) (.node (hOb P 524) .nil .nil) .nil) (.node (hMo0o396 P) (.node (hOb P 652) .nil .nil) .nil)) (.node (hOb P 204) (.node (hOb P 332) (.node (hOb P 588) .nil .nil) .nil) (.node (hMo0o460 P) .nil .nil))) (.node (hOb P 108) (.node (hMo0o172 P) (.node (hOb P 300) (.node (hOb P 556) .nil .nil) .nil) (.node (hOb P 428) .nil .nil)) (.node (hMo0o236 P) (.node (hOb P 364) (.node (hMo1o620 P) .nil .nil) .nil) (.node (hOb P 492) .nil .nil)))) (.node (hOb P 60) (.node (hOb P 92) (.node (hOb P 156) (.node (hMo0o284 P) (.node (hMo1o540 P) .nil .nil) .nil) (.node (hOb P 412) .nil .nil)) (.node (hOb P 220) (.node (hOb P 348) (.node (hOb P 604) .nil .nil) .nil) (.node (hMo1o476 P) .nil .nil))) (.node (hOb P 124) (.node (hOb P 188) (.node (hMo0o316 P) (.node (hOb P 572) .nil .nil) .nil) (.node (hOb P 444) .nil .nil)) (.node (hOb P 252) (.node (hOb P 380) (.node (hOb P 636) .nil .nil) .nil) (.node (hOb P 508) .nil .nil))))))) (.node (boot_o_6 P) (.node (boot_o_10 P) (.node (hOb P 18) (.node (hOb P 34) (.node (hOb P 66) (.node (hMo0o130 P) (.node (hMo0o258 P) (.node (hMo1o514 P) .nil .nil) .nil) (.node (hMo0o386 P) (.node (hMo1o642 P) .nil .nil) .nil)) (.node (hOb P 194) (.node (hOb P 322) (.node (hMo1o578 P) .nil .nil) .nil) (.node (hOb P 450) .nil .nil))) (.node (hMo0o98 P) (.node (hOb P 162) (.node (hOb P 290) (.node (hOb P 546) .nil .nil) .nil) (.node (hOb P 418) .nil .nil)) (.node (hOb P 226) (.node (hMo0o354 P) (.node (hMo1o610 P) .nil .nil) .nil) (.node (hOb P 482) .nil .nil)))) (.node (hOb P 50) (.node (hOb P 82) (.node (hOb P 146) (.node (hMo0o274 P) (.node (hMo1o530 P) .nil .nil) .nil) (.node (hOb P 402) (.node (hMo1o658 P) .nil .nil) .nil)) (.node (hMo0o210 P) (.node (hOb P 338) (.node (hOb P 594) .nil .nil) .nil) (.node (hOb P 466) .nil .nil))) (.node (hOb P 114) (.node (hOb P 178) (.node (hOb P 306) (.node (hOb P 562) .nil .nil) .nil) (.node (hOb P 434) .nil .nil)) (.node (hOb P 242) (.node (hOb P 370) (.node (hOb P 626) .nil .nil) .nil) (.node (hMo1o498 P) .nil .nil))))) (.node (hMo0o26 P) (.node (hOb P 42) (.node (hMo0o74 P) (.node (hOb P 138) (.node (hOb P 266) (.node (hOb P 522) .nil .nil) .nil) (.node (hOb P 394) (.node (hMo1o650 P) .nil .nil) .nil)) (.node (hOb P 202) (.node (hMo0o330 P) (.node (hOb P 586) .nil .nil) .nil) (.node (hOb P 458) .nil .nil))) (.node (hOb P 106) (.node (hOb P 170) (.node (hMo0o298 P) (.node (hMo1o554 P) .nil .nil) .nil) (.node (hOb P 426) .nil .nil)) (.node (hOb P 234) (.node (hOb P 362) (.node (hOb P 618) .nil .nil) .nil) (.node (hOb P 490) .nil .nil)))) (.node (hMo0o58 P) (.node (hOb P 90) (.node (hMo0o154 P) (.node (hOb P 282) (.node (hOb P 538) .nil .nil) .nil) (.node (hMo0o410 P) .nil .nil)) (.node (hMo0o218 P) (.node (hOb P 346) (.node (hOb P 602) .nil .nil) .nil) (.node (hMo1o474 P) .nil .nil))) (.node (hOb P 122) (.node (hMo0o186 P) (.node (hOb P 314) (.node (hOb P 570) .nil .nil) .nil) (.node (hOb P 442) .nil .nil)) (.node (hMo0o250 P) (.node (hOb P 378) (.node (hOb P 634) .nil .nil) .nil) (.node (hOb P 506) .nil .nil)))))) (.node (hMo0o14 P) (.node (hOb P 22) (.node (hOb P 38) (.node (hOb P 70) (.node (hOb P 134) (.node (hMo0o262 P) (.node (hMo1o518 P) .nil .nil) .nil) (.node (hOb P 390) (.node (hMo1o646 P) .nil .nil) .nil)) (.node (hOb P 198) (.node (hMo0o326 P) (.node (hMo1o582 P) .nil .nil) .nil) (.node (hOb P 454) .nil .nil))) (.node (hMo0o102 P) (.node (hOb P 166) (.node (hOb P 294) (.node (hMo1o550 P) .nil .nil) .nil) (.node (hMo0o422 P) .nil .nil)) (.node (hOb P 230) (.node (hMo0o358 P) (.node (hOb P 614) .nil .nil) .nil) (.node (hOb P 486) .nil .nil)))) (.node (hMo0o54 P) (.node (hOb P 86) (.node (hOb P 150) (.node (hOb P 278) (.node (hOb P 534) .nil .nil) .nil) (.node (hOb P 406) (.node (hMo1o662 P) .nil .nil) .nil)) (.node (hOb P 214) (.node (hOb P 342) (.node (hOb P 598) .nil .nil) .nil) (.node (hMo0o470 P) .nil .nil))) (.node (hOb P 118) (.node (hMo0o182 P) (.node (hOb P 310) (.node (hOb P 566) .nil .nil) .nil) (.node (hOb P 438) .nil .nil)) (.node (hMo0o246 P) (.node (hOb P 374) (.node (hMo1o630 P) .nil .nil) .nil) (.node (hMo1o502 P) .nil .nil))))) (.node (hMo0o30 P) (.node (hOb P 46) (.node (hMo0o78 P) (.node (hOb P 142) (.node (hMo0o270 P) (.node (hOb P 526) .nil .nil) .nil) (.node (hOb P 398) (.node (hMo1o654 P) .nil .nil) .nil)) (.node (hOb P 206) (.node (hOb P 334) (.node (hOb P 590) .nil .nil) .nil) (.node (hOb P 462) .nil .nil))) (.node (hOb P 110) (.node (hOb P 174) (.node (hMo0o302 P) (.node (hOb P 558) .nil .nil) .nil) (.node (hOb P 430) .nil .nil)) (.node (hOb P 238) (.node (hOb P 366) (.node (hOb P 622) .nil .nil) .nil) (.node (hOb P 494) .nil .nil)))) (.node (hOb P 62) (.node (hOb P 94) (.node (hMo0o158 P) (.node (hOb P 286) (.node (hOb P 542) .nil .nil) .nil) (.node (hMo0o414 P) .nil .nil)) (.node (hMo0o222 P) (.node (hOb P 350) (.node (hMo1o606 P) .nil .nil) .nil) (.node (hMo1o478 P) .nil .nil))) (.node (hMo0o126 P) (.node (hOb P 190) (.node (hOb P 318) (.node (hOb P 574) .nil .nil) .nil) (.node (hOb P 446) .nil .nil)) (.node (hOb P 254) (.node (hMo0o382 P) (.node (hMo1o638 P) .nil .nil) .nil) (.node (hOb P 510) .nil .nil)))))))))
abbrev hPosM1 : Pos := ⟨351, 0, 354, 36⟩
noncomputable def hMidS1 (P : Params) (os : OsState) : SharedT := ⟨hMidT1 P, 664, {}, ⟨[]⟩, boot_drawn, 1015, os⟩
theorem pieceA (w : World) : RunP PySem.Challenge.pw_em5011_01 (some (.ref 6)) 2600 hS hMidS0 ((behindTheImports PySem.Challenge.pw_em5011_01).take 14) pos0 hPosM0 w := by
  delta RunP hEnv hCode hS hMidS0 piecesOf
  rewrite [PySem.W.Fast.te18375239608421694729]
  kernel_rfl
theorem pieceBf (w : World) : RunP PySem.Challenge.pw_em5011_01 (some (.ref 6)) 2600 hMidS0 hMidS1 (((behindTheImports PySem.Challenge.pw_em5011_01).drop 14).take 4) hPosM0 hPosM1 (w.withFollow "special-get-raises" false) := by
  delta RunP hEnv hCode hMidS0 hMidS1 piecesOf
  rewrite [PySem.W.Fast.te18375239608421694729]
  kernel_rfl
theorem pieceBt (w : World) : RunP PySem.Challenge.pw_em5011_01 (some (.ref 6)) 2600 hMidS0 hMidS1 (((behindTheImports PySem.Challenge.pw_em5011_01).drop 14).take 4) hPosM0 hPosM1 (w.withFollow "special-get-raises" true) := by
  delta RunP hEnv hCode hMidS0 hMidS1 piecesOf
  rewrite [PySem.W.Fast.te18375239608421694729]
  kernel_rfl
theorem pieceCf (w : World) : EndP PySem.Challenge.pw_em5011_01 mk.view_39 hLoose (fun s => xlAt mk.view_39 [] s && recOk (OpenLaw.row PySem.Challenge.rw_em5011_01).toRowW.records s) mk.heap_39 hAs [721] 3600 true hPos (some (.ref 6)) hMidS1 (((behindTheImports PySem.Challenge.pw_em5011_01).drop 14).drop 4) hPosM1 (w.withFollow "special-get-raises" false) := by
  delta EndP hEnv hCode hMidS1 piecesOf
  rewrite [PySem.W.Fast.te18375239608421694729, PySem.W.Fast.te5923862056798008813, PySem.W.Fast.te4187177175401517315, PySem.W.Fast.te10110043849684766642, PySem.W.Fast.te14364793385576792824, PySem.W.Fast.te12563942051412417395]
  kernel_rfl
theorem pieceCt (w : World) : EndP PySem.Challenge.pw_em5011_01 mk.view_39 hLoose (fun s => xlAt mk.view_39 [] s && recOk (OpenLaw.row PySem.Challenge.rw_em5011_01).toRowW.records s) mk.heap_39 hAs [721] 3600 true hPos (some (.ref 6)) hMidS1 (((behindTheImports PySem.Challenge.pw_em5011_01).drop 14).drop 4) hPosM1 (w.withFollow "special-get-raises" true) := by
  delta EndP hEnv hCode hMidS1 piecesOf
  rewrite [PySem.W.Fast.te18375239608421694729, PySem.W.Fast.te5923862056798008813, PySem.W.Fast.te4187177175401517315, PySem.W.Fast.te10110043849684766642, PySem.W.Fast.te14364793385576792824, PySem.W.Fast.te12563942051412417395]
  kernel_rfl
section
set_option hygiene false in
local macro_rules
  | `(tactic| refine $f:ident $args*) => do
    if f.getId == `PySem.W.holds_open then `(tactic| (refine' $f $args*; (case hl =>
      refine' left_of_three (p := PySem.Challenge.pw_em5011_01) (nA := 2600) (nB := 2600) (nC := 3600) (S1 := hMidS0) (S2 := hMidS1) (pos1 := hPosM0) (pos2 := hPosM1) (posK := hPos) 14 4 (ann := some (.ref 6)) (boot_open ?o1 ?o2 ?o3) ?size ?le ?pre ?block pieceA ?pieceB ?pieceC
      case o1 => kernel_rfl
      case o2 => kernel_rfl
      case o3 => (intro s; kernel_rfl)
      case size => (intro w; kernel_rfl)
      case le => kernel_rfl
      case pre => (intro w; kernel_rfl)
      case block => (intro w; kernel_rfl)
      case pieceB => exact byRow2 "special-get-raises" pieceBf pieceBt
      case pieceC =>
        have hv : Mine.hd.view_39 = Mine.mk.view_39 := by kernel_rfl
        have hh : Mine.hd.heap_39 = Mine.mk.heap_39 := by kernel_rfl
        rewrite [hv, hh]
        exact byRow2 "special-get-raises" pieceCf pieceCt))) else Lean.Macro.throwUnsupported
open_top hd for PySem.Challenge.rw_em5011_01
end
end Mine
namespace Mine
theorem fillAll : Mine.hd.heap_39 = Mine.hd.heap_39 ∧ PySem.Challenge.rw_em5011_01 = PySem.Challenge.rw_em5011_01 := by k_fill; exact ⟨rfl, rfl⟩
end Mine
namespace Mine

abbrev View := Addr → Option Obj

inductive D where
  | none
  | bool (b : Bool)
  | int (i : Int)
  | str (s : Str)
  | list (l : List D)
  | tup (l : List D)
  | raw (v : Value)

def VLe (H H' : View) : Prop := ∀ b o, H b = some o → H' b = some o
theorem VLe.refl (H : View) : VLe H H := fun _ _ e => e
theorem VLe.trans {H₁ H₂ H₃ : View} (x : VLe H₁ H₂) (y : VLe H₂ H₃) : VLe H₁ H₃ := fun b o e => y b o (x b o e)

abbrev lstO (vs : Array Value) (n : Nat) : Obj := { cls := .type "list", dict := none, data := .seq vs n, slots := #[] }
abbrev tupO (vs : Array Value) (n : Nat) : Obj := { cls := .type "tuple", dict := none, data := .seq vs n, slots := #[] }

mutual
inductive Rel (H : View) : Value → D → Prop
  | none : Rel H .none .none
  | bool (b : Bool) : Rel H (.bool b) (.bool b)
  | int (i : Int) (t : Tok) : Rel H (.int i t) (.int i)
  | str (s : Str) (t : Tok) : Rel H (.str s t) (.str s)
  | list {a : Addr} {vs : Array Value} {n : Nat} {ds : List D} : H a = some (lstO vs n) → RelL H vs.toList ds → Rel H (.ref a) (.list ds)
  | tup {a : Addr} {vs : Array Value} {n : Nat} {ds : List D} : H a = some (tupO vs n) → RelL H vs.toList ds → Rel H (.ref a) (.tup ds)
  | raw (v : Value) : Rel H v (.raw v)
inductive RelL (H : View) : List Value → List D → Prop
  | nil : RelL H [] []
  | cons {v : Value} {d : D} {vs : List Value} {ds : List D} : Rel H v d → RelL H vs ds → RelL H (v :: vs) (d :: ds)
end

mutual
theorem Rel.mono {H H' : View} (k : VLe H H') {v : Value} {d : D} (h : Rel H v d) : Rel H' v d := by
  cases h with
  | none => exact .none
  | bool b => exact .bool b
  | int i t => exact .int i t
  | str s t => exact .str s t
  | list h1 h2 => exact .list (k _ _ h1) (RelL.mono k h2)
  | tup h1 h2 => exact .tup (k _ _ h1) (RelL.mono k h2)
  | raw v => exact .raw v
theorem RelL.mono {H H' : View} (k : VLe H H') {vs : List Value} {ds : List D} (h : RelL H vs ds) : RelL H' vs ds := by
  cases h with
  | nil => exact .nil
  | cons h1 h2 => exact .cons (Rel.mono k h1) (RelL.mono k h2)
end

theorem RelL.length {H : View} : ∀ {vs : List Value} {ds : List D}, RelL H vs ds → vs.length = ds.length
  | _, _, .nil => rfl
  | _, _, .cons _ t => by simp [t.length]
theorem RelL.append {H : View} : ∀ {vs vs' : List Value} {ds ds' : List D}, RelL H vs ds → RelL H vs' ds' → RelL H (vs ++ vs') (ds ++ ds')
  | _, _, _, _, .nil, h => h
  | _, _, _, _, .cons h t, h' => .cons h (t.append h')
theorem RelL.get {H : View} : ∀ {vs : List Value} {ds : List D}, RelL H vs ds → ∀ {i : Nat} {v : Value}, vs[i]? = some v → ∃ d, ds[i]? = some d ∧ Rel H v d
  | _, _, .nil, i, v, e => by simp at e
  | _, _, .cons h t, 0, v, e => by simp at e; subst e; exact ⟨_, rfl, h⟩
  | _, _, .cons h t, i + 1, v, e => by simp at e; simpa using t.get e
theorem RelL.get' {H : View} : ∀ {vs : List Value} {ds : List D}, RelL H vs ds → ∀ {i : Nat} {d : D}, ds[i]? = some d → ∃ v, vs[i]? = some v ∧ Rel H v d
  | _, _, .nil, i, v, e => by simp at e
  | _, _, .cons h t, 0, v, e => by simp at e; subst e; exact ⟨_, rfl, h⟩
  | _, _, .cons h t, i + 1, v, e => by simp at e; simpa using t.get' e
theorem RelL.take {H : View} : ∀ {vs : List Value} {ds : List D}, RelL H vs ds → ∀ (i : Nat), RelL H (vs.take i) (ds.take i)
  | _, _, .nil, i => by simp; exact .nil
  | _, _, .cons h t, 0 => .nil
  | _, _, .cons h t, i + 1 => .cons h (t.take i)
theorem RelL.drop {H : View} : ∀ {vs : List Value} {ds : List D}, RelL H vs ds → ∀ (i : Nat), RelL H (vs.drop i) (ds.drop i)
  | _, _, .nil, i => by simp; exact .nil
  | _, _, .cons h t, 0 => .cons h t
  | _, _, .cons h t, i + 1 => t.drop i

def View.add (H : View) (a : Addr) (o : Obj) : View := fun b => if b = a then some o else H b

structure Cfg where
  prog : Program
  w : World
  K : Frag
  P : Addr
  cc : Addr
  tl : Int
  tc : Int
  tq : Str
  h₀ : Heap
  mg : Str → Option Value
  mb : Str → Option Value
  k : K.In h₀
  g : h₀.Ns mainGlobals mg
  b : h₀.Ns builtinsNs mb
  nolimit : h₀.NoLimit
  bt : ∀ x : Str, x ≠ "__name__" → mb x = bootBuiltins x
  nodig : ∃ mc, h₀.Ns cStatics mc ∧ mc "sys.int_max_str_digits" = none
  bmain : ∃ bm ob, mg "__builtins__" = some (.ref bm) ∧ bm ≠ builtinsNs ∧ h₀.get? bm = some ob ∧ ob.cls = .type "module" ∧ ob.dict = some builtinsNs ∧ ob.data = .plain
  chd : CodeHd h₀ cc P
  noP : h₀.get? P = none

/-- the table of the maker's code: empty, or it holds the code of its one inner def -/
def Cfg.Tb (c : Cfg) (H : View) (o : Obj) : Prop :=
  o = tabObj #[] ∨ ∃ c' o' vs t, o = tabObj #[rawInt c.tl, rawInt c.tc, .ref c'] ∧ H c' = some o' ∧ o'.data = .fields vs ∧ vs[1]? = some (.str c.tq t)
theorem Cfg.tbm (c : Cfg) (H H' : View) (o : Obj) (k : VLe H H') (h : c.Tb H o) : c.Tb H' o := by
  rcases h with h | ⟨c', o', vs, t, h1, h2, h3⟩
  · exact .inl h
  · exact .inr ⟨c', o', vs, t, h1, k _ _ h2, h3⟩

structure Inv (c : Cfg) (H : View) (h : Heap) : Prop where
  le : ∀ b o, H b = some o → h.get? b = some o
  base : ∀ b o, c.h₀.get? b = some o → H b = some o
  noP : H c.P = none
  tb : ∃ o, h.get? c.P = some o ∧ c.Tb H o

theorem Inv.keep {c : Cfg} {H : View} {h : Heap} (I : Inv c H h) : ∀ b o, c.h₀.get? b = some o → h.get? b = some o := fun b o e => I.le b o (I.base b o e)

structure HStep (c : Cfg) (H : View) (h : Heap) (H' : View) (h' : Heap) : Prop where
  up : VLe H H'
  fresh : ∀ b o, H' b = some o → H b = some o ∨ h.get? b = none
  ext : ∀ b o, b ≠ c.P → h.get? b = some o → h'.get? b = some o
  inv : Inv c H' h'

section
variable {c : Cfg} {H H' H₁ H₂ H₃ : View} {h h' h₁ h₂ h₃ : Heap} {a : Addr} {o : Obj}

theorem HStep.refl (I : Inv c H h) : HStep c H h H h := ⟨.refl H, fun _ _ e => .inl e, fun _ _ _ e => e, I⟩
theorem HStep.alive (x : HStep c H h H' h') (I : Inv c H h) {b : Addr} (e : h'.get? b = none) : h.get? b = none := by
  cases q : h.get? b with
  | none => rfl
  | some ob =>
    by_cases hb : b = c.P
    · obtain ⟨o', h1, _⟩ := x.inv.tb
      rw [hb, h1] at e; cases e
    · rw [x.ext b ob hb q] at e; cases e
theorem HStep.trans (x : HStep c H₁ h₁ H₂ h₂) (y : HStep c H₂ h₂ H₃ h₃) (I : Inv c H₁ h₁) : HStep c H₁ h₁ H₃ h₃ :=
  ⟨x.up.trans y.up, fun b ob e => (y.fresh b ob e).elim (x.fresh b ob) fun q => .inr (x.alive I q), fun b ob hb e => y.ext b ob hb (x.ext b ob hb e), y.inv⟩
theorem HStep.grow (I : Inv c H h) (k : ∀ b o, h.get? b = some o → h'.get? b = some o) : HStep c H h H h' :=
  ⟨.refl H, fun _ _ e => .inl e, fun b ob _ e => k b ob e, ⟨fun b ob e => k b ob (I.le b ob e), I.base, I.noP, let ⟨ob, h1, h2⟩ := I.tb; ⟨ob, k _ _ h1, h2⟩⟩⟩
theorem View.le_add (hn : H a = none) : VLe H (H.add a o) := fun b ob e => by
  unfold View.add
  by_cases hb : b = a
  · rw [hb, hn] at e; cases e
  · rw [if_neg hb]; exact e
theorem Inv.none_of (I : Inv c H h) (e : h.get? a = none) : H a = none := by
  cases q : H a with
  | none => rfl
  | some ob => rw [I.le a ob q] at e; cases e
theorem HStep.add (I : Inv c H h) (k : ∀ b o, h.get? b = some o → h'.get? b = some o) (hn : h.get? a = none) (ho : h'.get? a = some o) : HStep c H h (H.add a o) h' := by
  have hle := View.le_add (o := o) (I.none_of hn)
  refine ⟨hle, fun b ob e => ?_, fun b ob _ e => k b ob e, ⟨fun b ob e => ?_, fun b ob e => hle b ob (I.base b ob e), ?_, ?_⟩⟩
  · by_cases hb : b = a
    · exact .inr (hb ▸ hn)
    · unfold View.add at e; rw [if_neg hb] at e; exact .inl e
  · by_cases hb : b = a
    · unfold View.add at e; rw [if_pos hb] at e; cases e; rw [hb]; exact ho
    · unfold View.add at e; rw [if_neg hb] at e; exact k b ob (I.le b ob e)
  · obtain ⟨ob, h1, _⟩ := I.tb
    unfold View.add
    rw [if_neg (fun q => by rw [q, hn] at h1; cases h1)]
    exact I.noP
  · obtain ⟨ob, h1, h2⟩ := I.tb
    exact ⟨ob, k _ _ h1, c.tbm _ _ _ hle h2⟩
/-- an object that stands already, outside the view and not the table, is frozen -/
theorem HStep.freeze {h₀ : Heap} {H₀ : View} (x : HStep c H₀ h₀ H h) (hn : h₀.get? a = none) (hnH : H a = none) (hP : a ≠ c.P) (ho : h.get? a = some o) : HStep c H₀ h₀ (H.add a o) h := by
  have hle := View.le_add (o := o) hnH
  refine ⟨x.up.trans hle, fun b ob e => ?_, x.ext, ⟨fun b ob e => ?_, fun b ob e => hle b ob (x.inv.base b ob e), ?_, ?_⟩⟩
  · by_cases hb : b = a
    · exact .inr (hb ▸ hn)
    · unfold View.add at e; rw [if_neg hb] at e; exact x.fresh b ob e
  · by_cases hb : b = a
    · unfold View.add at e; rw [if_pos hb] at e; cases e; rw [hb]; exact ho
    · unfold View.add at e; rw [if_neg hb] at e; exact x.inv.le b ob e
  · unfold View.add
    rw [if_neg (Ne.symm hP)]
    exact x.inv.noP
  · obtain ⟨ob, h1, h2⟩ := x.inv.tb
    exact ⟨ob, h1, c.tbm _ _ _ hle h2⟩
theorem View.add_self : (H.add a o) a = some o := by unfold View.add; rw [if_pos rfl]
theorem HStep.miss (x : HStep c H h H' h') (ha : h.get? a = some o) (hn : H a = none) : H' a = none := by
  cases q : H' a with
  | none => rfl
  | some ob =>
    rcases x.fresh a ob q with e | e
    · rw [hn] at e; cases e
    · rw [ha] at e; cases e
end

/-- room: frames and C units -/
structure Ok (A : Around) (n : Nat) : Prop where
  hh : A.handled = none
  dep : A.depth + n < recursionLimit
  un : A.units + 8 * n + 100 < cLine

theorem Ok.le {A : Around} {n m : Nat} (x : Ok A n) (h : m ≤ n) : Ok A m := ⟨x.hh, by have := x.dep; omega, by have := x.un; omega⟩
theorem Ok.deeper {A : Around} {n : Nat} {env : Env} (x : Ok A (n + 1)) : Ok (A.deeper env) n :=
  ⟨x.hh, by have := x.dep; show A.depth + 1 + n < _; omega, by have := x.un; show A.units + 3 + 8 * n + 100 < _; omega⟩

/-- the names of a frame: its locals and cells -/
structure Frm (c : Cfg) (env : Env) (ρ : Str → Option Value) (h : Heap) : Prop where
  kind : env.scope.kind = .function
  gl : env.globals = mainGlobals
  bl : env.builtins = builtinsNs
  apL : env.locals ≠ c.P
  apC : ∀ x a, env.cells.lookup x = some a → a ≠ c.P
  loc : ∃ m, h.Ns env.locals m ∧ ∀ x v, ρ x = some v → env.kindOf x = some .local → m x = some v
  cell : ∀ x a, env.cells.lookup x = some a → ∃ v, h.IsCell a v
  cel : ∀ x v, ρ x = some v → (env.kindOf x = some .cell ∨ env.kindOf x = some .free) → ∃ a, env.cells.lookup x = some a ∧ h.IsCell a (some v)

theorem Frm.ext {c : Cfg} {env : Env} {ρ : Str → Option Value} {h h' : Heap} (F : Frm c env ρ h) (k : ∀ b o, b ≠ c.P → h.get? b = some o → h'.get? b = some o) : Frm c env ρ h' :=
  ⟨F.kind, F.gl, F.bl, F.apL, F.apC, let ⟨m, h1, h2⟩ := F.loc; ⟨m, h1.at' fun o e => k _ o F.apL e, h2⟩,
    fun x a e => let ⟨v, o, h2, h3⟩ := F.cell x a e; ⟨v, o, k a o (F.apC x a e) h2, h3⟩,
    fun x v e q => let ⟨a, h1, o, h2, h3⟩ := F.cel x v e q; ⟨a, h1, o, k a o (F.apC x a h1) h2, h3⟩⟩
theorem Frm.step {c : Cfg} {env : Env} {ρ : Str → Option Value} {H H' : View} {h h' : Heap} (F : Frm c env ρ h) (x : HStep c H h H' h') : Frm c env ρ h' := F.ext x.ext

/-- what an expression is, in any state that extends the view H -/
structure PE (c : Cfg) (n : Nat) (env : Env) (ρ : Str → Option Value) (H : View) (e : Expr) (d : D) : Prop where
  run : ∀ (A : Around), Ok A n → ∀ (s : Shared) (H₁ : View), VLe H H₁ → Inv c H₁ s.heap → Frm c env ρ s.heap → ∀ (Q : Value → Shared → Prop) (E : Value → Shared → Prop),
    (∀ v H' h' tk', HStep c H₁ s.heap H' h' → Rel H' v d → Q v { s with heap := h', toks := tk' }) → wpAny (model c.prog c.w) A (eval e env) Q E s

/-- the same of a list of expressions -/
inductive PEs (c : Cfg) (n : Nat) (env : Env) (ρ : Str → Option Value) (H : View) : List Expr → List D → Prop
  | nil : PEs c n env ρ H [] []
  | cons {e : Expr} {d : D} {es : List Expr} {ds : List D} : (∀ env, starEach (e :: es) env = (false, eval e env) :: starEach es env) → PE c n env ρ H e d → PEs c n env ρ H es ds → PEs c n env ρ H (e :: es) (d :: ds)

/-- what a call of a value is -/
structure Fun (c : Cfg) (n : Nat) (f : Value) (H : View) (ds : List D) (d : D) : Prop where
  run : ∀ (A : Around), Ok A n → ∀ (s : Shared) (H₁ : View) (vs : List Value), VLe H H₁ → Inv c H₁ s.heap → RelL H₁ vs ds → ∀ (Q : Value → Shared → Prop) (E : Value → Shared → Prop),
    (∀ v H' h' tk', HStep c H₁ s.heap H' h' → Rel H' v d → Q v { s with heap := h', toks := tk' }) → wpAny (model c.prog c.w) A (call f vs) Q E s

section
variable {c : Cfg} {n m : Nat} {env : Env} {ρ : Str → Option Value} {H H' : View} {e : Expr} {d : D}
theorem PE.mono (x : PE c n env ρ H e d) (hn : n ≤ m) (hH : VLe H H') : PE c m env ρ H' e d := ⟨fun A ok s H₁ k I F Q E q => x.run A (ok.le hn) s H₁ (hH.trans k) I F Q E q⟩
theorem Fun.mono {f : Value} {ds : List D} (x : Fun c n f H ds d) (hn : n ≤ m) (hH : VLe H H') : Fun c m f H' ds d := ⟨fun A ok s H₁ vs k I R Q E q => x.run A (ok.le hn) s H₁ vs (hH.trans k) I R Q E q⟩

theorem ldFrm {x : Str} {v : Value} {A : Around} {E : Value → Shared → Prop} {s : Shared} {Q : Value → Shared → Prop} (F : Frm c env ρ s.heap) (hv : ρ x = some v)
    (hx : env.kindOf x = some .local ∨ env.kindOf x = some .cell ∨ env.kindOf x = some .free) (hc : (x == ("__classdict__" : Str)) = false) (h : Q v s) :
    wpAny (model c.prog c.w) A (loadName env x) Q E s := by
  rcases hx with hx | hx | hx
  · obtain ⟨mm, h1, h2⟩ := F.loc
    exact wpAny_loadName_local F.kind hx h1 (h2 x v hv hx) h
  · obtain ⟨a, h1, h2⟩ := F.cel x v hv (.inl hx)
    exact wpAny_loadName_cell F.kind hx h1 h2 h
  · obtain ⟨a, h1, h2⟩ := F.cel x v hv (.inr hx)
    exact wpAny_loadName_free F.kind hx h1 h2 h hc

theorem PE.name {x : Str} {pos : Pos} {v : Value} (hv : ρ x = some v) (r : Rel H v d)
    (hx : env.kindOf x = some .local ∨ env.kindOf x = some .cell ∨ env.kindOf x = some .free) (hc : (x == ("__classdict__" : Str)) = false := by decide) (hd : (x == ("__debug__" : Str)) = false := by decide) :
    PE c n env ρ H (.Name x pos) d := ⟨fun A _ s H₁ k I F Q E q =>
  wpAny_Name (ldFrm F hv hx hc (q v H₁ s.heap s.toks (.refl I) (r.mono k))) hd⟩

theorem PE.constInt {i : Int} {k : Nat} {pos : Pos} : PE c n env ρ H (.Constant (.int i) k pos) (.int i) := ⟨fun A _ s H₁ _ I F Q E q =>
  wpAny_Constant_int (q _ H₁ s.heap (s.toks + 1) (.refl I) (.int _ _))⟩
theorem PE.constStr {i : Str} {k : Nat} {pos : Pos} : PE c n env ρ H (.Constant (.str i) k pos) (.str i) := ⟨fun A _ s H₁ _ I F Q E q =>
  Constant_str (q _ H₁ s.heap (s.toks + 1) (.refl I) (.str _ _))⟩
theorem PE.constBool {b : Bool} {k : Nat} {pos : Pos} : PE c n env ρ H (.Constant (.bool b) k pos) (.bool b) := ⟨fun A _ s H₁ _ I F Q E q =>
  wpAny_Constant_bool (q _ H₁ s.heap s.toks (.refl I) (.bool _))⟩
theorem PE.constNone {k : Nat} {pos : Pos} : PE c n env ρ H (.Constant .none k pos) .none := ⟨fun A _ s H₁ _ I F Q E q =>
  wpAny_Constant_none (q _ H₁ s.heap s.toks (.refl I) .none)⟩

/-- a binary operation upon data -/
structure BinR (c : Cfg) (op : Operator) (a b d : D) : Prop where
  run : ∀ (A : Around), Ok A 0 → ∀ (s : Shared) (H₁ : View) (x y : Value), Inv c H₁ s.heap → Rel H₁ x a → Rel H₁ y b → ∀ (Q : Value → Shared → Prop) (E : Value → Shared → Prop),
    (∀ v H' h' tk', HStep c H₁ s.heap H' h' → Rel H' v d → Q v { s with heap := h', toks := tk' }) → wpAny (model c.prog c.w) A (binaryOp op x y) Q E s
structure CmpR (c : Cfg) (op : CmpOp) (a b d : D) : Prop where
  run : ∀ (A : Around), Ok A 0 → ∀ (s : Shared) (H₁ : View) (x y : Value), Inv c H₁ s.heap → Rel H₁ x a → Rel H₁ y b → ∀ (Q : Value → Shared → Prop) (E : Value → Shared → Prop),
    (∀ v H' h' tk', HStep c H₁ s.heap H' h' → Rel H' v d → Q v { s with heap := h', toks := tk' }) → wpAny (model c.prog c.w) A (compareOp op x y) Q E s

theorem PE.bin {op : Operator} {l r : Expr} {pos : Pos} {a b : D} (hl : PE c n env ρ H l a) (hr : PE c n env ρ H r b) (ho : BinR c op a b d) : PE c n env ρ H (.BinOp l op r pos) d :=
  ⟨fun A ok s H₁ k I F Q E q => wpAny_BinOp (hl.run A ok s H₁ k I F _ _ fun x H₂ h₂ t₂ S₂ R₂ => hr.run A ok _ H₂ (k.trans S₂.up) S₂.inv (F.step S₂) _ _ fun y H₃ h₃ t₃ S₃ R₃ =>
    ho.run A (ok.le (Nat.zero_le _)) _ H₃ x y S₃.inv (R₂.mono S₃.up) R₃ _ _ fun v H' h' t' S' R' => q v H' h' t' ((S₂.trans S₃ I).trans S' I) R')⟩
theorem PE.cmp {op : CmpOp} {l r : Expr} {pos : Pos} {a b : D} (hl : PE c n env ρ H l a) (hr : PE c n env ρ H r b) (ho : CmpR c op a b d) (hm : behindInMarks op r = false := by rfl) : PE c n env ρ H (.Compare l [op] [r] pos) d :=
  ⟨fun A ok s H₁ k I F Q E q => wpAny_Compare1 (hl.run A ok s H₁ k I F _ _ fun x H₂ h₂ t₂ S₂ R₂ => hr.run A ok _ H₂ (k.trans S₂.up) S₂.inv (F.step S₂) _ _ fun y H₃ h₃ t₃ S₃ R₃ =>
    ho.run A (ok.le (Nat.zero_le _)) _ H₃ x y S₃.inv (R₂.mono S₃.up) R₃ _ _ fun v H' h' t' S' R' => q v H' h' t' ((S₂.trans S₃ I).trans S' I) R') hm⟩
end

end Mine
namespace Mine

def GlobV (c : Cfg) (x : Str) (v : Value) : Prop :=
  nsIn c.K mainGlobals x = some (some v) ∨ (nsIn c.K mainGlobals x = some none ∧ bootBuiltins x = some v ∧ x ≠ ("__name__" : Str))

section
variable {c : Cfg} {n m : Nat} {env : Env} {ρ : Str → Option Value} {H H' : View} {e : Expr} {d : D}

theorem ldGlob {x : Str} {pos : Pos} {v : Value} {A : Around} {E : Value → Shared → Prop} {s : Shared} {Q : Value → Shared → Prop} (I : Inv c H s.heap) (F : Frm c env ρ s.heap)
    (hx : env.kindOf x = some .globalImplicit) (g : GlobV c x v) (hd : (x == ("__debug__" : Str)) = false) (h : Q v s) : wpAny (model c.prog c.w) A (eval (.Name x pos) env) Q E s := by
  have hg : s.heap.Ns env.globals c.mg := by rw [F.gl]; exact c.g.keeps I.keep
  rcases g with g | ⟨g, hb, hn⟩
  · exact Name_function_global F.kind hx (loadGlobal_global hg (mg_of c.k c.g g) h) hd
  · exact Name_function_global F.kind hx (loadGlobal_builtin hg (mg_none_of c.k c.g g) (by rw [F.bl]; exact c.b.keeps I.keep) ((c.bt x hn).trans hb) h) hd

theorem PE.glob {x : Str} {pos : Pos} {v : Value} (g : GlobV c x v) (hx : env.kindOf x = some .globalImplicit) (hd : (x == ("__debug__" : Str)) = false := by decide) : PE c n env ρ H (.Name x pos) (.raw v) :=
  ⟨fun A _ s H₁ k I F Q E q => ldGlob I F hx g hd (q v H₁ s.heap s.toks (.refl I) (.raw v))⟩

theorem PEs.spl {pos : Pos} : ∀ {es : List Expr} {ds : List D}, PEs c n env ρ H es ds → ∀ (A : Around), Ok A n → ∀ (s : Shared) (H₁ : View), VLe H H₁ → Inv c H₁ s.heap → Frm c env ρ s.heap → ∀ (Q : List Value → Shared → Prop) (E : Value → Shared → Prop),
    (∀ vs H' h' tk', HStep c H₁ s.heap H' h' → RelL H' vs ds → Q vs { s with heap := h', toks := tk' }) → wpAny (model c.prog c.w) A (spliced (backTo pos (starEach es env))) Q E s
  | _, _, .nil, A, ok, s, H₁, k, I, F, Q, E, q => wpAny_items_nil (q [] H₁ s.heap s.toks (.refl I) .nil)
  | _, _, .cons hs h t, A, ok, s, H₁, k, I, F, Q, E, q => wpAny_items_cons (h.run A ok s H₁ k I F _ _ fun v H₂ h₂ t₂ S₂ R₂ =>
      PEs.spl t A ok _ H₂ (k.trans S₂.up) S₂.inv (F.step S₂) _ _ fun vs H₃ h₃ t₃ S₃ R₃ => q (v :: vs) H₃ h₃ t₃ (S₂.trans S₃ I) (.cons (R₂.mono S₃.up) R₃)) (hs env)

/-- what may be called by callWith with plain arguments -/
inductive Callee (c : Cfg) : Value → Prop
  | builtin (id : String) : Callee c (.builtin id)
  | type (T : String) : Callee c (.type T)
  | fn {a : Addr} : fnIn c.K a = true → Callee c (.ref a)

theorem fnIn_get {K : Frag} {a : Addr} (h : fnIn K a = true) : ∃ o fd, K.lookup a = some o ∧ o.data = .func fd := by
  unfold fnIn at h
  split at h
  · rename_i q; exact ⟨_, _, q, rfl⟩
  · cases h

theorem evalArgs_any {M : Model} {A : Around} {E : Value → Shared → Prop} {s : Shared} {f : Value} {e : Expr} {rest : List Expr} {pos : Pos} {Q : Args → Shared → Prop}
    (hs : starEach (e :: rest) env = (false, eval e env) :: starEach rest env)
    (h : wpAny M A (spliced (backTo pos (starEach (e :: rest) env))) (fun vs s' => Q ⟨vs, []⟩ s') E s) : wpAny M A (evalArgs f true (backTo pos (starEach (e :: rest) env)) []) Q E s := by
  rw [hs] at h ⊢
  exact evalArgs_plain h

theorem noStars_plain {pos : Pos} : ∀ {es : List Expr} {ds : List D}, PEs c n env ρ H es ds → (backTo pos (starEach es env)).any (·.1) = false
  | _, _, .nil => rfl
  | _, _, .cons hs h t => by
    rw [hs]
    show (false || (backTo pos (starEach _ env)).any (·.1)) = false
    rw [noStars_plain t]; rfl

theorem callWith_any {f : Value} {e : Expr} {es : List Expr} {ds : List D} {pos : Pos} {first : List Value} (C : Callee c f) (as : PEs c n env ρ H (e :: es) ds) (A : Around) (ok : Ok A n) (s : Shared) (H₁ : View) (k : VLe H H₁) (I : Inv c H₁ s.heap) (F : Frm c env ρ s.heap)
    (Q : Value → Shared → Prop) (E : Value → Shared → Prop)
    (q : ∀ vs H' h' tk', HStep c H₁ s.heap H' h' → RelL H' vs ds → wpAny (model c.prog c.w) A (call f (first ++ vs)) Q E { s with heap := h', toks := tk' }) :
    wpAny (model c.prog c.w) A (callWith pos f first (backTo pos (starEach (e :: es) env)) []) Q E s := by
  have hs : starEach (e :: es) env = (false, eval e env) :: starEach es env := by cases as with | cons hs _ _ => exact hs env
  have hp := noStars_plain (pos := pos) as
  have sp := fun Q' E' q' => PEs.spl (pos := pos) as A ok s H₁ k I F Q' E' q'
  cases C with
  | builtin id => exact callWith_builtin hp (evalArgs_any hs (sp _ _ fun vs H' h' tk' S R => q vs H' h' tk' S R))
  | type T => exact PyProof.Rows.callWith_type hp (evalArgs_any hs (sp _ _ fun vs H' h' tk' S R => q vs H' h' tk' S R))
  | fn hf =>
    obtain ⟨o, fd, ho, hd⟩ := fnIn_get hf
    exact callWith_function (o := o) (fd := fd) (evalArgs_any hs (sp _ _ fun vs H' h' tk' S R => ⟨⟨S.inv.keep _ _ (c.k _ _ ho), hd⟩, q vs H' h' tk' S R⟩))

theorem PE.call {x : Str} {p pos : Pos} {f : Value} {a : Expr} {as : List Expr} {ds : List D} (hx : env.kindOf x = some .globalImplicit) (g : GlobV c x f) (C : Callee c f)
    (args : PEs c n env ρ H (a :: as) ds) (hf : Fun c n f H ds d) (hd : (x == ("__debug__" : Str)) = false := by decide) : PE c n env ρ H (.Call (.Name x p) (a :: as) [] pos) d :=
  ⟨fun A ok s H₁ k I F Q E q => Call_Name rfl (ldGlob I F hx g hd (callWith_any C args A ok s H₁ k I F Q E fun vs H₂ h₂ t₂ S₂ R₂ =>
    hf.run A ok _ H₂ vs (k.trans S₂.up) S₂.inv R₂ Q E fun v H' h' tk' S' R' => q v H' h' tk' (S₂.trans S' I) R'))⟩

theorem PEs.one {e : Expr} {d : D} (h : PE c n env ρ H e d) (hs : ∀ env, starEach [e] env = (false, eval e env) :: starEach [] env := by intro _; rfl) : PEs c n env ρ H [e] [d] := .cons hs h .nil
theorem PEs.two {e e' : Expr} {d d' : D} (h : PE c n env ρ H e d) (h' : PE c n env ρ H e' d') (hs : ∀ env, starEach [e, e'] env = (false, eval e env) :: starEach [e'] env := by intro _; rfl)
    (hs' : ∀ env, starEach [e'] env = (false, eval e' env) :: starEach [] env := by intro _; rfl) : PEs c n env ρ H [e, e'] [d, d'] := .cons hs h (.one h' hs')

theorem PE.listD {es : List Expr} {ds : List D} {pos : Pos} (h : PEs c n env ρ H es ds) (hsz : ds.length ≤ sizeLine) : PE c n env ρ H (.List es pos) (.list ds) :=
  ⟨fun A ok s H₁ k I F Q E q => wpAny_List (PEs.spl h A ok s H₁ k I F _ _ fun vs H₂ h₂ t₂ S₂ R₂ => ⟨by rw [R₂.length]; exact hsz, by
    have hn : h₂.get? h₂.objs.size = none := by
      cases e : h₂.get? h₂.objs.size with
      | none => rfl
      | some o => exact absurd (Heap.lt_size e) (Nat.lt_irrefl _)
    have S₃ : HStep c H₂ h₂ (H₂.add h₂.objs.size (lstO vs.toArray 0)) (h₂.push (lstO vs.toArray 0)) :=
      HStep.add S₂.inv (fun b o e => Heap.get?_push_of_some _ e) hn (Heap.get?_push_size _ rfl)
    exact q _ _ _ _ (S₂.trans S₃ I) (.list View.add_self (by simpa using R₂.mono S₃.up))⟩)⟩
theorem PE.tupD {es : List Expr} {ds : List D} {k' : Nat} {pos : Pos} (h : PEs c n env ρ H es ds) (hsz : ds.length ≤ sizeLine) : PE c n env ρ H (.Tuple es k' pos) (.tup ds) :=
  ⟨fun A ok s H₁ k I F Q E q => wpAny_Tuple (PEs.spl h A ok s H₁ k I F _ _ fun vs H₂ h₂ t₂ S₂ R₂ => ⟨by rw [R₂.length]; exact hsz, by
    have hn : h₂.get? h₂.objs.size = none := by
      cases e : h₂.get? h₂.objs.size with
      | none => rfl
      | some o => exact absurd (Heap.lt_size e) (Nat.lt_irrefl _)
    have S₃ : HStep c H₂ h₂ (H₂.add h₂.objs.size (tupO vs.toArray 0)) (h₂.push (tupO vs.toArray 0)) :=
      HStep.add S₂.inv (fun b o e => Heap.get?_push_of_some _ e) hn (Heap.get?_push_size _ rfl)
    exact q _ _ _ _ (S₂.trans S₃ I) (.tup View.add_self (by simpa using R₂.mono S₃.up))⟩)⟩
end

/-! entering a def -/
structure SR (c : Cfg) (n : Nat) (env : Env) (ρ : Str → Option Value) (H : View) (st : List Stmt) (d : D) : Prop where
  run : ∀ (A : Around), Ok A n → ∀ (s : Shared) (H₁ : View), VLe H H₁ → Inv c H₁ s.heap → Frm c env ρ s.heap → H₁ env.locals = none → (∀ x a, env.cells.lookup x = some a → H₁ a = none) →
   ∀ (Q : Flow → Shared → Prop) (E : Value → Shared → Prop),
    (∀ v H' h' tk', VLe H₁ H' → (∀ b o, H' b = some o → H₁ b = some o ∨ s.heap.get? b = none) → (∀ b o, b ≠ c.P → b ≠ env.locals → (∀ x a, env.cells.lookup x = some a → b ≠ a) → s.heap.get? b = some o → h'.get? b = some o) → Inv c H' h' → Rel H' v d →
      Q (.ret v) { s with heap := h', toks := tk' }) → wpAny (model c.prog c.w) A (execs st env) Q E s

theorem fresh_none (h : Heap) : h.get? h.objs.size = none := by
  cases e : h.get? h.objs.size with
  | none => rfl
  | some o => exact absurd (Heap.lt_size e) (Nat.lt_irrefl _)

section
variable {c : Cfg} {n : Nat} {H : View} {d : D} {ds : List D}

theorem Fun.enter {f : Addr} {name qual : Str} {params : Arguments} {body : List Stmt} {scope : Scope} {dV kV doc pm cdv ct oc : Value} {an od : Option Addr} {osl : Array (Option Value)} {ps : List Str}
    (ho : c.K.lookup f = some ⟨oc, od, .func (fnOf name qual params body scope dV kV doc pm an cdv ct), osl⟩) (hcd : codeIn c.K cdv qual = true)
    (hbind : ∀ vs : List Value, vs.length = ds.length → bindArgs (fnOf name qual params body scope dV kV doc pm an cdv ct) ⟨vs, []⟩ = pure (ps.zip vs))
    (hloc : ∀ x ∈ ps, scope.names.lookup x = some .local) (hcell : ∀ x ∈ scope.names, x.2 ≠ .cell)
    (h : ∀ (vs : List Value) (H₁ : View) (L : Addr), VLe H H₁ → RelL H₁ vs ds → SR c n (envOf qual scope L f cdv) (fun x => (ps.zip vs).reverse.lookup x) H₁ body d)
    (hco : scope.isCoroutine = false := by rfl) (hgen : scope.isGenerator = false := by rfl) (hk : scope.kind = .function := by rfl) : Fun c (n + 1) (.ref f) H ds d := by
  constructor
  intro A ok s H₁ vs k I R Q E q
  have hP : ∀ b o, H₁ b = some o → b ≠ c.P := fun b o e q => by rw [q, I.noP] at e; cases e
  have hPs : s.heap.objs.size ≠ c.P := fun q => by obtain ⟨o, h1, _⟩ := I.tb; rw [← q, fresh_none] at h1; cases h1
  refine wpAny_call (codeAny_call_def (fd := fnOf name qual params body scope dV kV doc pm an cdv ct) (body := body) (binds := ps.zip vs) (by have := ok.dep; omega) (I.keep _ _ (c.k _ _ ho)) rfl (c.nolimit.keeps I.keep) (codeRec_of (fun a o e => I.keep _ _ (c.k a o e)) hcd) rfl ?_ hcell ?_ ?_ hco hgen hk)
  · exact BindsTo.of_eq (hbind vs R.length)
  · intro x hx
    exact hloc _ (List.of_mem_zip hx).1
  · intro h₁ hns hk₁
    have I₁ : Inv c H₁ h₁ := (HStep.grow I hk₁).inv
    have F₁ : Frm c (envOf qual scope s.heap.objs.size f cdv) (fun x => (ps.zip vs).reverse.lookup x) h₁ :=
      ⟨hk, rfl, rfl, hPs, (fun x a e => by simp [envOf] at e), ⟨_, hns, fun x v e _ => e⟩, (fun x a e => by simp [envOf] at e), fun x v e hkd => by
        exfalso
        have h1 : x ∈ ps := by
          have := mem_of_lookup e
          exact (List.of_mem_zip (List.mem_reverse.mp this)).1
        have h2 : (envOf qual scope s.heap.objs.size f cdv).kindOf x = some .local := hloc x h1
        rw [h2] at hkd
        rcases hkd with e | e <;> cases e⟩
    refine (h vs H₁ s.heap.objs.size k R).run (A.deeper _) ok.deeper _ H₁ (.refl _) I₁ F₁ ?_ (fun x a e => by simp [envOf] at e) _ _ ?_
    · exact I.none_of (fresh_none _)
    · intro v H' h' tk' hup hfr hext I' R'
      refine q v H' h' tk' ⟨hup, fun b o e => ?_, fun b o hb e => ?_, I'⟩ R'
      · rcases hfr b o e with e' | e'
        · exact .inl e'
        · refine .inr ?_
          cases q' : s.heap.get? b with
          | none => rfl
          | some ob => rw [hk₁ b ob q'] at e'; cases e'
      · exact hext b o hb (Nat.ne_of_lt (Heap.lt_size e)) (fun x a e' => by simp [envOf] at e') (hk₁ b o e)
end
end Mine
namespace Mine

def upd (ρ : Str → Option Value) (x : Str) (v : Value) : Str → Option Value := fun y => if y = x then some v else ρ y

/-- a step that may change the addresses of mu besides -/
structure MStep (c : Cfg) (mu : List Addr) (H : View) (h : Heap) (H' : View) (h' : Heap) : Prop where
  up : VLe H H'
  fresh : ∀ b o, H' b = some o → H b = some o ∨ h.get? b = none
  ext : ∀ b o, b ≠ c.P → b ∉ mu → h.get? b = some o → h'.get? b = some o
  live : ∀ b ∈ mu, (h.get? b).isSome = true → (h'.get? b).isSome = true
  inv : Inv c H' h'

section
variable {c : Cfg} {mu mu' : List Addr} {H H' H₁ H₂ H₃ : View} {h h' h₁ h₂ h₃ : Heap} {a : Addr} {o : Obj}
theorem MStep.refl (I : Inv c H h) : MStep c mu H h H h := ⟨.refl H, fun _ _ e => .inl e, fun _ _ _ _ e => e, fun _ _ e => e, I⟩
theorem HStep.toM (x : HStep c H h H' h') : MStep c mu H h H' h' := ⟨x.up, x.fresh, fun b o hb _ e => x.ext b o hb e, fun b _ e => by
  obtain ⟨ob, q⟩ := Option.isSome_iff_exists.mp e
  by_cases hb : b = c.P
  · obtain ⟨o', h1, _⟩ := x.inv.tb
    rw [hb, h1]; rfl
  · rw [x.ext b ob hb q]; rfl, x.inv⟩
theorem MStep.lives (x : MStep c mu H h H' h') {b : Addr} (e : (h.get? b).isSome = true) : (h'.get? b).isSome = true := by
  by_cases hb : b = c.P
  · obtain ⟨o', h1, _⟩ := x.inv.tb
    rw [hb, h1]; rfl
  · by_cases hm : b ∈ mu
    · exact x.live b hm e
    · obtain ⟨ob, q⟩ := Option.isSome_iff_exists.mp e
      rw [x.ext b ob hb hm q]; rfl
theorem MStep.trans (x : MStep c mu H₁ h₁ H₂ h₂) (y : MStep c mu H₂ h₂ H₃ h₃) : MStep c mu H₁ h₁ H₃ h₃ :=
  ⟨x.up.trans y.up, fun b ob e => (y.fresh b ob e).elim (x.fresh b ob) fun q => .inr (by
      cases q' : h₁.get? b with
      | none => rfl
      | some ob' => have := x.lives (b := b) (by rw [q']; rfl); rw [q] at this; cases this),
    fun b ob hb hm e => y.ext b ob hb hm (x.ext b ob hb hm e), fun b hb e => y.lives (x.lives e), y.inv⟩
theorem MStep.weak (x : MStep c mu H h H' h') (hs : ∀ b ∈ mu, b ∈ mu') : MStep c mu' H h H' h' :=
  ⟨x.up, x.fresh, fun b o hb hm e => x.ext b o hb (fun q => hm (hs b q)) e, fun b _ e => x.lives e, x.inv⟩
theorem MStep.miss (x : MStep c mu H h H' h') (ha : (h.get? a).isSome = true) (hn : H a = none) : H' a = none := by
  cases q : H' a with
  | none => rfl
  | some ob =>
    rcases x.fresh a ob q with e | e
    · rw [hn] at e; cases e
    · rw [e] at ha; cases ha
/-- a change at one address outside the view -/
theorem MStep.at (I : Inv c H h) (hm : a ∈ mu) (hn : H a = none) (hP : a ≠ c.P) (hs : Heap.SameBut a h h') (hl : (h'.get? a).isSome = true) : MStep c mu H h H h' :=
  ⟨.refl H, fun _ _ e => .inl e, fun b o _ hb e => (hs.2 b fun q => hb (q ▸ hm)).trans e, fun b _ e => by
      by_cases hb : b = a
      · rw [hb]; exact hl
      · rw [hs.2 b hb]; exact e,
    ⟨fun b o e => (hs.2 b fun q => by rw [q, hn] at e; cases e).trans (I.le b o e), I.base, I.noP, let ⟨ob, h1, h2⟩ := I.tb; ⟨ob, (hs.2 _ (Ne.symm hP)).trans h1, h2⟩⟩⟩
/-- the same, nothing said of what was turned -/
structure DStep (c : Cfg) (mu : List Addr) (H : View) (h : Heap) (H' : View) (h' : Heap) : Prop where
  up : VLe H H'
  fresh : ∀ b o, H' b = some o → H b = some o ∨ h.get? b = none
  ext : ∀ b o, b ≠ c.P → b ∉ mu → h.get? b = some o → h'.get? b = some o
  inv : Inv c H' h'
theorem MStep.toD (x : MStep c mu H h H' h') : DStep c mu H h H' h' := ⟨x.up, x.fresh, x.ext, x.inv⟩
/-- when only new addresses were turned it is a plain step -/
theorem DStep.toH {h₀ : Heap} {H₀ : View} (x : HStep c H₀ h₀ H h) (I₀ : Inv c H₀ h₀) (y : DStep c mu H h H' h') (hnew : ∀ b ∈ mu, h₀.get? b = none) : HStep c H₀ h₀ H' h' :=
  ⟨x.up.trans y.up, fun b o e => (y.fresh b o e).elim (x.fresh b o) fun q => .inr (x.alive I₀ q), fun b o hb e => y.ext b o hb (fun hm => by rw [hnew b hm] at e; cases e) (x.ext b o hb e), y.inv⟩
end

/-- a list that is being filled -/
def AccL (Dd : Addr) (H : View) (h : Heap) (rs : List D) : Prop := ∃ vs n, h.get? Dd = some (lstO vs n) ∧ RelL H vs.toList rs

section
variable {c : Cfg}

/-- one comprehension's loop, by what a turn does to what is being filled -/
theorem comp_inv {A : Around} {H : View} {s : Shared} {cenv : Env} {x : Str} {px : Pos} {code : Code} {I : Addr} {fp wr mu : List Addr} {ds : List D} {P : Nat → Value → Prop} {St : Nat → Heap → Prop}
    {R : Result → Shared → Prop} {Acc : View → Heap → List D → Prop} {VI : Heap → Prop} {FV : Value → Heap → Prop} {em : D → List D} {rs₀ : List D}
    {BT : (Unit → Shared → Prop) → (Value → Shared → Prop) → Shared → Prop}
    (W : Walks c.prog c.w A I fp wr ds.length P St) (hP : ∀ i v, i < ds.length → P i v → ∃ d, ds[i]? = some d ∧ Rel H v d)
    (rule : ∀ (J : Nat → Shared → Prop), (∀ n s, J n s → wpAny (model c.prog c.w) A (pyNext (.ref I)) (fun r s₁ => match r with
        | none => R (.ok .next) s₁
        | some v => wpAny (model c.prog c.w) A (assign (.Name x px) cenv v) (fun _ s₂ => BT (fun _ s₃ => ∃ m, m < n ∧ J m s₃) (notedBy (model c.prog c.w) A cenv fun e s' => R (.error e) s') s₂)
            (notedBy (model c.prog c.w) A cenv fun e s' => R (.error e) s') s₁) (notedBy (model c.prog c.w) A cenv fun e s' => R (.error e) s') s) →
        ∀ n s, J n s → codeAny (model c.prog c.w) A code R s)
    (hmuf : ∀ b ∈ mu, b ∉ fp) (hfpP : ∀ b ∈ fp, b ≠ c.P) (hoff : ∀ b ∈ wr, H b = none) (hlive : ∀ b ∈ wr, (s.heap.get? b).isSome = true) (hmuo : ∀ b ∈ mu, H b = none) (hmul : ∀ b ∈ mu, (s.heap.get? b).isSome = true)
    (stl : ∀ i h, St i h → ∀ b ∈ wr, (h.get? b).isSome = true)
    (I0 : Inv c H s.heap) (st0 : St 0 s.heap) (acc0 : Acc H s.heap rs₀) (vi0 : VI s.heap)
    (keepA : ∀ H₁ H₂ h₁ h₂ rs, VLe H₁ H₂ → (∀ b o, b ∈ mu → h₁.get? b = some o → h₂.get? b = some o) → Acc H₁ h₁ rs → Acc H₂ h₂ rs)
    (keepV : ∀ h₁ h₂, (∀ b o, b ∈ mu → h₁.get? b = some o → h₂.get? b = some o) → VI h₁ → VI h₂)
    (asg : ∀ v H' (s' : Shared), MStep c (mu ++ wr) H s.heap H' s'.heap → VI s'.heap → ∀ Q E, (∀ h'' tk'', MStep c mu H' s'.heap H' h'' → FV v h'' → VI h'' → (∀ rs, Acc H' s'.heap rs → Acc H' h'' rs) → Q () { s' with heap := h'', toks := tk'' }) →
      wpAny (model c.prog c.w) A (assign (.Name x px) cenv v) Q E s')
    (body : ∀ d v H' (s' : Shared) rs i, d ∈ ds → i < ds.length → rs = rs₀ ++ (ds.take i).flatMap em → MStep c (mu ++ wr) H s.heap H' s'.heap → (∀ b ∈ mu, H' b = none) → Rel H' v d → FV v s'.heap → VI s'.heap → Acc H' s'.heap rs → ∀ Q E,
      (∀ H'' h'' tk'', MStep c mu H' s'.heap H'' h'' → Acc H'' h'' (rs ++ em d) → VI h'' → Q () { s' with heap := h'', toks := tk'' }) → BT Q E s')
    (done : ∀ H' h' tk', DStep c (mu ++ wr) H s.heap H' h' → (∀ b ∈ mu, H' b = none) → Acc H' h' (rs₀ ++ ds.flatMap em) → VI h' → R (.ok .next) { s with heap := h', toks := tk' }) :
    codeAny (model c.prog c.w) A code R s := by
  have hmuw : ∀ b ∈ mu, b ∉ wr := fun b hb hw => hmuf b hb (W.sub b hw)
  have hwrP : ∀ b ∈ wr, b ≠ c.P := fun b hb => hfpP b (W.sub b hb)
  refine rule (fun k s' => ∃ h' tk H' i, s' = { s with heap := h', toks := tk } ∧ MStep c (mu ++ wr) H s.heap H' h' ∧ St i h' ∧ Acc H' h' (rs₀ ++ (ds.take i).flatMap em) ∧ VI h' ∧ i ≤ ds.length ∧ k = ds.length + 1 - i) ?_ (ds.length + 1) s
    ⟨s.heap, s.toks, H, 0, rfl, .refl I0, st0, by simpa using acc0, vi0, Nat.zero_le _, rfl⟩
  rintro k s' ⟨h', tk, H', i, rfl, S', st', acc', vi', hi, rfl⟩
  have offMu : ∀ {H'' h''}, MStep c (mu ++ wr) H s.heap H'' h'' → ∀ b ∈ mu, H'' b = none := fun S b hb => S.miss (hmul b hb) (hmuo b hb)
  have offWr : ∀ {H'' h''}, MStep c (mu ++ wr) H s.heap H'' h'' → ∀ b ∈ wr, H'' b = none := fun S b hb => S.miss (hlive b hb) (hoff b hb)
  -- a step of the iterator
  have next : ∀ {h₁ : Heap}, (∀ b o, b ∉ wr → h'.get? b = some o → h₁.get? b = some o) → (∀ b ∈ wr, (h₁.get? b).isSome = true) → MStep c (mu ++ wr) H' h' H' h₁ := fun k₁ l₁ =>
    ⟨.refl _, fun _ _ e => .inl e, fun b o hb hm e => k₁ b o (fun q => hm (List.mem_append_right _ q)) e, fun b hm e => by
        rcases List.mem_append.mp hm with q | q
        · obtain ⟨ob, e'⟩ := Option.isSome_iff_exists.mp e
          rw [k₁ b ob (hmuw b q) e']; rfl
        · exact l₁ b q,
      ⟨fun b o e => k₁ b o (fun q => by rw [offWr S' b q] at e; cases e) (S'.inv.le b o e), S'.inv.base, S'.inv.noP,
        let ⟨ob, e1, e2⟩ := S'.inv.tb; ⟨ob, k₁ _ _ (fun q => hwrP _ q rfl) e1, e2⟩⟩⟩
  by_cases hlt : i < ds.length
  · refine W.item i _ _ _ hlt st' fun v h₁ tk₁ hPv st₁ hk₁ => ?_
    obtain ⟨d, hd, hRel⟩ := hP i v hlt hPv
    have N₁ := next hk₁ (stl _ _ st₁)
    have S₁ := S'.trans N₁
    have up₁ : ∀ b o, b ∈ mu → h'.get? b = some o → h₁.get? b = some o := fun b o hb e => hk₁ b o (hmuw b hb) e
    refine asg v H' { s with heap := h₁, toks := tk₁ } S₁ (keepV _ _ up₁ vi') _ _ fun h₂ tk₂ S₂ fv₂ vi₂ ka₂ => ?_
    have S₂' : MStep c (mu ++ wr) H s.heap H' h₂ := S₁.trans (S₂.weak fun b hb => List.mem_append_left _ hb)
    have acc₂ : Acc H' h₂ (rs₀ ++ (ds.take i).flatMap em) := ka₂ _ (keepA _ _ _ _ _ (.refl _) up₁ acc')
    refine body d v H' { s with heap := h₂, toks := tk₂ } _ i (List.mem_of_getElem? hd) hlt rfl S₂' (offMu S₂') (hRel.mono S'.up) fv₂ vi₂ acc₂ _ _ fun H₃ h₃ tk₃ S₃ acc₃ vi₃ => ?_
    refine ⟨ds.length + 1 - (i + 1), by omega, h₃, tk₃, H₃, i + 1, rfl, S₂'.trans (S₃.weak fun b hb => List.mem_append_left _ hb), ?_, ?_, vi₃, hlt, rfl⟩
    · refine W.frame _ _ _ st₁ fun b hb o e => ?_
      have hbm : b ∉ mu := fun q => hmuf b q hb
      exact S₃.ext b o (hfpP b hb) hbm (S₂.ext b o (hfpP b hb) hbm e)
    · rw [List.take_add_one, hd]
      simpa using acc₃
  · have hin : i = ds.length := by omega
    subst hin
    refine W.done _ _ _ st' fun h₁ tk₁ hk₁ => ?_
    have up₁ : ∀ b o, b ∈ mu → h'.get? b = some o → h₁.get? b = some o := fun b o hb e => hk₁ b o (hmuw b hb) e
    refine done H' h₁ tk₁ ⟨S'.up, S'.fresh, fun b o hb hm e => hk₁ b o (fun q => hm (List.mem_append_right _ q)) (S'.ext b o hb hm e), ?_⟩ (offMu S') ?_ (keepV _ _ up₁ vi')
    · exact ⟨fun b o e => hk₁ b o (fun q => by rw [offWr S' b q] at e; cases e) (S'.inv.le b o e), S'.inv.base, S'.inv.noP,
        let ⟨ob, e1, e2⟩ := S'.inv.tb; ⟨ob, hk₁ _ _ (fun q => hwrP _ q rfl) e1, e2⟩⟩
    · rw [List.take_length] at acc'
      exact keepA _ _ _ _ _ (.refl _) up₁ acc'
end
end Mine
namespace Mine

/-- the truth of a test -/
structure PT (c : Cfg) (n : Nat) (env : Env) (ρ : Str → Option Value) (H : View) (e : Expr) (b : Bool) : Prop where
  run : ∀ (A : Around), Ok A n → ∀ (s : Shared) (H₁ : View), VLe H H₁ → Inv c H₁ s.heap → Frm c env ρ s.heap → ∀ (Q : Bool → Shared → Prop) (E : Value → Shared → Prop),
    (∀ H' h' tk', HStep c H₁ s.heap H' h' → Q b { s with heap := h', toks := tk' }) → wpAny (model c.prog c.w) A (isTrue e env (eval e env)) Q E s

inductive Tests (c : Cfg) (n : Nat) (env : Env) (ρ : Str → Option Value) (H : View) : List Expr → Bool → Prop
  | nil : Tests c n env ρ H [] true
  | one {e : Expr} {b : Bool} : PT c n env ρ H e b → Tests c n env ρ H [e] b

section
variable {c : Cfg} {n : Nat} {env : Env} {ρ : Str → Option Value} {H : View} {e : Expr} {d : D} {b : Bool}
theorem PT.cmp {op : CmpOp} {l r : Expr} {pos : Pos} {a b : D} {t : Bool} (hl : PE c n env ρ H l a) (hr : PE c n env ρ H r b) (ho : CmpR c op a b (.bool t)) (hm : behindInMarks op r = false := by rfl) : PT c n env ρ H (.Compare l [op] [r] pos) t :=
  ⟨fun A ok s H₁ k I F Q E q => wpAny_isTrue_Compare1 (hl.run A ok s H₁ k I F _ _ fun x H₂ h₂ t₂ S₂ R₂ => hr.run A ok _ H₂ (k.trans S₂.up) S₂.inv (F.step S₂) _ _ fun y H₃ h₃ t₃ S₃ R₃ =>
    ho.run A (ok.le (Nat.zero_le _)) _ H₃ x y S₃.inv (R₂.mono S₃.up) R₃ _ _ fun v H' h' t' S' R' => by cases R'; exact wpAny_truthy_bool (q H' h' t' ((S₂.trans S₃ I).trans S' I))) hm⟩
theorem PT.mono {m : Nat} {H' : View} (x : PT c n env ρ H e b) (hn : n ≤ m) (hH : VLe H H') : PT c m env ρ H' e b := ⟨fun A ok s H₁ k I F Q E q => x.run A (ok.le hn) s H₁ (hH.trans k) I F Q E q⟩
theorem PT.bool (h : PE c n env ρ H e (.bool b)) (he : ∀ whole, isTrue e env whole = (do let v ← whole; standAt e.pos; holding [v] (truthy v)) := by intro _; rfl) : PT c n env ρ H e b :=
  ⟨fun A ok s H₁ k I F Q E q => wpAny_isTrue_value (h.run A ok s H₁ k I F _ _ fun v H' h' t' S' R' => by cases R'; exact wpAny_truthy_bool (q H' h' t' S')) (he _)⟩
theorem PT.int {i : Int} (h : PE c n env ρ H e (.int i)) (he : ∀ whole, isTrue e env whole = (do let v ← whole; standAt e.pos; holding [v] (truthy v)) := by intro _; rfl) : PT c n env ρ H e (i != 0) :=
  ⟨fun A ok s H₁ k I F Q E q => wpAny_isTrue_value (h.run A ok s H₁ k I F _ _ fun v H' h' t' S' R' => by cases R'; exact PyProof.Rows.truthy_int (q H' h' t' S')) (he _)⟩
theorem PT.not {x : Expr} {pos : Pos} (h : PT c n env ρ H x b) : PT c n env ρ H (.UnaryOp .Not x pos) (!b) :=
  ⟨fun A ok s H₁ k I F Q E q => wpAny_isTrue_Not (h.run A ok s H₁ k I F _ _ q)⟩
theorem PE.ifexp {test body orelse : Expr} {pos : Pos} (ht : PT c n env ρ H test b) (hb : b = true → PE c n env ρ H body d) (ho : b = false → PE c n env ρ H orelse d) : PE c n env ρ H (.IfExp test body orelse pos) d :=
  ⟨fun A ok s H₁ k I F Q E q => wpAny_IfExp (ht.run A ok s H₁ k I F _ _ fun H' h' t' S' => by
    cases b with
    | true => exact (hb rfl).run A ok _ H' (k.trans S'.up) S'.inv (F.step S') Q E fun v H'' h'' t'' S'' R'' => q v H'' h'' t'' (S'.trans S'' I) R''
    | false => exact (ho rfl).run A ok _ H' (k.trans S'.up) S'.inv (F.step S') Q E fun v H'' h'' t'' S'' R'' => q v H'' h'' t'' (S'.trans S'' I) R'')⟩

theorem Tests.run {ifs : List Expr} (t : Tests c n env ρ H ifs b) (A : Around) (ok : Ok A n) (s : Shared) (H₁ : View) (k : VLe H H₁) (I : Inv c H₁ s.heap) (F : Frm c env ρ s.heap) (Q : Bool → Shared → Prop) (E : Value → Shared → Prop)
    (q : ∀ H' h' tk', HStep c H₁ s.heap H' h' → Q b { s with heap := h', toks := tk' }) :
    wpAny (model c.prog c.w) A (forIn ifs true fun e r => if r = true then do let ok ← isTrue e env (eval e env); pure (ForInStep.yield ok) else pure (ForInStep.yield r)) Q E s := by
  cases t with
  | nil => exact wpAny_tests_nil (q H₁ s.heap s.toks (.refl I))
  | one h => exact wpAny_tests_one (h.run A ok s H₁ k I F Q E q)
end

/-- evaluated and asked for its iterator, the expression walks these data -/
structure IT (c : Cfg) (n : Nat) (env : Env) (ρ : Str → Option Value) (H : View) (e : Expr) (ds : List D) : Prop where
  run : ∀ (A : Around), Ok A n → ∀ (s : Shared) (H₁ : View), VLe H H₁ → Inv c H₁ s.heap → Frm c env ρ s.heap → ∀ (Q : Value → Shared → Prop) (E : Value → Shared → Prop),
    (∀ I fp wr P St H' h' tk', HStep c H₁ s.heap H' h' → Walks c.prog c.w A I fp wr ds.length P St → St 0 h' → (∀ b ∈ fp, b < h'.objs.size ∧ b ≠ c.P) → (∀ b ∈ wr, H' b = none ∧ s.heap.get? b = none) → (∀ i h, St i h → ∀ b ∈ wr, (h.get? b).isSome = true) →
      (∀ i v, i < ds.length → P i v → ∃ d, ds[i]? = some d ∧ Rel H' v d) → (∀ b ∈ fp, (∃ o, H' b = some o) ∨ s.heap.get? b = none) → Q (.ref I) { s with heap := h', toks := tk' }) →
    wpAny (model c.prog c.w) A (eval e env) (fun x s₁ => wpAny (model c.prog c.w) A (pyIter x) Q E s₁) E s

section
variable {c : Cfg} {n : Nat} {env : Env} {ρ : Str → Option Value} {H : View} {e : Expr} {d : D} {b : Bool}
theorem Inv.neP {h : Heap} (I : Inv c H h) {a : Addr} (e : h.get? a = none) : a ≠ c.P := fun q => by obtain ⟨o, h1, _⟩ := I.tb; rw [← q, e] at h1; cases h1
theorem HStep.push {h : Heap} (I : Inv c H h) (o : Obj) : HStep c H h H (h.push o) := .grow I fun b ob e => Heap.get?_push_of_some _ e

theorem IT.list {ds : List D} (h : PE c n env ρ H e (.list ds)) : IT c n env ρ H e ds := ⟨fun A ok s H₁ k I F Q E q =>
  h.run A ok s H₁ k I F _ _ fun v H₂ h₂ t₂ S₂ R₂ => by
    cases R₂ with
    | @list a vs m _ ha hr =>
      have hg := S₂.inv.le _ _ ha
      have hl : h₂.IsList a vs := ⟨_, hg, rfl, m, rfl⟩
      have hne : a ≠ h₂.objs.size := Nat.ne_of_lt (Heap.lt_size hg)
      refine wpAny_pyIter_list hl ?_
      have S₃ := HStep.push S₂.inv { cls := .type "list_iterator", data := .fields #[.ref a, .int 0 0] }
      have hn := fresh_none h₂
      have hlen : vs.size = ds.length := by have := hr.length; simpa using this
      have W := Walks.list (prog := c.prog) (w := c.w) ok.hh h₂.objs.size a hne vs
      rw [hlen] at W
      refine q _ _ _ _ _ H₂ _ _ (S₂.trans S₃ I) W ⟨⟨_, Heap.get?_push_size _ rfl, rfl, rfl⟩, hl.at fun o e => Heap.get?_push_of_some _ e⟩ ?_ ?_ ?_ ?_ ?_
      · intro b hb
        rcases List.mem_cons.mp hb with rfl | hb
        · exact ⟨by rw [Heap.size_push]; exact Nat.lt_succ_self _, S₂.inv.neP hn⟩
        · rw [List.mem_singleton.mp hb]
          exact ⟨by rw [Heap.size_push]; exact Nat.lt_succ_of_lt (Heap.lt_size hg), fun q => by rw [q, S₂.inv.noP] at ha; cases ha⟩
      · intro b hb
        rw [List.mem_singleton.mp hb]
        exact ⟨S₂.inv.none_of hn, S₂.alive I hn⟩
      · intro i h' st b hb
        rw [List.mem_singleton.mp hb]
        obtain ⟨⟨o, ho, _⟩, _⟩ := st
        rw [ho]; rfl
      · intro i v _ hv
        exact hr.get (by simpa using hv)
      · intro b hb
        rcases List.mem_cons.mp hb with rfl | hb
        · exact .inr (S₂.alive I hn)
        · rw [List.mem_singleton.mp hb]; exact .inl ⟨_, ha⟩⟩
theorem IT.tup {ds : List D} (h : PE c n env ρ H e (.tup ds)) : IT c n env ρ H e ds := ⟨fun A ok s H₁ k I F Q E q =>
  h.run A ok s H₁ k I F _ _ fun v H₂ h₂ t₂ S₂ R₂ => by
    cases R₂ with
    | @tup a vs m _ ha hr =>
      have hg := S₂.inv.le _ _ ha
      have hl : h₂.IsTuple a vs := ⟨_, hg, rfl, m, rfl⟩
      have hne : a ≠ h₂.objs.size := Nat.ne_of_lt (Heap.lt_size hg)
      refine wpAny_pyIter_tuple hl ?_
      have S₃ := HStep.push S₂.inv { cls := .type "tuple_iterator", data := .fields #[.ref a, .int 0 0] }
      have hn := fresh_none h₂
      have hlen : vs.size = ds.length := by have := hr.length; simpa using this
      have W := Walks.tuple (prog := c.prog) (w := c.w) ok.hh h₂.objs.size a hne vs
      rw [hlen] at W
      refine q _ _ _ _ _ H₂ _ _ (S₂.trans S₃ I) W ⟨⟨_, Heap.get?_push_size _ rfl, rfl, rfl⟩, hl.at fun o e => Heap.get?_push_of_some _ e⟩ ?_ ?_ ?_ ?_ ?_
      · intro b hb
        rcases List.mem_cons.mp hb with rfl | hb
        · exact ⟨by rw [Heap.size_push]; exact Nat.lt_succ_self _, S₂.inv.neP hn⟩
        · rw [List.mem_singleton.mp hb]
          exact ⟨by rw [Heap.size_push]; exact Nat.lt_succ_of_lt (Heap.lt_size hg), fun q => by rw [q, S₂.inv.noP] at ha; cases ha⟩
      · intro b hb
        rw [List.mem_singleton.mp hb]
        exact ⟨S₂.inv.none_of hn, S₂.alive I hn⟩
      · intro i h' st b hb
        rw [List.mem_singleton.mp hb]
        obtain ⟨⟨o, ho, _⟩, _⟩ := st
        rw [ho]; rfl
      · intro i v _ hv
        exact hr.get (by simpa using hv)
      · intro b hb
        rcases List.mem_cons.mp hb with rfl | hb
        · exact .inr (S₂.alive I hn)
        · rw [List.mem_singleton.mp hb]; exact .inl ⟨_, ha⟩⟩

theorem rangeSize_nat (m : Nat) : Builtin.Range.rangeSize 0 (m : Int) 1 = (m : Int) := by
  unfold Builtin.Range.rangeSize; simp; omega

theorem IT.range {x : Expr} {p pos : Pos} {m : Nat} (hx : env.kindOf "range" = some .globalImplicit) (g : GlobV c "range" (.type "range")) (h : PE c n env ρ H x (.int (m : Int))) (hm : m < 2 ^ 31)
    (hs : ∀ env, starEach [x] env = (false, eval x env) :: starEach [] env := by intro _; rfl) :
    IT c n env ρ H (.Call (.Name "range" p) [x] [] pos) ((List.range m).map fun (i : Nat) => D.int (i : Int)) := ⟨fun A ok s H₁ k I F Q E q =>
  Call_Name rfl (ldGlob I F hx g (by decide) (callWith_any (.type "range") (PEs.one h hs) A ok s H₁ k I F _ _ fun vs H₂ h₂ t₂ S₂ R₂ => by
    cases R₂ with
    | cons r t =>
      cases t
      cases r with
      | int _ tk =>
        refine call_range_1 ?_
        have S₃ := HStep.push S₂.inv { cls := .type "range", data := .fields #[.int 0 t₂, .int (m : Int) tk, .int 1 (t₂ + 1)] }
        have hr : IsRange (h₂.push { cls := .type "range", data := .fields #[.int 0 t₂, .int (m : Int) tk, .int 1 (t₂ + 1)] }) h₂.objs.size 0 (m : Int) 1 t₂ tk (t₂ + 1) := Heap.get?_push_size _ rfl
        refine wpAny_pyIter_range hr (small_one (by decide) (by decide) (by omega) (by omega)) ?_
        rw [rangeSize_nat]
        generalize hh3 : h₂.push { cls := .type "range", data := .fields #[.int 0 t₂, .int (m : Int) tk, .int 1 (t₂ + 1)] } = h₃ at *
        have S₄ := HStep.push S₃.inv { cls := .type "range_iterator", data := .fields #[rawInt 0, rawInt (m : Int), rawInt 1] }
        have hn := fresh_none h₃
        have W := Walks.range (prog := c.prog) (w := c.w) ok.hh h₃.objs.size 0 1 m
        have hlen : ((List.range m).map fun (i : Nat) => D.int (i : Int)).length = m := by simp
        have S₅ := (S₂.trans S₃ I).trans S₄ I
        refine q _ _ _ _ _ H₂ _ _ S₅ (by rw [hlen]; exact W) ?_ ?_ ?_ ?_ ?_ ?_
        · have e := Heap.get?_push_size h₃ (o := { cls := .type "range_iterator", data := .fields #[rawInt 0, rawInt (m : Int), rawInt 1] }) rfl
          show IsRangeIter _ _ _ _ _
          unfold IsRangeIter
          simpa using e
        · intro b hb
          rw [List.mem_singleton.mp hb]
          exact ⟨by rw [Heap.size_push]; exact Nat.lt_succ_self _, S₃.inv.neP hn⟩
        · intro b hb
          rw [List.mem_singleton.mp hb]
          exact ⟨S₃.inv.none_of hn, (S₂.trans S₃ I).alive I hn⟩
        · intro i h' st b hb
          rw [List.mem_singleton.mp hb]
          have st' : h'.get? h₃.objs.size = _ := st
          rw [st']; rfl
        · rintro i v hi ⟨t, rfl⟩
          rw [hlen] at hi
          refine ⟨.int (i : Int), by simp [hi], ?_⟩
          have : (0 : Int) + (i : Int) * 1 = i := by omega
          rw [this]; exact .int _ _
        · intro b hb
          rw [List.mem_singleton.mp hb]
          exact .inr ((S₂.trans S₃ I).alive I hn)))⟩
end
end Mine
namespace Mine

def freeρ (cl : List (Str × Addr)) (ρ : Str → Option Value) : Str → Option Value := fun y => if (cl.lookup y).isSome then ρ y else none

structure FreeOk (env : Env) (scope : Scope) (cl : List (Str × Addr)) : Prop where
  clos : closureFor scope env = pure cl
  cells : ∀ y a, cl.lookup y = some a → env.cells.lookup y = some a ∧ (env.kindOf y = some .cell ∨ env.kindOf y = some .free)
  kinds : ∀ y a, cl.lookup y = some a → (relabel scope env).names.lookup y = some .cell ∨ (relabel scope env).names.lookup y = some .free

theorem FreeOk.none {env : Env} {scope : Scope} (h : ∀ x ∈ scope.names, x.2 ≠ .free) : FreeOk env scope [] :=
  ⟨closureFor_none h, fun y a e => by simp at e, fun y a e => by simp at e⟩

section
variable {c : Cfg} {n : Nat} {env : Env} {ρ : Str → Option Value} {H : View} {d : D} {cl : List (Str × Addr)} {scope : Scope}

theorem Frm.comp {h : Heap} {C : Addr} {m : Str → Option Value} {x : Str} {v : Value} (F : Frm c env ρ h) (fo : FreeOk env scope cl) (hk : scope.kind = .function) (hn : h.Ns C m) (hm : m x = some v) (hC : C ≠ c.P)
    (hx : scope.names.lookup x = some .local) : Frm c (compEnvC scope cl C env) (upd (freeρ cl ρ) x v) h where
  kind := hk
  gl := F.gl
  bl := F.bl
  apL := hC
  apC := fun y a e => F.apC y a (fo.cells y a e).1
  loc := ⟨m, hn, fun y u e hl => by
    by_cases hy : y = x
    · subst hy
      unfold upd at e; rw [if_pos rfl] at e; cases e; exact hm
    · unfold upd freeρ at e
      rw [if_neg hy] at e
      cases q : cl.lookup y with
      | none => rw [q] at e; simp at e
      | some a =>
        have hl' : (relabel scope env).names.lookup y = some .local := hl
        rcases fo.kinds y a q with k | k <;> rw [k] at hl' <;> cases hl'⟩
  cell := fun y a e => F.cell y a (fo.cells y a e).1
  cel := fun y u e hkd => by
    by_cases hy : y = x
    · subst hy
      have hl : (compEnvC scope cl C env).kindOf y = some .local := lookup_relabel_local hx
      rw [hl] at hkd
      rcases hkd with k | k <;> cases k
    · unfold upd freeρ at e
      rw [if_neg hy] at e
      cases q : cl.lookup y with
      | none => rw [q] at e; simp at e
      | some a =>
        rw [q] at e
        simp only [Option.isSome_some, if_true] at e
        obtain ⟨h1, h2⟩ := fo.cells y a q
        obtain ⟨a', h3, h4⟩ := F.cel y u e h2
        rw [h1] at h3
        cases h3
        exact ⟨a, q, h4⟩

theorem PlainList.lst {h : Heap} {a : Addr} {vs : Array Value} (x : h.PlainList a vs) : ∃ k, h.get? a = some (lstO vs k) := x

theorem filter_map_flatMap (p : D → Bool) (g : D → D) (ds : List D) : ds.flatMap (fun d => if p d then [g d] else []) = (ds.filter p).map g := by
  induction ds with
  | nil => rfl
  | cons d r ih => rw [List.flatMap_cons, ih]; cases hp : p d <;> simp [hp]

/-- the block of a list comprehension of one clause, from its iterator on -/
theorem compRun {elt iter : Expr} {x : Str} {px : Pos} {ifs : List Expr} {pos : Pos} {ds : List D} {p : D → Bool} {g : D → D} {RR : Value → Addr → Result → Shared → Prop}
    (fo : FreeOk env scope cl) (hcell : ∀ y ∈ scope.names, y.2 ≠ .cell) (hkind : scope.kind = .function) (hx : scope.names.lookup x = some .local) (hsz : ds.length ≤ sizeLine)
    (hel : ∀ C d v H', d ∈ ds → VLe H H' → Rel H' v d → Tests c n (compEnvC scope cl C env) (upd (freeρ cl ρ) x v) H' ifs (p d) ∧ (p d = true → PE c n (compEnvC scope cl C env) (upd (freeρ cl ρ) x v) H' elt (g d)))
    {A : Around} (ok : Ok A n) {s : Shared} {H₁ : View} (k : VLe H H₁) (I : Inv c H₁ s.heap) {it : Addr} {fp wr : List Addr} {P : Nat → Value → Prop} {St : Nat → Heap → Prop}
    (W : Walks c.prog c.w A it fp wr ds.length P St) (st : St 0 s.heap) (hfp : ∀ b ∈ fp, b < s.heap.objs.size ∧ b ≠ c.P) (hwr : ∀ b ∈ wr, H₁ b = none) (stl : ∀ i h, St i h → ∀ b ∈ wr, (h.get? b).isSome = true)
    (hP : ∀ i v, i < ds.length → P i v → ∃ d, ds[i]? = some d ∧ Rel H₁ v d) {E : Value → Shared → Prop}
    (hsep : ∀ h', (∀ b o, b ≠ c.P → b ∉ wr → s.heap.get? b = some o → h'.get? b = some o) → Frm c env ρ h')
    (hRR : ∀ Dd C H' h' tk' vs k', DStep c ([Dd, C] ++ wr) H₁ s.heap H' h' → s.heap.get? Dd = none → s.heap.get? C = none → Dd ≠ C → H' Dd = none → H' C = none → h'.get? Dd = some (lstO vs k') → RelL H' vs.toList ((ds.filter p).map g) → (∃ m, h'.Ns C m) →
      RR (.ref Dd) C (.ok .next) { s with heap := h', toks := tk' }) :
    wpAny (model c.prog c.w) A (newList []) (fun acc s₃ => wpAny (model c.prog c.w) A (newFunctionEnv scope env.globals cl [] env.qual none .none (some env)) (fun cenv s₄ =>
      codeAny (model c.prog c.w) A (.compStart (.ListComp elt [⟨.Name x px, iter, ifs, 0⟩] scope pos) 0 (.ref it) acc { cenv with scope := relabel scope env }) (RR acc cenv.locals) s₄) E s₃) E s := by
  refine wpAny_newObj_type (wpAny_newFunctionEnv hcell (by intro y hy; simp at hy) (fun h₁ hns₁ hsb₁ => ?_) hkind)
  dsimp only at hns₁ hsb₁ ⊢
  generalize hH2 : s.heap.push { cls := .type "list", dict := none, data := .seq ([] : List Value).toArray } = H2 at hns₁ hsb₁ ⊢
  have hC : H2.objs.size = s.heap.objs.size + 1 := by rw [← hH2, Heap.size_push]
  have hDC : s.heap.objs.size ≠ H2.objs.size := by rw [hC]; exact Nat.ne_of_lt (Nat.lt_succ_self _)
  have fresh : ∀ a, s.heap.objs.size ≤ a → s.heap.get? a = none := fun a ha => by
    cases e : s.heap.get? a with
    | none => rfl
    | some o' => exact absurd (Heap.lt_size e) (Nat.not_lt.mpr ha)
  have nD := fresh s.heap.objs.size (Nat.le_refl _)
  have nC := fresh H2.objs.size (by rw [hC]; exact Nat.le_succ _)
  have hCfresh : H2.get? H2.objs.size = none := fresh_none H2
  have keep1 : ∀ b o, s.heap.get? b = some o → H2.get? b = some o := fun b o e => hH2 ▸ Heap.get?_push_of_some _ e
  have keep2 : ∀ b o, H2.get? b = some o → h₁.get? b = some o := fun b o e => (hsb₁.2 b (fun q => by rw [q, hCfresh] at e; cases e)).trans (Heap.get?_push_of_some _ e)
  have old : ∀ b o, s.heap.get? b = some o → h₁.get? b = some o := fun b o e => keep2 b o (keep1 b o e)
  have hacc : h₁.get? s.heap.objs.size = some (lstO #[] 0) := keep2 _ _ (hH2 ▸ Heap.get?_push_size _ rfl)
  have S₁ : HStep c H₁ s.heap H₁ h₁ := .grow I old
  have hst₁ : St 0 h₁ := W.frame _ _ _ st fun b _ o e => old b o e
  have PD : s.heap.objs.size ≠ c.P := I.neP nD
  have PC : H2.objs.size ≠ c.P := I.neP nC
  have hbig : ∀ b ∈ fp, b < s.heap.objs.size := fun b hb => (hfp b hb).1
  have loop : ∀ s₃ : Shared, s₃ = { s with heap := h₁, toks := s.toks + ([] : List (Str × Value)).length } →
      codeAny (model c.prog c.w) A (.compLoop (.ListComp elt [⟨.Name x px, iter, ifs, 0⟩] scope pos) 0 (.ref it) (.ref s.heap.objs.size) (compEnvC scope cl H2.objs.size env))
        (RR (.ref s.heap.objs.size) H2.objs.size) s₃ := by
    rintro s₃ rfl
    refine comp_inv (H := H₁) (mu := [s.heap.objs.size, H2.objs.size]) (ds := ds) (px := px) (x := x) (cenv := compEnvC scope cl H2.objs.size env) (Acc := AccL s.heap.objs.size) (VI := fun h => ∃ m, h.Ns H2.objs.size m) (FV := fun v h => ∃ m, h.Ns H2.objs.size m ∧ m x = some v)
      (em := fun d => if p d then [g d] else []) (rs₀ := [])
      (BT := fun Q E s9 => wpAny (model c.prog c.w) A (forIn ifs true fun e r => if r = true then do let ok ← isTrue e (compEnvC scope cl H2.objs.size env) (eval e (compEnvC scope cl H2.objs.size env)); pure (ForInStep.yield ok) else pure (ForInStep.yield r)) (fun ok s₃ =>
            if ok = true then wpAny (model c.prog c.w) A (eval elt (compEnvC scope cl H2.objs.size env)) (fun x s₄ =>
              wpAny (model c.prog c.w) A (call (.builtin "list.append") [.ref s.heap.objs.size, x]) (fun _ s₅ => Q () s₅) E s₄) E s₃
            else Q () s₃) E s9)
      W hP (fun J turn n' s' hJ => codeAny_compLoop_tests (target := .Name x px) J (fun n s h => turn n s h) n' hJ) ?_ (fun b hb => (hfp b hb).2) hwr (stl 0 h₁ hst₁) ?_ ?_ stl S₁.inv hst₁ ⟨#[], 0, hacc, .nil⟩ ⟨_, hns₁⟩ ?_ ?_ ?_ ?_ ?_
    · intro b hb hf
      rcases List.mem_cons.mp hb with rfl | hb
      · exact Nat.lt_irrefl _ (hbig _ hf)
      · rw [List.mem_singleton.mp hb] at hf
        exact absurd (hbig _ hf) (by rw [hC]; exact Nat.not_lt.mpr (Nat.le_succ _))
    · intro b hb
      rcases List.mem_cons.mp hb with rfl | hb
      · exact I.none_of nD
      · rw [List.mem_singleton.mp hb]; exact I.none_of nC
    · intro b hb
      rcases List.mem_cons.mp hb with rfl | hb
      · show (h₁.get? _).isSome = true
        rw [hacc]; rfl
      · rw [List.mem_singleton.mp hb]
        obtain ⟨o, _, _, ho, _⟩ := hns₁
        show (h₁.get? _).isSome = true
        rw [ho]; rfl
    · rintro X₁ X₂ g₁ g₂ rs hX hg ⟨vs, k', h1, h2⟩
      exact ⟨vs, k', hg _ _ (by simp) h1, h2.mono hX⟩
    · rintro g₁ g₂ hg ⟨m, hm⟩
      exact ⟨m, hm.at' fun o e => hg _ o (by simp) e⟩
    · rintro v H' s' S' ⟨m, hm⟩ Q E q
      have offC : H' H2.objs.size = none := S'.miss (by obtain ⟨o, _, _, ho, _⟩ := hns₁; show (h₁.get? _).isSome = true; rw [ho]; rfl) (I.none_of nC)
      refine wpAny_assign_Name (wpAny_storeName_local (env := compEnvC scope cl H2.objs.size env) (lookup_relabel_local hx) hm (fun h₂ hn₂ hs₂ => ?_) (by show (scope.kind == .class || (scope.kind == .module && _)) = false; rw [hkind]; rfl))
      have hs₂' : Heap.SameBut H2.objs.size s'.heap h₂ := hs₂
      have hn₂' : h₂.Ns H2.objs.size (fun y => if y = x then some v else m y) := hn₂
      refine q h₂ _ (MStep.at S'.inv (by simp) offC PC hs₂' ?_) ⟨_, hn₂', by simp⟩ ⟨_, hn₂'⟩ ?_
      · obtain ⟨o, _, _, ho, _⟩ := hn₂'
        rw [ho]; rfl
      · rintro rs ⟨vs, k', h1, h2⟩
        exact ⟨vs, k', (hs₂'.2 _ hDC).trans h1, h2⟩
    · rintro d v H' s' rs i hd hi hrs S' offM R' ⟨m, hm, hmx⟩ - ⟨vs, k', ha, hr⟩ Q E q
      have offD : H' s.heap.objs.size = none := offM _ (by simp)
      have F' : Frm c (compEnvC scope cl H2.objs.size env) (upd (freeρ cl ρ) x v) s'.heap := by
        refine Frm.comp (hsep _ fun b o hb hw e => S'.ext b o hb (fun hm' => ?_) (old b o e)) fo hkind hm hmx PC hx
        rcases List.mem_append.mp hm' with q' | q'
        · rcases List.mem_cons.mp q' with rfl | q'
          · rw [nD] at e; cases e
          · rw [List.mem_singleton.mp q', nC] at e; cases e
        · exact hw q'
      obtain ⟨ht, he⟩ := hel H2.objs.size d v H' hd (k.trans S'.up) R'
      refine ht.run A ok s' H' (.refl _) S'.inv F' _ _ fun H₂ h₂ t₂ S₂ => ?_
      have ha₂ := S₂.ext _ _ PD ha
      have hm₂ : h₂.Ns H2.objs.size m := hm.at' fun o e => S₂.ext _ o PC e
      cases hpd : p d with
      | false =>
        simp only [Bool.false_eq_true, if_false]
        refine q H₂ h₂ t₂ S₂.toM ⟨vs, k', ha₂, ?_⟩ ⟨m, hm₂⟩
        simpa [hpd] using hr.mono S₂.up
      | true =>
        simp only [if_true]
        refine (he hpd).run A ok _ H₂ S₂.up S₂.inv (F'.step S₂) _ _ fun y H₃ h₃ t₃ S₃ R₃ => ?_
        have ha₃ := S₃.ext _ _ PD ha₂
        have hm₃ : h₃.Ns H2.objs.size m := hm₂.at' fun o e => S₃.ext _ o PC e
        have offD₃ : H₃ s.heap.objs.size = none := S₃.miss ha₂ (S₂.miss ha offD)
        refine wpAny_list_append_plain (items := vs) ⟨k', ha₃⟩ (fun h₄ hl₄ hs₄ => ?_) ?_
        · obtain ⟨k₄, ha₄⟩ := hl₄
          refine q H₃ h₄ t₃ ((S₂.trans S₃ S'.inv).toM.trans (MStep.at S₃.inv (by simp) offD₃ PD hs₄ (by rw [ha₄]; rfl))) ⟨vs.push y, k₄, ha₄, ?_⟩ ⟨m, hm₃.sameBut hs₄ (Ne.symm hDC)⟩
          simp only [hpd, if_true, Array.toList_push]
          exact (hr.mono (S₂.up.trans S₃.up)).append (.cons R₃ .nil)
        · have e1 := hr.length
          have e2 : rs.length ≤ i := by
            rw [hrs, List.nil_append, filter_map_flatMap, List.length_map]
            exact Nat.le_trans (List.length_filter_le _ _) (by rw [List.length_take]; exact Nat.min_le_left _ _)
          have e3 : vs.toList.length = vs.size := by simp
          omega
    · rintro H' h' t' S' offM ⟨vs, k', ha, hr⟩ hm
      refine hRR _ _ H' h' t' vs k' ⟨S'.up, fun b o e => ?_, fun b o hb hm' e => S'.ext b o hb hm' (old b o e), S'.inv⟩ nD nC hDC (offM _ (by simp)) (offM _ (by simp)) ha ?_ hm
      · rcases S'.fresh b o e with e' | e'
        · exact .inl e'
        · refine .inr ?_
          cases q : s.heap.get? b with
          | none => rfl
          | some ob => rw [old b ob q] at e'; cases e'
      · rw [← filter_map_flatMap]; simpa using hr
  exact codeAny_compStart_list (loop _ rfl) (W.self 0 _ _ _ hst₁ (loop _ rfl))
end
end Mine
namespace Mine

section
variable {c : Cfg} {n : Nat} {env : Env} {ρ : Str → Option Value} {H : View} {d : D} {cl : List (Str × Addr)} {scope : Scope}

/-- freezing what a block has filled, its names let go -/
theorem DStep.frozen {H₀ H₁ H' : View} {h₀ h₁ h' h'' : Heap} {Dd C : Addr} {wr : List Addr} {o : Obj} (S : HStep c H₀ h₀ H₁ h₁) (I₀ : Inv c H₀ h₀) (y : DStep c ([Dd, C] ++ wr) H₁ h₁ H' h') (nD : h₁.get? Dd = none) (nC : h₁.get? C = none)
    (hDC : Dd ≠ C) (oD : H' Dd = none) (oC : H' C = none) (hwr : ∀ b ∈ wr, h₀.get? b = none) (hs : Heap.SameBut C h' h'') (ha : h'.get? Dd = some o) : HStep c H₀ h₀ (H'.add Dd o) h'' := by
  have PC : C ≠ c.P := S.inv.neP nC
  have PD : Dd ≠ c.P := S.inv.neP nD
  have y' : HStep c H₀ h₀ H' h' := DStep.toH S I₀ y (fun b hb => by
    rcases List.mem_append.mp hb with q | q
    · rcases List.mem_cons.mp q with rfl | q
      · exact S.alive I₀ nD
      · rw [List.mem_singleton.mp q]; exact S.alive I₀ nC
    · exact hwr b q)
  have nC0 := S.alive I₀ nC
  have z : HStep c H₀ h₀ H' h'' := ⟨y'.up, y'.fresh, fun b ob hb e => (hs.2 b fun q => by rw [q, nC0] at e; cases e).trans (y'.ext b ob hb e),
    ⟨fun b ob e => (hs.2 b fun q => by rw [q, oC] at e; cases e).trans (y'.inv.le b ob e), y'.inv.base, y'.inv.noP, let ⟨ob, e1, e2⟩ := y'.inv.tb; ⟨ob, (hs.2 _ (Ne.symm PC)).trans e1, e2⟩⟩⟩
  exact z.freeze (S.alive I₀ nD) oD PD ((hs.2 _ hDC).trans ha)

theorem PE.listComp {elt iter : Expr} {x : Str} {px : Pos} {ifs : List Expr} {pos : Pos} {ds : List D} {p : D → Bool} {g : D → D}
    (fo : FreeOk env scope cl) (hcell : ∀ y ∈ scope.names, y.2 ≠ .cell) (hkind : scope.kind = .function) (hnames : ∀ y ∈ scope.names, y.2 = .local → scope.names.lookup y.1 = some .local) (hx : scope.names.lookup x = some .local)
    (it : IT c n env ρ H iter ds) (hsz : ds.length ≤ sizeLine)
    (hel : ∀ C d v H', d ∈ ds → VLe H H' → Rel H' v d → Tests c n (compEnvC scope cl C env) (upd (freeρ cl ρ) x v) H' ifs (p d) ∧ (p d = true → PE c n (compEnvC scope cl C env) (upd (freeρ cl ρ) x v) H' elt (g d)))
    (hs : ∀ x, foldedSetIterable iter env x = pure x := by intro _; rfl) :
    PE c n env ρ H (.ListComp elt [⟨.Name x px, iter, ifs, 0⟩] scope pos) (.list ((ds.filter p).map g)) := ⟨fun A ok s H₁ k I F Q E q => by
  rw [eval_ListComp]
  refine wpAny_comprehension_free (use := none) rfl hs fo.clos hkind hnames (it.run A ok s H₁ k I F _ _ fun it fp wr P St H₂ h₂ t₂ S₂ W st hfp hwr stl hP hnw => ?_)
  refine compRun (p := p) (g := g) fo hcell hkind hx hsz hel ok (k.trans S₂.up) S₂.inv W st hfp (fun b hb => (hwr b hb).1) stl hP (fun h' hk => F.ext fun b o hb e => hk b o hb (fun hw => by rw [(hwr b hw).2] at e; cases e) (S₂.ext b o hb e)) ?_
  rintro Dd C H' h' tk' vs k' S' nD nC hDC oD oC ha hr ⟨m, hm⟩
  refine ⟨m, hm, fun h'' hs'' => ?_⟩
  have z := DStep.frozen S₂ I S' nD nC hDC oD oC (fun b hb => (hwr b hb).2) hs'' ha
  exact q _ _ h'' tk' z (.list View.add_self (hr.mono (View.le_add oD)))⟩

/-- the simplest use: every item, no names from without -/
theorem PE.listCompAll {elt iter : Expr} {x : Str} {px : Pos} {pos : Pos} {ds : List D} {g : D → D}
    (hfree : ∀ y ∈ scope.names, y.2 ≠ .free) (hcell : ∀ y ∈ scope.names, y.2 ≠ .cell) (hkind : scope.kind = .function) (hnames : ∀ y ∈ scope.names, y.2 = .local → scope.names.lookup y.1 = some .local) (hx : scope.names.lookup x = some .local)
    (it : IT c n env ρ H iter ds) (hsz : ds.length ≤ sizeLine)
    (hel : ∀ C d v H', d ∈ ds → VLe H H' → Rel H' v d → PE c n (compEnvC scope [] C env) (upd (fun _ => none) x v) H' elt (g d))
    (hs : ∀ x, foldedSetIterable iter env x = pure x := by intro _; rfl) :
    PE c n env ρ H (.ListComp elt [⟨.Name x px, iter, [], 0⟩] scope pos) (.list (ds.map g)) := by
  have h := PE.listComp (elt := elt) (px := px) (pos := pos) (p := fun _ => true) (g := g) (ifs := []) (FreeOk.none hfree) hcell hkind hnames hx it hsz (fun C d v H' hd hH r => ⟨.nil, fun _ => hel C d v H' hd hH r⟩) hs
  rwa [List.filter_eq_self.mpr (fun _ _ => rfl)] at h
end

/-! statements -/
section
variable {c : Cfg} {n : Nat} {env : Env} {ρ : Str → Option Value} {H : View} {d : D} {st : List Stmt}

theorem SR.ret {e : Expr} {pos : Pos} {rest : List Stmt} (h : PE c n env ρ H e d) : SR c n env ρ H (.Return (some e) pos :: rest) d := ⟨fun A ok s H₁ k I F _ _ Q E q =>
  wpAny_execs_cons (wpAny_Return_some (h.run A ok s H₁ k I F _ _ fun v H' h' t' S' R' => q v H' h' t' S'.up S'.fresh (fun b o hb _ _ e => S'.ext b o hb e) S'.inv R'))⟩

theorem SR.step {H₁ H₂ : View} {h : Heap} {s : Shared} (S : HStep c H₁ s.heap H₂ h) (I : Inv c H₁ s.heap) {Q : Flow → Shared → Prop}
    (q : ∀ v H' h' tk', VLe H₁ H' → (∀ b o, H' b = some o → H₁ b = some o ∨ s.heap.get? b = none) → (∀ b o, b ≠ c.P → b ≠ env.locals → (∀ x a, env.cells.lookup x = some a → b ≠ a) → s.heap.get? b = some o → h'.get? b = some o) → Inv c H' h' → Rel H' v d →
      Q (.ret v) { s with heap := h', toks := tk' }) :
    ∀ v H' h' tk', VLe H₂ H' → (∀ b o, H' b = some o → H₂ b = some o ∨ h.get? b = none) → (∀ b o, b ≠ c.P → b ≠ env.locals → (∀ x a, env.cells.lookup x = some a → b ≠ a) → h.get? b = some o → h'.get? b = some o) → Inv c H' h' → Rel H' v d →
      Q (.ret v) { s with heap := h', toks := tk' } := fun v H' h' tk' hu hf he hI hR =>
  q v H' h' tk' (S.up.trans hu) (fun b o e => (hf b o e).elim (S.fresh b o) fun e' => .inr (S.alive I e')) (fun b o hb hl hc e => he b o hb hl hc (S.ext b o hb e)) hI hR

/-- an if whose body leaves by a return, or whose test is false -/
theorem SR.ifRet {test : Expr} {body : List Stmt} {pos : Pos} {rest : List Stmt} {b : Bool} (ht : PT c n env ρ H test b) (hb : b = true → SR c n env ρ H body d) (ho : b = false → SR c n env ρ H rest d) :
    SR c n env ρ H (.If test body [] pos :: rest) d := ⟨fun A ok s H₁ k I F oL oC Q E q =>
  wpAny_execs_cons (wpAny_If (ht.run A ok s H₁ k I F _ _ fun H₂ h₂ t₂ S₂ => by
    have oL' : H₂ env.locals = none := by
      obtain ⟨m, ⟨ob, _, _, ho, _⟩, _⟩ := F.loc
      exact S₂.miss ho oL
    have oC' : ∀ x a, env.cells.lookup x = some a → H₂ a = none := fun x a e => by
      obtain ⟨_, ob, ho, _⟩ := F.cell x a e
      exact S₂.miss ho (oC x a e)
    cases b with
    | true =>
      simp only [if_true]
      refine wpAny_mono ((hb rfl).run A ok _ H₂ (k.trans S₂.up) S₂.inv (F.step S₂) oL' oC' (fun f s' => match f with | .ret v => Q (.ret v) s' | _ => False) E (SR.step S₂ I q)) (fun f s' hf => ?_) fun _ _ e => e
      cases f with
      | ret v => exact hf
      | _ => exact hf.elim
    | false =>
      simp only [Bool.false_eq_true, if_false]
      exact wpAny_execs_nil ((ho rfl).run A ok _ H₂ (k.trans S₂.up) S₂.inv (F.step S₂) oL' oC' Q E (SR.step S₂ I q))))⟩
end
end Mine
namespace Mine

section
variable {c : Cfg} {n : Nat} {env : Env} {ρ : Str → Option Value} {H : View} {d : D}

theorem Frm.aliveL {h : Heap} (F : Frm c env ρ h) : ∃ o, h.get? env.locals = some o := let ⟨_, ⟨o, _, _, ho, _⟩, _⟩ := F.loc; ⟨o, ho⟩
theorem Frm.cellNe {h : Heap} (F : Frm c env ρ h) {x : Str} {a : Addr} (e : env.cells.lookup x = some a) : a ≠ env.locals := fun q => by
  obtain ⟨_, o, ho, hd⟩ := F.cell x a e
  obtain ⟨_, ⟨o', _, _, ho', hd', _⟩, _⟩ := F.loc
  rw [q, ho'] at ho
  cases ho
  rw [hd'] at hd; cases hd

theorem Frm.store {h h' : Heap} {x : Str} {v : Value} {m : Str → Option Value} (F : Frm c env ρ h) (hm : ∀ x v, ρ x = some v → env.kindOf x = some .local → m x = some v) (hx : env.kindOf x = some .local)
    (hn : h'.Ns env.locals (fun y => if y = x then some v else m y)) (hs : Heap.SameBut env.locals h h') : Frm c env (upd ρ x v) h' where
  kind := F.kind
  gl := F.gl
  bl := F.bl
  apL := F.apL
  apC := F.apC
  loc := ⟨_, hn, fun y u e hk => by
    unfold upd at e
    by_cases hy : y = x
    · rw [if_pos hy] at e; rw [if_pos hy]; exact e
    · rw [if_neg hy] at e; rw [if_neg hy]; exact hm y u e hk⟩
  cell := fun y a e => let ⟨u, hu⟩ := F.cell y a e; ⟨u, hu.sameBut hs (F.cellNe e)⟩
  cel := fun y u e hk => by
    unfold upd at e
    by_cases hy : y = x
    · subst hy; rw [hx] at hk; rcases hk with k | k <;> cases k
    · rw [if_neg hy] at e
      obtain ⟨a, h1, h2⟩ := F.cel y u e hk
      exact ⟨a, h1, h2.sameBut hs (F.cellNe h1)⟩

theorem Inv.store {h h' : Heap} (I : Inv c H h) (hP : env.locals ≠ c.P) (hn : H env.locals = none) (hs : Heap.SameBut env.locals h h') : Inv c H h' :=
  ⟨fun b o e => (hs.2 b fun q => by rw [q, hn] at e; cases e).trans (I.le b o e), I.base, I.noP, let ⟨ob, h1, h2⟩ := I.tb; ⟨ob, (hs.2 _ (Ne.symm hP)).trans h1, h2⟩⟩

theorem SR.stepL {H₁ H₂ : View} {h h₂ : Heap} {s : Shared} (S : HStep c H₁ s.heap H₂ h) (I : Inv c H₁ s.heap) (hs : Heap.SameBut env.locals h h₂) {Q : Flow → Shared → Prop}
    (q : ∀ v H' h' tk', VLe H₁ H' → (∀ b o, H' b = some o → H₁ b = some o ∨ s.heap.get? b = none) → (∀ b o, b ≠ c.P → b ≠ env.locals → (∀ x a, env.cells.lookup x = some a → b ≠ a) → s.heap.get? b = some o → h'.get? b = some o) → Inv c H' h' → Rel H' v d →
      Q (.ret v) { s with heap := h', toks := tk' }) (hal : ∃ o, h.get? env.locals = some o) (hal₂ : ∃ o, h₂.get? env.locals = some o) :
    ∀ v H' h' tk', VLe H₂ H' → (∀ b o, H' b = some o → H₂ b = some o ∨ h₂.get? b = none) → (∀ b o, b ≠ c.P → b ≠ env.locals → (∀ x a, env.cells.lookup x = some a → b ≠ a) → h₂.get? b = some o → h'.get? b = some o) → Inv c H' h' → Rel H' v d →
      Q (.ret v) { s with heap := h', toks := tk' } := fun v H' h' tk' hu hf he hI hR =>
  SR.step S I q v H' h' tk' hu (fun b o e => (hf b o e).imp id fun e' => by
    by_cases hb : b = env.locals
    · obtain ⟨o', ho'⟩ := hal₂
      rw [hb, ho'] at e'; cases e'
    · rw [← hs.2 b hb]; exact e') (fun b o hb hl hc e => he b o hb hl hc ((hs.2 b hl).trans e)) hI hR

theorem Frm.off {H₂ : View} {h h₂ : Heap} {H₁ : View} (F : Frm c env ρ h) (S : HStep c H₁ h H₂ h₂) (oL : H₁ env.locals = none) (oC : ∀ x a, env.cells.lookup x = some a → H₁ a = none) :
    H₂ env.locals = none ∧ ∀ x a, env.cells.lookup x = some a → H₂ a = none :=
  ⟨let ⟨_, ho⟩ := F.aliveL; S.miss ho oL, fun x a e => let ⟨_, _, ho, _⟩ := F.cell x a e; S.miss ho (oC x a e)⟩

theorem SR.assign {x : Str} {px pos : Pos} {e : Expr} {rest : List Stmt} {de : D} (hx : env.kindOf x = some .local) (he : PE c n env ρ H e de)
    (h : ∀ v H', VLe H H' → Rel H' v de → SR c n env (upd ρ x v) H' rest d) (hs : swapsWith e (some (.Name x px)) pos.line env = pure false := by rfl) :
    SR c n env ρ H (.Assign [.Name x px] e pos :: rest) d := ⟨fun A ok s H₁ k I F oL oC Q E q =>
  wpAny_execs_cons (wpAny_Assign_Name (he.run A ok s H₁ k I F _ _ fun v H₂ h₂ t₂ S₂ R₂ => by
    have F₂ := F.step S₂
    obtain ⟨m, hm1, hm2⟩ := F₂.loc
    obtain ⟨oL', oC'⟩ := F.off S₂ oL oC
    refine wpAny_storeName_local hx hm1 (fun h₃ hn₃ hs₃ => ?_) (by rw [F.kind]; rfl)
    have F₃ := F₂.store hm2 hx hn₃ hs₃
    exact (h v H₂ (k.trans S₂.up) R₂).run A ok _ H₂ (.refl _) (S₂.inv.store F.apL oL' hs₃) F₃ oL' oC' Q E (SR.stepL S₂ I hs₃ q F₂.aliveL F₃.aliveL)) hs)⟩

theorem SR.assignComp {elt iter : Expr} {x y : Str} {px py : Pos} {ifs : List Expr} {cl : List (Str × Addr)} {scope : Scope} {pos spos : Pos} {ds : List D} {p : D → Bool} {g : D → D} {rest : List Stmt}
    (hsw : swapsWith (.ListComp elt [⟨.Name x px, iter, ifs, 0⟩] scope pos) (some (.Name y py)) spos.line env = pure true) (hy : env.kindOf y = some .local)
    (fo : FreeOk env scope cl) (hcell : ∀ y ∈ scope.names, y.2 ≠ .cell) (hkind : scope.kind = .function) (hnames : ∀ y ∈ scope.names, y.2 = .local → scope.names.lookup y.1 = some .local) (hx : scope.names.lookup x = some .local)
    (it : IT c n env ρ H iter ds) (hsz : ds.length ≤ sizeLine)
    (hel : ∀ C d v H', d ∈ ds → VLe H H' → Rel H' v d → Tests c n (compEnvC scope cl C env) (upd (freeρ cl ρ) x v) H' ifs (p d) ∧ (p d = true → PE c n (compEnvC scope cl C env) (upd (freeρ cl ρ) x v) H' elt (g d)))
    (h : ∀ v H', VLe H H' → Rel H' v (.list ((ds.filter p).map g)) → SR c n env (upd ρ y v) H' rest d)
    (hs : ∀ x, foldedSetIterable iter env x = pure x := by intro _; rfl) :
    SR c n env ρ H (.Assign [.Name y py] (.ListComp elt [⟨.Name x px, iter, ifs, 0⟩] scope pos) spos :: rest) d := ⟨fun A ok s H₁ k I F oL oC Q E q => by
  refine wpAny_execs_cons ?_
  rw [exec_Assign_Name_used _ _ _ _ hsw]
  refine wpAny_bind (wpAny_standAt (wpAny_bind ?_))
  let Q₁ : Flow → Shared → Prop := fun f s' => match f with | .next => wpAny (model c.prog c.w) A (execs rest env) Q E s' | f => Q f s'
  show wpAny _ A (do let _ ← comprehension (.ListComp elt [⟨.Name x px, iter, ifs, 0⟩] scope pos) scope env _ (newList []) false (eval iter env) (some (PySem.assign (.Name y py) env))) _ _ s
  refine wpAny_bind (wpAny_mono (wpAny_comprehension_free (use := some (PySem.assign (.Name y py) env)) (Q := fun _ s' => Q₁ .next s') rfl hs fo.clos hkind hnames
    (it.run A ok s H₁ k I F _ _ fun it fp wr P St H₂ h₂ t₂ S₂ W st hfp hwr stl hP hnw => ?_)) (fun _ s' hq => wpAny_pure (wpAny_pure hq)) fun _ _ e => e)
  refine compRun (p := p) (g := g) fo hcell hkind hx hsz hel ok (k.trans S₂.up) S₂.inv W st hfp (fun b hb => (hwr b hb).1) stl hP (fun h' hk => F.ext fun b o hb e => hk b o hb (fun hw => by rw [(hwr b hw).2] at e; cases e) (S₂.ext b o hb e)) ?_
  rintro Dd C H' h' tk' vs k' S' nD nC hDC oD oC' ha hr ⟨m, hm⟩
  have PC : C ≠ c.P := S₂.inv.neP nC
  have nC0 := S₂.alive I nC
  have nD0 := S₂.alive I nD
  have hLC : env.locals ≠ C := fun q => by obtain ⟨o, ho⟩ := F.aliveL; rw [q, nC0] at ho; cases ho
  have hLD : env.locals ≠ Dd := fun q => by obtain ⟨o, ho⟩ := F.aliveL; rw [q, nD0] at ho; cases ho
  have z := DStep.frozen S₂ I S' nD nC hDC oD oC' (fun b hb => (hwr b hb).2) (Heap.SameBut.refl C h') ha
  have Fz := F.step z
  obtain ⟨mm, hm1, hm2⟩ := Fz.loc
  obtain ⟨oLz, oCz⟩ := F.off z oL oC
  show wpAny _ A (PySem.assign (.Name y py) env (.ref Dd)) _ _ _
  refine wpAny_assign_Name (wpAny_storeName_local hy hm1 (fun h₃ hn₃ hs₃ => ?_) (by rw [F.kind]; rfl))
  refine ⟨m, hm.sameBut hs₃ (Ne.symm hLC), fun h₄ hs₄ => ?_⟩
  -- the block's own names are gone: h₄ differs from h₃ at C alone
  have hs₄' : ∀ b, b ≠ C → h₄.get? b = h₃.get? b := hs₄.2
  have z' := DStep.frozen S₂ I S' nD nC hDC oD oC' (fun b hb => (hwr b hb).2) (Heap.SameBut.refl C h') ha
  have R₄ : Rel (H'.add Dd (lstO vs k')) (.ref Dd) (.list ((ds.filter p).map g)) := .list View.add_self (hr.mono (View.le_add oD))
  have hCz : (H'.add Dd (lstO vs k')) C = none := by unfold View.add; rw [if_neg (Ne.symm hDC)]; exact oC'
  have I₃ := z.inv.store F.apL oLz hs₃
  have I₄ : Inv c (H'.add Dd (lstO vs k')) h₄ := ⟨fun b o e => (hs₄' b fun q => by rw [q, hCz] at e; cases e).trans (I₃.le b o e), I₃.base, I₃.noP, let ⟨ob, e1, e2⟩ := I₃.tb; ⟨ob, (hs₄' _ (Ne.symm PC)).trans e1, e2⟩⟩
  have F₃ := Fz.store hm2 hy hn₃ hs₃
  have F₄ : Frm c env (upd ρ y (.ref Dd)) h₄ := by
    refine ⟨F₃.kind, F₃.gl, F₃.bl, F₃.apL, F₃.apC, ?_, ?_, ?_⟩
    · obtain ⟨m', e1, e2⟩ := F₃.loc
      exact ⟨m', e1.at' fun o e => (hs₄' _ hLC).trans e, e2⟩
    · intro z a e
      obtain ⟨u, o, e1, e2⟩ := F₃.cell z a e
      refine ⟨u, o, (hs₄' a fun q => ?_).trans e1, e2⟩
      obtain ⟨_, o', e1', _⟩ := F.cell z a e
      rw [q, nC0] at e1'; cases e1'
    · intro z u e hk
      obtain ⟨a, e0, o, e1, e2⟩ := F₃.cel z u e hk
      refine ⟨a, e0, o, (hs₄' a fun q => ?_).trans e1, e2⟩
      obtain ⟨_, o', e1', _⟩ := F.cell z a e0
      rw [q, nC0] at e1'; cases e1'
  refine (h (.ref Dd) _ (k.trans z.up) R₄).run A ok _ _ (.refl _) I₄ F₄ oLz oCz Q E ?_
  intro v H'' h'' tk'' hu hf he hI hR
  refine q v H'' h'' tk'' (z.up.trans hu) (fun b o e => ?_) (fun b o hb hl hc e => ?_) hI hR
  · rcases hf b o e with e' | e'
    · exact z.fresh b o e'
    · refine .inr ?_
      cases q' : s.heap.get? b with
      | none => rfl
      | some ob =>
        exfalso
        have hbC : b ≠ C := fun q => by rw [q, nC0] at q'; cases q'
        rw [hs₄' b hbC] at e'
        by_cases hbL : b = env.locals
        · obtain ⟨o', ho'⟩ := F₃.aliveL
          rw [hbL, ho'] at e'; cases e'
        · rw [hs₃.2 b hbL] at e'
          have := z.alive I e'
          rw [q'] at this; cases this
  · have hbC : b ≠ C := fun q => by rw [q, nC0] at e; cases e
    exact he b o hb hl hc ((hs₄' b hbC).trans ((hs₃.2 b hl).trans (z.ext b o hb e)))⟩
end
end Mine
namespace Mine

section
variable {c : Cfg} {n : Nat} {env : Env} {ρ : Str → Option Value} {H : View} {d : D}

theorem typeIs_list {H₁ : View} {s : Shared} {v : Value} {ds : List D} (I : Inv c H₁ s.heap) (R : Rel H₁ v (.list ds)) : s.TypeIs v "list" := by
  cases R with
  | list ha hr => exact ⟨_, I.le _ _ ha, rfl⟩

theorem Fun.isList {ds : List D} : Fun c n (.builtin "isinstance") H [.list ds, .raw (.type "list")] (.bool true) := ⟨fun A ok s H₁ vs k I R Q E q => by
  cases R with
  | cons r t => cases t with
    | cons r' t' =>
      cases t'
      cases r'
      exact call_isinstance_yes (typeIs_list I r) F.isi_meta_list F.isi_self_list (q _ H₁ s.heap s.toks (.refl I) (.bool _))⟩
theorem Fun.intNot {i : Int} {T : String} (h : ∀ {prog : Program} {w : World} {A : Around} {E : Value → Shared → Prop} {s : Shared} {Q : Value → Shared → Prop} {u : Tok}, Q (.bool false) { s with toks := s.toks + 1 } → wpAny (model prog w) A (call (.builtin "isinstance") [.int i u, .type T]) Q E s) :
    Fun c n (.builtin "isinstance") H [.int i, .raw (.type T)] (.bool false) := ⟨fun A ok s H₁ vs k I R Q E q => by
  cases R with
  | cons r t => cases t with
    | cons r' t' =>
      cases t'
      cases r'
      cases r
      exact h (q _ H₁ s.heap _ (.refl I) (.bool _))⟩

/-- methods: what the look-up of a method gives -/
structure MethR (c : Cfg) (name : Str) (d : D) (id : String) : Prop where
  run : ∀ (A : Around), Ok A 0 → ∀ (s : Shared) (H₁ : View) (v : Value) (pl : Sem Bool), Inv c H₁ s.heap → Rel H₁ v d → ∀ (Q : Value × List Value → Shared → Prop) (E : Value → Shared → Prop),
    (∀ tk', Q (.builtin id, [v]) { s with toks := tk' }) → wpAny (model c.prog c.w) A (getMethod v name pl) Q E s

/-- the shape of a method call -/
def MethForm (o : Expr) (name : Str) (apos : Pos) (as : List Expr) (pos : Pos) : Prop := ∀ env, ∃ pl, eval (.Call (.Attribute o name apos) as [] pos) env = (do
      let ov ← eval o env
      standAt apos.atName
      let (f, first) ← holding [ov] (getMethod ov name pl)
      callWith pos f first (backTo pos (starEach as env)) [])

theorem MethForm.mk {o : Expr} {name : Str} {apos : Pos} {as : List Expr} {pos : Pos} (hb : ∀ env w, attributeBase o name env w = w) (hs : ∀ env, (backTo pos (starEach as env)).all (!·.1) = true) (hn : as.length < 30) (hl : (apos.endLine == pos.line) = true) : MethForm o name apos as pos := fun env => by
  apply Exists.intro
  show (do
    let ov ← attributeBase o name env (eval o env)
    standAt apos.atName
    methodCall o name apos pos env ov (as.length + 0) (backTo pos (starEach as env)) []) = _
  rw [hb]
  have hf : methodCallForm (as.length + 0) (backTo pos (starEach as env)) [] = true := by
    unfold methodCallForm
    rw [hs env]
    simp
    omega
  unfold methodCall
  rw [hf]
  have hp : methodCallPos true o env apos pos = pure pos := by
    unfold methodCallPos
    rw [hl]; rfl
  rw [hp]
  exact rfl

theorem PE.meth {o a : Expr} {as : List Expr} {name : Str} {apos pos : Pos} {d₀ : D} {ds : List D} {id : String} (ho : PE c n env ρ H o d₀) (hm : MethR c name d₀ id) (args : PEs c n env ρ H (a :: as) ds)
    (hf : Fun c n (.builtin id) H (d₀ :: ds) d)
    (he : MethForm o name apos (a :: as) pos) : PE c n env ρ H (.Call (.Attribute o name apos) (a :: as) [] pos) d := ⟨fun A ok s H₁ k I F Q E q => by
  obtain ⟨pl, he⟩ := he env
  exact MethodCall_ (pl := pl) (ho.run A ok s H₁ k I F _ _ fun v H₂ h₂ t₂ S₂ R₂ => hm.run A (ok.le (Nat.zero_le _)) _ H₂ v pl S₂.inv R₂ _ _ fun t₃ =>
    callWith_any (.builtin id) args A ok _ H₂ (k.trans S₂.up) S₂.inv (F.step S₂) Q E fun vs H₃ h₃ t₄ S₃ R₃ =>
      hf.run A ok _ H₃ (v :: vs) ((k.trans S₂.up).trans S₃.up) S₃.inv (.cons (R₂.mono S₃.up) R₃) Q E fun u H' h' t' S' R' => q u H' h' t' ((S₂.trans S₃ I).trans S' I) R') he⟩
theorem PE.meth0 {o : Expr} {name : Str} {apos pos : Pos} {d₀ : D} {id : String} (ho : PE c n env ρ H o d₀) (hm : MethR c name d₀ id)
    (hf : Fun c n (.builtin id) H [d₀] d)
    (he : MethForm o name apos [] pos) : PE c n env ρ H (.Call (.Attribute o name apos) [] [] pos) d := ⟨fun A ok s H₁ k I F Q E q => by
  obtain ⟨pl, he⟩ := he env
  exact MethodCall_ (pl := pl) (ho.run A ok s H₁ k I F _ _ fun v H₂ h₂ t₂ S₂ R₂ => hm.run A (ok.le (Nat.zero_le _)) _ H₂ v pl S₂.inv R₂ _ _ fun t₃ =>
    callWith_method0 (hf.run A ok _ H₂ [v] (k.trans S₂.up) S₂.inv (.cons R₂ .nil) Q E fun u H' h' t' S' R' => q u H' h' t' (S₂.trans S' I) R')) he⟩

theorem MethR.join {x : Str} : MethR c "join" (.str x) "str.join" := ⟨fun A ok s H₁ v pl I R Q E q => by
  cases R with
  | str _ t => exact GM.join (q s.toks)⟩

theorem strs_of {H₁ : View} : ∀ {vs : List Value} {texts : List Str}, RelL H₁ vs (texts.map D.str) → ∃ l : List (Str × Tok), vs = strValues l ∧ l.map (·.1) = texts
  | _, [], .nil => ⟨[], rfl, rfl⟩
  | _, x :: r, .cons (.str _ t) h => by
    obtain ⟨l, h1, h2⟩ := strs_of h
    exact ⟨(x, t) :: l, by rw [h1]; rfl, by simp [h2]⟩

theorem Fun.join {x : Str} {texts : List Str} (hok : JoinOk x texts = true) : Fun c n (.builtin "str.join") H [.str x, .list (texts.map D.str)] (.str (Str.join x texts)) := ⟨fun A ok s H₁ vs k I R Q E q => by
  cases R with
  | cons r t => cases t with
    | cons r' t' =>
      cases t'
      cases r with
      | str _ tk =>
        cases r' with
        | @list a ws m _ ha hr =>
          obtain ⟨l, h1, h2⟩ := strs_of hr
          have hl : s.heap.IsList a (strValues l).toArray := ⟨_, I.le _ _ ha, rfl, m, by rw [← h1]⟩
          refine SC.join hl h2 hok fun t' k' => ?_
          have e : Txt.join x texts = Str.join x texts := StrLaws.glued_eq_join x texts
          rw [e]
          exact q _ H₁ s.heap k' (.refl I) (.str _ _)⟩

/-- an f-string's parts -/
inductive Parts (c : Cfg) (n : Nat) (env : Env) (ρ : Str → Option Value) (H : View) : List Expr → List Str → Prop
  | nil : Parts c n env ρ H [] []
  | cons {e : Expr} {x : Str} {es : List Expr} {xs : List Str} : PE c n env ρ H e (.str x) → Parts c n env ρ H es xs → Parts c n env ρ H (e :: es) (x :: xs)

def glue (acc : Str) : List Str → Str
  | [] => acc
  | x :: r => glue (acc ++ x) r
theorem glue_ge : ∀ (xs : List Str) (acc : Str), acc.length ≤ (glue acc xs).length
  | [], acc => Nat.le_refl _
  | x :: r, acc => by
    have := glue_ge r (acc ++ x)
    rw [Str.length_append] at this
    show _ ≤ (glue (acc ++ x) r).length
    omega

theorem Parts.run : ∀ {es : List Expr} {xs : List Str}, Parts c n env ρ H es xs → ∀ (acc : Str) (A : Around), Ok A n → ∀ (s : Shared) (H₁ : View), VLe H H₁ → Inv c H₁ s.heap → Frm c env ρ s.heap → (glue acc xs).length ≤ sizeLine →
    ∀ (Q : Value → Shared → Prop) (E : Value → Shared → Prop),
    (∀ v H' h' tk', HStep c H₁ s.heap H' h' → Rel H' v (.str (glue acc xs)) → Q v { s with heap := h', toks := tk' }) → wpAny (model c.prog c.w) A (joinParts acc (evalEach es env)) Q E s
  | _, _, .nil, acc, A, ok, s, H₁, k, I, F, hsz, Q, E, q => by
    show wpAny _ A (joinParts acc []) Q E s
    exact joinParts_nil (q _ H₁ s.heap _ (.refl I) (.str _ _)) hsz
  | _, _, .cons (e := e) (x := x) (es := es) (xs := xs) h t, acc, A, ok, s, H₁, k, I, F, hsz, Q, E, q => by
    show wpAny _ A (joinParts acc (eval e env :: evalEach es env)) Q E s
    refine joinParts_cons (h.run A ok s H₁ k I F _ _ fun v H₂ h₂ t₂ S₂ R₂ => ?_)
    cases R₂ with
    | str _ tk =>
      exact ⟨Nat.le_trans (glue_ge xs _) hsz, Parts.run t (acc ++ x) A ok _ H₂ (k.trans S₂.up) S₂.inv (F.step S₂) hsz Q E fun v H' h' tk' S' R' => q v H' h' tk' (S₂.trans S' I) R'⟩

theorem PE.joined {e e' : Expr} {es : List Expr} {xs : List Str} {pos : Pos} (h : Parts c n env ρ H (e :: e' :: es) xs) (hsz : (glue Str.empty xs).length ≤ sizeLine) :
    PE c n env ρ H (.JoinedStr (e :: e' :: es) pos) (.str (glue Str.empty xs)) := ⟨fun A ok s H₁ k I F Q E q =>
  JoinedStr_many (h.run Str.empty A ok s H₁ k I F hsz Q E q)⟩

theorem PE.fmt {e : Expr} {x : Str} {pos : Pos} (h : PE c n env ρ H e (.str x)) (hsz : x.length ≤ sizeLine) : PE c n env ρ H (.FormattedValue e (-1) none pos) (.str x) := ⟨fun A ok s H₁ k I F Q E q =>
  wpAny_FormattedValue_plain (h.run A ok s H₁ k I F _ _ fun v H₂ h₂ t₂ S₂ R₂ => by
    cases R₂ with
    | str _ tk => exact wpAny_formatField_str (q _ H₂ h₂ _ S₂ (.str _ _)) (q _ H₂ h₂ _ S₂ (.str _ _)) hsz)⟩

theorem BinR.addStr {x y : Str} (hsz : x.length + y.length ≤ sizeLine) : BinR c .Add (.str x) (.str y) (.str (x ++ y)) := ⟨fun A ok s H₁ u v I R₁ R₂ Q E q => by
  cases R₁ with
  | str _ t =>
    cases R₂ with
    | str _ t' => exact PyProof.Rows.add_str (fun t' tk => q _ H₁ s.heap tk (.refl I) (.str _ _)) hsz⟩
end
end Mine
namespace Mine

mutual
/-- the text of an array -/
def D.txt : D → Str
  | .int i => toString i
  | .list l => glue Str.empty [Str.ofString "{", Str.join (Str.ofString ",") (txts l), Str.ofString "}"]
  | _ => Str.empty
def txts : List D → List Str
  | [] => []
  | t :: r => t.txt :: txts r
end
theorem txts_map : ∀ l : List D, txts l = l.map D.txt
  | [] => rfl
  | t :: r => by rw [txts, txts_map r]; rfl

theorem D.txt_list (l : List D) : (D.list l).txt = (Str.ofString "{" ++ Str.join (Str.ofString ",") (txts l)) ++ Str.ofString "}" := by
  rw [D.txt]
  show ((Str.empty ++ Str.ofString "{") ++ Str.join (Str.ofString ",") (txts l)) ++ Str.ofString "}" = _
  rw [Str.empty_append]

mutual
def D.ht : D → Nat
  | .list l => hts l + 1
  | _ => 0
def hts : List D → Nat
  | [] => 0
  | t :: r => max t.ht (hts r)
end
theorem ht_mem : ∀ {l : List D} {t : D}, t ∈ l → t.ht ≤ hts l
  | _ :: r, _, .head _ => Nat.le_max_left _ _
  | t :: r, _, .tail _ h => Nat.le_trans (ht_mem h) (Nat.le_max_right _ _)

mutual
/-- how long its text can be -/
def D.sz : D → Nat
  | .int i => (toString i : Str).length
  | .list l => szs l + 2
  | _ => 0
def szs : List D → Nat
  | [] => 0
  | t :: r => t.sz + 1 + szs r
end
theorem szs_sum : ∀ l : List D, szs l = (l.map D.sz).sum + l.length
  | [] => rfl
  | t :: r => by rw [szs, szs_sum r]; simp; omega
theorem sz_mem : ∀ {l : List D} {t : D}, t ∈ l → t.sz ≤ szs l
  | t :: r, _, .head _ => by rw [szs]; omega
  | t :: r, _, .tail _ h => by rw [szs]; have := sz_mem h; omega
mutual
theorem D.txt_le : ∀ t : D, t.txt.length ≤ t.sz
  | .int i => Nat.le_refl _
  | .list l => by
    have h := StrLaws.join_length_le (Str.ofString ",") (txts l)
    have h' := txts_le l
    have e1 : (Str.ofString "{").length = 1 := by decide
    have e2 : (Str.ofString ",").length = 1 := by decide
    have e3 : (Str.ofString "}").length = 1 := by decide
    rw [D.txt_list, D.sz, Str.length_append, Str.length_append, e1, e3]
    rw [e2] at h
    have h2 : ((txts l).map (·.length)).sum + (txts l).length ≤ szs l := h'
    omega
  | .none => Nat.le_refl _
  | .bool _ => Nat.le_refl _
  | .str _ => Nat.le_refl _
  | .tup _ => Nat.le_refl _
  | .raw _ => Nat.le_refl _
theorem txts_le : ∀ l : List D, ((txts l).map (·.length)).sum + (txts l).length ≤ szs l
  | [] => Nat.le_refl _
  | t :: r => by
    have h1 := D.txt_le t
    have h2 := txts_le r
    rw [txts, szs]
    simp only [List.map_cons, List.sum_cons, List.length_cons]
    omega
end
theorem D.joinOk {l : List D} (h : szs l ≤ 1000000) : JoinOk (Str.ofString ",") (txts l) = true := by
  have h' := txts_le l
  have e2 : (Str.ofString ",").length = 1 := by decide
  unfold JoinOk
  rw [StrLaws.joinTotal, e2]
  have : PySem.Builtin.Str.tooLong (((txts l).map (·.length)).sum + (txts l).length * 1) = false := by
    unfold PySem.Builtin.Str.tooLong sizeLine
    exact decide_eq_false (by have e : (2 : Nat) ^ 24 = 16777216 := by decide
                              omega)
  rw [this]; rfl

theorem join_le {l : List D} (h : szs l ≤ 1000000) : (Str.join (Str.ofString ",") (txts l)).length ≤ sizeLine := by
  have h1 := StrLaws.join_length_le (Str.ofString ",") (txts l)
  have h2 := txts_le l
  have e2 : (Str.ofString ",").length = 1 := by decide
  have e : sizeLine = 16777216 := by decide
  rw [e2] at h1
  omega
theorem txt_fits {l : List D} (h : szs l ≤ 1000000) : (D.list l).txt.length ≤ sizeLine := by
  have h1 := D.txt_le (.list l)
  rw [D.sz] at h1
  have e : sizeLine = 16777216 := by decide
  omega

/-- arrays alone -/
inductive D.Bare : D → Prop
  | node {l : List D} : (∀ t ∈ l, t.Bare) → D.Bare (.list l)

section
variable {c : Cfg} {n : Nat} {env : Env} {ρ : Str → Option Value} {H : View} {d : D}
theorem SR.assignCompAll {elt iter : Expr} {x y : Str} {px py : Pos} {scope : Scope} {pos spos : Pos} {ds : List D} {g : D → D} {rest : List Stmt}
    (hsw : swapsWith (.ListComp elt [⟨.Name x px, iter, [], 0⟩] scope pos) (some (.Name y py)) spos.line env = pure true) (hy : env.kindOf y = some .local)
    (hfree : ∀ y ∈ scope.names, y.2 ≠ .free) (hcell : ∀ y ∈ scope.names, y.2 ≠ .cell) (hkind : scope.kind = .function) (hnames : ∀ y ∈ scope.names, y.2 = .local → scope.names.lookup y.1 = some .local) (hx : scope.names.lookup x = some .local)
    (it : IT c n env ρ H iter ds) (hsz : ds.length ≤ sizeLine)
    (hel : ∀ C d v H', d ∈ ds → VLe H H' → Rel H' v d → PE c n (compEnvC scope [] C env) (upd (fun _ => none) x v) H' elt (g d))
    (h : ∀ v H', VLe H H' → Rel H' v (.list (ds.map g)) → SR c n env (upd ρ y v) H' rest d)
    (hs : ∀ x, foldedSetIterable iter env x = pure x := by intro _; rfl) :
    SR c n env ρ H (.Assign [.Name y py] (.ListComp elt [⟨.Name x px, iter, [], 0⟩] scope pos) spos :: rest) d :=
  SR.assignComp (p := fun _ => true) (g := g) hsw hy (FreeOk.none hfree) hcell hkind hnames hx it hsz (fun C d v H' hd hH r => ⟨.nil, fun _ => hel C d v H' hd hH r⟩)
    (fun v H' hH r => h v H' hH (by rwa [List.filter_eq_self.mpr (fun _ _ => rfl)] at r)) hs

theorem one_of {vs : List Value} {k : Nat} (h : vs.length = k) (hk : k = 1) : ∃ v, vs = [v] := by
  match vs, h with
  | [v], _ => exact ⟨v, rfl⟩
  | [], h => subst hk; cases h
  | _ :: _ :: _, h => subst hk; simp at h
theorem two_of {vs : List Value} {k : Nat} (h : vs.length = k) (hk : k = 2) : ∃ v v', vs = [v, v'] := by
  match vs, h with
  | [v, v'], _ => exact ⟨v, v', rfl⟩
  | [], h => subst hk; cases h
  | [_], h => subst hk; simp at h
  | _ :: _ :: _ :: _, h => subst hk; simp at h
theorem RelL.one {H : View} {v : Value} {d : D} (h : RelL H [v] [d]) : Rel H v d := by cases h with | cons r _ => exact r
theorem globB {x : Str} {v : Value} (h : nsIn c.K mainGlobals x = some none) (hb : bootBuiltins x = some v) (hn : x ≠ ("__name__" : Str) := by decide) : GlobV c x v := .inr ⟨h, hb, hn⟩
end
end Mine
namespace Mine

structure EnumAt (K : Frag) (a C : Addr) : Prop where
  ty : typeIn K (.ref a) = some (.ref C)
  eq : specialIn K (.ref a) "__eq__" = some (some (.builtin "object.__eq__"))
  sub : subIn K (.ref C) (.type "object") = some true
  obj : ∃ o, K.lookup a = some o ∧ o.cls ≠ .type "tuple"

section
variable {c : Cfg}
theorem special_enum {s : Shared} {A : Around} {E : Value → Shared → Prop} {K : Frag} {a b C : Addr} (X : K.In s.heap) (ea : EnumAt K a C) (eb : EnumAt K b C) (hab : a ≠ b) {Q : Option Value → Shared → Prop} (q : Q none s) :
    wpAny (model c.prog c.w) A (tryCompare (.ref a) "__eq__" (.ref b)) Q E s := by
  obtain ⟨oa, ha, hat⟩ := ea.obj
  obtain ⟨ob, hb, hbt⟩ := eb.obj
  unfold tryCompare
  have S : Slot "object" "__eq__" "object.__eq__" := F.cmp_object.eq
  have hcall : wpAny (model c.prog c.w) A (call (.builtin "object.__eq__") [.ref a, .ref b]) (fun v s' => (fun (r : Option Value) s' => r = some .notImplemented ∧ s' = s) (some v) s') E s :=
    wpAny_call (codeAny_call_builtin S.plain F.cmpEntry_eq (check_slot F.cmpKind_eq F.cmpSplit_eq ((looks_typeIn X ea.ty).andThen (looks_subIn X ea.sub)) (F.cmpArgs_eq _ _)
      (objEq_entry_other hab (X _ _ ha) (X _ _ hb) hat ⟨rfl, rfl⟩)))
  refine wpAny_bind (wpAny_mono (Q := fun r s' => r = some .notImplemented ∧ s' = s) ?_ (fun r s' h => ?_) fun _ _ e => e)
  · simp only [callSpecialIfBound?, bindSpecialIfBound?]
    refine wpAny_holding (wpAny_bind (wpAny_bind ((looks_specialIn X ea.eq).here ?_)))
    simp only [S.bind]
    refine wpAny_bind (wpAny_askSetting (wpAny_ite ?_))
    have fin : wpAny (model c.prog c.w) A (call (.builtin "object.__eq__") ([.ref a] ++ [.ref b]) >>= fun v => pure (some v)) (fun r s' => r = some .notImplemented ∧ s' = s) E s :=
      wpAny_bind (wpAny_mono hcall (fun v s' h' => wpAny_pure h') fun _ _ h' => h')
    split
    · exact wpAny_bind (wpAny_pure (wpAny_pure fin))
    · exact wpAny_tryCatch (wpAny_bind (wpAny_pure (wpAny_pure fin)))
  · obtain ⟨rfl, rfl⟩ := h
    exact wpAny_pure q

theorem special_enum_same {s : Shared} {A : Around} {E : Value → Shared → Prop} {K : Frag} {a C : Addr} (X : K.In s.heap) (ea : EnumAt K a C) {Q : Option Value → Shared → Prop} (q : Q (some (.bool true)) s) :
    wpAny (model c.prog c.w) A (tryCompare (.ref a) "__eq__" (.ref a)) Q E s := by
  unfold tryCompare
  have S : Slot "object" "__eq__" "object.__eq__" := F.cmp_object.eq
  have hcall : wpAny (model c.prog c.w) A (call (.builtin "object.__eq__") [.ref a, .ref a]) (fun v s' => (fun (r : Option Value) s' => r = some (.bool true) ∧ s' = s) (some v) s') E s :=
    wpAny_call (codeAny_call_builtin S.plain F.cmpEntry_eq (check_slot F.cmpKind_eq F.cmpSplit_eq ((looks_typeIn X ea.ty).andThen (looks_subIn X ea.sub)) (F.cmpArgs_eq _ _)
      (objEq_entry_same ⟨rfl, rfl⟩)))
  refine wpAny_bind (wpAny_mono (Q := fun r s' => r = some (.bool true) ∧ s' = s) ?_ (fun r s' h => ?_) fun _ _ e => e)
  · simp only [callSpecialIfBound?, bindSpecialIfBound?]
    refine wpAny_holding (wpAny_bind (wpAny_bind ((looks_specialIn X ea.eq).here ?_)))
    simp only [S.bind]
    refine wpAny_bind (wpAny_askSetting (wpAny_ite ?_))
    have fin : wpAny (model c.prog c.w) A (call (.builtin "object.__eq__") ([.ref a] ++ [.ref a]) >>= fun v => pure (some v)) (fun r s' => r = some (.bool true) ∧ s' = s) E s :=
      wpAny_bind (wpAny_mono hcall (fun v s' h' => wpAny_pure h') fun _ _ h' => h')
    split
    · exact wpAny_bind (wpAny_pure (wpAny_pure fin))
    · exact wpAny_tryCatch (wpAny_bind (wpAny_pure (wpAny_pure fin)))
  · obtain ⟨rfl, rfl⟩ := h
    exact wpAny_pure q

theorem enum_eq {s : Shared} {A : Around} {E : Value → Shared → Prop} {K : Frag} {a b C : Addr} (hu : A.units < cLine) (X : K.In s.heap) (ea : EnumAt K a C) (eb : EnumAt K b C) {Q : Value → Shared → Prop} (q : Q (.bool (a == b)) s) :
    wpAny (model c.prog c.w) A (compareOp .Eq (.ref a) (.ref b)) Q E s := by
  show wpAny _ A (richCompare .Eq (.ref a) (.ref b)) Q E s
  unfold richCompare
  simp only [oneThing_ref]
  refine wpAny_holding (wpAny_bind (wpAny_cRoomFor hu ?_))
  refine wpAny_bind ((looks_typeIn X ea.ty).here (wpAny_bind ((looks_typeIn X eb.ty).here ?_)))
  rw [if_neg (by simp)]
  refine wpAny_bind (wpAny_pure ?_)
  simp only [Bool.false_eq_true, if_false]
  by_cases hab : a = b
  · subst hab
    refine wpAny_bind (special_enum_same X ea ?_)
    have : (a == a) = true := beq_self_eq_true a
    rw [this] at q
    exact wpAny_pure q
  · have : (a == b) = false := beq_false_of_ne hab
    rw [this] at q
    obtain ⟨oa, ha, hat⟩ := ea.obj
    obtain ⟨ob, hb, hbt⟩ := eb.obj
    refine wpAny_bind (special_enum X ea eb hab ?_)
    simp only [Bool.not_false, if_true]
    refine wpAny_bind (special_enum X eb ea (Ne.symm hab) ?_)
    refine wpAny_bind (wpAny_rule ?_)
    exact wpAny_bind (wpAny_isSame_ref_other hab (X _ _ ha) (X _ _ hb) hat (wpAny_pure q))

theorem CmpR.enum {a b C : Addr} (ea : EnumAt c.K a C) (eb : EnumAt c.K b C) : CmpR c .Eq (.raw (.ref a)) (.raw (.ref b)) (.bool (a == b)) := ⟨fun A ok s H₁ x y I R₁ R₂ Q E q => by
  cases R₁ with
  | raw => cases R₂ with
    | raw => exact enum_eq (by have := ok.un; omega) (fun b o e => I.keep _ _ (c.k _ _ e)) ea eb (q _ H₁ s.heap s.toks (.refl I) (.bool _))⟩
end
end Mine
namespace Mine

section
variable {c : Cfg} {n : Nat} {env : Env} {ρ : Str → Option Value} {H : View} {d : D}

theorem upd_eq {x : Str} {v : Value} : upd ρ x v x = some v := by unfold upd; rw [if_pos rfl]
theorem upd_ne {x y : Str} {v : Value} (h : y ≠ x) : upd ρ x v y = ρ y := by unfold upd; rw [if_neg h]

theorem PE.attrCls {x attr : Str} {p pos : Pos} {C : Addr} {mc v : Value} (hx : env.kindOf x = some .globalImplicit) (g : GlobV c x (.ref C)) (hr : readsIn c.K C mc = true) (e : findCls c.K (.ref C) mc attr = some (.val v)) (hh : handedIn v = true)
    (hd : (x == ("__debug__" : Str)) = false := by decide) : PE c n env ρ H (.Attribute (.Name x p) attr pos) (.raw v) :=
  ⟨fun A ok s H₁ k I F Q E q => Attribute_name (ldGlob I F hx g hd (cls_value (fun b o e => I.keep _ _ (c.k _ _ e)) hr e hh (q v H₁ s.heap _ (.refl I) (.raw v))))⟩

theorem CmpR.eqStr {x y : Str} : CmpR c .Eq (.str x) (.str y) (.bool (x == y)) := ⟨fun A ok s H₁ u v I R₁ R₂ Q E q => by
  cases R₁ with
  | str _ t => cases R₂ with
    | str _ t' => exact PyProof.Rows.eq_str (q _ H₁ s.heap s.toks (.refl I) (.bool _))⟩

theorem strsAre_of {H : View} : ∀ {vs : List Value} {ys : List Str}, RelL H vs (ys.map D.str) → StrsAre vs ys
  | _, [], .nil => .nil
  | _, y :: r, .cons (.str _ t) h => .cons y t (strsAre_of h)
theorem CmpR.inStrs {x : Str} {ys : List Str} : CmpR c .In (.str x) (.tup (ys.map D.str)) (.bool (ys.any (· == x))) := ⟨fun A ok s H₁ u v I R₁ R₂ Q E q => by
  cases R₁ with
  | str _ t => cases R₂ with
    | @tup a ws m _ ha hr => exact PyProof.Rows.in_tuple_strs (t := a) (items := ws) ⟨_, I.le _ _ ha, rfl, m, rfl⟩ (strsAre_of hr) (q _ H₁ s.heap s.toks (.refl I) (.bool _))⟩

theorem PE.callLoc {x : Str} {p pos : Pos} {f : Value} {a : Expr} {as : List Expr} {ds : List D} (hx : env.kindOf x = some .local) (hv : ρ x = some f) (C : Callee c f)
    (args : PEs c n env ρ H (a :: as) ds) (hf : Fun c n f H ds d) (hc : (x == ("__classdict__" : Str)) = false := by decide) (hd : (x == ("__debug__" : Str)) = false := by decide) : PE c n env ρ H (.Call (.Name x p) (a :: as) [] pos) d :=
  ⟨fun A ok s H₁ k I F Q E q => Call_Name rfl (wpAny_Name (ldFrm F hv (.inl hx) hc (callWith_any C args A ok s H₁ k I F Q E fun vs H₂ h₂ t₂ S₂ R₂ =>
    hf.run A ok _ H₂ vs (k.trans S₂.up) S₂.inv R₂ Q E fun v H' h' t' S' R' => q v H' h' t' (S₂.trans S' I) R')) hd)⟩

theorem Fun.int {x : Str} {i : Int} (hn : PySem.intText? x = some i) (hl : x.length ≤ 640) : Fun c n (.type "int") H [.str x] (.int i) := ⟨fun A ok s H₁ vs k I R Q E q => by
  cases R with
  | cons r t => cases t; cases r with
    | str _ t => exact KIN.call_text hn hl (q _ H₁ s.heap _ (.refl I) (.int _ _))⟩
end

/-- the open lists of the parser: the innermost first; each holds what it has been given and, last, the one within -/
inductive Chain (bad : List Addr) (h₀ : Heap) (H : View) (h : Heap) : List Value → List Addr → List (List D) → Prop
  | nil (pend : List Value) : Chain bad h₀ H h pend [] []
  | cons {pend : List Value} {a : Addr} {as : List Addr} {vs : Array Value} {n : Nat} {ws : List Value} {ds : List D} {dss : List (List D)} : h.get? a = some (lstO vs n) → vs.toList = ws ++ pend → RelL H ws ds → H a = none → h₀.get? a = none → a ∉ bad → a ∉ as →
      Chain bad h₀ H h [.ref a] as dss → Chain bad h₀ H h pend (a :: as) (ds :: dss)

section
variable {bad : List Addr} {h₀ h h' : Heap} {H H' : View} {pend : List Value} {as : List Addr} {dss : List (List D)}
theorem Chain.mem (C : Chain bad h₀ H h pend as dss) : ∀ a ∈ as, H a = none ∧ h₀.get? a = none ∧ a ∉ bad ∧ (h.get? a).isSome = true := by
  induction C with
  | nil => intro a ha; cases ha
  | cons h1 h2 h3 h4 h5 h6 h7 h8 ih =>
    intro a ha
    rcases List.mem_cons.mp ha with rfl | ha
    · exact ⟨h4, h5, h6, by rw [h1]; rfl⟩
    · exact ih a ha
theorem Chain.keep (C : Chain bad h₀ H h pend as dss) (up : VLe H H') (ext : ∀ a ∈ as, ∀ o, h.get? a = some o → h'.get? a = some o) (miss : ∀ a ∈ as, H' a = none) : Chain bad h₀ H' h' pend as dss := by
  induction C with
  | nil => exact .nil _
  | cons h1 h2 h3 h4 h5 h6 h7 h8 ih =>
    exact .cons (ext _ (by simp) _ h1) h2 (h3.mono up) (miss _ (by simp)) h5 h6 h7 (ih (fun a ha => ext a (List.mem_cons_of_mem _ ha)) (fun a ha => miss a (List.mem_cons_of_mem _ ha)))
theorem Chain.length (C : Chain bad h₀ H h pend as dss) : as.length = dss.length := by
  induction C with
  | nil => rfl
  | cons h1 h2 h3 h4 h5 h6 h7 h8 ih => simp [ih]
end

/-- where a parser stands within its loop -/
structure Sit (c : Cfg) (env : Env) (h₀ : Heap) (H₀ : View) (S : Addr) (fp : List Addr) (hI : Heap) (ex : Option Addr) (stk : List (List D)) (ρ : Str → Option Value) (H : View) (h : Heap) : Prop where
  aP : (h₀.get? c.P).isSome = true
  aL : (h₀.get? env.locals).isSome = true
  base : MStep c [env.locals] H₀ h₀ H h
  frm : Frm c env ρ h
  st : ∃ as k, h.get? S = some (lstO (as.reverse.map Value.ref).toArray k) ∧ Chain (S :: fp) h₀ H h [] as stk ∧ ∀ a, ex = some a → h.get? a = some (lstO #[] 0) ∧ H a = none ∧ h₀.get? a = none ∧ a ∉ S :: fp ∧ a ∉ as
  offS : H S = none
  newS : h₀.get? S = none
  offL : H env.locals = none
  fpk : ∀ b ∈ fp, ∀ o, hI.get? b = some o → h.get? b = some o
  fpP : ∀ b ∈ fp, b ≠ c.P
  fpS : S ∉ fp
  fpL : env.locals ∉ fp
  fpO : ∀ b ∈ fp, H b = none ∧ (h.get? b).isSome = true

section
variable {c : Cfg} {env : Env} {h₀ h h' hI : Heap} {H₀ H H' : View} {S : Addr} {fp : List Addr} {ex : Option Addr} {stk : List (List D)} {ρ ρ' : Str → Option Value}

theorem Frm.weak {c : Cfg} {env : Env} {h : Heap} (F : Frm c env ρ h) (k : ∀ x v, ρ' x = some v → ρ x = some v) : Frm c env ρ' h :=
  ⟨F.kind, F.gl, F.bl, F.apL, F.apC, let ⟨m, h1, h2⟩ := F.loc; ⟨m, h1, fun x v e q => h2 x v (k x v e) q⟩, F.cell, fun x v e q => F.cel x v (k x v e) q⟩

theorem Sit.new (σ : Sit c env h₀ H₀ S fp hI ex stk ρ H h) {a : Addr} (ha : h₀.get? a = none) : a ≠ c.P ∧ a ≠ env.locals :=
  ⟨fun q => (by have := σ.aP; rw [← q, ha] at this; cases this), fun q => (by have := σ.aL; rw [← q, ha] at this; cases this)⟩

theorem Frm.but {c : Cfg} {env : Env} {h h' : Heap} {a : Addr} {vs : Array Value} {n : Nat} (F : Frm c env ρ h) (hs : Heap.SameBut a h h') (ha : h.get? a = some (lstO vs n)) (hL : a ≠ env.locals) : Frm c env ρ h' where
  kind := F.kind
  gl := F.gl
  bl := F.bl
  apL := F.apL
  apC := F.apC
  loc := let ⟨m, h1, h2⟩ := F.loc; ⟨m, h1.sameBut hs (Ne.symm hL), h2⟩
  cell := fun x b e => let ⟨v, o, h1, h2⟩ := F.cell x b e; ⟨v, o, (hs.2 b fun q => (by rw [q, ha] at h1; cases h1; cases h2)).trans h1, h2⟩
  cel := fun x v e q => let ⟨b, h0, o, h1, h2⟩ := F.cel x v e q; ⟨b, h0, o, (hs.2 b fun q => (by rw [q, ha] at h1; cases h1; cases h2)).trans h1, h2⟩

theorem Sit.step (σ : Sit c env h₀ H₀ S fp hI ex stk ρ H h) (x : HStep c H h H' h') : Sit c env h₀ H₀ S fp hI ex stk ρ H' h' where
  aP := σ.aP
  aL := σ.aL
  base := σ.base.trans x.toM
  frm := σ.frm.step x
  st := by
    obtain ⟨as, k, h1, h2, h3⟩ := σ.st
    refine ⟨as, k, x.ext _ _ (σ.new σ.newS).1 h1, h2.keep x.up (fun a ha o e => x.ext a o (σ.new (h2.mem a ha).2.1).1 e) (fun a ha => ?_), fun a ha => ?_⟩
    · obtain ⟨e1, _, _, e2⟩ := h2.mem a ha
      obtain ⟨o, e3⟩ := Option.isSome_iff_exists.mp e2
      exact x.miss e3 e1
    · obtain ⟨e1, e2, e3, e4⟩ := h3 a ha
      exact ⟨x.ext _ _ (σ.new e3).1 e1, x.miss e1 e2, e3, e4⟩
  offS := by
    obtain ⟨as, k, h1, _⟩ := σ.st
    exact x.miss h1 σ.offS
  newS := σ.newS
  offL := let ⟨_, ho⟩ := σ.frm.aliveL; x.miss ho σ.offL
  fpk := fun b hb o e => x.ext b o (σ.fpP b hb) (σ.fpk b hb o e)
  fpP := σ.fpP
  fpS := σ.fpS
  fpL := σ.fpL
  fpO := fun b hb => by
    obtain ⟨e1, e2⟩ := σ.fpO b hb
    obtain ⟨o, e3⟩ := Option.isSome_iff_exists.mp e2
    exact ⟨x.miss e3 e1, by rw [x.ext b o (σ.fpP b hb) e3]; rfl⟩

theorem Sit.store (σ : Sit c env h₀ H₀ S fp hI ex stk ρ H h) {x : Str} {v : Value} {m : Str → Option Value} (hm : ∀ x v, ρ x = some v → env.kindOf x = some .local → m x = some v) (hx : env.kindOf x = some .local)
    (hn : h'.Ns env.locals (fun y => if y = x then some v else m y)) (hs : Heap.SameBut env.locals h h') : Sit c env h₀ H₀ S fp hI ex stk (upd ρ x v) H h' where
  aP := σ.aP
  aL := σ.aL
  base := σ.base.trans (MStep.at σ.base.inv (by simp) σ.offL σ.frm.apL hs (by obtain ⟨o, _, _, ho, _⟩ := hn; rw [ho]; rfl))
  frm := σ.frm.store hm hx hn hs
  st := by
    obtain ⟨as, k, h1, h2, h3⟩ := σ.st
    refine ⟨as, k, (hs.2 _ (σ.new σ.newS).2).trans h1, h2.keep (.refl _) (fun a ha o e => (hs.2 _ (σ.new (h2.mem a ha).2.1).2).trans e) (fun a ha => (h2.mem a ha).1), fun a ha => ?_⟩
    obtain ⟨e1, e2, e3, e4⟩ := h3 a ha
    exact ⟨(hs.2 _ (σ.new e3).2).trans e1, e2, e3, e4⟩
  offS := σ.offS
  newS := σ.newS
  offL := σ.offL
  fpk := fun b hb o e => (hs.2 _ (fun q => σ.fpL (q ▸ hb))).trans (σ.fpk b hb o e)
  fpP := σ.fpP
  fpS := σ.fpS
  fpL := σ.fpL
  fpO := fun b hb => ⟨(σ.fpO b hb).1, by rw [hs.2 _ (fun q => σ.fpL (q ▸ hb))]; exact (σ.fpO b hb).2⟩

theorem MStep.new {c : Cfg} {mu : List Addr} {H₁ H₂ H₃ : View} {h₁ h₂ h₃ : Heap} {mu' : List Addr} (x : MStep c mu H₁ h₁ H₂ h₂) (y : MStep c mu' H₂ h₂ H₃ h₃) (hn : ∀ b ∈ mu', h₁.get? b = none) : MStep c mu H₁ h₁ H₃ h₃ :=
  ⟨x.up.trans y.up, fun b ob e => (y.fresh b ob e).elim (x.fresh b ob) fun q => .inr (by
      cases q' : h₁.get? b with
      | none => rfl
      | some ob' => have := x.lives (b := b) (by rw [q']; rfl); rw [q] at this; cases this),
    fun b ob hb hm e => y.ext b ob hb (fun q => by rw [hn b q] at e; cases e) (x.ext b ob hb hm e), fun b hb e => y.lives (x.lives e), y.inv⟩

/-- the innermost list is given a value -/
theorem Sit.given (σ : Sit c env h₀ H₀ S fp hI ex stk ρ H h) {a : Addr} {as : List Addr} {k n : Nat} {vs : Array Value} {ds : List D} {r : List (List D)} {v : Value} {d : D} (hstk : stk = ds :: r)
    (h1 : h.get? S = some (lstO ((a :: as).reverse.map Value.ref).toArray k)) (h2 : Chain (S :: fp) h₀ H h [] (a :: as) stk) (h3 : ∀ b, ex = some b → h.get? b = some (lstO #[] 0) ∧ H b = none ∧ h₀.get? b = none ∧ b ∉ S :: fp ∧ b ∉ (a :: as)) (ha : h.get? a = some (lstO vs n)) (hp : h'.PlainList a (vs.push v)) (hs : Heap.SameBut a h h') (hv : Rel H v d) :
    Sit c env h₀ H₀ S fp hI ex ((ds ++ [d]) :: r) ρ H h' := by
  subst hstk
  obtain ⟨k', hp⟩ := hp
  cases h2 with
  | @cons _ _ _ vs' n' ws _ _ g1 g2 g3 g4 g5 g6 g7 g8 =>
    rw [g1] at ha
    cases ha
    have hne := σ.new g5
    have hSa : S ≠ a := fun q => g6 (by simp [q])
    have M := MStep.at (mu := [a]) σ.base.inv (by simp) g4 hne.1 hs (by rw [hp]; rfl)
    refine ⟨σ.aP, σ.aL, σ.base.new M (by simpa using g5), σ.frm.but hs g1 hne.2, ⟨a :: as, k, (hs.2 _ hSa).trans h1, ?_, fun b hb => ?_⟩, σ.offS, σ.newS, σ.offL, fun b hb o e => ?_, σ.fpP, σ.fpS, σ.fpL, fun b hb => ⟨(σ.fpO b hb).1, by rw [hs.2 b (fun q => g6 (by rw [← q]; simp [hb]))]; exact (σ.fpO b hb).2⟩⟩
    · refine .cons hp ?_ (g3.append (.cons hv .nil)) g4 g5 g6 g7 (g8.keep (.refl _) (fun b hb o e => (hs.2 b (fun q => g7 (q ▸ hb))).trans e) (fun b hb => (g8.mem b hb).1))
      rw [Array.toList_push, g2]; simp
    · obtain ⟨e1, e2, e3, e4, e5⟩ := h3 b hb
      exact ⟨(hs.2 b (fun q => e5 (by simp [q]))).trans e1, e2, e3, e4, e5⟩
    · exact (hs.2 b (fun q => g6 (by rw [← q]; simp [hb]))).trans (σ.fpk b hb o e)
end
end Mine
namespace Mine
section
variable {c : Cfg} {n : Nat} {env : Env} {h₀ hI : Heap} {H₀ H : View} {S : Addr} {fp : List Addr} {ex : Option Addr} {stk : List (List D)} {ρ : Str → Option Value} {A : Around} {s : Shared} {Q : Flow → Shared → Prop} {E : Value → Shared → Prop} {rest : List Stmt}

theorem Sit.asg (σ : Sit c env h₀ H₀ S fp hI ex stk ρ H s.heap) (ok : Ok A n) {x : Str} {px pos : Pos} {e : Expr} {d : D} (hx : env.kindOf x = some .local) (he : PE c n env ρ H e d)
    (q : ∀ v H' h' tk', Sit c env h₀ H₀ S fp hI ex stk (upd ρ x v) H' h' → VLe H H' → Rel H' v d → wpAny (model c.prog c.w) A (execs rest env) Q E { s with heap := h', toks := tk' })
    (hs : swapsWith e (some (.Name x px)) pos.line env = pure false := by rfl) :
    wpAny (model c.prog c.w) A (execs (.Assign [.Name x px] e pos :: rest) env) Q E s :=
  wpAny_execs_cons (wpAny_Assign_Name (he.run A ok s H (.refl _) σ.base.inv σ.frm _ _ fun v H₂ h₂ t₂ S₂ R₂ => by
    have σ₂ := σ.step S₂
    obtain ⟨m, hm1, hm2⟩ := σ₂.frm.loc
    exact wpAny_storeName_local hx hm1 (fun h₃ hn₃ hs₃ => q v H₂ h₃ _ (σ₂.store hm2 hx hn₃ hs₃) S₂.up R₂) (by rw [σ.frm.kind]; rfl)) hs)

/-- stack[-1] -/
theorem Sit.top (σ : Sit c env h₀ H₀ S fp hI ex stk ρ H s.heap) {ps p1 p2 p3 pos : Pos} {kk : Nat} {a : Addr} {as : List Addr} {k : Nat} {R : Value → Shared → Prop} (hsk : ρ "stack" = some (.ref S)) (hx : env.kindOf "stack" = some .local)
    (h1 : s.heap.get? S = some (lstO ((a :: as).reverse.map Value.ref).toArray k)) (q : ∀ tk', R (.ref a) { s with toks := tk' }) :
    wpAny (model c.prog c.w) A (eval (.Subscript (.Name "stack" ps) (.UnaryOp .USub (.Constant (.int 1) kk p1) p2) pos) env) R E s := by
  refine Subscript_UnaryOp (wpAny_Name (ldFrm σ.frm hsk (.inl hx) (by decide) (UnaryOp_ (wpAny_Constant_int (neg_int ?_)))) (by decide))
  · 
    have hl : s.heap.IsList S ((a :: as).reverse.map Value.ref).toArray := ⟨_, h1, rfl, k, rfl⟩
    refine ⟨"list", "list.__getitem__", slot_list_getitem.lookup, ⟨_, h1, rfl⟩, ?_⟩
    refine wpAny_getItem_list_neg (s := { s with toks := _ }) hl (by decide) ?_ (by decide) (x := .ref a) ?_ (q _)
    · simp; omega
    · have e : ((-1 : Int) + (((a :: as).reverse.map Value.ref).toArray.size : Nat)).toNat = as.length := by
        simp
        omega
      rw [e]
      simp

theorem Sit.app (σ : Sit c env h₀ H₀ S fp hI ex stk ρ H s.heap) (ok : Ok A n) {e : Expr} {d : D} {ds : List D} {r : List (List D)} {ps p1 p2 p3 p4 p5 p6 : Pos} {kk : Nat} (hstk : stk = ds :: r) (hsz : ds.length ≤ sizeLine) (hsk : ρ "stack" = some (.ref S)) (hx : env.kindOf "stack" = some .local)
    (he : PE c n env ρ H e d)
    (q : ∀ H' h' tk', Sit c env h₀ H₀ S fp hI ex ((ds ++ [d]) :: r) ρ H' h' → VLe H H' → wpAny (model c.prog c.w) A (execs rest env) Q E { s with heap := h', toks := tk' })
    (hm : MethForm (.Subscript (.Name "stack" ps) (.UnaryOp .USub (.Constant (.int 1) kk p1) p2) p3) "append" p4 [e] p5)
    (hs : ∀ env, starEach [e] env = (false, eval e env) :: starEach [] env := by intro _; rfl)
    (hi : interactive env = false := by rfl) (hsw : swapsWith (.Call (.Attribute (.Subscript (.Name "stack" ps) (.UnaryOp .USub (.Constant (.int 1) kk p1) p2) p3) "append" p4) [e] [] p5) none p6.line env = pure false := by rfl) :
    wpAny (model c.prog c.w) A (execs (.Expr (.Call (.Attribute (.Subscript (.Name "stack" ps) (.UnaryOp .USub (.Constant (.int 1) kk p1) p2) p3) "append" p4) [e] [] p5) p6 :: rest) env) Q E s := by
  refine wpAny_execs_cons (wpAny_Expr_any ?_ hi hsw)
  obtain ⟨pl, hm⟩ := hm env
  subst hstk
  obtain ⟨as, k, h1, h2, h3⟩ := σ.st
  cases as with
  | nil => cases h2
  | cons a as =>
    have h2' := h2
    cases h2 with
    | @cons _ _ _ vs n' ws _ _ g1 g2 g3 g4 g5 g6 g7 g8 =>
      refine MethodCall_ (pl := pl) (σ.top hsk hx h1 (fun t₁ => ?_) (p3 := p3)) hm
      refine getMethod_list_append (o := lstO vs n') g1 rfl rfl ?_
      refine callWith_any (s := { s with toks := t₁ }) (.builtin _) (PEs.one he hs) A ok H (.refl _) σ.base.inv σ.frm _ _ fun us H₂ h₂ t₂ S₂ R₂ => ?_
      cases R₂ with
      | cons R₂ T₂ =>
        cases T₂
        have σ₂ := σ.step S₂
        have hne := σ.new g5
        have g1' := S₂.ext _ _ hne.1 g1
        have hS' := S₂.ext _ _ (σ.new σ.newS).1 h1
        have hlen : vs.size ≤ sizeLine := by
          have e1 := g3.length
          have e2 : vs.toList.length = vs.size := by simp
          rw [g2] at e2
          simp at e2
          omega
        refine wpAny_list_append_plain (items := vs) ⟨n', g1'⟩ (fun h₄ hl₄ hs₄ => ?_) hlen
        refine q H₂ h₄ t₂ (σ₂.given rfl hS' (h2'.keep S₂.up (fun b hb o e => S₂.ext b o (σ.new (h2'.mem b hb).2.1).1 e) (fun b hb => ?_)) (fun b hb => ?_) g1' hl₄ hs₄ R₂) S₂.up
        · obtain ⟨e1, _, _, e2⟩ := h2'.mem b hb
          obtain ⟨o, e3⟩ := Option.isSome_iff_exists.mp e2
          exact S₂.miss e3 e1
        · obtain ⟨e1, e2, e3, e4, e5⟩ := h3 b hb
          exact ⟨S₂.ext _ _ (σ.new e3).1 e1, S₂.miss e1 e2, e3, e4, e5⟩

/-- a = [] -/
theorem Sit.mkA (σ : Sit c env h₀ H₀ S fp hI none stk ρ H s.heap) {x : Str} {px p1 pos : Pos} (hx : env.kindOf x = some .local)
    (q : ∀ a h' tk', Sit c env h₀ H₀ S fp hI (some a) stk (upd ρ x (.ref a)) H h' → wpAny (model c.prog c.w) A (execs rest env) Q E { s with heap := h', toks := tk' })
    (hs : swapsWith (.List [] p1) (some (.Name x px)) pos.line env = pure false := by rfl) :
    wpAny (model c.prog c.w) A (execs (.Assign [.Name x px] (.List [] p1) pos :: rest) env) Q E s := by
  refine wpAny_execs_cons (wpAny_Assign_Name (wpAny_List (wpAny_items_nil ⟨Nat.zero_le _, ?_⟩)) hs)
  have nD := fresh_none s.heap
  have S₂ : HStep c H s.heap H (s.heap.push (lstO #[] 0)) := HStep.push σ.base.inv _
  have σ₂ := σ.step S₂
  have ha : (s.heap.push (lstO #[] 0)).get? s.heap.objs.size = some (lstO #[] 0) := Heap.get?_push_size _ rfl
  have hn0 : h₀.get? s.heap.objs.size = none := by
    cases q' : h₀.get? s.heap.objs.size with
    | none => rfl
    | some ob => have := σ.base.lives (b := s.heap.objs.size) (by rw [q']; rfl); rw [nD] at this; cases this
  have σ₃ : Sit c env h₀ H₀ S fp hI (some s.heap.objs.size) stk ρ H (s.heap.push (lstO #[] 0)) := { σ₂ with
    st := by
      obtain ⟨as, k, h1, h2, h3⟩ := σ.st
      refine ⟨as, k, Heap.get?_push_of_some _ h1, h2.keep (.refl _) (fun b hb o e => Heap.get?_push_of_some _ e) (fun b hb => (h2.mem b hb).1), fun b hb => ?_⟩
      cases hb
      refine ⟨ha, σ.base.inv.none_of nD, hn0, fun hm => ?_, fun hm => ?_⟩
      · rcases List.mem_cons.mp hm with q' | q'
        · rw [q', h1] at nD; cases nD
        · have := (σ.fpO _ q').2; rw [nD] at this; cases this
      · have := (h2.mem _ hm).2.2.2; rw [nD] at this; cases this }
  obtain ⟨m, hm1, hm2⟩ := σ₃.frm.loc
  exact wpAny_storeName_local hx hm1 (fun h₃ hn₃ hs₃ => q _ h₃ _ (σ₃.store hm2 hx hn₃ hs₃)) (by rw [σ.frm.kind]; rfl)

theorem RelL.snoc {H : View} : ∀ {ws : List Value} {ds : List D} {d : D}, RelL H ws (ds ++ [d]) → ∃ ws' v, ws = ws' ++ [v] ∧ RelL H ws' ds ∧ Rel H v d
  | _, [], d, .cons r .nil => ⟨[], _, rfl, .nil, r⟩
  | _, x :: ds, d, .cons r t => by
    obtain ⟨ws', v, h1, h2, h3⟩ := RelL.snoc t
    exact ⟨_ :: ws', v, by rw [h1]; rfl, .cons r h2, h3⟩
end
end Mine
namespace Mine
section
variable {c : Cfg} {n : Nat} {env : Env} {h₀ hI : Heap} {H₀ H : View} {S : Addr} {fp : List Addr} {ex : Option Addr} {stk : List (List D)} {ρ : Str → Option Value} {A : Around} {s : Shared} {Q : Flow → Shared → Prop} {E : Value → Shared → Prop} {rest : List Stmt}

theorem Sit.atS (σ : Sit c env h₀ H₀ S fp hI ex stk ρ H s.heap) {h' : Heap} {vs : Array Value} {k : Nat} {vs' : Array Value} {k' : Nat} (h1 : s.heap.get? S = some (lstO vs k)) (hs : Heap.SameBut S s.heap h') (h2 : h'.get? S = some (lstO vs' k')) :
    MStep c [env.locals] H₀ h₀ H h' ∧ Frm c env ρ h' ∧ MStep c [S] H s.heap H h' := by
  have hne := σ.new σ.newS
  have M := MStep.at (mu := [S]) σ.base.inv (by simp) σ.offS hne.1 hs (by rw [h2]; rfl)
  exact ⟨σ.base.new M (by simpa using σ.newS), σ.frm.but hs h1 hne.2, M⟩

/-- stack.append(a) -/
theorem Sit.push {a : Addr} {ds : List D} {r : List (List D)} (σ : Sit c env h₀ H₀ S fp hI (some a) ((ds ++ [.raw (.ref a)]) :: r) ρ H s.heap) (ok : Ok A n) {x : Str} {ps pa p4 p5 p6 : Pos} (hsz : r.length + 1 ≤ sizeLine) (hsk : ρ "stack" = some (.ref S)) (hx : env.kindOf "stack" = some .local)
    (hv : ρ x = some (.ref a)) (hxa : env.kindOf x = some .local)
    (q : ∀ h' tk', Sit c env h₀ H₀ S fp hI none ([] :: ds :: r) ρ H h' → wpAny (model c.prog c.w) A (execs rest env) Q E { s with heap := h', toks := tk' })
    (hm : MethForm (.Name "stack" ps) "append" p4 [.Name x pa] p5)
    (hc : (x == ("__classdict__" : Str)) = false := by decide) (hd : (x == ("__debug__" : Str)) = false := by decide)
    (hi : interactive env = false := by rfl) (hsw : swapsWith (.Call (.Attribute (.Name "stack" ps) "append" p4) [.Name x pa] [] p5) none p6.line env = pure false := by rfl) :
    wpAny (model c.prog c.w) A (execs (.Expr (.Call (.Attribute (.Name "stack" ps) "append" p4) [.Name x pa] [] p5) p6 :: rest) env) Q E s := by
  refine wpAny_execs_cons (wpAny_Expr_any ?_ hi hsw)
  obtain ⟨pl, hm⟩ := hm env
  obtain ⟨as, k, h1, h2, h3⟩ := σ.st
  refine MethodCall_ (pl := pl) (wpAny_Name (ldFrm σ.frm hsk (.inl hx) (by decide) ?_) (by decide)) hm
  refine getMethod_list_append (o := lstO _ k) h1 rfl rfl ?_
  refine callWith_method1 (wpAny_items_cons (wpAny_Name (ldFrm σ.frm hv (.inl hxa) hc (wpAny_items_nil ?_)) hd)) rfl rfl
  have hl := h2.length
  refine wpAny_list_append_plain ⟨k, h1⟩ (fun h₄ hl₄ hs₄ => ?_) ?_
  · obtain ⟨k₄, hl₄⟩ := hl₄
    obtain ⟨B, F, M⟩ := σ.atS h1 hs₄ hl₄
    obtain ⟨a1, a2, a3, a4, a5⟩ := h3 a rfl
    have hSa : a ≠ S := fun q => a4 (by simp [q])
    refine q h₄ _ ⟨σ.aP, σ.aL, B, F, ⟨a :: as, k₄, ?_, ?_, fun b hb => by cases hb⟩, σ.offS, σ.newS, σ.offL, fun b hb o e => (hs₄.2 b fun q => σ.fpS (q ▸ hb)).trans (σ.fpk b hb o e), σ.fpP, σ.fpS, σ.fpL, fun b hb => ⟨(σ.fpO b hb).1, by rw [hs₄.2 b fun q => σ.fpS (q ▸ hb)]; exact (σ.fpO b hb).2⟩⟩
    · rw [hl₄]; simp
    · have hk := h2.keep (H' := H) (h' := h₄) (.refl _) (fun b hb o e => (hs₄.2 b fun q => (h2.mem b hb).2.2.1 (by rw [q]; simp)).trans e) (fun b hb => (h2.mem b hb).1)
      refine .cons (ws := []) ((hs₄.2 _ hSa).trans a1) rfl .nil a2 a3 a4 a5 ?_
      cases hk with
      | cons g1 g2 g3 g4 g5 g6 g7 g8 =>
        obtain ⟨ws', v, e1, e2, e3⟩ := g3.snoc
        cases e3
        subst e1
        exact .cons g1 (by rw [g2]; simp) e2 g4 g5 g6 g7 g8
  · simp at hl ⊢; omega

/-- stack.pop() -/
theorem Sit.pop {ds ds' : List D} {r : List (List D)} (σ : Sit c env h₀ H₀ S fp hI none (ds :: ds' :: r) ρ H s.heap) (ok : Ok A n) {ps p4 p5 p6 : Pos} (hsz : r.length + 2 ≤ sizeLine) (hsk : ρ "stack" = some (.ref S)) (hx : env.kindOf "stack" = some .local)
    (q : ∀ H' h' tk', Sit c env h₀ H₀ S fp hI none ((ds' ++ [.list ds]) :: r) ρ H' h' → VLe H H' → wpAny (model c.prog c.w) A (execs rest env) Q E { s with heap := h', toks := tk' })
    (hm : MethForm (.Name "stack" ps) "pop" p4 [] p5)
    (hi : interactive env = false := by rfl) (hsw : swapsWith (.Call (.Attribute (.Name "stack" ps) "pop" p4) [] [] p5) none p6.line env = pure false := by rfl) :
    wpAny (model c.prog c.w) A (execs (.Expr (.Call (.Attribute (.Name "stack" ps) "pop" p4) [] [] p5) p6 :: rest) env) Q E s := by
  refine wpAny_execs_cons (wpAny_Expr_any ?_ hi hsw)
  obtain ⟨pl, hm⟩ := hm env
  obtain ⟨as, k, h1, h2, h3⟩ := σ.st
  refine MethodCall_ (pl := pl) (wpAny_Name (ldFrm σ.frm hsk (.inl hx) (by decide) ?_) (by decide)) hm
  refine getMethod_builtin ⟨_, h1, rfl⟩ PySem.F.plainAttrs_list PySem.F.slot_list_pop PySem.F.type_list_pop (fun a e => by cases e; exact ⟨_, h1, rfl⟩) ?_
  refine callWith_method0 ?_
  have hl := h2.length
  have hk := h2
  cases h2 with
  | @cons _ a as vs n' ws _ _ g1 g2 g3 g4 g5 g6 g7 g8 =>
    have hL : ((a :: as).reverse.map Value.ref).toArray = (as.reverse.map Value.ref ++ [Value.ref a]).toArray := by simp
    rw [hL] at h1
    have hk' : (as.reverse.map Value.ref ++ [Value.ref a]).toArray.size - 1 = (as.reverse.map Value.ref).length := by simp
    have hy : (as.reverse.map Value.ref ++ [Value.ref a]).toArray[(as.reverse.map Value.ref ++ [Value.ref a]).toArray.size - 1]? = some (.ref a) := by rw [hk']; simp
    refine call_meets PySem.F.slot_list_pop ⟨_, h1, rfl⟩ PySem.F.entry_list_pop (PySem.F.args_list_pop_1 _) (PySem.MeetsSeq.list_pop_last S _ k (.ref a) hy ?_) ⟨h1, ?_⟩
    · simp at hl ⊢; omega
    · have hu := PySem.IsL.update h1 (fun xs => xs.eraseIdxIfInBounds ((as.reverse.map Value.ref ++ [Value.ref a]).toArray.size - 1))
      have he : (as.reverse.map Value.ref ++ [Value.ref a]).toArray.eraseIdxIfInBounds ((as.reverse.map Value.ref ++ [Value.ref a]).toArray.size - 1) = (as.reverse.map Value.ref).toArray := by
        rw [hk', PySem.W.kl_erase, List.append_nil]
      rw [he] at hu
      generalize hh' : s.heap.update S (Obj.mapSeq fun xs => xs.eraseIdxIfInBounds ((as.reverse.map Value.ref ++ [Value.ref a]).toArray.size - 1)) = h' at hu ⊢
      have hs₄ : Heap.SameBut S s.heap h' := hh' ▸ Heap.SameBut.update ..
      obtain ⟨B, F, M⟩ := σ.atS h1 hs₄ hu
      have hSa : a ≠ S := fun q => g6 (by simp [q])
      have hne := σ.new g5
      have ga : h'.get? a = some (lstO vs n') := (hs₄.2 _ hSa).trans g1
      -- freeze a
      have I' := B.inv
      have hle : VLe H (H.add a (lstO vs n')) := View.le_add g4
      have Ba : MStep c [env.locals] H₀ h₀ (H.add a (lstO vs n')) h' := by
        refine ⟨B.up.trans hle, fun b o e => ?_, B.ext, B.live, ⟨fun b o e => ?_, fun b o e => hle b o (I'.base b o e), ?_, ?_⟩⟩
        · by_cases hb : b = a
          · exact .inr (hb ▸ g5)
          · unfold View.add at e; rw [if_neg hb] at e; exact B.fresh b o e
        · by_cases hb : b = a
          · unfold View.add at e; rw [if_pos hb] at e; cases e; rw [hb]; exact ga
          · unfold View.add at e; rw [if_neg hb] at e; exact I'.le b o e
        · unfold View.add; rw [if_neg (Ne.symm hne.1)]; exact I'.noP
        · obtain ⟨ob, e1, e2⟩ := I'.tb
          exact ⟨ob, e1, c.tbm _ _ _ hle e2⟩
      have off : ∀ b, b ≠ a → H b = none → (H.add a (lstO vs n')) b = none := fun b hb e => by unfold View.add; rw [if_neg hb]; exact e
      refine q (H.add a (lstO vs n')) h' _ ⟨σ.aP, σ.aL, Ba, F, ⟨as, _, hu, ?_, fun b hb => by cases hb⟩, off _ (Ne.symm hSa) σ.offS, σ.newS, off _ (Ne.symm hne.2) σ.offL, fun b hb o e => (hs₄.2 b fun q => σ.fpS (q ▸ hb)).trans (σ.fpk b hb o e), σ.fpP, σ.fpS, σ.fpL, fun b hb => ⟨off b (fun q => g6 (by rw [← q]; simp [hb])) (σ.fpO b hb).1, by rw [hs₄.2 b fun q => σ.fpS (q ▸ hb)]; exact (σ.fpO b hb).2⟩⟩ hle
      have g8' := g8.keep hle (h' := h') (fun b hb o e => (hs₄.2 b fun q => (g8.mem b hb).2.2.1 (by rw [q]; simp)).trans e) (fun b hb => off b (fun q => g7 (q ▸ hb)) (g8.mem b hb).1)
      cases g8' with
      | cons f1 f2 f3 f4 f5 f6 f7 f8 =>
        refine .cons f1 (by rw [f2, List.append_nil]) (f3.append (.cons (.list View.add_self ?_) .nil)) f4 f5 f6 f7 f8
        have g2' : vs.toList = ws := by rw [g2]; simp
        rw [g2']
        exact g3.mono hle
end
end Mine
namespace Mine

/-- the reader of arrays, as a machine -/
structure PS where
  buf : Option Nat
  stk : List (List D)
def PS.flush (p : PS) (ch : Nat) : Option PS := match p.buf with
  | none => some p
  | some b => if ch = 125 ∨ ch = 44 then match p.stk with
    | ds :: r => some ⟨none, (ds ++ [.int ((b - 48 : Nat) : Int)]) :: r⟩
    | [] => none
    else none
def PS.read (stk : List (List D)) (ch : Nat) : Option PS :=
  if ch = 123 then match stk with
    | ds :: r => some ⟨none, [] :: ds :: r⟩
    | [] => none
  else if ch = 125 then match stk with
    | ds :: ds' :: r => some ⟨none, (ds' ++ [.list ds]) :: r⟩
    | _ => none
  else if ch = 44 then some ⟨none, stk⟩
  else if 48 ≤ ch ∧ ch < 58 then some ⟨some ch, stk⟩ else none
def PS.next (p : PS) (ch : Nat) : Option PS := (p.flush ch).bind fun p' => PS.read p'.stk ch
def PS.run (p : PS) : List Nat → Option PS
  | [] => some p
  | ch :: r => (p.next ch).bind fun p' => p'.run r
def PS.wt (p : PS) : Nat := (p.stk.map fun l => l.length + 1).sum

theorem PS.run_append (p : PS) : ∀ (l r : List Nat), p.run (l ++ r) = (p.run l).bind fun p' => p'.run r := by
  intro l r
  induction l generalizing p with
  | nil => rfl
  | cons ch l ih =>
    show (p.next ch).bind _ = ((p.next ch).bind _).bind _
    cases p.next ch with
    | none => rfl
    | some p' => exact ih p'

theorem PS.flush_wt {p p' : PS} {ch : Nat} (h : p.flush ch = some p') : p'.wt ≤ p.wt + 1 ∧ p'.buf = none := by
  obtain ⟨buf, stk⟩ := p
  unfold PS.flush at h
  cases buf with
  | none => cases h; exact ⟨Nat.le_succ _, rfl⟩
  | some b =>
    dsimp only at h
    split at h
    · cases stk with
      | nil => cases h
      | cons ds r => cases h; refine ⟨?_, rfl⟩; unfold PS.wt; simp; omega
    · cases h
theorem PS.read_wt {stk : List (List D)} {p' : PS} {ch : Nat} (h : PS.read stk ch = some p') : p'.wt ≤ (PS.mk none stk).wt + 1 := by
  unfold PS.read at h
  split at h
  · cases stk with
    | nil => cases h
    | cons ds r => cases h; unfold PS.wt; simp; omega
  · split at h
    · match stk, h with
      | ds :: ds' :: r, h => cases h; unfold PS.wt; simp; omega
    · split at h
      · cases h; unfold PS.wt; simp
      · split at h
        · cases h; unfold PS.wt; simp
        · cases h
theorem PS.next_buf {p p' : PS} {ch : Nat} (h : p.next ch = some p') : ∀ b, p'.buf = some b → 48 ≤ b ∧ b < 58 := by
  unfold PS.next at h
  cases e : p.flush ch with
  | none => rw [e] at h; cases h
  | some p1 =>
    rw [e] at h
    have h : PS.read p1.stk ch = some p' := h
    intro b hb
    unfold PS.read at h
    split at h
    · split at h
      · cases h; cases hb
      · cases h
    · split at h
      · split at h
        · cases h; cases hb
        · cases h
      · split at h
        · cases h; cases hb
        · split at h
          · cases h; cases hb; assumption
          · cases h
theorem PS.next_wt {p p' : PS} {ch : Nat} (h : p.next ch = some p') : p'.wt ≤ p.wt + 2 := by
  unfold PS.next at h
  cases e : p.flush ch with
  | none => rw [e] at h; cases h
  | some p1 =>
    rw [e] at h
    have h1 := PS.flush_wt e
    have h2 := PS.read_wt h
    have : (PS.mk none p1.stk).wt = p1.wt := rfl
    omega
theorem wt_mem {stk : List (List D)} {l : List D} (h : l ∈ stk) : l.length ≤ (stk.map fun l => l.length + 1).sum := by
  induction stk with
  | nil => cases h
  | cons x r ih =>
    rcases List.mem_cons.mp h with rfl | h
    · simp; omega
    · have := ih h; simp; omega
theorem wt_len {stk : List (List D)} : stk.length ≤ (stk.map fun l => l.length + 1).sum := by
  induction stk with
  | nil => simp
  | cons x r ih => simp; omega

theorem sign_eq (a b : Nat) : ((⟨#[a]⟩ : Str) == ⟨#[b]⟩) = decide (a = b) := by
  rw [Bool.eq_iff_iff]; simp

section
variable {c : Cfg} {env : Env} {h₀ h h' hI : Heap} {H₀ H H' : View} {S : Addr} {fp : List Addr} {ex : Option Addr} {stk : List (List D)} {ρ ρ' : Str → Option Value}

theorem Chain.bad {bad bad' : List Addr} {pend : List Value} {as : List Addr} {dss : List (List D)} (C : Chain bad h₀ H h pend as dss) (k : ∀ a ∈ as, a ∉ bad') : Chain bad' h₀ H h pend as dss := by
  induction C with
  | nil => exact .nil _
  | cons h1 h2 h3 h4 h5 h6 h7 h8 ih => exact .cons h1 h2 h3 h4 h5 (k _ (by simp)) h7 (ih fun a ha => k a (List.mem_cons_of_mem _ ha))

/-- a new object that the loop walks by -/
theorem Sit.iter (σ : Sit c env h₀ H₀ S [] hI none stk ρ H h) (o : Obj) (ho : o.isFreed = false) : Sit c env h₀ H₀ S [h.objs.size] (h.push o) none stk ρ H (h.push o) := by
  have nI := fresh_none h
  have S₂ : HStep c H h H (h.push o) := HStep.push σ.base.inv o
  have σ₂ := σ.step S₂
  obtain ⟨as, k, h1, h2, h3⟩ := σ.st
  have al : ∀ b, (h.get? b).isSome = true → b ≠ h.objs.size := fun b hb q => by rw [q, nI] at hb; cases hb
  have alS : S ≠ h.objs.size := al S (by rw [h1]; rfl)
  have alL : env.locals ≠ h.objs.size := by obtain ⟨_, e⟩ := σ.frm.aliveL; exact al _ (by rw [e]; rfl)
  have mem1 : ∀ b, b ∈ [h.objs.size] → b = h.objs.size := fun b hb => by simpa using hb
  refine ⟨σ.aP, σ.aL, σ₂.base, σ₂.frm, ⟨as, k, Heap.get?_push_of_some _ h1, ?_, fun b hb => (by cases hb)⟩, σ.offS, σ.newS, σ.offL, fun b hb o e => e, fun b hb => ?_, fun hm => alS (mem1 _ hm), fun hm => alL (mem1 _ hm), fun b hb => ?_⟩
  · refine (h2.keep (.refl _) (fun b hb o e => Heap.get?_push_of_some _ e) (fun b hb => (h2.mem b hb).1)).bad fun a ha hm => ?_
    obtain ⟨_, _, e3, e4⟩ := h2.mem a ha
    rcases List.mem_cons.mp hm with q | q
    · exact e3 (by simp [q])
    · exact al a e4 (mem1 _ q)
  · rw [mem1 b hb]; exact σ.base.inv.neP nI
  · rw [mem1 b hb]
    exact ⟨σ.base.inv.none_of nI, by rw [Heap.get?_push_size _ ho]; rfl⟩

/-- the loop's object has gone on -/
theorem Sit.goes {h' : Heap} {wr : List Addr} (σ : Sit c env h₀ H₀ S fp hI none stk ρ H h) (hw : ∀ b ∈ wr, b ∈ fp) (hw0 : ∀ b ∈ wr, h₀.get? b = none) (k : ∀ b o, b ∉ wr → h.get? b = some o → h'.get? b = some o) (al : ∀ b ∈ fp, (h'.get? b).isSome = true)
    (hcell : ∀ x a, env.cells.lookup x ≠ some a) : Sit c env h₀ H₀ S fp h' none stk ρ H h' := by
  have off : ∀ b ∈ wr, H b = none := fun b hb => (σ.fpO b (hw b hb)).1
  have hP : c.P ∉ wr := fun hm => σ.fpP _ (hw _ hm) rfl
  have hL : env.locals ∉ wr := fun hm => σ.fpL (hw _ hm)
  have M : MStep c wr H h H h' := ⟨.refl _, fun _ _ e => .inl e, fun b o _ hm e => k b o hm e, fun b hb _ => al b (hw b hb),
    ⟨fun b o e => k b o (fun hm => by rw [off b hm] at e; cases e) (σ.base.inv.le b o e), σ.base.inv.base, σ.base.inv.noP, let ⟨ob, e1, e2⟩ := σ.base.inv.tb; ⟨ob, k _ _ hP e1, e2⟩⟩⟩
  obtain ⟨as, kk, h1, h2, h3⟩ := σ.st
  refine ⟨σ.aP, σ.aL, σ.base.new M hw0, ?_, ⟨as, kk, k _ _ (fun hm => σ.fpS (hw _ hm)) h1, ?_, fun b hb => (by cases hb)⟩, σ.offS, σ.newS, σ.offL, fun b hb o e => e, σ.fpP, σ.fpS, σ.fpL, fun b hb => ⟨(σ.fpO b hb).1, al b hb⟩⟩
  · exact ⟨σ.frm.kind, σ.frm.gl, σ.frm.bl, σ.frm.apL, σ.frm.apC, let ⟨m, e1, e2⟩ := σ.frm.loc; ⟨m, e1.at' fun o e => k _ o hL e, e2⟩, fun x a e => absurd e (hcell x a), fun x v e q => let ⟨a, e1, _⟩ := σ.frm.cel x v e q; absurd e1 (hcell x a)⟩
  · exact h2.keep (.refl _) (fun a ha o e => k a o (fun hm => (h2.mem a ha).2.2.1 (List.mem_cons_of_mem _ (hw _ hm))) e) (fun a ha => (h2.mem a ha).1)

abbrev Sit.like (_ : Sit c env h₀ H₀ S fp hI ex stk ρ H h) (stk' : List (List D)) (ρ' : Str → Option Value) (H' : View) (h' : Heap) : Prop := Sit c env h₀ H₀ S fp hI ex stk' ρ' H' h'
abbrev Sit.likeI (_ : Sit c env h₀ H₀ S fp hI ex stk ρ H h) (hI' : Heap) (stk' : List (List D)) (ρ' : Str → Option Value) (H' : View) (h' : Heap) : Prop := Sit c env h₀ H₀ S fp hI' ex stk' ρ' H' h'
theorem Sit.weak (σ : Sit c env h₀ H₀ S fp hI ex stk ρ H h) (k : ∀ x v, ρ' x = some v → ρ x = some v) : Sit c env h₀ H₀ S fp hI ex stk ρ' H h := { σ with frm := σ.frm.weak k }
theorem Sit.rebase (σ : Sit c env h₀ H₀ S fp hI ex stk ρ H h) : Sit c env h₀ H₀ S fp h ex stk ρ H h := { σ with fpk := fun _ _ _ e => e }

/-- stack = [[]] -/
theorem Sit.start {s : Shared} {A : Around} {Q : Flow → Shared → Prop} {E : Value → Shared → Prop} {rest : List Stmt} (I : Inv c H s.heap) (F : Frm c env ρ s.heap) (oL : H env.locals = none) {x : Str} {px p1 p2 pos : Pos} (hx : env.kindOf x = some .local)
    (q : ∀ S h' tk', Sit c env s.heap H S [] h' none [[]] (upd ρ x (.ref S)) H h' → wpAny (model c.prog c.w) A (execs rest env) Q E { s with heap := h', toks := tk' })
    (hs : swapsWith (.List [.List [] p1] p2) (some (.Name x px)) pos.line env = pure false := by rfl) :
    wpAny (model c.prog c.w) A (execs (.Assign [.Name x px] (.List [.List [] p1] p2) pos :: rest) env) Q E s := by
  refine wpAny_execs_cons (wpAny_Assign_Name (wpAny_List (wpAny_items_cons (wpAny_List (wpAny_items_nil ⟨Nat.zero_le _, wpAny_items_nil ⟨(by show 1 ≤ sizeLine; decide), ?_⟩⟩)))) hs)
  have n1 := fresh_none s.heap
  have S₁ : HStep c H s.heap H (s.heap.push (lstO #[] 0)) := HStep.push I _
  generalize hg1 : s.heap.push (lstO #[] 0) = h1
  have e1 : h1.get? s.heap.objs.size = some (lstO #[] 0) := hg1 ▸ Heap.get?_push_size _ rfl
  rw [hg1] at S₁
  have n2 := fresh_none h1
  have S₂ : HStep c H h1 H (h1.push (lstO #[.ref s.heap.objs.size] 0)) := HStep.push S₁.inv _
  have e2 : (h1.push (lstO #[.ref s.heap.objs.size] 0)).get? h1.objs.size = some (lstO #[.ref s.heap.objs.size] 0) := Heap.get?_push_size _ rfl
  have e1' : (h1.push (lstO #[.ref s.heap.objs.size] 0)).get? s.heap.objs.size = some (lstO #[] 0) := Heap.get?_push_of_some _ e1
  have hne : s.heap.objs.size ≠ h1.objs.size := fun q => by rw [q, n2] at e1; cases e1
  have S₃ := S₁.trans S₂ I
  have n2' : s.heap.get? h1.objs.size = none := S₁.alive I n2
  have F₃ := F.step S₃
  have σ : Sit c env s.heap H h1.objs.size [] (h1.push (lstO #[.ref s.heap.objs.size] 0)) none [[]] ρ H (h1.push (lstO #[.ref s.heap.objs.size] 0)) :=
    ⟨(by obtain ⟨o, e, _⟩ := I.tb; rw [e]; rfl), (by obtain ⟨o, e⟩ := F.aliveL; rw [e]; rfl), S₃.toM, F₃, ⟨[s.heap.objs.size], 0, e2, .cons e1' rfl .nil (I.none_of n1) n1 (by simpa using hne) (by simp) (.nil _), fun b hb => (by cases hb)⟩,
      I.none_of n2', n2', oL, fun b hb => (by cases hb), fun b hb => (by cases hb), (by simp), (by simp), fun b hb => (by cases hb)⟩
  obtain ⟨m, hm1, hm2⟩ := F₃.loc
  exact wpAny_storeName_local hx hm1 (fun h₃ hn₃ hs₃ => q _ h₃ _ (σ.store hm2 hx hn₃ hs₃).rebase) (by rw [F.kind]; rfl)

theorem Sub_any {env : Env} {A : Around} {E : Value → Shared → Prop} {s : Shared} {value slice : Expr} {pos : Pos} {Q : Value → Shared → Prop}
    (h : wpAny (model c.prog c.w) A (eval value env) (fun o s₁ => wpAny (model c.prog c.w) A (eval slice env) (fun i s₂ => ∃ (T id : String), typeLookup (.type T) "__getitem__" = pure (some (.builtin id)) ∧ s₂.TypeIs o T ∧ wpAny (model c.prog c.w) A (getItem o i) Q E s₂) E s₁) E s)
    (hs : ∀ o i, subscripted slice false o i = operate [o, i] (getItem o i) := by intro _ _; with_unfolding_all rfl) :
    wpAny (model c.prog c.w) A (eval (.Subscript value slice pos) env) Q E s := by
  refine Subscript_ (wpAny_mono h (fun o s₁ h₁ => wpAny_mono h₁ (fun i s₂ h₂ => ?_) fun _ _ x => x) fun _ _ x => x)
  obtain ⟨T, id, hl, hT, hg⟩ := h₂
  unfold subscriptTail
  refine wpAny_bind ?_
  rw [getitemInPython_of_ne hT.not_modules]
  refine wpAny_bind (wpAny_specialOf hT hl ?_)
  have fin : wpAny (model c.prog c.w) A (subscripted slice false o i) (fun r s₃ => wpAny (model c.prog c.w) A (letTemporaryGo value o r >>= fun _ => pure r) Q E s₃) E s₂ := by
    rw [hs]
    exact wpAny_operating (wpAny_mono hg (fun r s₃ h₃ => wpAny_bind (wpAny_letTemporaryGo (wpAny_pure h₃))) fun _ _ x => x)
  first
    | exact wpAny_pure (wpAny_bind fin)
    | exact wpAny_bind (wpAny_pure (wpAny_bind fin))
    | exact wpAny_bind fin

theorem pyIter_strs {A : Around} {E : Value → Shared → Prop} {s : Shared} {x : Str} {t : Tok} {Q : Value → Shared → Prop} (hh : A.handled = none)
    (hQ : ∀ (o : Obj) (St : Nat → Heap → Prop), o.isFreed = false → (∀ i h, St i h → (h.get? s.heap.objs.size).isSome = true) → Walks c.prog c.w A s.heap.objs.size [s.heap.objs.size] [s.heap.objs.size] x.cps.size (SignAt x) St → St 0 (s.heap.push o) →
      Q (.ref s.heap.objs.size) { s with heap := s.heap.push o }) : wpAny (model c.prog c.w) A (pyIter (.str x t)) Q E s := by
  cases ha : x.cps.all (· < 128)
  · exact wpAny_pyIter_wide ha (hQ _ _ rfl (fun i h st => let ⟨o, ho, _⟩ := st; (by rw [ho]; rfl)) (Walks.strWide hh _ x t) ⟨_, Heap.get?_push_size _ rfl, rfl, rfl⟩)
  · exact wpAny_pyIter_ascii ha (hQ _ _ rfl (fun i h st => let ⟨o, ho, _⟩ := st; (by rw [ho]; rfl)) (Walks.strAscii hh _ x t) ⟨_, Heap.get?_push_size _ rfl, rfl, rfl⟩)

/-- return stack[0][0] -/
theorem Sit.end {s : Shared} {A : Around} {Q : Flow → Shared → Prop} {E : Value → Shared → Prop} {rest : List Stmt} {d : D} {wr : List Addr} (σ : Sit c env h₀ H₀ S fp hI none [[d]] ρ H h) (hw : ∀ b ∈ wr, b ∈ fp) (hw0 : ∀ b ∈ wr, h₀.get? b = none) (k : ∀ b o, b ∉ wr → h.get? b = some o → s.heap.get? b = some o)
    (hcell : ∀ x a, env.cells.lookup x ≠ some a) {ps p1 p2 p3 p4 pos : Pos} {k1 k2 : Nat} (hsk : ρ "stack" = some (.ref S)) (hx : env.kindOf "stack" = some .local)
    (q : ∀ v tk', VLe H₀ H → (∀ b o, H b = some o → H₀ b = some o ∨ h₀.get? b = none) → (∀ b o, b ≠ c.P → b ≠ env.locals → h₀.get? b = some o → s.heap.get? b = some o) → Inv c H s.heap → Rel H v d → Q (.ret v) { s with toks := tk' }) :
    wpAny (model c.prog c.w) A (execs (.Return (some (.Subscript (.Subscript (.Name "stack" ps) (.Constant (.int 0) k1 p1) p2) (.Constant (.int 0) k2 p3) p4)) pos :: rest) env) Q E s := by
  have off : ∀ b ∈ wr, H b = none := fun b hb => (σ.fpO b (hw b hb)).1
  have hP : c.P ∉ wr := fun hm => σ.fpP _ (hw _ hm) rfl
  have hL : env.locals ∉ wr := fun hm => σ.fpL (hw _ hm)
  have I : Inv c H s.heap := ⟨fun b o e => k b o (fun hm => by rw [off b hm] at e; cases e) (σ.base.inv.le b o e), σ.base.inv.base, σ.base.inv.noP, let ⟨ob, e1, e2⟩ := σ.base.inv.tb; ⟨ob, k _ _ hP e1, e2⟩⟩
  have F : Frm c env ρ s.heap := ⟨σ.frm.kind, σ.frm.gl, σ.frm.bl, σ.frm.apL, σ.frm.apC, let ⟨m, e1, e2⟩ := σ.frm.loc; ⟨m, e1.at' fun o e => k _ o hL e, e2⟩, fun x a e => absurd e (hcell x a), fun x v e q => let ⟨a, e1, _⟩ := σ.frm.cel x v e q; absurd e1 (hcell x a)⟩
  obtain ⟨as, kk, h1, h2, h3⟩ := σ.st
  cases h2 with
  | @cons _ a as vs n ws _ _ g1 g2 g3 g4 g5 g6 g7 g8 =>
    cases g8
    cases g3 with
    | @cons v _ _ _ r t =>
      cases t
      have h1 := k _ _ (fun hm => σ.fpS (hw _ hm)) h1
      have g1 := k _ _ (fun hm => g6 (List.mem_cons_of_mem _ (hw _ hm))) g1
      have hl : s.heap.IsList S #[.ref a] := ⟨_, h1, rfl, kk, by simp⟩
      have hv : vs = #[v] := by apply Array.toList_inj.mp; rw [g2]; simp
      have hl' : s.heap.IsList a #[v] := ⟨_, g1, rfl, n, by rw [hv]⟩
      refine wpAny_execs_cons (wpAny_Return_some (Sub_any (Sub_any (wpAny_Name (ldFrm F hsk (.inl hx) (by decide) (wpAny_Constant_int ⟨"list", "list.__getitem__", slot_list_getitem.lookup, ⟨_, h1, rfl⟩, ?_⟩)) (by decide)))))
      refine wpAny_getItem_list (s := { s with toks := _ }) hl (by decide) (by decide) (x := .ref a) rfl (wpAny_Constant_int ⟨"list", "list.__getitem__", slot_list_getitem.lookup, ⟨_, g1, rfl⟩, ?_⟩)
      refine wpAny_getItem_list (s := { s with toks := _ }) hl' (by decide) (by decide) (x := v) rfl (q v _ σ.base.up σ.base.fresh (fun b o hb hl e => k b o (fun hm => by rw [hw0 b hm] at e; cases e) (σ.base.ext b o hb (by simpa using hl) e)) I r)
end
end Mine
namespace Mine

section
variable {c : Cfg}
theorem int_in_sp (hK : c.K = Mine.hd.heap_39 c.w.params) {n : Nat} {H : View} {x : Str} {i : Int} (hn : PySem.intText? x = some i) (hl : x.length ≤ 640) : Fun c (n + 1) (.ref 42) H [.str x] (.int i) := by
  refine' Fun.enter (ps := [Str.ofString "data"]) ?ho ?hcd ?hbind ?hloc ?hcell ?h ?h1 ?h2 ?h3
  case ho => rw [hK]; k_is
  case hcd => rw [hK]; k_is
  case h1 => rfl
  case h2 => rfl
  case h3 => rfl
  case hcell => decide
  case hloc => decide
  case hbind => intro vs hl; obtain ⟨v, rfl⟩ := one_of hl rfl; rfl
  case h =>
    intro vs H₁ L k R
    obtain ⟨v, rfl⟩ := one_of R.length rfl
    exact SR.ret (PE.call rfl (globB (by rw [hK]; k_is) (by decide +kernel)) (.type _) (PEs.one (PE.name (v := v) rfl R.one (.inl rfl))) (Fun.int hn hl))

theorem enumAt (hK : c.K = Mine.hd.heap_39 c.w.params) : EnumAt c.K 682 657 ∧ EnumAt c.K 684 657 ∧ EnumAt c.K 686 657 ∧ EnumAt c.K 688 657 := by
  rw [hK]
  refine ⟨⟨by k_is, by k_is, by k_is, ?_⟩, ⟨by k_is, by k_is, by k_is, ?_⟩, ⟨by k_is, by k_is, by k_is, ?_⟩, ⟨by k_is, by k_is, by k_is, ?_⟩⟩
  all_goals (refine ⟨_, by k_is, ?_⟩; intro h; cases h)
theorem attrAt (hK : c.K = Mine.hd.heap_39 c.w.params) : readsIn c.K 657 (.ref 468) = true ∧ findCls c.K (.ref 657) (.ref 468) "InString" = some (.val (.ref 682)) ∧ findCls c.K (.ref 657) (.ref 468) "InEscape" = some (.val (.ref 684)) ∧ findCls c.K (.ref 657) (.ref 468) "InValue" = some (.val (.ref 686)) ∧ findCls c.K (.ref 657) (.ref 468) "Out" = some (.val (.ref 688)) := by
  rw [hK]
  exact ⟨by k_is, by k_is, by k_is, by k_is, by k_is⟩
end
end Mine
namespace Mine

/-- the names of the loop -/
structure PF (S : Addr) (buf : Option Nat) (ρ : Str → Option Value) (H : View) : Prop where
  hst : ρ "state" = some (.ref (if buf.isSome then 686 else 688))
  hsk : ρ "stack" = some (.ref S)
  had : ρ "adapter" = some (.ref 42)
  hval : ∀ b, buf = some b → ∃ v, ρ "val" = some v ∧ Rel H v (.list [.str ⟨#[b]⟩])

theorem PF.mono {S : Addr} {buf : Option Nat} {ρ : Str → Option Value} {H H' : View} (x : PF S buf ρ H) (k : VLe H H') : PF S buf ρ H' :=
  ⟨x.hst, x.hsk, x.had, fun b e => let ⟨v, h1, h2⟩ := x.hval b e; ⟨v, h1, h2.mono k⟩⟩

theorem digit_reads {b : Nat} (h1 : 48 ≤ b) (h2 : b < 58) : PySem.intText? ⟨#[b]⟩ = some ((b - 48 : Nat) : Int) := by
  have := PySem.intText_digits (x := ⟨#[b]⟩) (by intro c hc; simp at hc; omega) (by simp) (by show 1 ≤ 4300; decide)
  rw [this]
  show some _ = _
  simp [PySem.NumText.digitsVal]

section
variable {c : Cfg}
theorem parse_array (hK : c.K = Mine.hd.heap_39 c.w.params) {n : Nat} {H : View} {x : Str} {d : D} (hx : x.cps.size ≤ 1000000) (hrun : (PS.mk none [[]]).run x.cps.toList = some ⟨none, [[d]]⟩) : Fun c (n + 3) (.ref 719) H [.str x, .raw (.ref 42)] d := by
  have hg : GlobV c "ParserState" (.ref 657) := .inl (by rw [hK]; k_is)
  obtain ⟨hat, hA1, hA2, hA3, hA4⟩ := attrAt hK
  obtain ⟨hE1, hE2, hE3, hE4⟩ := enumAt hK
  refine' Fun.enter (ps := [Str.ofString "data", Str.ofString "adapter"]) ?ho ?hcd ?hbind ?hloc ?hcell ?h ?h1 ?h2 ?h3
  case ho => rw [hK]; k_is
  case hcd => rw [hK]; k_is
  case h1 => rfl
  case h2 => rfl
  case h3 => rfl
  case hcell => decide
  case hloc => decide
  case hbind => intro vs hl; obtain ⟨v, v', rfl⟩ := two_of hl rfl; rfl
  case h =>
    intro vs H₁ L k R
    obtain ⟨v, v', rfl⟩ := two_of R.length rfl
    cases R with
    | cons r R =>
    cases R with
    | cons r' R =>
    cases R
    cases r'
    cases r with
    | str _ tx =>
    refine SR.assign rfl (PE.attrCls rfl hg hat hA4 rfl) fun v₁ H₂ k₂ r₁ => ?_
    cases r₁
    generalize hρ0 : upd (fun y => List.lookup y ([Str.ofString "data", Str.ofString "adapter"].zip [Value.str x tx, Value.ref 42]).reverse) (Str.ofString "state") (Value.ref 688) = ρ0
    have f1 : ρ0 "state" = some (.ref 688) := by rw [← hρ0]; exact upd_eq
    have f2 : ρ0 "adapter" = some (.ref 42) := by rw [← hρ0]; rfl
    have f3 : ρ0 "data" = some (.str x tx) := by rw [← hρ0]; rfl
    constructor
    intro A ok s H₃ k₃ I₃ F₃ oL oC Q E q
    refine Sit.start I₃ F₃ oL rfl fun S h₄ t₄ σ₄ => ?_
    refine σ₄.asg (s := { s with heap := h₄, toks := t₄ }) ok rfl (PE.listD .nil (Nat.zero_le _)) fun v₅ H₅ h₅ t₅ σ₅ k₅ r₅ => ?_
    generalize hρ1 : upd (upd ρ0 (Str.ofString "stack") (Value.ref S)) (Str.ofString "val") v₅ = ρ1 at σ₅
    have g1 : ρ1 "state" = some (.ref 688) := by rw [← hρ1, upd_ne (by decide), upd_ne (by decide)]; exact f1
    have g2 : ρ1 "adapter" = some (.ref 42) := by rw [← hρ1, upd_ne (by decide), upd_ne (by decide)]; exact f2
    have g3 : ρ1 "data" = some (.str x tx) := by rw [← hρ1, upd_ne (by decide), upd_ne (by decide)]; exact f3
    have g4 : ρ1 "stack" = some (.ref S) := by rw [← hρ1, upd_ne (by decide)]; exact upd_eq
    have pf : PF S none ρ1 H₅ := ⟨g1, g4, g2, fun b e => by cases e⟩
    refine wpAny_execs_cons (wpAny_For (wpAny_Name (ldFrm σ₅.frm g3 (.inl rfl) (by decide) (pyIter_strs ok.hh fun o St hof stl W st => ?_)) (by decide)))
    have σ₆ := σ₅.iter o hof
    have hw0 : ∀ b ∈ [h₅.objs.size], s.heap.get? b = none := fun b hb => by
      rw [List.mem_singleton.mp hb]
      cases q' : s.heap.get? h₅.objs.size with
      | none => rfl
      | some ob => have := σ₅.base.lives (b := h₅.objs.size) (by rw [q']; rfl); rw [fresh_none] at this; cases this
    dsimp only at W stl st ⊢
    generalize hI : h₅.objs.size = I at *
    generalize hh6 : h₅.push o = h₆ at *
    have e123 : Str.ofString "{" = ⟨#[123]⟩ := by decide
    have e125 : Str.ofString "}" = ⟨#[125]⟩ := by decide
    have e44 : Str.ofString "," = ⟨#[44]⟩ := by decide
    have e34 : Str.ofString "\"" = ⟨#[34]⟩ := by decide
    refine codeAny_forLoop (fun kk s' => ∃ h' tk H' i p ρ', s' = { s with heap := h', toks := tk } ∧ Sit c _ s.heap H₃ S [I] h' none p.stk ρ' H' h' ∧ PF S p.buf ρ' H' ∧ St i h' ∧ i ≤ x.cps.size ∧ (PS.mk none [[]]).run (x.cps.toList.take i) = some p ∧ p.wt ≤ 1 + 2 * i ∧ (∀ b, p.buf = some b → 48 ≤ b ∧ b < 58) ∧ kk = x.cps.size + 1 - i) ?_ (x.cps.size + 1) ⟨h₆, t₅, H₅, 0, PS.mk none [[]], ρ1, rfl, σ₆, pf, st, Nat.zero_le _, rfl, Nat.le_refl _, (fun b e => by cases e), rfl⟩
    rintro kk s' ⟨h', tk, H', i, p, ρ', rfl, σ, pf, st', hi, hp, hw, hbuf, rfl⟩
    by_cases hlt : i < x.cps.size
    · refine W.item i _ _ _ hlt st' fun v h₇ tk₇ hv st₇ hk₇ => ?_
      obtain ⟨ch, u, hch, rfl⟩ := hv
      have σ₇ := σ.goes (wr := [I]) (fun b hb => hb) hw0 hk₇ (fun b hb => by rw [List.mem_singleton.mp hb]; exact stl _ _ st₇) (fun y a e => by cases e)
      have hch' : x.cps.toList[i]? = some ch := by simpa using hch
      have htk : x.cps.toList.take (i + 1) = x.cps.toList.take i ++ [ch] := by rw [List.take_add_one, hch']; rfl
      have hp' : ∃ p', p.next ch = some p' ∧ (PS.mk none [[]]).run (x.cps.toList.take (i + 1)) = some p' := by
        have e : x.cps.toList = x.cps.toList.take (i + 1) ++ x.cps.toList.drop (i + 1) := (List.take_append_drop _ _).symm
        rw [e, PS.run_append] at hrun
        cases e' : (PS.mk none [[]]).run (x.cps.toList.take (i + 1)) with
        | none => rw [e'] at hrun; cases hrun
        | some p' =>
          refine ⟨p', ?_, rfl⟩
          rw [htk, PS.run_append, hp] at e'
          show p.next ch = some p'
          have e'' : (p.next ch).bind (fun q => some q) = some p' := e'
          cases e3 : p.next ch with
          | none => rw [e3] at e''; cases e''
          | some z => rw [e3] at e''; exact e''
      obtain ⟨p', hp', hrun'⟩ := hp'
      obtain ⟨m, hm1, hm2⟩ := σ₇.frm.loc
      refine wpAny_assign_Name (wpAny_storeName_local rfl hm1 (fun h₈ hn₈ hs₈ => ?_) rfl)
      have σ₈ := σ₇.store hm2 rfl hn₈ hs₈
      generalize hρ8 : upd ρ' (Str.ofString "c") (.str ⟨#[ch]⟩ u) = ρ8 at σ₈
      have pf₈ : PF S p.buf ρ8 H' := by
        rw [← hρ8]
        exact ⟨(upd_ne (by decide)).trans pf.hst, (upd_ne (by decide)).trans pf.hsk, (upd_ne (by decide)).trans pf.had, fun b e => let ⟨v, h1, h2⟩ := pf.hval b e; ⟨v, (upd_ne (by decide)).trans h1, h2⟩⟩
      have hc₈ : ρ8 "c" = some (.str ⟨#[ch]⟩ u) := by rw [← hρ8]; exact upd_eq
      have hbig : p.wt ≤ 3000001 := by omega
      have hLine : sizeLine = 16777216 := by decide
      refine wpAny_execs_cons (wpAny_mono (Q := fun f s' => f = .next ∧ ∃ p1 ρ9 H9 h9 tk9, s' = { s with heap := h9, toks := tk9 } ∧ σ₈.like p1.stk ρ9 H9 h9 ∧ PF S none ρ9 H9 ∧ ρ9 "c" = some (.str ⟨#[ch]⟩ u) ∧ p.flush ch = some p1) ?first ?cont fun _ _ e => e)
      case first =>
        cases hb : p.buf with
        | none =>
          rw [hb] at pf₈
          refine wpAny_If ((PT.cmp (t := false) (PE.name (d := .raw (.ref 688)) pf₈.hst (.raw _) (.inl rfl)) (PE.attrCls rfl hg hat hA3 rfl) (CmpR.enum hE4 hE3)).run A ok _ H' (.refl _) σ₈.base.inv σ₈.frm _ _ fun H₉ h₉ t₉ S₉ => ?_)
          refine wpAny_execs_nil ⟨rfl, p, ρ8, H₉, h₉, _, rfl, σ₈.step S₉, pf₈.mono S₉.up, hc₈, ?_⟩
          unfold PS.flush; rw [hb]
        | some b =>
          rw [hb] at pf₈
          refine wpAny_If ((PT.cmp (t := true) (PE.name (d := .raw (.ref 686)) pf₈.hst (.raw _) (.inl rfl)) (PE.attrCls rfl hg hat hA3 rfl) (CmpR.enum hE3 hE3)).run A ok _ H' (.refl _) σ₈.base.inv σ₈.frm _ _ fun H₉ h₉ t₉ S₉ => ?_)
          have σ₉ := σ₈.step S₉
          have pf₉ := pf₈.mono S₉.up
          -- what the machine says
          have hfl : ∃ p1, p.flush ch = some p1 := by
            unfold PS.next at hp'
            cases e : p.flush ch with
            | none => rw [e] at hp'; cases hp'
            | some p1 => exact ⟨p1, rfl⟩
          obtain ⟨p1, hfl⟩ := hfl
          have hfl' := hfl
          unfold PS.flush at hfl
          rw [hb] at hfl
          dsimp only at hfl
          have hch5 : ch = 125 ∨ ch = 44 := by
            by_cases hh : ch = 125 ∨ ch = 44
            · exact hh
            · rw [if_neg hh] at hfl; cases hfl
          rw [if_pos hch5] at hfl
          obtain ⟨ds, rr, hstk⟩ : ∃ ds rr, p.stk = ds :: rr := by
            cases hstk : p.stk with
            | nil => rw [hstk] at hfl; cases hfl
            | cons ds rr => exact ⟨ds, rr, rfl⟩
          rw [hstk] at hfl
          cases hfl
          have hany : ([Str.ofString "}", Str.ofString ","].any (· == (⟨#[ch]⟩ : Str))) = true := by
            rcases hch5 with rfl | rfl <;> decide
          obtain ⟨vv, hvv, rvv⟩ := pf₉.hval b rfl
          refine wpAny_execs_cons (wpAny_If ((PT.cmp (t := true) (PE.name (d := .str ⟨#[ch]⟩) hc₈ (.str _ _) (.inl rfl)) (PE.tupD (ds := [Str.ofString "}", Str.ofString ","].map D.str) (PEs.two PE.constStr PE.constStr) (by rw [hLine]; decide)) (hany ▸ CmpR.inStrs)).run A ok _ H₉ (.refl _) σ₉.base.inv σ₉.frm _ _ fun H₁₀ h₁₀ t₁₀ S₁₀ => ?_))
          have σ₁₀ := σ₉.step S₁₀
          have pf₁₀ := pf₉.mono S₁₀.up
          have rvv' : Rel H₁₀ vv (.list ([(⟨#[b]⟩ : Str)].map D.str)) := rvv.mono S₁₀.up
          refine σ₁₀.asg (s := { s with heap := h₁₀, toks := t₁₀ }) ok rfl (PE.meth (d := .str ⟨#[b]⟩) PE.constStr MethR.join (PEs.one (PE.name (v := vv) hvv rvv' (.inl rfl))) (Fun.join (by rfl)) (.mk (fun _ _ => rfl) (fun _ => rfl) (by decide) (by decide))) fun v₁₁ H₁₁ h₁₁ t₁₁ σ₁₁ k₁₁ r₁₁ => ?_
          have hb8 : 48 ≤ b ∧ b < 58 := hbuf b hb
          have hlen : ds.length ≤ sizeLine := by
            have := wt_mem (stk := p.stk) (l := ds) (by rw [hstk]; simp)
            unfold PS.wt at hbig
            omega
          have hnn : ((⟨#[b]⟩ : Str) == Str.ofString "NULL") = false := by
            rw [beq_eq_false_iff_ne]
            intro e
            have h14 : 1 = 4 := congrArg Str.length e
            cases h14
          have dig := int_in_sp hK (n := n) (H := H₁₁) (digit_reads hb8.1 hb8.2) (by show 1 ≤ 640; decide)
          refine σ₁₁.app (s := { s with heap := h₁₁, toks := t₁₁ }) (d := .int ((b - 48 : Nat) : Int)) ok hstk hlen ((upd_ne (by decide)).trans pf₁₀.hsk) rfl (PE.ifexp (b := false) (PT.cmp (PE.name upd_eq r₁₁ (.inl rfl)) PE.constStr (hnn ▸ CmpR.eqStr)) (fun e => by cases e) (fun _ => PE.callLoc rfl ((upd_ne (by decide)).trans pf₁₀.had) (.fn (by rw [hK]; k_is)) (PEs.one (PE.name upd_eq r₁₁ (.inl rfl))) (dig.mono (by omega) (.refl _)))) (fun H₁₂ h₁₂ t₁₂ σ₁₂ k₁₂ => ?_) (.mk (fun _ _ => rfl) (fun _ => rfl) (by decide) (by decide))
          refine σ₁₂.asg (s := { s with heap := h₁₂, toks := t₁₂ }) ok rfl (PE.attrCls rfl hg hat hA4 rfl) fun v₁₃ H₁₃ h₁₃ t₁₃ σ₁₃ k₁₃ r₁₃ => ?_
          cases r₁₃
          refine wpAny_execs_nil (wpAny_execs_nil ⟨rfl, _, _, _, _, _, rfl, σ₁₃, ⟨upd_eq, ?_, ?_, fun b e => by cases e⟩, ?_, hfl'⟩)
          · exact (upd_ne (by decide)).trans ((upd_ne (by decide)).trans pf₁₀.hsk)
          · exact (upd_ne (by decide)).trans ((upd_ne (by decide)).trans pf₁₀.had)
          · exact (upd_ne (by decide)).trans ((upd_ne (by decide)).trans hc₈)
      case cont =>
        rintro f s' ⟨rfl, p1, ρ9, H9, h9, tk9, rfl, σ₉, pf₉, hc₉, hfl⟩
        have hrd : PS.read p1.stk ch = some p' := by
          unfold PS.next at hp'
          rw [hfl] at hp'
          exact hp'
        have hw1 := (PS.flush_wt hfl).1
        have hw' := PS.next_wt hp'
        have hbf := PS.next_buf hp'
        have hsk1 := wt_len (stk := p1.stk)
        have hmm := fun l => wt_mem (stk := p1.stk) (l := l)
        have e1 : (p1.stk.map fun l => l.length + 1).sum = p1.wt := rfl
        rw [e1] at hsk1 hmm
        clear hp'
        refine wpAny_execs_cons (wpAny_If ((PT.cmp (t := true) (PE.name (d := .raw (.ref 688)) pf₉.hst (.raw _) (.inl rfl)) (PE.attrCls rfl hg hat hA4 rfl) (CmpR.enum hE4 hE4)).run A ok _ H9 (.refl _) σ₉.base.inv σ₉.frm _ _ fun H₁₀ h₁₀ t₁₀ S₁₀ => ?_))
        have σ₁₀ := σ₉.step S₁₀
        have pf₁₀ := pf₉.mono S₁₀.up
        -- the end of a turn
        have fin : ∀ ρz Hz hz tkz, σ₁₀.like p'.stk ρz Hz hz → PF S p'.buf ρz Hz → (∃ m, m < x.cps.size + 1 - i ∧ ∃ h' tk H' i p ρ', ({ s with heap := hz, toks := tkz } : Shared) = { s with heap := h', toks := tk } ∧ σ₁₀.likeI h' p.stk ρ' H' h' ∧ PF S p.buf ρ' H' ∧ St i h' ∧ i ≤ x.cps.size ∧ (PS.mk none [[]]).run (x.cps.toList.take i) = some p ∧ p.wt ≤ 1 + 2 * i ∧ (∀ b, p.buf = some b → 48 ≤ b ∧ b < 58) ∧ m = x.cps.size + 1 - i) := by
          intro ρz Hz hz tkz σz pz
          exact ⟨x.cps.size + 1 - (i + 1), by omega, hz, tkz, Hz, i + 1, p', ρz, rfl, σz.rebase, pz, W.frame _ _ _ st₇ (fun b hb o e => σz.fpk b hb o e), hlt, hrun', by omega, hbf, rfl⟩
        have q123 : CmpR c .Eq (.str ⟨#[ch]⟩) (.str (Str.ofString "{")) (.bool (decide (ch = 123))) := by
          have := CmpR.eqStr (c := c) (x := ⟨#[ch]⟩) (y := Str.ofString "{"); rw [e123] at this ⊢; rwa [sign_eq] at this
        have q125 : CmpR c .Eq (.str ⟨#[ch]⟩) (.str (Str.ofString "}")) (.bool (decide (ch = 125))) := by
          have := CmpR.eqStr (c := c) (x := ⟨#[ch]⟩) (y := Str.ofString "}"); rw [e125] at this ⊢; rwa [sign_eq] at this
        have q44 : CmpR c .Eq (.str ⟨#[ch]⟩) (.str (Str.ofString ",")) (.bool (decide (ch = 44))) := by
          have := CmpR.eqStr (c := c) (x := ⟨#[ch]⟩) (y := Str.ofString ","); rw [e44] at this ⊢; rwa [sign_eq] at this
        have q34 : CmpR c .Eq (.str ⟨#[ch]⟩) (.str (Str.ofString "\"")) (.bool (decide (ch = 34))) := by
          have := CmpR.eqStr (c := c) (x := ⟨#[ch]⟩) (y := Str.ofString "\""); rw [e34] at this ⊢; rwa [sign_eq] at this
        refine wpAny_execs_cons (wpAny_If ((PT.cmp (PE.name (d := .str ⟨#[ch]⟩) hc₉ (.str _ _) (.inl rfl)) PE.constStr q123).run A ok _ H₁₀ (.refl _) σ₁₀.base.inv σ₁₀.frm _ _ fun H₁₁ h₁₁ t₁₁ S₁₁ => ?_))
        have σ₁₁ := σ₁₀.step S₁₁
        have pf₁₁ := pf₁₀.mono S₁₁.up
        unfold PS.read at hrd
        by_cases c123 : ch = 123
        · rw [if_pos c123] at hrd
          rw [decide_eq_true c123, if_pos rfl]
          obtain ⟨ds, rr, hstk⟩ : ∃ ds rr, p1.stk = ds :: rr := by
            cases hstk : p1.stk with
            | nil => rw [hstk] at hrd; cases hrd
            | cons ds rr => exact ⟨ds, rr, rfl⟩
          rw [hstk] at hrd
          cases hrd
          have hlen := hmm ds (by rw [hstk]; simp)
          have hrr : rr.length + 1 = p1.stk.length := by rw [hstk]; rfl
          refine σ₁₁.mkA (s := { s with heap := h₁₁, toks := t₁₁ }) rfl fun a h₁₂ t₁₂ σ₁₂ => ?_
          refine σ₁₂.app (s := { s with heap := h₁₂, toks := t₁₂ }) (d := .raw (.ref a)) ok hstk (by omega) ((upd_ne (by decide)).trans pf₁₁.hsk) rfl (PE.name upd_eq (.raw _) (.inl rfl)) (fun H₁₃ h₁₃ t₁₃ σ₁₃ k₁₃ => ?_) (.mk (fun _ _ => rfl) (fun _ => rfl) (by decide) (by decide))
          refine σ₁₃.push (s := { s with heap := h₁₃, toks := t₁₃ }) ok (by omega) ((upd_ne (by decide)).trans pf₁₁.hsk) rfl upd_eq rfl (fun h₁₄ t₁₄ σ₁₄ => ?_) (.mk (fun _ _ => rfl) (fun _ => rfl) (by decide) (by decide))
          exact wpAny_execs_nil (wpAny_execs_nil (wpAny_execs_nil (fin _ _ _ _ σ₁₄ ⟨(upd_ne (by decide)).trans pf₁₁.hst, (upd_ne (by decide)).trans pf₁₁.hsk, (upd_ne (by decide)).trans pf₁₁.had, fun b e => by cases e⟩)))
        rw [if_neg c123] at hrd
        rw [decide_eq_false c123, if_neg (by decide)]
        refine wpAny_execs_cons (wpAny_If ((PT.cmp (PE.name (d := .str ⟨#[ch]⟩) hc₉ (.str _ _) (.inl rfl)) PE.constStr q125).run A ok _ H₁₁ (.refl _) σ₁₁.base.inv σ₁₁.frm _ _ fun H₁₂ h₁₂ t₁₂ S₁₂ => ?_))
        have σ₁₂ := σ₁₁.step S₁₂
        have pf₁₂ := pf₁₁.mono S₁₂.up
        by_cases c125 : ch = 125
        · rw [if_pos c125] at hrd
          rw [decide_eq_true c125, if_pos rfl]
          obtain ⟨ds, ds', rr, hstk⟩ : ∃ ds ds' rr, p1.stk = ds :: ds' :: rr := by
            cases hstk : p1.stk with
            | nil => rw [hstk] at hrd; cases hrd
            | cons ds rr =>
              cases rr with
              | nil => rw [hstk] at hrd; cases hrd
              | cons ds' rr => exact ⟨ds, ds', rr, rfl⟩
          rw [hstk] at hrd
          cases hrd
          have hrr : rr.length + 2 = p1.stk.length := by rw [hstk]; rfl
          have σ₁₂' := σ₁₂
          rw [hstk] at σ₁₂'
          refine σ₁₂'.pop (s := { s with heap := h₁₂, toks := t₁₂ }) ok (by omega) pf₁₂.hsk rfl (fun H₁₃ h₁₃ t₁₃ σ₁₃ k₁₃ => ?_) (.mk (fun _ _ => rfl) (fun _ => rfl) (by decide) (by decide))
          exact wpAny_execs_nil (wpAny_execs_nil (wpAny_execs_nil (wpAny_execs_nil (fin _ _ _ _ σ₁₃ (pf₁₂.mono k₁₃)))))
        rw [if_neg c125] at hrd
        rw [decide_eq_false c125, if_neg (by decide)]
        refine wpAny_execs_cons (wpAny_If ((PT.cmp (PE.name (d := .str ⟨#[ch]⟩) hc₉ (.str _ _) (.inl rfl)) PE.constStr q44).run A ok _ H₁₂ (.refl _) σ₁₂.base.inv σ₁₂.frm _ _ fun H₁₃ h₁₃ t₁₃ S₁₃ => ?_))
        have σ₁₃ := σ₁₂.step S₁₃
        have pf₁₃ := pf₁₂.mono S₁₃.up
        by_cases c44 : ch = 44
        · rw [if_pos c44] at hrd
          rw [decide_eq_true c44, if_pos rfl]
          cases hrd
          exact wpAny_execs_cons (wpAny_Pass (wpAny_execs_nil (wpAny_execs_nil (wpAny_execs_nil (wpAny_execs_nil (wpAny_execs_nil (fin _ _ _ _ σ₁₃ pf₁₃)))))))
        rw [if_neg c44] at hrd
        rw [decide_eq_false c44, if_neg (by decide)]
        have cdig : 48 ≤ ch ∧ ch < 58 := by
          by_cases hh : 48 ≤ ch ∧ ch < 58
          · exact hh
          · rw [if_neg hh] at hrd; cases hrd
        rw [if_pos cdig] at hrd
        cases hrd
        have c34 : ¬ ch = 34 := by omega
        refine wpAny_execs_cons (wpAny_If ((PT.cmp (PE.name (d := .str ⟨#[ch]⟩) hc₉ (.str _ _) (.inl rfl)) PE.constStr q34).run A ok _ H₁₃ (.refl _) σ₁₃.base.inv σ₁₃.frm _ _ fun H₁₄ h₁₄ t₁₄ S₁₄ => ?_))
        have σ₁₄ := σ₁₃.step S₁₄
        have pf₁₄ := pf₁₃.mono S₁₄.up
        rw [decide_eq_false c34, if_neg (by decide)]
        refine σ₁₄.asg (s := { s with heap := h₁₄, toks := t₁₄ }) ok rfl (PE.listD (PEs.one (PE.name (d := .str ⟨#[ch]⟩) hc₉ (.str _ _) (.inl rfl))) (by show 1 ≤ sizeLine; decide)) fun v₁₅ H₁₅ h₁₅ t₁₅ σ₁₅ k₁₅ r₁₅ => ?_
        refine σ₁₅.asg (s := { s with heap := h₁₅, toks := t₁₅ }) ok rfl (PE.attrCls rfl hg hat hA3 rfl) fun v₁₆ H₁₆ h₁₆ t₁₆ σ₁₆ k₁₆ r₁₆ => ?_
        cases r₁₆
        refine wpAny_execs_nil (wpAny_execs_nil (wpAny_execs_nil (wpAny_execs_nil (wpAny_execs_nil (wpAny_execs_nil (fin _ _ _ _ σ₁₆ ⟨upd_eq, ?_, ?_, fun b e => ?_⟩))))))
        · exact (upd_ne (by decide)).trans ((upd_ne (by decide)).trans pf₁₄.hsk)
        · exact (upd_ne (by decide)).trans ((upd_ne (by decide)).trans pf₁₄.had)
        · cases e
          exact ⟨v₁₅, (upd_ne (by decide)).trans upd_eq, r₁₅.mono k₁₆⟩
    · have hin : i = x.cps.size := by omega
      subst hin
      rw [List.take_of_length_le (by simp), hrun] at hp
      cases hp
      refine W.done _ _ _ st' fun h₇ tk₇ hk₇ => ?_
      refine wpAny_execs_nil ?_
      refine σ.end (s := { s with heap := h₇, toks := _ }) (fun b hb => hb) hw0 hk₇ (fun y a e => by cases e) pf.hsk rfl fun v tk' M1 M2 M3 M4 r => ?_
      exact q v H' h₇ tk' M1 M2 (fun b o hb hl hc e => M3 b o hb hl e) M4 r
end
end Mine
namespace Mine

section
variable {c : Cfg} {n : Nat} {env : Env} {ρ : Str → Option Value} {H : View} {d : D} {a b : Int}

theorem BinR.ofInt {op : Operator} {r : Int} (h : ∀ {A : Around} {E : Value → Shared → Prop} {s : Shared} {Q : Value → Shared → Prop} {t u : Tok}, Q (.int r s.toks) { s with toks := s.toks + 1 } → wpAny (model c.prog c.w) A (binaryOp op (.int a t) (.int b u)) Q E s) : BinR c op (.int a) (.int b) (.int r) := ⟨fun A ok s H₁ u v I R₁ R₂ Q E q => by
  cases R₁ with
  | int _ t => cases R₂ with
    | int _ t' => exact h (q _ H₁ s.heap _ (.refl I) (.int _ _))⟩
theorem BinR.addI : BinR c .Add (.int a) (.int b) (.int (a + b)) := .ofInt fun q => add_int q
theorem BinR.mulI (h : IntMulOk a b) : BinR c .Mult (.int a) (.int b) (.int (a * b)) := .ofInt fun q => mul_int q h
theorem BinR.modI (h : b ≠ 0) : BinR c .Mod (.int a) (.int b) (.int (a.fmod b)) := .ofInt fun q => mod_int h q
theorem BinR.andI : BinR c .BitAnd (.int a) (.int b) (.int (Builtin.bitAnd a b)) := .ofInt fun q => and_int q
theorem BinR.orI : BinR c .BitOr (.int a) (.int b) (.int (Builtin.bitOr a b)) := .ofInt fun q => or_int q
theorem BinR.shrI (h : 0 ≤ b) : BinR c .RShift (.int a) (.int b) (.int (a.fdiv (2 ^ b.toNat))) := .ofInt fun q => rshift_int h q
theorem BinR.powI (h : 0 ≤ b) (h2 : b ≤ 1000000) (ha : a.natAbs < 2 ^ 64) : BinR c .Pow (.int a) (.int b) (.int (a ^ b.toNat)) := .ofInt fun q => pow_int_small h h2 ha q

theorem CmpR.ofInt {op : CmpOp} {r : Bool} (h : ∀ {A : Around} {E : Value → Shared → Prop} {s : Shared} {Q : Value → Shared → Prop} {t u : Tok}, Q (.bool r) s → wpAny (model c.prog c.w) A (compareOp op (.int a t) (.int b u)) Q E s) : CmpR c op (.int a) (.int b) (.bool r) := ⟨fun A ok s H₁ u v I R₁ R₂ Q E q => by
  cases R₁ with
  | int _ t => cases R₂ with
    | int _ t' => exact h (q _ H₁ s.heap _ (.refl I) (.bool _))⟩
theorem CmpR.ltI : CmpR c .Lt (.int a) (.int b) (.bool (decide (a < b))) := .ofInt fun q => lt_int q
theorem CmpR.eqI : CmpR c .Eq (.int a) (.int b) (.bool (a == b)) := .ofInt fun q => eq_int q
theorem CmpR.neI : CmpR c .NotEq (.int a) (.int b) (.bool (a != b)) := .ofInt fun q => ne_int q

theorem MethR.bitLength : MethR c "bit_length" (.int a) "int.bit_length" := ⟨fun A ok s H₁ v pl I R Q E q => by
  cases R with
  | int _ t => exact getMethod_int_bit_length (q s.toks)⟩
theorem Fun.bitLength : Fun c n (.builtin "int.bit_length") H [.int a] (.int (Builtin.Int.intBits a : Int)) := ⟨fun A ok s H₁ vs k I R Q E q => by
  cases R with
  | cons r t => cases t; cases r with
    | int _ t => exact call_int_bit_length (q _ H₁ s.heap _ (.refl I) (.int _ _))⟩

theorem Fun.len {l : List D} (hf : l.length ≤ sizeLine) : Fun c n (.builtin "len") H [.list l] (.int (l.length : Int)) := ⟨fun A ok s H₁ vs k I R Q E q => by
  cases R with
  | cons r t =>
    cases t
    cases r with
    | @list ad ws m _ ha hr =>
      have e : ws.size = l.length := by have := hr.length; simpa using this
      refine call_len_list (l := ad) (items := ws) ⟨_, I.le _ _ ha, rfl, m, rfl⟩ ?_ ?_
      · have e2 : sizeLine = 16777216 := by decide
        omega
      · rw [e]; exact q _ H₁ s.heap _ (.refl I) (.int _ _)⟩

theorem allInts_of {H : View} : ∀ {vs : List Value} {ns : List Int}, RelL H vs (ns.map D.int) → IntsAre vs ns
  | _, [], .nil => .nil
  | _, i :: r, .cons (.int _ t) h => .cons i t (allInts_of h)
theorem Fun.sum {ns : List Int} : Fun c n (.builtin "sum") H [.list (ns.map D.int)] (.int ns.sum) := ⟨fun A ok s H₁ vs k I R Q E q => by
  cases R with
  | cons r t =>
    cases t
    cases r with
    | @list ad ws m _ ha hr =>
      have hi := allInts_of hr
      have hl : s.heap.IsList ad ws := ⟨_, I.le _ _ ha, rfl, m, rfl⟩
      have ha' : AllInts ws := by
        have := hi.allInts
        rwa [Array.toArray_toList] at this
      obtain ⟨xs, rfl⟩ := ha'.items
      refine sum_intListG ok.hh hl fun h' tk t' hk => ?_
      rw [preSum_eq, List.take_of_length_le (by simp)]
      have e : numsOf (intItems xs).toList = ns := hi.numsOf
      rw [nums_intItems] at e
      rw [e]
      exact q _ H₁ h' tk (.grow I hk) (.int _ _)⟩

/-- items -/
theorem Rel.item {H : View} {s : Shared} {v : Value} {l : List D} {i : Nat} (I : Inv c H s.heap) (R : Rel H v (.list l)) (hi : l[i]? = some d) : ∃ ad ws x, v = .ref ad ∧ s.heap.IsList ad ws ∧ ws[i]? = some x ∧ Rel H x d ∧ ws.size = l.length := by
  cases R with
  | @list ad ws m _ ha hr =>
    obtain ⟨x, hx, hr'⟩ := hr.get' hi
    exact ⟨ad, ws, x, rfl, ⟨_, I.le _ _ ha, rfl, m, rfl⟩, by simpa using hx, hr', by have := hr.length; simpa using this⟩

theorem PE.idx {e x : Expr} {pos : Pos} {l : List D} {i : Nat} (he : PE c n env ρ H e (.list l)) (hx : PE c n env ρ H x (.int (i : Int))) (hi : l[i]? = some d) (hb : i < 2 ^ 62) (hs : ∀ o i, subscripted x false o i = operate [o, i] (getItem o i) := by intro _ _; with_unfolding_all rfl) : PE c n env ρ H (.Subscript e x pos) d :=
  ⟨fun A ok s H₁ k I F Q E q => Sub_any (he.run A ok s H₁ k I F _ _ fun v H₂ h₂ t₂ S₂ R₂ => hx.run A ok _ H₂ (k.trans S₂.up) S₂.inv (F.step S₂) _ _ fun w H₃ h₃ t₃ S₃ R₃ => by
    obtain ⟨ad, ws, y, rfl, hl, hy, ry, hsz⟩ := (R₂.mono S₃.up).item (s := { s with heap := h₃, toks := t₃ }) S₃.inv hi
    cases R₃ with
    | int _ t =>
      obtain ⟨o, ho, hc, _⟩ := id hl
      exact ⟨"list", "list.__getitem__", slot_list_getitem.lookup, ⟨o, ho, hc⟩, wpAny_getItem_list (s := { s with heap := h₃, toks := t₃ }) hl (by omega) (by omega) (x := y) (by simpa using hy) (q y H₃ h₃ t₃ (S₂.trans S₃ I) ry)⟩) hs⟩

theorem PE.idxT {e x : Expr} {pos : Pos} {l : List D} {i : Nat} (he : PE c n env ρ H e (.tup l)) (hx : PE c n env ρ H x (.int (i : Int))) (hi : l[i]? = some d) (hb : i < 2 ^ 62) (hs : ∀ o i, subscripted x false o i = operate [o, i] (getItem o i) := by intro _ _; with_unfolding_all rfl) : PE c n env ρ H (.Subscript e x pos) d :=
  ⟨fun A ok s H₁ k I F Q E q => Sub_any (he.run A ok s H₁ k I F _ _ fun v H₂ h₂ t₂ S₂ R₂ => hx.run A ok _ H₂ (k.trans S₂.up) S₂.inv (F.step S₂) _ _ fun w H₃ h₃ t₃ S₃ R₃ => by
    have R₂' := R₂.mono S₃.up
    cases R₂' with
    | @tup ad ws m _ ha hr =>
      obtain ⟨y, hy, ry⟩ := hr.get' hi
      cases R₃ with
      | int _ t =>
        have ht : IsTup h₃ ad ws := ⟨_, S₃.inv.le _ _ ha, rfl, m, rfl⟩
        have hsz : ws.size = l.length := by have := hr.length; simpa using this
        have hil : i < l.length := by
          by_cases hh : i < l.length
          · exact hh
          · rw [List.getElem?_eq_none (by omega)] at hi; cases hi
        have hj : seqIndex? (i : Int) ws.size = some i := by
          unfold seqIndex?
          simp
          omega
        exact ⟨"tuple", "tuple.__getitem__", slot_tuple_getitem.lookup, ht.typeIs, getItem_tuple (s := { s with heap := h₃, toks := t₃ }) ht (by omega) (by omega) hj (x := y) (by simpa using hy) (q y H₃ h₃ t₃ (S₂.trans S₃ I) ry)⟩) hs⟩

theorem BinR.addL {l l' : List D} (hsz : l.length + l'.length ≤ sizeLine) : BinR c .Add (.list l) (.list l') (.list (l ++ l')) := ⟨fun A ok s H₁ u v I R₁ R₂ Q E q => by
  cases R₁ with
  | @list a ws m _ ha hr =>
    cases R₂ with
    | @list a' ws' m' _ ha' hr' =>
      have e1 := hr.length
      have e2 := hr'.length
      have g1 := I.le _ _ ha
      have g2 := I.le _ _ ha'
      have n2 := fresh_none s.heap
      have hsz' : ws.size + ws'.size ≤ sizeLine := by
        have : ws.toList.length = ws.size := by simp
        have : ws'.toList.length = ws'.size := by simp
        omega
      refine PySem.concat_meets (a := .ref a) (b := .ref a') ⟨_, g1, rfl⟩ ⟨_, g2, rfl⟩ noFill_list_add seq_list_add PySem.F.slot_list_add PySem.F.entry_list_add (PySem.F.args_list_add_2 _ _) (list_addW a a' ws ws' m m' none none #[] #[] hsz') ⟨g1, g2, ?_⟩
      have S₃ : HStep c H₁ s.heap (H₁.add s.heap.objs.size (lstO (ws ++ ws') 0)) (s.heap.push (lstO (ws ++ ws') 0)) :=
        HStep.add I (fun b o e => Heap.get?_push_of_some _ e) n2 (Heap.get?_push_size _ rfl)
      exact q _ _ _ _ S₃ (.list View.add_self (by rw [Array.toList_append]; exact (hr.append hr').mono S₃.up))⟩
end

/-! equality of data -/
mutual
def D.pd : D → PyData
  | .none => .none
  | .bool b => .bool b
  | .int i => .int i
  | .str s => .str s
  | .list l => .list (pds l)
  | .tup l => .tuple (pds l)
  | .raw _ => .none
def pds : List D → List PyData
  | [] => []
  | d :: r => d.pd :: pds r
end
mutual
def D.pln : D → Bool
  | .raw _ => false
  | .list l => plns l
  | .tup l => plns l
  | _ => true
def plns : List D → Bool
  | [] => true
  | d :: r => d.pln && plns r
end
mutual
theorem Rel.reads {H : View} {h : Heap} (k : ∀ b o, H b = some o → h.get? b = some o) : ∀ {v : Value} {d : D}, Rel H v d → d.pln = true → ∃ as, PySem.Reads h v d.pd as
  | _, _, .none, _ => ⟨_, .none⟩
  | _, _, .bool b, _ => ⟨_, .bool b⟩
  | _, _, .int i t, _ => ⟨_, .int i t⟩
  | _, _, .str x t, _ => ⟨_, .str x t⟩
  | _, _, .list h1 h2, hp => let ⟨as, r⟩ := RelL.reads k h2 hp; ⟨_, .list (k _ _ h1) rfl rfl r⟩
  | _, _, .tup h1 h2, hp => let ⟨as, r⟩ := RelL.reads k h2 hp; ⟨_, .tuple (k _ _ h1) rfl rfl r⟩
  | _, _, .raw v, hp => by cases hp
theorem RelL.reads {H : View} {h : Heap} (k : ∀ b o, H b = some o → h.get? b = some o) : ∀ {vs : List Value} {ds : List D}, RelL H vs ds → plns ds = true → ∃ as, PySem.ReadsAll h vs (pds ds) as
  | _, _, .nil, _ => ⟨_, .nil⟩
  | _, _, .cons r t, hp => by
    rw [plns, Bool.and_eq_true] at hp
    obtain ⟨as, h1⟩ := Rel.reads k r hp.1
    obtain ⟨bs, h2⟩ := RelL.reads k t hp.2
    exact ⟨_, .cons h1 h2⟩
end
section
variable {c : Cfg}
theorem CmpR.eqSame {l : List D} (hp : plns l = true) (hs : PySem.SeqAt.shaped (D.list l).pd = true) : CmpR c .Eq (.list l) (.list l) (.bool true) := ⟨fun A ok s H₁ u v I R₁ R₂ Q E q => by
  obtain ⟨as, r1⟩ := Rel.reads I.le R₁ hp
  obtain ⟨bs, r2⟩ := Rel.reads I.le R₂ hp
  refine eq_dataH r1 r2 hs hs (by have := ok.un; omega) ?_
  rw [PySem.SeqAt.eqv_refl _ (PySem.SeqAt.canLay_of_shaped hs)]
  exact q _ H₁ s.heap s.toks (.refl I) (.bool _)⟩
theorem CmpR.neSame {l : List D} (hp : plns l = true) (hs : PySem.SeqAt.shaped (D.list l).pd = true) : CmpR c .NotEq (.list l) (.list l) (.bool false) := ⟨fun A ok s H₁ u v I R₁ R₂ Q E q => by
  obtain ⟨as, r1⟩ := Rel.reads I.le R₁ hp
  obtain ⟨bs, r2⟩ := Rel.reads I.le R₂ hp
  refine ne_dataH r1 r2 hs hs (by have := ok.un; omega) ?_
  rw [PySem.SeqAt.eqv_refl _ (PySem.SeqAt.canLay_of_shaped hs)]
  exact q _ H₁ s.heap s.toks (.refl I) (.bool _)⟩
end
end Mine
namespace Mine
theorem callC {c : Cfg} {H : View} {f : Addr} {name qual : Str} {params : Arguments} {body : List Stmt} {scope : Scope} {dV kV doc pm cdv ct oc : Value} {an od : Option Addr} {osl : Array (Option Value)} {ps : List Str} {A : Around} {n : Nat} {s : Shared} {vs : List Value} {Q : Value → Shared → Prop} {E : Value → Shared → Prop} (ok : Ok A (n + 1))
    (I : Inv c H s.heap)
    (ho : c.K.lookup f = some ⟨oc, od, .func (fnOf name qual params body scope dV kV doc pm an cdv ct), osl⟩) (hcd : codeIn c.K cdv qual = true)
    (hbind : bindArgs (fnOf name qual params body scope dV kV doc pm an cdv ct) ⟨vs, []⟩ = pure (ps.zip vs))
    (hkind : ∀ x ∈ ps.zip vs, scope.names.lookup x.1 = some .local ∨ (scope.names.lookup x.1 = some .cell ∧ ((cellsFrom (s.heap.objs.size + 1) scope.names []).lookup x.1).isSome = true))
    (h : ∀ h₁ tk₁, h₁.Ns s.heap.objs.size (bindL (envOfC qual scope s.heap.objs.size f cdv).kindOf (ps.zip vs) fun _ => none) → (∀ x a, (cellsFrom (s.heap.objs.size + 1) scope.names []).lookup x = some a → h₁.IsCell a (bindC (envOfC qual scope s.heap.objs.size f cdv).kindOf (ps.zip vs) (fun _ => none) x)) →
      (∀ b o, s.heap.get? b = some o → h₁.get? b = some o) → (∀ x a, (x, a) ∈ (cellsFrom (s.heap.objs.size + 1) scope.names []) → s.heap.objs.size < a) →
      ∀ E', wpAny (model c.prog c.w) (A.deeper (envOfC qual scope s.heap.objs.size f cdv)) (execs body (envOfC qual scope s.heap.objs.size f cdv)) (fun fl s' => match fl with | .ret v => Q v s' | _ => False) E' { s with heap := h₁, toks := tk₁ })
    (hco : scope.isCoroutine = false := by rfl) (hgen : scope.isGenerator = false := by rfl) (hk : scope.kind = .function := by rfl) : wpAny (model c.prog c.w) A (call (.ref f) vs) Q E s := by
  refine wpAny_call (codeAny_call_cells (fd := fnOf name qual params body scope dV kV doc pm an cdv ct) (body := body) (binds := ps.zip vs) (by have := ok.dep; omega) (I.keep _ _ (c.k _ _ ho)) rfl (c.nolimit.keeps I.keep) (codeRec_of (fun a o e => I.keep _ _ (c.k a o e)) hcd) rfl hbind rfl hkind (fun s₁ x => ?_) hco hgen hk)
  obtain ⟨h₁, tk₁, rfl, hk₁⟩ := x.done
  have := h h₁ tk₁ x.toInCall.ns x.cell hk₁ x.above
  refine wpAny_mono (this _) (fun fl s' hf => ?_) fun _ _ e => e
  cases fl with
  | ret v => exact hf
  | _ => exact hf.elim

section
variable {c : Cfg}
theorem HStep.late {H H' : View} {h h' h'' : Heap} {L : Addr} (x : HStep c H h H' h') (hn : h.get? L = none) (hP : L ≠ c.P) (hH : H' L = none) (hs : Heap.SameBut L h' h'') : HStep c H h H' h'' :=
  ⟨x.up, x.fresh, fun b o hb e => (hs.2 b fun q => by rw [q, hn] at e; cases e).trans (x.ext b o hb e),
    ⟨fun b o e => (hs.2 b fun q => by rw [q, hH] at e; cases e).trans (x.inv.le b o e), x.inv.base, x.inv.noP, let ⟨ob, e1, e2⟩ := x.inv.tb; ⟨ob, (hs.2 _ (Ne.symm hP)).trans e1, e2⟩⟩⟩

end

theorem bindL_at (kindOf : Str → Option NameKind) {x : Str} (hk : kindOf x = some .local) : ∀ (bs : List (Str × Value)) (m : Str → Option Value), bindL kindOf bs m x = match bs.reverse.lookup x with | some v => some v | none => m x
  | [], m => rfl
  | (n, v) :: r, m => by
    show bindL kindOf r _ x = _
    rw [bindL_at kindOf hk r]
    rw [List.reverse_cons, List.lookup_append]
    cases e : r.reverse.lookup x with
    | some u => rfl
    | none =>
      simp only [Option.none_or]
      by_cases hx : x = n
      · subst hx; rw [if_pos hk]; simp
      · have : (x == n) = false := by simpa using hx
        simp only [List.lookup_cons, this, List.lookup_nil]
        split
        · exact if_neg hx
        · rfl
theorem bindC_at (kindOf : Str → Option NameKind) {x : Str} (hk : kindOf x ≠ some .local) : ∀ (bs : List (Str × Value)) (m : Str → Option Value), bindC kindOf bs m x = match bs.reverse.lookup x with | some v => some v | none => m x
  | [], m => rfl
  | (n, v) :: r, m => by
    show bindC kindOf r _ x = _
    rw [bindC_at kindOf hk r]
    rw [List.reverse_cons, List.lookup_append]
    cases e : r.reverse.lookup x with
    | some u => rfl
    | none =>
      simp only [Option.none_or]
      by_cases hx : x = n
      · subst hx; rw [if_neg hk]; simp
      · have : (x == n) = false := by simpa using hx
        simp only [List.lookup_cons, this, List.lookup_nil]
        split
        · rfl
        · exact if_neg hx

theorem Fun.enterC {c : Cfg} {n : Nat} {H : View} {d : D} {ds : List D} {f : Addr} {name qual : Str} {params : Arguments} {body : List Stmt} {scope : Scope} {dV kV doc pm cdv ct oc : Value} {an od : Option Addr} {osl : Array (Option Value)} {ps : List Str}
    (ho : c.K.lookup f = some ⟨oc, od, .func (fnOf name qual params body scope dV kV doc pm an cdv ct), osl⟩) (hcd : codeIn c.K cdv qual = true)
    (hbind : ∀ vs : List Value, vs.length = ds.length → bindArgs (fnOf name qual params body scope dV kV doc pm an cdv ct) ⟨vs, []⟩ = pure (ps.zip vs))
    (hkind : ∀ L, ∀ x ∈ ps, scope.names.lookup x = some .local ∨ (scope.names.lookup x = some .cell ∧ ((cellsFrom (L + 1) scope.names []).lookup x).isSome = true))
    (h : ∀ (vs : List Value) (H₁ : View) (L : Addr), VLe H H₁ → RelL H₁ vs ds → SR c n (envOfC qual scope L f cdv) (fun x => (ps.zip vs).reverse.lookup x) H₁ body d)
    (hco : scope.isCoroutine = false := by rfl) (hgen : scope.isGenerator = false := by rfl) (hk : scope.kind = .function := by rfl) : Fun c (n + 1) (.ref f) H ds d := by
  constructor
  intro A ok s H₁ vs k I R Q E q
  have hPs : s.heap.objs.size ≠ c.P := I.neP (fresh_none _)
  refine callC (n := n) ok I ho hcd (hbind vs R.length) (fun x hx => hkind _ _ (List.of_mem_zip hx).1) (fun h₁ tk₁ hns hcel hk₁ hab E' => ?_) hco hgen hk
  have I₁ : Inv c H₁ h₁ := (HStep.grow I hk₁).inv
  have new : ∀ x a, (cellsFrom (s.heap.objs.size + 1) scope.names []).lookup x = some a → s.heap.get? a = none := fun x a e =>
    Heap.get?_none_of_le (Nat.le_of_lt (hab x a (mem_of_lookup e)))
  have F₁ : Frm c (envOfC qual scope s.heap.objs.size f cdv) (fun x => (ps.zip vs).reverse.lookup x) h₁ := by
    refine ⟨hk, rfl, rfl, hPs, fun x a e => I.neP (new x a e), ⟨_, hns, fun x v e hkd => ?_⟩, fun x a e => ⟨_, hcel x a e⟩, fun x v e hkd => ?_⟩
    · rw [bindL_at _ hkd, e]
    · have h1 : x ∈ ps := by
        have := mem_of_lookup e
        exact (List.of_mem_zip (List.mem_reverse.mp this)).1
      rcases hkind s.heap.objs.size x h1 with q' | ⟨q1, q2⟩
      · have : (envOfC qual scope s.heap.objs.size f cdv).kindOf x = some .local := q'
        rw [this] at hkd
        rcases hkd with z | z <;> cases z
      · obtain ⟨a, ha⟩ := Option.isSome_iff_exists.mp q2
        refine ⟨a, ha, ?_⟩
        have := hcel x a ha
        have hne : (envOfC qual scope s.heap.objs.size f cdv).kindOf x ≠ some .local := by
          have : (envOfC qual scope s.heap.objs.size f cdv).kindOf x = some .cell := q1
          rw [this]; decide
        rw [bindC_at _ hne, e] at this
        exact this
  refine (h vs H₁ s.heap.objs.size k R).run (A.deeper _) ok.deeper _ H₁ (.refl _) I₁ F₁ (I.none_of (fresh_none _)) (fun x a e => I.none_of (new x a e)) _ _ ?_
  intro v H' h' tk' hup hfr hext I' R'
  refine q v H' h' tk' ⟨hup, fun b o e => ?_, fun b o hb e => ?_, I'⟩ R'
  · rcases hfr b o e with e' | e'
    · exact .inl e'
    · refine .inr ?_
      cases q' : s.heap.get? b with
      | none => rfl
      | some ob => rw [hk₁ b ob q'] at e'; cases e'
  · exact hext b o hb (Nat.ne_of_lt (Heap.lt_size e)) (fun x a e' => fun q' => by rw [q', new x a e'] at e; cases e) (hk₁ b o e)
end Mine
namespace Mine
section
variable {c : Cfg} {A : Around} {E : Value → Shared → Prop} {s : Shared} {H : View}

theorem Inv.built (I : Inv c H s.heap) : s.heap.BuiltinsAt c.mg c.P := by
  obtain ⟨bm, ob, b1, b2, b3, b4, b5, b6⟩ := c.bmain
  refine ⟨bm, ob, b1, b2, fun q => ?_, fun q => ?_, I.keep _ _ b3, b4, b5, b6⟩
  · obtain ⟨o, es, ep, e, hd, _⟩ := c.g
    rw [q, e] at b3; cases b3; rw [hd] at b6; cases b6
  · rw [q, c.noP] at b3; cases b3

theorem makeF {env : Env} {name qual : Str} {params : Arguments} {body : List Stmt} {scope : Scope} {clos : List (Str × Addr)} {pos : Pos} {firstLine : Nat} {Q : Value → Shared → Prop} (I : Inv c H s.heap) (hcl : closureFor scope env = pure clos) (hge0 : env.globals = mainGlobals) (hcode : env.code = .ref c.cc)
    (hq : qual = c.tq) (hline : c.tl = (pos.line : Int)) (hcol : c.tc = (pos.col : Int))
    (h : ∀ f c' ctv doc H' h' tk oc vs t, HStep c H s.heap H' h' → H' f = some (fnMade name qual params body scope clos doc ((c.mg "__name__").getD .none) c' ctv) → H' c' = some oc → oc.data = .fields vs → vs[1]? = some (.str qual t) → Q (.ref f) { s with heap := h', toks := tk }) :
    wpAny (model c.prog c.w) A (makeFunction name qual params (.stmts body) scope env [] [] [] pos firstLine) Q E s := by
  have hg : s.heap.Ns mainGlobals c.mg := c.g.keeps I.keep
  obtain ⟨o, hP, hTb⟩ := I.tb
  have hC := c.chd.keeps I.keep
  rcases hTb with rfl | ⟨c'', o'', vs'', t'', rfl, k1, k2, k3⟩
  · refine makeFunction_K hcl hge0 hg hcode hC hP (by trivial) rfl (fun q => ?_) I.built fun c' ctv doc h' tk hx hge hlt hrec htb => ?_
    · obtain ⟨o, es, ep, e, hd, _⟩ := c.g
      rw [q, c.noP] at e; cases e
    obtain ⟨c₂, oc, vs, t, e2, hoc, hd, hv⟩ := hrec
    cases e2
    have n0 : s.heap.get? c' = none := Heap.get?_none_of_le hge
    have nH := I.none_of n0
    have hle : VLe H (H.add c' oc) := View.le_add nH
    have hcP : c' ≠ c.P := I.neP n0
    have S₁ : HStep c H s.heap (H.add c' oc) h' := by
      refine ⟨hle, fun b ob e => ?_, fun b ob hb e => hx b ob hb e, ⟨fun b ob e => ?_, fun b ob e => hle b ob (I.base b ob e), ?_, ?_⟩⟩
      · by_cases hb : b = c'
        · exact .inr (hb ▸ n0)
        · unfold View.add at e; rw [if_neg hb] at e; exact .inl e
      · by_cases hb : b = c'
        · unfold View.add at e; rw [if_pos hb] at e; cases e; rw [hb]; exact hoc
        · unfold View.add at e; rw [if_neg hb] at e; exact hx b ob (fun q => by rw [q, I.noP] at e; cases e) (I.le b ob e)
      · unfold View.add; rw [if_neg (Ne.symm hcP)]; exact I.noP
      · refine ⟨_, htb, .inr ⟨c', oc, vs, t, ?_, View.add_self, hd, hq ▸ hv⟩⟩
        rw [hline, hcol]; rfl
    have n1 := fresh_none h'
    have S₂ : HStep c (H.add c' oc) h' ((H.add c' oc).add h'.objs.size (fnMade name qual params body scope clos doc ((c.mg "__name__").getD .none) c' ctv)) (h'.push (fnMade name qual params body scope clos doc ((c.mg "__name__").getD .none) c' ctv)) :=
      HStep.add S₁.inv (fun b o e => Heap.get?_push_of_some _ e) n1 (Heap.get?_push_size _ rfl)
    exact h _ c' ctv doc _ _ tk oc vs t (S₁.trans S₂ I) View.add_self (S₂.up _ _ View.add_self) hd hv
  · refine makeFunction_hit (cv := .ref c'') hcl hge0 hg hcode hC hP (by trivial) ?_ I.built fun ctv doc h' tk hk hsz => ?_
    · rw [hline, hcol]
      simp [codeAmong, rawInt]
    have S₁ : HStep c H s.heap H h' := .grow I hk
    have n1 := fresh_none h'
    have S₂ : HStep c H h' (H.add h'.objs.size (fnMade name qual params body scope clos doc ((c.mg "__name__").getD .none) c'' ctv)) (h'.push (fnMade name qual params body scope clos doc ((c.mg "__name__").getD .none) c'' ctv)) :=
      HStep.add S₁.inv (fun b o e => Heap.get?_push_of_some _ e) n1 (Heap.get?_push_size _ rfl)
    exact h _ c'' ctv doc _ _ tk o'' vs'' t'' (S₁.trans S₂ I) View.add_self (S₂.up _ _ k1) k2 (hq ▸ k3)

/-- a call of a def that stands in the view: one return -/
theorem Fun.closure {n : Nat} {f c' : Addr} {name qual : Str} {params : Arguments} {scope : Scope} {clos : List (Str × Addr)} {doc pm ctv : Value} {oc : Obj} {vs' : Array Value} {t : Tok} {e : Expr} {pos : Pos} {rest : List Stmt} {ps : List Str} {d : D} {ds : List D} {ρc : Str → Option Value}
    (ho : H f = some (fnMade name qual params (.Return (some e) pos :: rest) scope clos doc pm c' ctv)) (hc1 : H c' = some oc) (hc2 : oc.data = .fields vs') (hc3 : vs'[1]? = some (.str qual t))
    (hbind : ∀ vs : List Value, vs.length = ds.length → bindArgs (fnX name qual params (.Return (some e) pos :: rest) scope clos .none .none doc pm none (.ref c') ctv) ⟨vs, []⟩ = pure (ps.zip vs))
    (hloc : ∀ x ∈ ps, scope.names.lookup x = some .local) (hcell : ∀ x ∈ scope.names, x.2 ≠ .cell)
    (hclos : ∀ x a, clos.lookup x = some a → ∃ o v, H a = some o ∧ o.data = .cell v ∧ ρc x = v) (hfree : ∀ x, (scope.names.lookup x = some .free) → x ∉ ps ∧ ∃ a, clos.lookup x = some a)
    (h : ∀ (vs : List Value) (H₁ : View) (L : Addr), VLe H H₁ → RelL H₁ vs ds → PE c n (envX qual scope L f (.ref c') clos) (fun x => if scope.names.lookup x = some .free then ρc x else (ps.zip vs).reverse.lookup x) H₁ e d)
    (hco : scope.isCoroutine = false := by rfl) (hgen : scope.isGenerator = false := by rfl) (hk : scope.kind = .function := by rfl) : Fun c (n + 1) (.ref f) H ds d := by
  constructor
  intro A ok s H₁ vs k I R Q E q
  have hPs : s.heap.objs.size ≠ c.P := I.neP (fresh_none _)
  refine wpAny_call (codeAny_call_def (fd := fnX name qual params (.Return (some e) pos :: rest) scope clos .none .none doc pm none (.ref c') ctv) (body := .Return (some e) pos :: rest) (binds := ps.zip vs) (by have := ok.dep; omega) (I.le _ _ (k _ _ ho)) rfl (c.nolimit.keeps I.keep) ⟨c', oc, vs', t, rfl, I.le _ _ (k _ _ hc1), hc2, hc3⟩ rfl ?_ hcell ?_ ?_ hco hgen hk)
  · exact BindsTo.of_eq (hbind vs R.length)
  · intro x hx
    exact hloc _ (List.of_mem_zip hx).1
  · intro h₁ hns hk₁
    have I₁ : Inv c H₁ h₁ := (HStep.grow I hk₁).inv
    have F₁ : Frm c (envX qual scope s.heap.objs.size f (.ref c') clos) (fun x => if scope.names.lookup x = some .free then ρc x else (ps.zip vs).reverse.lookup x) h₁ := by
      refine ⟨hk, rfl, rfl, hPs, fun x a e' => ?_, ⟨_, hns, fun x v e' hkd => ?_⟩, fun x a e' => ?_, fun x v e' hkd => ?_⟩
      · obtain ⟨o, v, h1, _⟩ := hclos x a e'
        exact fun q => by rw [q] at h1; have := k _ _ h1; rw [I.noP] at this; cases this
      · have hkd' : scope.names.lookup x = some .local := hkd
        rw [hkd'] at e'
        rwa [if_neg (by decide)] at e'
      · obtain ⟨o, v, h1, h2, _⟩ := hclos x a e'
        exact ⟨v, o, I₁.le _ _ (k _ _ h1), h2⟩
      · have hx : scope.names.lookup x = some .free := by
          rcases hkd with q' | q'
          · exact absurd rfl (hcell (x, .cell) (mem_of_lookup q'))
          · exact q'
        rw [if_pos hx] at e'
        obtain ⟨_, a, ha⟩ := hfree x hx
        obtain ⟨o, v', h1, h2, h3⟩ := hclos x a ha
        refine ⟨a, ha, o, I₁.le _ _ (k _ _ h1), ?_⟩
        rw [h2, ← h3, e']
    refine wpAny_execs_cons (wpAny_Return_some ((h vs H₁ s.heap.objs.size k R).run (A.deeper _) ok.deeper _ H₁ (.refl _) I₁ F₁ _ _ fun v H' h' tk' S R' => ?_))
    exact q v H' h' tk' ((HStep.grow I hk₁).trans S I) R'
end
end Mine
namespace Mine

structure Cst (c : Cfg) : Prop where
  hK : c.K = Mine.hd.heap_39 c.w.params
  hcc : c.cc = 725
  htl : c.tl = 430
  htc : c.tc = 4
  htq : c.tq = Str.ofString "_array_in.<locals>.f"

section
variable {c : Cfg}
theorem array_in_sp (X : Cst c) {n : Nat} {H : View} {A : Around} (ok : Ok A (n + 1)) {s : Shared} (I : Inv c H s.heap) {Q : Value → Shared → Prop} {E : Value → Shared → Prop}
    (q : ∀ f H' h' tk', HStep c H s.heap H' h' → (∃ oc od fd sl, H' f = some ⟨oc, od, .func fd, sl⟩) → (∀ m x d, (∀ H'', VLe H' H'' → Fun c m (.ref 719) H'' [.str x, .raw (.ref 42)] d) → Fun c (m + 1) (.ref f) H' [.str x] d) → Q (.ref f) { s with heap := h', toks := tk' }) :
    wpAny (model c.prog c.w) A (call (.ref 726) [.ref 42]) Q E s := by
  have hK := X.hK
  refine' callC (ps := [Str.ofString "adapter"]) ok I ?ho ?hcd ?hbind ?hkind ?h ?h1 ?h2 ?h3
  case ho => rw [hK]; k_is
  case hcd => rw [hK]; k_is
  case h1 => rfl
  case h2 => rfl
  case h3 => rfl
  case hbind => rfl
  case hkind =>
    intro x hx
    rw [List.mem_singleton.mp hx]
    exact .inr ⟨rfl, rfl⟩
  case h =>
    intro h₁ tk₁ hns hcel hk₁ hab E'
    have hcel' : h₁.IsCell (s.heap.objs.size + 1) (some (.ref 42)) := hcel (Str.ofString "adapter") _ rfl
    have hL : s.heap.get? s.heap.objs.size = none := fresh_none _
    have hL1 : s.heap.get? (s.heap.objs.size + 1) = none := Heap.get?_none_of_le (Nat.le_succ _)
    have S₁ : HStep c H s.heap H h₁ := .grow I hk₁
    obtain ⟨oL, _, _, hoL, _⟩ := id hns
    obtain ⟨oC, hoC, hdC⟩ := hcel'
    refine wpAny_execs_cons (nestDef_K rfl rfl rfl (makeF (c := c) (s := { s with heap := h₁, toks := tk₁ }) (clos := [(Str.ofString "adapter", s.heap.objs.size + 1)]) S₁.inv rfl rfl (by rw [X.hcc]; rfl) (by rw [X.htq]; rfl) X.htl X.htc fun f c' ctv doc H₂ h₂ tk₂ oc vs t S₂ hf hc1 hc2 hc3 => ?_))
    have S₂' := S₁.trans S₂ I
    have hL₂ : H₂ s.heap.objs.size = none := S₂.miss hoL (I.none_of hL)
    have hC₂ : H₂ (s.heap.objs.size + 1) = none := S₂.miss hoC (I.none_of hL1)
    have hns₂ := hns.at' (h' := h₂) fun o e => S₂.ext _ o (I.neP hL) e
    have hoC₂ := S₂.ext _ _ (I.neP hL1) hoC
    refine wpAny_storeName_local (env := envOfC _ _ s.heap.objs.size 726 _) rfl hns₂ (fun h₃ hn₃ hs₃ => ?_) rfl
    have hs₃' : Heap.SameBut s.heap.objs.size h₂ h₃ := hs₃
    have S₃ := S₂'.late hL (I.neP hL) hL₂ hs₃'
    have hoC₃ : h₃.get? (s.heap.objs.size + 1) = some oC := (hs₃'.2 _ (Nat.succ_ne_self _)).trans hoC₂
    have S₄ := HStep.freeze S₃ hL1 hC₂ (I.neP hL1) hoC₃
    refine wpAny_execs_cons (wpAny_Return_some (wpAny_Name (wpAny_loadName_local (env := envOfC _ _ s.heap.objs.size 726 _) (v := .ref f) rfl rfl hn₃ rfl ?_) (by decide)))
    have hle : VLe H₂ (H₂.add (s.heap.objs.size + 1) oC) := View.le_add hC₂
    refine q f _ h₃ _ S₄ ⟨_, _, _, _, hle _ _ hf⟩ fun m x d ih => ?_
    refine Fun.closure (ρc := fun y => if y = Str.ofString "adapter" then some (.ref 42) else none) (ps := [Str.ofString "data"]) (hle _ _ hf) (hle _ _ hc1) hc2 hc3 ?_ ?_ ?_ ?_ ?_ ?_
    · intro vs hl; obtain ⟨v, rfl⟩ := one_of hl rfl; rfl
    · decide
    · decide
    · intro y a e
      rw [List.lookup_cons] at e
      cases hy : (y == Str.ofString "adapter") with
      | true =>
        rw [hy] at e
        cases e
        exact ⟨oC, _, View.add_self, hdC, if_pos (eq_of_beq hy)⟩
      | false => rw [hy] at e; cases e
    · intro y hy
      have hy' : y = Str.ofString "adapter" := by
        by_cases e1 : y = Str.ofString "adapter"
        · exact e1
        · exfalso
          have := mem_of_lookup hy
          simp at this
          exact e1 this
      subst hy'
      exact ⟨by decide, _, rfl⟩
    · intro vs H₁ L k R
      obtain ⟨v, rfl⟩ := one_of R.length rfl
      exact PE.call rfl (.inl (by rw [hK]; k_is)) (.fn (by rw [hK]; k_is)) (PEs.two (PE.name (v := v) rfl R.one (.inl rfl)) (PE.name (v := .ref 42) rfl (.raw _) (.inr (.inr rfl)))) (ih H₁ k)
end
end Mine
namespace Mine

/-- arrays of arrays and of figures -/
inductive D.Arr : D → Prop
  | num (i : Nat) : i < 10 → D.Arr (.int (i : Int))
  | node (l : List D) : (∀ t ∈ l, t.Arr) → D.Arr (.list l)

abbrev cod (x : Str) : List Nat := x.cps.toList
theorem cod_append (x y : Str) : cod (x ++ y) = cod x ++ cod y := by
  show (x.cps ++ y.cps).toList = _
  simp
theorem num_txt : ∀ i : Nat, i < 10 → cod (D.int (i : Int)).txt = [48 + i] := by
  intro i hi
  have : ∀ i : Fin 10, cod (D.int ((i.val : Nat) : Int)).txt = [48 + i.val] := by decide
  exact this ⟨i, hi⟩
theorem join_cod (t : Str) (r : List Str) (h : r ≠ []) : cod (Str.join (Str.ofString ",") (t :: r)) = cod t ++ 44 :: cod (Str.join (Str.ofString ",") r) := by
  cases r with
  | nil => exact absurd rfl h
  | cons u r =>
    show cod (t ++ Str.ofString "," ++ Str.join (Str.ofString ",") (u :: r)) = _
    rw [cod_append, cod_append]
    have : cod (Str.ofString ",") = [44] := by decide
    rw [this]; simp
theorem list_cod (l : List D) : cod (D.list l).txt = 123 :: (cod (Str.join (Str.ofString ",") (txts l)) ++ [125]) := by
  rw [D.txt_list, cod_append, cod_append]
  have e1 : cod (Str.ofString "{") = [123] := by decide
  have e2 : cod (Str.ofString "}") = [125] := by decide
  rw [e1, e2]; simp

theorem run_one (p : PS) (ch : Nat) : p.run [ch] = p.next ch := by
  show (p.next ch).bind (fun p' => some p') = _
  cases p.next ch <;> rfl
theorem run_cons (p : PS) (ch : Nat) (r : List Nat) : p.run (ch :: r) = (p.next ch).bind fun p' => p'.run r := rfl

def Reads (t : D) : Prop := ∀ acc r, ∃ p, (PS.mk none (acc :: r)).run (cod t.txt) = some p ∧ ∀ sep, sep = 125 ∨ sep = 44 → p.flush sep = some ⟨none, (acc ++ [t]) :: r⟩

theorem reads_items : ∀ (l : List D), (∀ t ∈ l, Reads t) → l ≠ [] → ∀ acc ds r, (PS.mk none (acc :: ds :: r)).run (cod (Str.join (Str.ofString ",") (txts l)) ++ [125]) = some ⟨none, (ds ++ [.list (acc ++ l)]) :: r⟩
  | [], _, h, _, _, _ => absurd rfl h
  | [t], hl, _, acc, ds, r => by
    obtain ⟨p, h1, h2⟩ := hl t (by simp) acc (ds :: r)
    show (PS.mk none (acc :: ds :: r)).run (cod t.txt ++ [125]) = _
    rw [PS.run_append, h1]
    show p.run [125] = _
    rw [run_one]
    unfold PS.next
    rw [h2 125 (.inl rfl)]
    rfl
  | t :: u :: l, hl, _, acc, ds, r => by
    obtain ⟨p, h1, h2⟩ := hl t (by simp) acc (ds :: r)
    have ih := reads_items (u :: l) (fun t ht => hl t (List.mem_cons_of_mem _ ht)) (by simp) (acc ++ [t]) ds r
    have e : txts (t :: u :: l) = t.txt :: txts (u :: l) := rfl
    rw [e, join_cod _ _ (by rw [txts]; simp), List.append_assoc, List.cons_append, PS.run_append, h1]
    show p.run (44 :: _) = _
    rw [run_cons]
    unfold PS.next
    rw [h2 44 (.inr rfl)]
    show (PS.mk none ((acc ++ [t]) :: ds :: r)).run _ = _
    rw [ih]; simp

theorem D.Arr.reads {t : D} (h : t.Arr) : Reads t := by
  induction h with
  | num i hi =>
    intro acc r
    rw [num_txt i hi]
    refine ⟨⟨some (48 + i), acc :: r⟩, ?_, fun sep hs => ?_⟩
    · rw [run_one]
      show PS.read (acc :: r) (48 + i) = _
      unfold PS.read
      rw [if_neg (by omega), if_neg (by omega), if_neg (by omega), if_pos (by omega)]
    · unfold PS.flush
      dsimp only
      rw [if_pos hs]
      have : 48 + i - 48 = i := by omega
      rw [this]
  | node l hl ih =>
    intro acc r
    refine ⟨⟨Option.none, (acc ++ [.list l]) :: r⟩, ?_, fun sep hs => rfl⟩
    rw [list_cod, run_cons]
    show (PS.mk Option.none ([] :: acc :: r)).run _ = _
    cases l with
    | nil => rfl
    | cons t l => exact reads_items (t :: l) ih (by simp) [] acc r

theorem D.Arr.runs {l : List D} (h : (D.list l).Arr) : (PS.mk Option.none [[]]).run (cod (D.list l).txt) = some ⟨Option.none, [[.list l]]⟩ := by
  obtain ⟨p, h1, h2⟩ := h.reads [] []
  rw [h1]
  have h3 := h2 125 (.inl rfl)
  rw [list_cod, run_cons] at h1
  have h1' : (PS.mk Option.none [[], []]).run (cod (Str.join (Str.ofString ",") (txts l)) ++ [125]) = some p := h1
  cases h with
  | node _ hl =>
    cases l with
    | nil => cases h1'; rfl
    | cons t l =>
      rw [reads_items (t :: l) (fun t ht => (hl t ht).reads) (by simp) [] [] []] at h1'
      cases h1'; rfl
end Mine
namespace Mine
section
variable {c : Cfg}
theorem Call_Call {M : Model} {A : Around} {E : Value → Shared → Prop} {s : Shared} {env : Env} {g : Expr} {as args : List Expr} {p pos : Pos} {Q : Value → Shared → Prop}
    (h : wpAny M A (eval (.Call g as [] p) env) (fun f s₁ => wpAny M A (callWith pos f [] (backTo pos (starEach args env)) []) Q E s₁) E s) : wpAny M A (eval (.Call (.Call g as [] p) args [] pos) env) Q E s := by
  show wpAny M A (do callWith pos (← eval (.Call g as [] p) env) [] (backTo pos (starEach args env)) (backToKw pos (keywordEach [] env))) Q E s
  exact wpAny_bind h

theorem int_array_in_sp (X : Cst c) {n : Nat} {H : View} {l : List D} (hl : (D.list l).Arr) (hsz : szs l ≤ 900000) : Fun c (n + 6) (.ref 733) H [.str (D.list l).txt] (.list l) := by
  have hK := X.hK
  refine' Fun.enter (ps := [Str.ofString "data"]) ?ho ?hcd ?hbind ?hloc ?hcell ?h ?h1 ?h2 ?h3
  case ho => rw [hK]; k_is
  case hcd => rw [hK]; k_is
  case h1 => rfl
  case h2 => rfl
  case h3 => rfl
  case hcell => decide
  case hloc => decide
  case hbind => intro vs hl; obtain ⟨v, rfl⟩ := one_of hl rfl; rfl
  case h =>
    intro vs H₁ L k R
    obtain ⟨v, rfl⟩ := one_of R.length rfl
    refine SR.ret ⟨fun A ok s H₂ k₂ I F Q E q => ?_⟩
    refine Call_Call (Call_Name rfl (ldGlob I F rfl (v := .ref 726) (.inl (by rw [hK]; k_is)) (by decide) ?_))
    refine callWith_any (.fn (by rw [hK]; k_is)) (PEs.one (PE.glob (v := .ref 42) (.inl (by rw [hK]; k_is)) rfl)) A ok s H₂ (k₂) I F _ _ fun vs H₃ h₃ t₃ S₃ R₃ => ?_
    cases R₃ with
    | cons r t =>
      cases t
      cases r
      refine array_in_sp X (n := n) (s := { s with heap := h₃, toks := t₃ }) (ok.le (by omega)) S₃.inv fun f H₄ h₄ t₄ S₄ hf hF => ?_
      obtain ⟨oc, od, fd, sl, hf⟩ := hf
      have S := S₃.trans S₄ I
      have hx : (D.list l).txt.cps.size ≤ 1000000 := by
        have := D.txt_le (.list l)
        rw [D.sz] at this
        have e : (D.list l).txt.length = (D.list l).txt.cps.size := rfl
        omega
      have F₄ := hF (n + 3) (D.list l).txt (.list l) (fun H'' _ => parse_array hK hx hl.runs)
      refine callWith_F ⟨oc, od, fd, sl, S₄.inv.le _ _ hf⟩ ?_
      refine PEs.spl (PEs.one (PE.name (v := v) rfl R.one (.inl rfl))) A ok { s with heap := h₄, toks := t₄ } H₄ (k₂.trans S.up) S₄.inv (F.step S) _ _ fun vs H₅ h₅ t₅ S₅ R₅ => ?_
      refine ⟨⟨oc, od, fd, sl, S₅.inv.le _ _ (S₅.up _ _ hf)⟩, ?_⟩
      exact F₄.run A (ok.le (by omega)) { s with heap := h₅, toks := t₅ } H₅ vs S₅.up S₅.inv R₅ Q E fun v H' h' tk' S' R' => q v H' h' tk' ((S.trans S₅ I).trans S' I) R'
end
end Mine
namespace Mine
def bitsOf (m : Nat) : List Nat := (List.range (Builtin.Int.intBits (m : Int))).filter fun k => m / 2 ^ k % 2 != 0
def tr : Nat → Nat → D
  | 0, _ => .list []
  | f + 1, m => .list ((bitsOf m).map (tr f))
def lim : Nat → Nat
  | 0 => 1
  | f + 1 => 2 ^ lim f
def trS : Nat → Nat
  | 0 => 2
  | f + 1 => 2 + lim f * (trS f + 1)

theorem bits_lt {m k : Nat} (h : k ∈ bitsOf m) : 2 ^ k ≤ m := by
  unfold bitsOf at h
  rw [List.mem_filter] at h
  have h2 := h.2
  by_cases hh : 2 ^ k ≤ m
  · exact hh
  · rw [Nat.div_eq_of_lt (by omega)] at h2; simp at h2
theorem bits_lim {m k f : Nat} (h : k ∈ bitsOf m) (hm : m < lim (f + 1)) : k < lim f := by
  have h1 := bits_lt h
  by_cases hh : k < lim f
  · exact hh
  · have : 2 ^ lim f ≤ 2 ^ k := Nat.pow_le_pow_right (by decide) (by omega)
    have e : lim (f + 1) = 2 ^ lim f := rfl
    omega
theorem bits_zero : bitsOf 0 = [] := by decide
theorem bits_le {m : Nat} : ∀ {B : Nat}, m < 2 ^ B → (bitsOf m).length ≤ B := by
  intro B h
  have hsub : ∀ k ∈ bitsOf m, k < B := fun k hk => by
    have h1 := bits_lt hk
    by_cases hh : k < B
    · exact hh
    · have : 2 ^ B ≤ 2 ^ k := Nat.pow_le_pow_right (by decide) (by omega)
      omega
  have hnd : (bitsOf m).Nodup := (List.nodup_range).filter _
  have := (List.nodup_range (n := B))
  have hs : (bitsOf m) ⊆ List.range B := fun k hk => List.mem_range.mpr (hsub k hk)
  have := List.Nodup.length_le_of_subset hnd hs
  simpa using this

theorem szs_le {l : List D} {B : Nat} (h : ∀ t ∈ l, t.sz ≤ B) : szs l ≤ l.length * (B + 1) := by
  induction l with
  | nil => simp [szs]
  | cons t r ih =>
    have h1 := h t (by simp)
    have h2 := ih fun t ht => h t (List.mem_cons_of_mem _ ht)
    rw [szs, List.length_cons, Nat.succ_mul]
    omega
theorem tr_sz : ∀ f m, m < lim f → (tr f m).sz ≤ trS f
  | 0, m, h => by simp [tr, D.sz, szs, trS]
  | f + 1, m, h => by
    have h1 : szs ((bitsOf m).map (tr f)) ≤ ((bitsOf m).map (tr f)).length * (trS f + 1) := szs_le fun t ht => by
      obtain ⟨k, hk, rfl⟩ := List.mem_map.mp ht
      exact tr_sz f k (bits_lim hk h)
    have h2 : (bitsOf m).length ≤ lim f := bits_le (B := lim f) h
    rw [List.length_map] at h1
    have h3 : (bitsOf m).length * (trS f + 1) ≤ lim f * (trS f + 1) := Nat.mul_le_mul_right _ h2
    show szs ((bitsOf m).map (tr f)) + 2 ≤ 2 + lim f * (trS f + 1)
    omega
theorem tr_szs {f m : Nat} (h : m < lim (f + 1)) : szs ((bitsOf m).map (tr f)) + 2 ≤ trS (f + 1) := by
  have := tr_sz (f + 1) m h
  exact this
theorem trS4 : trS 4 = 1010 := by decide
theorem lim4 : lim 4 = 65536 := by decide

theorem tr_arr : ∀ f m, (tr f m).Arr
  | 0, m => .node _ (by simp)
  | f + 1, m => .node _ fun t ht => by
    obtain ⟨k, hk, rfl⟩ := List.mem_map.mp ht
    exact tr_arr f k
end Mine
namespace Mine

def bitP (m : Nat) : D → Bool
  | .int k => Builtin.bitAnd ((m : Int).fdiv (2 ^ k.toNat)) 1 != 0
  | _ => false
def txtG (T : Nat → D) : D → D
  | .int k => .str (T k.toNat).txt
  | _ => .none
theorem bit_eq (m k : Nat) : bitP m (.int (k : Int)) = (m / 2 ^ k % 2 != 0) := by
  show (Builtin.bitAnd ((m : Int).fdiv (2 ^ ((k : Int)).toNat)) 1 != 0) = _
  rw [bitAnd_m1]
  have h1 : ((k : Int)).toNat = k := rfl
  have h2 : ((m : Int).fdiv (2 ^ k)) = ((m / 2 ^ k : Nat) : Int) := by
    have : ((2 : Int) ^ k) = ((2 ^ k : Nat) : Int) := by simp
    rw [this, Int.fdiv_eq_ediv_of_nonneg _ (Int.natCast_nonneg _)]
    rfl
  rw [h1, h2, Bool.eq_iff_iff]
  simp only [bne_iff_ne, ne_eq]
  omega
theorem bits_texts (m : Nat) (T : Nat → D) : ((((List.range (Builtin.Int.intBits (m : Int))).map fun (i : Nat) => D.int (i : Int)).filter (bitP m)).map (txtG T)) = (txts ((bitsOf m).map T)).map D.str := by
  rw [List.filter_map, List.map_map, txts_map, List.map_map, List.map_map]
  unfold bitsOf
  have : (bitP m ∘ fun (i : Nat) => D.int (i : Int)) = fun k => m / 2 ^ k % 2 != 0 := by
    funext k; exact bit_eq m k
  rw [this]
  rfl

theorem intBits_le {m B : Nat} (h : m < 2 ^ B) : Builtin.Int.intBits (m : Int) ≤ B := by
  unfold Builtin.Int.intBits
  split
  · exact Nat.zero_le _
  · rename_i h0
    have h0' : m ≠ 0 := by intro e; subst e; exact h0 rfl
    have : m.log2 < B := (Nat.log2_lt h0').mpr h
    show m.log2 + 1 ≤ B
    omega
theorem free_one {env : Env} {x : Str} {b : Addr} (h1 : env.cells.lookup x = some b) (h2 : env.kindOf x = some .cell ∨ env.kindOf x = some .free) : ∀ y a, [(x, b)].lookup y = some a → env.cells.lookup y = some a ∧ (env.kindOf y = some .cell ∨ env.kindOf y = some .free) := by
  intro y a e
  rw [List.lookup_cons] at e
  cases hy : (y == x) with
  | true => rw [hy] at e; cases e; rw [eq_of_beq hy]; exact ⟨h1, h2⟩
  | false => rw [hy] at e; cases e
theorem kind_one {names : List (Str × NameKind)} {x : Str} {b : Addr} (h : names.lookup x = some .cell ∨ names.lookup x = some .free) : ∀ y a, [(x, b)].lookup y = some a → names.lookup y = some .cell ∨ names.lookup y = some .free := by
  intro y a e
  rw [List.lookup_cons] at e
  cases hy : (y == x) with
  | true => rw [hy] at e; cases e; rw [eq_of_beq hy]; exact h
  | false => rw [hy] at e; cases e

section
variable {c : Cfg}
theorem law_text_step (X : Cst c) {n : Nat} {H : View} {m : Nat} {T : Nat → D} (hm : m < 2 ^ 16) (hsz : szs ((bitsOf m).map T) ≤ 100000) (ih : ∀ k ∈ bitsOf m, ∀ H', VLe H H' → Fun c n (.ref 764) H' [.int (k : Int)] (.str (T k).txt)) :
    Fun c (n + 1) (.ref 764) H [.int (m : Int)] (.str (D.list ((bitsOf m).map T)).txt) := by
  have hK := X.hK
  refine' Fun.enterC (ps := [Str.ofString "number"]) ?ho ?hcd ?hbind ?hkind ?h ?h1 ?h2 ?h3
  case ho => rw [hK]; k_is
  case hcd => rw [hK]; k_is
  case h1 => rfl
  case h2 => rfl
  case h3 => rfl
  case hbind => intro vs hl; obtain ⟨v, rfl⟩ := one_of hl rfl; rfl
  case hkind =>
    intro L x hx
    rw [List.mem_singleton.mp hx]
    exact .inr ⟨rfl, rfl⟩
  case h =>
    intro vs H₁ L k R
    obtain ⟨v, rfl⟩ := one_of R.length rfl
    have r := R.one
    rw [D.txt_list]
    have hb16 := intBits_le hm
    have hLine : sizeLine = 16777216 := by decide
    have hlen : ((List.range (Builtin.Int.intBits (m : Int))).map fun (i : Nat) => D.int (i : Int)).length ≤ sizeLine := by
      rw [List.length_map, List.length_range]; omega
    have hb : Builtin.Int.intBits (m : Int) < 2 ^ 31 := by omega
    have hj : (Str.join (Str.ofString ",") (txts ((bitsOf m).map T))).length ≤ 100000 := by
      have h1 := StrLaws.join_length_le (Str.ofString ",") (txts ((bitsOf m).map T))
      have h2 := txts_le ((bitsOf m).map T)
      have e2 : (Str.ofString ",").length = 1 := by decide
      rw [e2] at h1
      omega
    have l1 : (Str.ofString "{").length = 1 := by decide
    have l2 : (Str.ofString "}").length = 1 := by decide
    refine SR.ret (PE.bin (PE.bin PE.constStr (PE.meth (d₀ := .str (Str.ofString ",")) (ds := [.list ((txts ((bitsOf m).map T)).map D.str)]) PE.constStr MethR.join (PEs.one ?_) (Fun.join (D.joinOk (by omega))) (.mk (fun _ _ => rfl) (fun _ => rfl) (by decide) (by decide))) (BinR.addStr ?_)) PE.constStr (BinR.addStr ?_))
    · rw [← bits_texts]
      refine PE.listComp (cl := [(Str.ofString "number", L + 1)]) ⟨rfl, ?_, ?_⟩ (by decide) rfl (by decide) rfl (IT.range rfl (globB (by rw [hK]; k_is) (by decide +kernel)) (PE.meth0 (PE.name (v := v) rfl r (.inr (.inl rfl))) MethR.bitLength Fun.bitLength (.mk (fun _ _ => rfl) (fun _ => rfl) (by decide) (by decide))) hb) hlen ?_
      · exact free_one rfl (.inl rfl)
      · exact kind_one (.inl rfl)
      · intro C d u H' hd hH ru
        obtain ⟨i, hi, rfl⟩ := List.mem_map.mp hd
        refine ⟨.one (PT.int (PE.bin (PE.bin (PE.name (v := v) rfl (r.mono hH) (.inr (.inl rfl))) (PE.name (v := u) rfl ru (.inl rfl)) (BinR.shrI (by omega))) PE.constInt BinR.andI)), fun hp => ?_⟩
        have hk : i ∈ bitsOf m := by
          unfold bitsOf
          rw [List.mem_filter]
          exact ⟨hi, by rw [← bit_eq]; exact hp⟩
        exact PE.call rfl (.inl (by rw [hK]; k_is)) (.fn (by rw [hK]; k_is)) (PEs.one (PE.name (v := u) rfl ru (.inl rfl))) (ih i hk H' (k.trans hH))
    · omega
    · rw [Str.length_append]; omega

theorem law_text_sp (X : Cst c) : ∀ (f : Nat), f ≤ 4 → ∀ (m : Nat), m < lim f → ∀ (n : Nat) (H : View), Fun c (n + f + 1) (.ref 764) H [.int (m : Int)] (.str (tr f m).txt)
  | 0, _, m, hm, n, H => by
    have h0 : m = 0 := by have : lim 0 = 1 := rfl; omega
    subst h0
    have := law_text_step X (n := n) (H := H) (m := 0) (T := fun _ => .none) (by decide) (by rw [bits_zero]; decide) (fun k hk => by rw [bits_zero] at hk; cases hk)
    rw [bits_zero] at this
    exact this
  | f + 1, hf, m, hm, n, H => by
    have hmono : lim (f + 1) ≤ 65536 ∧ trS (f + 1) ≤ 1010 := by
      have : f = 0 ∨ f = 1 ∨ f = 2 ∨ f = 3 := by omega
      rcases this with rfl | rfl | rfl | rfl <;> decide
    have hs := tr_szs hm
    exact (law_text_step X (n := n + f + 1) (T := tr f) (by omega) (by omega) fun k hk H' _ => law_text_sp X f (by omega) k (bits_lim hk hm) n H')
end
end Mine
namespace Mine

abbrev Rise (l : List Nat) : Prop := l.Pairwise (· < ·)

theorem below_go (xs : Array Nat) (j : Nat) (hr : Rise xs.toList) : ∀ (fuel lo hi : Nat), hi - lo ≤ fuel → lo ≤ hi → hi ≤ xs.size → (∀ k, k < lo → xs.getD k 0 < j) → (∀ k, hi ≤ k → k < xs.size → j ≤ xs.getD k 0) →
    SetTable.below.go xs j fuel lo hi ≤ xs.size ∧ (∀ k, k < SetTable.below.go xs j fuel lo hi → xs.getD k 0 < j) ∧ (∀ k, SetTable.below.go xs j fuel lo hi ≤ k → k < xs.size → j ≤ xs.getD k 0)
  | 0, lo, hi, hf, hle, hs, h1, h2 => by
    have : lo = hi := by omega
    subst this
    exact ⟨hs, h1, h2⟩
  | fuel + 1, lo, hi, hf, hle, hs, h1, h2 => by
    unfold SetTable.below.go
    by_cases hlt : lo < hi
    · rw [if_pos hlt]
      dsimp only
      have hm1 : lo ≤ (lo + hi) / 2 := by omega
      have hm2 : (lo + hi) / 2 < hi := by omega
      generalize (lo + hi) / 2 = mid at hm1 hm2 ⊢
      have hms : mid < xs.size := by omega
      have hd : xs.getD mid j = xs.getD mid 0 := by simp [Array.getD, hms]
      have mono : ∀ a b, a < b → b < xs.size → xs.getD a 0 < xs.getD b 0 := by
        intro a b hab hb
        have h3 := List.pairwise_iff_getElem.mp hr a b (by simpa using (by omega : a < xs.size)) (by simpa using hb) hab
        have ea : xs.getD a 0 = xs.toList[a]'(by simpa using (by omega : a < xs.size)) := by simp [Array.getD, (by omega : a < xs.size)]
        have eb : xs.getD b 0 = xs.toList[b]'(by simpa using hb) := by simp [Array.getD, hb]
        rw [ea, eb]; exact h3
      rw [hd]
      by_cases hc : xs.getD mid 0 < j
      · rw [if_pos hc]
        refine below_go xs j hr fuel (mid + 1) hi (by omega) (by omega) hs (fun k hk => ?_) h2
        by_cases hkm : k = mid
        · rw [hkm]; exact hc
        · have := mono k mid (by omega) hms; omega
      · rw [if_neg hc]
        refine below_go xs j hr fuel lo mid (by omega) (by omega) (by omega) h1 (fun k hk hks => ?_)
        by_cases hkm : k = mid
        · rw [hkm]; omega
        · have := mono mid k (by omega) hks; omega
    · rw [if_neg hlt]
      have : lo = hi := by omega
      subst this
      exact ⟨hs, h1, h2⟩

theorem below_sp {xs : Array Nat} {j : Nat} (hr : Rise xs.toList) : SetTable.below xs j ≤ xs.size ∧ (∀ k, k < SetTable.below xs j → xs.getD k 0 < j) ∧ (∀ k, SetTable.below xs j ≤ k → k < xs.size → j ≤ xs.getD k 0) :=
  below_go xs j hr xs.size 0 xs.size (by omega) (by omega) (Nat.le_refl _) (fun k hk => by omega) (fun k h1 h2 => by omega)

theorem getD_list {xs : Array Nat} {k : Nat} (h : k < xs.size) : xs.toList[k]'(by simpa using h) = xs.getD k 0 := by simp [Array.getD, h]

theorem rise_insert {xs : Array Nat} {j : Nat} (hr : Rise xs.toList) (hn : (xs[SetTable.below xs j]? == some j) = false) : Rise (SetTable.insertAt xs (SetTable.below xs j) j).toList := by
  obtain ⟨h0, h1, h2⟩ := below_sp (j := j) hr
  rw [SetTable.toList_insertAt]
  generalize hp : SetTable.below xs j = p at *
  have ht : ∀ y ∈ xs.toList.take p, y < j := by
    intro y hy
    obtain ⟨i, hi, rfl⟩ := List.mem_iff_getElem.mp hy
    have hi' : i < p ∧ i < xs.size := by simp at hi; omega
    rw [List.getElem_take, getD_list hi'.2]
    exact h1 i hi'.1
  have hd : ∀ y ∈ xs.toList.drop p, j < y := by
    intro y hy
    obtain ⟨i, hi, rfl⟩ := List.mem_iff_getElem.mp hy
    have hi' : p + i < xs.size := by simp at hi; omega
    rw [List.getElem_drop, getD_list hi']
    have h3 := h2 (p + i) (by omega) hi'
    by_cases he : j = xs.getD (p + i) 0
    · exfalso
      have hp' : p < xs.size := by omega
      have h4 := h2 p (Nat.le_refl _) hp'
      have h5 : xs.getD p 0 ≤ xs.getD (p + i) 0 := by
        by_cases hi0 : i = 0
        · subst hi0; exact Nat.le_refl _
        · have := List.pairwise_iff_getElem.mp hr p (p + i) (by simpa using hp') (by simpa using hi') (by omega)
          rw [getD_list hp', getD_list hi'] at this
          omega
      have h6 : xs.getD p 0 = j := by omega
      have : xs[p]? = some j := by
        rw [Array.getElem?_eq_getElem hp']
        have : xs.getD p 0 = xs[p] := by simp [Array.getD, hp']
        rw [← this, h6]
      rw [this] at hn
      simp at hn
    · omega
  have e : ∀ l1 l2 : List Nat, Rise l1 → Rise l2 → (∀ y ∈ l1, y < j) → (∀ y ∈ l2, j < y) → Rise (l1 ++ j :: l2) := by
    intro l1 l2 r1 r2 a1 a2
    refine List.pairwise_append.mpr ⟨r1, List.pairwise_cons.mpr ⟨a2, r2⟩, fun a ha b hb => ?_⟩
    rcases List.mem_cons.mp hb with rfl | hb
    · exact a1 a ha
    · have := a1 a ha; have := a2 b hb; omega
  have := e _ _ (hr.sublist (List.take_sublist p _)) (hr.sublist (List.drop_sublist p _)) ht hd
  simpa using this

/-- where the walk goes on -/
theorem below_next {xs : Array Nat} {i j : Nat} (hr : Rise xs.toList) (hi : xs[i]? = some j) : SetTable.below xs (j + 1) = i + 1 := by
  obtain ⟨h0, h1, h2⟩ := below_sp (j := j + 1) hr
  have his : i < xs.size := by
    by_cases h : i < xs.size
    · exact h
    · rw [Array.getElem?_eq_none (by omega)] at hi; cases hi
  have hj : xs.getD i 0 = j := by
    rw [Array.getElem?_eq_getElem his] at hi
    have : xs.getD i 0 = xs[i] := by simp [Array.getD, his]
    rw [this]; exact Option.some.inj hi
  have mono : ∀ a b, a < b → b < xs.size → xs.getD a 0 < xs.getD b 0 := by
    intro a b hab hb
    have h3 := List.pairwise_iff_getElem.mp hr a b (by simpa using (by omega : a < xs.size)) (by simpa using hb) hab
    rwa [getD_list (by omega), getD_list hb] at h3
  rcases Nat.lt_trichotomy (SetTable.below xs (j + 1)) (i + 1) with h | h | h
  · have h3 := h2 i (by omega) his
    omega
  · exact h
  · have h3 := h1 (i + 1) h
    have h4 := mono i (i + 1) (by omega) (by omega)
    omega
theorem below_zero {xs : Array Nat} (hr : Rise xs.toList) : SetTable.below xs 0 = 0 := by
  obtain ⟨h0, h1, h2⟩ := below_sp (j := 0) hr
  by_cases h : SetTable.below xs 0 = 0
  · exact h
  · have := h1 0 (by omega); omega

/-- what is kept of a table -/
structure TI (b : Bool) (t : SetTable) : Prop where
  led : t.led = !b
  dum : t.dummies = #[]
  rise : Rise t.place.toList

theorem has_nil (j : Nat) : SetTable.has #[] j = false := by
  unfold SetTable.has; simp

theorem probe_empty {t : SetTable} (hd : t.dummies = #[]) {f : Nat → Int} {h : Int} : ∀ (fuel : Nat) (p : SetTable.Probe), p.dummy = none → ∀ j dm, SetTable.probe.go t f h fuel p = some (.empty j dm) → dm = none ∧ (t.place[SetTable.below t.place j]? == some j) = false
  | 0, p, _, j, dm, e => by simp [SetTable.probe.go] at e
  | fuel + 1, p, hp, j, dm, e => by
    unfold SetTable.probe.go at e
    have hadv : ∀ q : SetTable.Probe, q.dummy = none → (t.advance q).dummy = none := by
      intro q hq
      unfold SetTable.advance
      split
      · exact hq
      · exact hq
    cases hs : t.slot p.j with
    | empty =>
      rw [hs] at e
      cases e
      refine ⟨hp, ?_⟩
      unfold SetTable.slot at hs
      dsimp only at hs
      split at hs
      · cases hs
      · rename_i hh; simpa using hh
    | dummy =>
      unfold SetTable.slot at hs
      dsimp only at hs
      rw [hd, has_nil] at hs
      split at hs
      · cases hs
      · cases hs
    | live i =>
      rw [hs] at e
      dsimp only at e
      split at e
      · cases e
      · exact probe_empty hd fuel _ (hadv p hp) j dm e

theorem TI.freeSlot {b : Bool} {t : SetTable} (x : TI b t) {h : Int} {slot : Nat} {wd : Bool} (e : t.freeSlot h = some (slot, wd)) : (t.place[SetTable.below t.place slot]? == some slot) = false := by
  unfold SetTable.freeSlot at e
  split at e
  · rename_i j dm hq
    cases e
    have := probe_empty x.dum _ _ rfl _ _ hq
    rw [this.1]
    exact this.2
  · cases e
theorem TI.put {b : Bool} {t : SetTable} (x : TI b t) {j : Nat} (hn : (t.place[SetTable.below t.place j]? == some j) = false) : TI b (t.put j).1 := by
  refine ⟨x.led, ?_, rise_insert x.rise hn⟩
  unfold SetTable.put
  dsimp only
  rw [x.dum, has_nil]
  rfl
theorem TI.standIn {b : Bool} {t : SetTable} (x : TI b t) (n : Nat) : TI b (t.standIn n) := by
  refine ⟨x.led, rfl, ?_⟩
  show Rise (Array.range n).toList
  rw [Array.toList_range]
  exact List.pairwise_lt_range
theorem TI.orStandIn {b : Bool} {t : SetTable} (x : TI b t) (n : Nat) : TI b (t.orStandIn n) := by
  unfold SetTable.orStandIn
  split
  · exact x
  · exact x.standIn n
theorem TI.layNew {b : Bool} {t : SetTable} (x : TI b t) (es : Array (Int × Value)) (h : Int) (v : Value) : TI b (PySem.layNew t es h v).2.1 := by
  unfold PySem.layNew
  split
  · rename_i slot wd e
    exact (x.put (x.freeSlot e)).orStandIn _
  · exact x.standIn _
theorem TI.laid {b : Bool} {mask finger moves : Nat} {led plain : Bool} {hashes : Array Int} {t' : SetTable} {o : Array Nat} (hl : led = !b) (e : SetTable.laid mask finger moves led plain hashes = some (t', o)) : TI b t' := by
  unfold SetTable.laid at e
  cases ho : SetTable.layClean mask hashes with
  | none => rw [ho] at e; cases e
  | some owner =>
    rw [ho] at e
    have e : some _ = some (t', o) := e
    cases e
    refine ⟨hl, rfl, ?_⟩
    show Rise (List.map _ _)
    have hsub : ∀ (l : List Nat), List.Sublist (((l.filterMap fun j => (owner.getD j none).map (j, ·)).map (·.1))) l := by
      intro l
      induction l with
      | nil => exact .slnil
      | cons a r ih =>
        rw [List.filterMap_cons]
        cases h2 : (owner.getD a none) with
        | none => exact .cons _ ih
        | some z => exact .cons_cons _ ih
    exact List.pairwise_lt_range.sublist (hsub _)
theorem TI.relayAll {b : Bool} {t : SetTable} (x : TI b t) (es : Array (Int × Value)) (wanted : Nat) : TI b (PySem.relayAll t es wanted).2.1 := by
  unfold PySem.relayAll
  split
  · rename_i t' o e
    dsimp only
    split
    · exact TI.laid x.led e
    · exact x.standIn _
  · exact x.standIn _
end Mine
namespace Mine

def keyN (e : Int × Value) : Nat := match e.2 with | .int k _ => k.toNat | _ => 0

/-- the table of a small set of small numbers -/
structure TJ (b : Bool) (es : Array (Int × Value)) (t : SetTable) : Prop where
  ti : TI b t
  plain : t.plain = true
  keys : ∀ e ∈ es.toList, ∃ (k : Nat) (u : Tok), k < 32 ∧ e = (((k : Nat) : Int), .int (k : Int) u)
  nd : (es.toList.map keyN).Nodup
  fit : t.place.size = es.size
  mode : (t.mask = 7 ∧ es.size ≤ 4) ∨ (t.mask = 31 ∧ t.place.toList = es.toList.map keyN)

theorem bits_small {k : Nat} (h : k < 32) : SetTable.bits ((k : Nat) : Int) = k := by
  unfold SetTable.bits
  have : ((k : Int) % (2 ^ 64 : Int)) = k := Int.emod_eq_of_lt (by omega) (by omega)
  rw [this]; rfl

theorem slot_live {t : SetTable} {j : Nat} (hd : t.dummies = #[]) : (∃ i, t.slot j = .live i ∧ j ∈ t.place.toList) ∨ (t.slot j = .empty ∧ (t.place[SetTable.below t.place j]? == some j) = false) := by
  unfold SetTable.slot
  dsimp only
  by_cases h : (t.place[SetTable.below t.place j]? == some j) = true
  · rw [if_pos h]
    refine .inl ⟨_, rfl, ?_⟩
    have := eq_of_beq h
    exact List.mem_of_getElem? (by simpa using this)
  · rw [if_neg h, hd, has_nil]
    exact .inr ⟨rfl, by simpa using h⟩

/-- the walk over eight slots -/
theorem probe_eight {t : SetTable} (hd : t.dummies = #[]) (hm : t.mask = 7) {f : Nat → Int} {h : Int} (hf : ∀ i, (f i == h) = false) : ∀ (fuel : Nat) (i : Nat), i < 8 →
    (∃ j, SetTable.probe.go t f h fuel ⟨i, 0, i, 0, none⟩ = some (.empty j none)) ∨ (∀ n, n < fuel → (Nat.rec i (fun _ x => (x * 5 + 1) % 8) n : Nat) ∈ t.place.toList)
  | 0, i, _ => .inr fun n hn => by omega
  | fuel + 1, i, hi => by
    unfold SetTable.probe.go
    rcases slot_live (j := i) hd with ⟨l, h1, h2⟩ | ⟨h1, h2⟩
    · rw [h1]
      dsimp only
      rw [hf, if_neg (by decide)]
      have hadv : t.advance ⟨i, 0, i, 0, none⟩ = ⟨(i * 5 + 1) % 8, 0, (i * 5 + 1) % 8, 0, none⟩ := by
        unfold SetTable.advance SetTable.leap SetTable.runEnd
        rw [hm]
        have : (i * 5 + 1 + 0 / 32) % (7 + 1) = (i * 5 + 1) % 8 := by simp
        dsimp only
        rw [if_neg (by decide), this]
        have h8 : (i * 5 + 1) % 8 < 8 := Nat.mod_lt _ (by decide)
        rw [if_neg (by omega)]
        simp
      rw [hadv]
      rcases probe_eight hd hm hf fuel ((i * 5 + 1) % 8) (Nat.mod_lt _ (by decide)) with h3 | h3
      · exact .inl h3
      · refine .inr fun n hn => ?_
        cases n with
        | zero => exact h2
        | succ n =>
          have h4 := h3 n (by omega)
          have e : ∀ n, (Nat.rec ((i * 5 + 1) % 8) (fun _ x => (x * 5 + 1) % 8) n : Nat) = (Nat.rec i (fun _ x => (x * 5 + 1) % 8) (n + 1) : Nat) := by
            intro n
            induction n with
            | zero => rfl
            | succ n ih => show (_ * 5 + 1) % 8 = (_ * 5 + 1) % 8; rw [ih]
          rw [← e]; exact h4
    · rw [h1]
      exact .inl ⟨i, rfl⟩

theorem eight_cover : ∀ i : Fin 8, ∀ j : Fin 8, ∃ n : Fin 8, (Nat.rec i.val (fun _ x => (x * 5 + 1) % 8) n.val : Nat) = j.val := by decide

theorem free_seven {b : Bool} {es : Array (Int × Value)} {t : SetTable} (x : TJ b es t) (hm : t.mask = 7) (hs : es.size ≤ 4) {k : Nat} (hk : k < 32) : ∃ j, t.freeSlot (k : Int) = some (j, false) := by
  unfold SetTable.freeSlot SetTable.probe SetTable.probeStart
  rw [bits_small hk, hm]
  have hlt : k % 8 < 8 := Nat.mod_lt _ (by decide)
  have hrun : SetTable.runEnd 7 (k % (7 + 1)) = k % 8 := by
    unfold SetTable.runEnd
    rw [if_neg (by show ¬ (k % 8 + 9 ≤ 7); omega)]
  dsimp only
  rw [hrun]
  have hz : k % (7 + 1) = k % 8 := rfl
  rw [hz, Nat.sub_self]
  have hf : ∀ i : Nat, ((fun (_ : Nat) => (k : Int) + 1) i == (k : Int)) = false := fun i => by simp; omega
  have hturn : 10 * SetTable.turns 7 = 219 + 1 := by decide
  rw [hturn]
  -- the first step alone carries the hash along
  unfold SetTable.probe.go
  rcases slot_live (j := k % 8) x.ti.dum with ⟨l, h1, h2⟩ | ⟨h1, h2⟩
  · dsimp only
    rw [h1]
    dsimp only
    rw [hf 0, if_neg (by decide)]
    have hadv : t.advance ⟨k % 8, 0, k % 8, k, none⟩ = ⟨(k % 8 * 5 + 1) % 8, 0, (k % 8 * 5 + 1) % 8, 0, none⟩ := by
      unfold SetTable.advance SetTable.leap SetTable.runEnd
      rw [hm]
      have h0 : k / 32 = 0 := Nat.div_eq_of_lt hk
      have h8 : (k % 8 * 5 + 1) % 8 < 8 := Nat.mod_lt _ (by decide)
      dsimp only
      rw [if_neg (by decide), h0, Nat.add_zero]
      rw [if_neg (by show ¬ ((k % 8 * 5 + 1) % 8 + 9 ≤ 7); omega)]
      simp
    rw [hadv]
    rcases probe_eight x.ti.dum hm hf 219 ((k % 8 * 5 + 1) % 8) (Nat.mod_lt _ (by decide)) with ⟨j, h3⟩ | h3
    · rw [h3]; exact ⟨j, rfl⟩
    · exfalso
      have hall : ∀ j, j < 8 → j ∈ t.place.toList := fun j hj => by
        obtain ⟨n, hn⟩ := eight_cover ⟨(k % 8 * 5 + 1) % 8, Nat.mod_lt _ (by decide)⟩ ⟨j, hj⟩
        have := h3 n.val (by have := n.isLt; omega)
        rw [show (Nat.rec ((k % 8 * 5 + 1) % 8) (fun _ x => (x * 5 + 1) % 8) n.val : Nat) = j from hn] at this
        exact this
      have hsub : List.range 8 ⊆ t.place.toList := fun j hj => hall j (List.mem_range.mp hj)
      have := List.Nodup.length_le_of_subset (List.nodup_range (n := 8)) hsub
      have e : t.place.toList.length = t.place.size := by simp
      rw [e, x.fit, List.length_range] at this
      omega
  · dsimp only
    rw [h1]
    exact ⟨_, rfl⟩

theorem free_own {b : Bool} {es : Array (Int × Value)} {t : SetTable} (x : TJ b es t) (hm : t.mask = 31) (hp : t.place.toList = es.toList.map keyN) {k : Nat} (hk : k < 32) (hn : k ∉ es.toList.map keyN) : t.freeSlot (k : Int) = some (k, false) := by
  unfold SetTable.freeSlot SetTable.probe SetTable.probeStart
  rw [bits_small hk, hm]
  have hz : k % (31 + 1) = k := Nat.mod_eq_of_lt hk
  rw [hz]
  have hturn : 10 * SetTable.turns 31 = 459 + 1 := by decide
  rw [hturn]
  unfold SetTable.probe.go
  rcases slot_live (j := k) x.ti.dum with ⟨l, h1, h2⟩ | ⟨h1, h2⟩
  · rw [hp] at h2; exact absurd h2 hn
  · dsimp only
    rw [h1]
    rfl

/-! a table laid anew -/
def lay (o : Array (Option Nat)) (k : Nat) : List Nat → Array (Option Nat)
  | [] => o
  | h :: r => lay (o.setIfInBounds h (some k)) (k + 1) r

theorem lay_size : ∀ (hs : List Nat) (o : Array (Option Nat)) (k : Nat), (lay o k hs).size = o.size
  | [], o, k => rfl
  | h :: r, o, k => by rw [lay, lay_size r]; simp
theorem lay_other : ∀ (hs : List Nat) (o : Array (Option Nat)) (k : Nat) (j : Nat), j ∉ hs → (lay o k hs).getD j none = o.getD j none
  | [], o, k, j, _ => rfl
  | h :: r, o, k, j, hj => by
    rw [lay, lay_other r _ _ j (fun q => hj (List.mem_cons_of_mem _ q))]
    have : h ≠ j := fun q => hj (by simp [q])
    simp [Array.getD_eq_getD_getElem?, this]
theorem lay_at : ∀ (hs : List Nat) (o : Array (Option Nat)) (k : Nat) (i j : Nat), hs.Nodup → (∀ h ∈ hs, h < o.size) → hs[i]? = some j → (lay o k hs).getD j none = some (k + i)
  | [], o, k, i, j, _, _, e => by simp at e
  | h :: r, o, k, 0, j, hnd, hlt, e => by
    simp at e
    subst e
    rw [List.nodup_cons] at hnd
    rw [lay, lay_other r _ _ h hnd.1]
    have := hlt h (by simp)
    simp [Array.getD_eq_getD_getElem?, this]
  | h :: r, o, k, i + 1, j, hnd, hlt, e => by
    simp at e
    rw [List.nodup_cons] at hnd
    rw [lay, lay_at r _ (k + 1) i j hnd.2 (fun h hh => by simpa using hlt h (List.mem_cons_of_mem _ hh)) e]
    congr 1; omega

theorem layClean_small : ∀ (hs : List Nat) (o : Array (Option Nat)) (k : Nat), hs.Nodup → (∀ h ∈ hs, h < 32) → o.size = 32 → (∀ h ∈ hs, o.getD h (some 0) = none) →
    (hs.map (fun h : Nat => (h : Int))).foldl (fun acc h => do
      let (owner, k) ← acc
      let j ← SetTable.layClean.free 31 owner (SetTable.turns 31) (SetTable.bits h % (31 + 1)) (SetTable.bits h)
      pure (owner.setIfInBounds j (some k), k + 1)) (some (o, k)) = some (lay o k hs, k + hs.length)
  | [], o, k, _, _, _, _ => rfl
  | h :: r, o, k, hnd, hlt, hsz, hno => by
    rw [List.nodup_cons] at hnd
    have hh := hlt h (by simp)
    have hfree : SetTable.layClean.free 31 o (SetTable.turns 31) (SetTable.bits ((h : Nat) : Int) % (31 + 1)) (SetTable.bits ((h : Nat) : Int)) = some h := by
      rw [bits_small hh]
      have hz : h % (31 + 1) = h := Nat.mod_eq_of_lt hh
      have ht : SetTable.turns 31 = 45 + 1 := by decide
      rw [hz, ht]
      unfold SetTable.layClean.free
      have hfind : (List.range (SetTable.runEnd 31 h + 1 - h)).find? (fun k => (o.getD (h + k) (some 0)).isNone) = some 0 := by
        have hpos : ∃ m, SetTable.runEnd 31 h + 1 - h = m + 1 := by
          unfold SetTable.runEnd
          split
          · exact ⟨9, by omega⟩
          · exact ⟨0, by omega⟩
        obtain ⟨m, hm⟩ := hpos
        rw [hm, List.range_succ_eq_map, List.find?_cons]
        have : (o.getD (h + 0) (some 0)).isNone = true := by rw [Nat.add_zero, hno h (by simp)]; rfl
        rw [this]
      rw [hfind]
      rfl
    rw [List.map_cons, List.foldl_cons]
    have step : (do
      let (owner, k) ← (some (o, k) : Option (Array (Option Nat) × Nat))
      let j ← SetTable.layClean.free 31 owner (SetTable.turns 31) (SetTable.bits ((h : Nat) : Int) % (31 + 1)) (SetTable.bits ((h : Nat) : Int))
      pure (owner.setIfInBounds j (some k), k + 1)) = some (o.setIfInBounds h (some k), k + 1) := by
      show (SetTable.layClean.free 31 o _ _ _).bind _ = _
      rw [hfree]; rfl
    rw [step]
    rw [layClean_small r _ _ hnd.2 (fun h hh => hlt h (List.mem_cons_of_mem _ hh)) (by simpa using hsz) (fun h' hh' => ?_)]
    · rw [lay, List.length_cons]; congr 2; omega
    · have hne : h ≠ h' := fun q => hnd.1 (q ▸ hh')
      have := hno h' (List.mem_cons_of_mem _ hh')
      rw [← this]
      have hb := hlt h' (List.mem_cons_of_mem _ hh')
      simp [Array.getD_eq_getD_getElem?, hne]

theorem getD_none {o : Array (Option Nat)} {j k : Nat} (h : o.getD j none = some k) : o[j]? = some (some k) := by
  rw [Array.getD_eq_getD_getElem?] at h
  cases e : o[j]? with
  | none => rw [e] at h; cases h
  | some z => rw [e] at h; cases h; rfl

/-- five and more small keys laid into thirty-two slots: each at its own place -/
theorem laid_small {hs : List Nat} {finger moves : Nat} {led plain : Bool} (hnd : hs.Nodup) (hlt : ∀ h ∈ hs, h < 32) :
    ∃ t' order, SetTable.laid 31 finger moves led plain (hs.map (fun h : Nat => (h : Int))).toArray = some (t', order) ∧ t'.mask = 31 ∧ t'.plain = plain ∧ order.toList.Perm (List.range hs.length) ∧
      t'.place.toList = order.toList.map (fun i => hs.getD i 0) ∧ t'.dummies = #[] := by
  have hclean : SetTable.layClean 31 (hs.map (fun h : Nat => (h : Int))).toArray = some (lay (Array.replicate 32 none) 0 hs) := by
    unfold SetTable.layClean
    rw [List.foldl_toArray']
    · have := layClean_small hs (Array.replicate 32 none) 0 hnd hlt (by simp) (fun h hh => by
        have := hlt h hh
        simp [Array.getD_eq_getD_getElem?, this])
      rw [this]; rfl
    · rfl
  unfold SetTable.laid
  rw [hclean]
  generalize hO : lay (Array.replicate 32 none) 0 hs = owner
  have hat : ∀ i j, hs[i]? = some j → owner.getD j none = some i := fun i j e => by
    have := lay_at hs (Array.replicate 32 none) 0 i j hnd (fun h hh => by simpa using hlt h hh) e
    rw [hO] at this; simpa using this
  have hback : ∀ j i, owner.getD j none = some i → hs[i]? = some j := fun j i e => by
    by_cases hj : j ∈ hs
    · obtain ⟨i', hi'⟩ := List.mem_iff_getElem?.mp hj
      have := hat i' j hi'
      rw [this] at e; cases e; exact hi'
    · have := lay_other hs (Array.replicate 32 none) 0 j hj
      rw [hO, e] at this
      have h2 := getD_none this.symm
      rw [Array.getElem?_replicate] at h2
      split at h2
      · cases h2
      · cases h2
  refine ⟨_, _, rfl, rfl, rfl, ?_, ?_, rfl⟩
  · show (List.map _ _).Perm _
    have e1 : (((List.range (31 + 1)).filterMap fun j => (owner.getD j none).map (j, ·)).map (·.2)) = (List.range 32).filterMap fun j => owner.getD j none := by
      rw [List.map_filterMap]
      congr 1
      funext j
      cases owner.getD j none <;> rfl
    rw [e1]
    refine (List.perm_ext_iff_of_nodup ?_ List.nodup_range).mpr fun i => ?_
    · refine List.Pairwise.filterMap _ (R := (· ≠ ·)) ?_ List.nodup_range
      intro a a' hne b h1 b' h2 hbb
      subst hbb
      have h3 := hback a b h1
      have h4 := hback a' b h2
      rw [h3] at h4; cases h4; exact hne rfl
    · rw [List.mem_filterMap, List.mem_range]
      constructor
      · rintro ⟨j, _, e⟩
        have := hback j i e
        by_cases h : i < hs.length
        · exact h
        · rw [List.getElem?_eq_none (by omega)] at this; cases this
      · intro hi
        refine ⟨hs[i], List.mem_range.mpr (hlt _ (List.getElem_mem hi)), hat i _ (List.getElem?_eq_getElem hi)⟩
  · show List.map _ _ = List.map _ (List.map _ _)
    rw [List.map_map]
    apply List.map_congr_left
    rintro ⟨j, i⟩ hji
    rw [List.mem_filterMap] at hji
    obtain ⟨j', _, e⟩ := hji
    cases e2 : owner.getD j' none with
    | none => rw [e2] at e; cases e
    | some i' =>
      rw [e2] at e
      cases e
      have := hback j i e2
      show j = hs.getD i 0
      rw [List.getD_eq_getElem?_getD, this]; rfl
end Mine
namespace Mine

theorem keyN_at {es : Array (Int × Value)} {i : Nat} (h : i < es.size) : (es.toList.map keyN).getD i 0 = keyN es[i] := by
  simp [List.getD_eq_getElem?_getD, h]

theorem TJ.hashes {b : Bool} {es : Array (Int × Value)} (keys : ∀ e ∈ es.toList, ∃ (k : Nat) (u : Tok), k < 32 ∧ e = (((k : Nat) : Int), .int (k : Int) u)) : es.map (·.1) = ((es.toList.map keyN).map (fun h : Nat => (h : Int))).toArray := by
  apply Array.toList_inj.mp
  rw [Array.toList_map]
  show _ = List.map _ _
  rw [List.map_map]
  apply List.map_congr_left
  intro e he
  obtain ⟨k, u, _, rfl⟩ := keys e he
  rfl

theorem insert_keys (es : Array (Int × Value)) (p : Nat) (e : Int × Value) : (SetTable.insertAt es p e).toList.map keyN = (es.toList.map keyN).take p ++ keyN e :: (es.toList.map keyN).drop p := by
  rw [SetTable.toList_insertAt]
  simp [List.map_take, List.map_drop]
theorem insert_size {α : Type} (es : Array α) (p : Nat) (e : α) : (SetTable.insertAt es p e).size = es.size + 1 := by
  have := (SetTable.insertAt_perm es p e).length_eq
  simpa using this

/-- what a put makes, where it fits -/
theorem TJ.put {b : Bool} {es : Array (Int × Value)} {t : SetTable} (x : TJ b es t) {k : Nat} {u : Tok} {j : Nat} (hk : k < 32) (hn : k ∉ es.toList.map keyN) (hf : t.freeSlot (k : Int) = some (j, false)) (hfit : es.size + 1 ≤ t.mask) :
    ∃ gave, layNew t es (k : Int) (.int (k : Int) u) = (SetTable.insertAt es (SetTable.below t.place j) ((k : Int), .int (k : Int) u), (t.put j).1, false, gave) ∧ TI b (t.put j).1 ∧ (t.put j).1.plain = true ∧ (t.put j).1.mask = t.mask ∧
      (t.put j).1.place = SetTable.insertAt t.place (SetTable.below t.place j) j ∧ (t.put j).1.dummies = #[] := by
  have hti : TI b (t.put j).1 := x.ti.put (x.ti.freeSlot hf)
  have hp1 : (t.put j).1.place.size = es.size + 1 := by
    show (SetTable.insertAt _ _ _).size = _
    rw [insert_size, x.fit]
  have hfits : (t.put j).1.fits (SetTable.insertAt es (SetTable.below t.place j) ((k : Int), Value.int (k : Int) u)).size = true := by
    unfold SetTable.fits SetTable.fill
    rw [hti.dum, insert_size, hp1]
    have : (t.put j).1.mask = t.mask := rfl
    rw [this]
    simp
    omega
  have hst : (t.put j).1.orStandIn (SetTable.insertAt es (SetTable.below t.place j) ((k : Int), Value.int (k : Int) u)).size = (t.put j).1 := by
    unfold SetTable.orStandIn
    rw [if_pos hfits]
  refine ⟨!(t.put j).1.fits (SetTable.insertAt es (SetTable.below t.place j) ((k : Int), Value.int (k : Int) u)).size, ?_, hti, x.plain, rfl, rfl, hti.dum⟩
  unfold layNew
  rw [hf]
  show (SetTable.insertAt es (SetTable.below t.place j) _, (t.put j).1.orStandIn _, false, _) = _
  rw [hst]
  rfl

theorem TJ.keysAdd {es : Array (Int × Value)} {k : Nat} {u : Tok} {p : Nat} (keys : ∀ e ∈ es.toList, ∃ (k : Nat) (u : Tok), k < 32 ∧ e = (((k : Nat) : Int), .int (k : Int) u)) (hk : k < 32) :
    ∀ e ∈ (SetTable.insertAt es p ((k : Int), Value.int (k : Int) u)).toList, ∃ (k : Nat) (u : Tok), k < 32 ∧ e = (((k : Nat) : Int), .int (k : Int) u) := fun e he => by
  have := (SetTable.insertAt_perm es p ((k : Int), Value.int (k : Int) u)).mem_iff.mp he
  rw [Array.toList_push] at this
  rcases List.mem_append.mp this with h | h
  · exact keys e h
  · rw [List.mem_singleton.mp h]; exact ⟨k, u, hk, rfl⟩
theorem TJ.ndAdd {es : Array (Int × Value)} {k : Nat} {u : Tok} {p : Nat} (nd : (es.toList.map keyN).Nodup) (hn : k ∉ es.toList.map keyN) : ((SetTable.insertAt es p ((k : Int), Value.int (k : Int) u)).toList.map keyN).Nodup := by
  have h := (SetTable.insertAt_perm es p ((k : Int), Value.int (k : Int) u)).map keyN
  rw [Array.toList_push, List.map_append] at h
  refine h.nodup_iff.mpr ?_
  rw [List.nodup_append]
  refine ⟨nd, by simp, fun y hy z hz => ?_⟩
  have : z = k := by simpa [keyN] using hz
  rw [this]
  exact fun e => hn (e ▸ hy)

theorem TJ.add {b : Bool} {es : Array (Int × Value)} {t : SetTable} (x : TJ b es t) {k : Nat} (u : Tok) (hk : k < 32) (hn : k ∉ es.toList.map keyN) (hsz : es.size < 18) :
    (layNew t es (k : Int) (.int (k : Int) u)).2.1.plain = true ∧ (layNew t es (k : Int) (.int (k : Int) u)).2.2.1 = false ∧
    ((layNew t es (k : Int) (.int (k : Int) u)).2.1.tooFull = false → TJ b (layNew t es (k : Int) (.int (k : Int) u)).1 (layNew t es (k : Int) (.int (k : Int) u)).2.1) ∧
    ((layNew t es (k : Int) (.int (k : Int) u)).2.1.tooFull = true →
      TJ b (relayAll (layNew t es (k : Int) (.int (k : Int) u)).2.1 (layNew t es (k : Int) (.int (k : Int) u)).1 (SetTable.grown (layNew t es (k : Int) (.int (k : Int) u)).1.size)).1
        (relayAll (layNew t es (k : Int) (.int (k : Int) u)).2.1 (layNew t es (k : Int) (.int (k : Int) u)).1 (SetTable.grown (layNew t es (k : Int) (.int (k : Int) u)).1.size)).2.1) := by
  rcases x.mode with ⟨hm, hs⟩ | ⟨hm, hp⟩
  · obtain ⟨j, hf⟩ := free_seven x hm hs hk
    obtain ⟨gave, hL, h1, h2, h3, h4, h5⟩ := x.put (u := u) hk hn hf (by omega)
    rw [hL]
    dsimp only
    generalize hes : SetTable.insertAt es (SetTable.below t.place j) ((k : Int), Value.int (k : Int) u) = es1
    have hk1 := TJ.keysAdd (u := u) (p := SetTable.below t.place j) x.keys hk
    have hn1 := TJ.ndAdd (u := u) (p := SetTable.below t.place j) x.nd hn
    have hz1 : es1.size = es.size + 1 := by rw [← hes, insert_size]
    rw [hes] at hk1 hn1
    have hpl : (t.put j).1.place.size = es1.size := by rw [h4, insert_size, x.fit, hz1]
    refine ⟨h2, rfl, fun ht => ?_, fun ht => ?_⟩
    · refine ⟨h1, h2, hk1, hn1, hpl, .inl ⟨by rw [h3, hm], ?_⟩⟩
      unfold SetTable.tooFull SetTable.fill at ht
      rw [h5, hpl, h3, hm] at ht
      have := of_decide_eq_false ht
      simp at this
      omega
    · unfold SetTable.tooFull SetTable.fill at ht
      rw [h5, hpl, h3, hm] at ht
      have ht' := of_decide_eq_true ht
      simp at ht'
      have h55 : es1.size = 5 := by omega
      have hgr : SetTable.sizeAbove (SetTable.grown es1.size) - 1 = 31 := by rw [h55]; decide
      have hh := TJ.hashes (b := b) hk1
      have hlt : ∀ h ∈ es1.toList.map keyN, h < 32 := fun h hh => by
        obtain ⟨e, he, rfl⟩ := List.mem_map.mp hh
        obtain ⟨k', u', hk', rfl⟩ := hk1 e he
        exact hk'
      obtain ⟨t', order, e1, e2, e3, e4, e5, e6⟩ := laid_small (hs := es1.toList.map keyN) (finger := (t.put j).1.finger) (moves := (t.put j).1.movedTo 31) (led := (t.put j).1.led) (plain := (t.put j).1.plain) hn1 hlt
      have hrel : (t.put j).1.relaid (es1.map (·.1)) (SetTable.grown es1.size) = some (t', order) := by
        unfold SetTable.relaid
        rw [hgr, hh, e1]
      have hlen : (es1.toList.map keyN).length = es1.size := by simp
      rw [hlen] at e4
      have hin : ∀ i ∈ order.toList, i < es1.size := fun i hi => List.mem_range.mp (e4.mem_iff.mp hi)
      have hfm : ∀ (l : List Nat), (∀ i ∈ l, i < es1.size) → (l.filterMap (es1[·]?)).map keyN = l.map (fun i => (es1.toList.map keyN).getD i 0) := by
        intro l
        induction l with
        | nil => intro _; rfl
        | cons i r ih =>
          intro hl
          have hi := hl i (by simp)
          rw [List.filterMap_cons, Array.getElem?_eq_getElem hi]
          simp only [List.map_cons]
          rw [ih (fun i hi => hl i (List.mem_cons_of_mem _ hi)), keyN_at hi]
      have hperm : (order.filterMap (es1[·]?)).toList.Perm es1.toList := by
        rw [Array.toList_filterMap]
        have := e4.filterMap (fun i => es1[i]?)
        rwa [filterMap_getElem?_range] at this
      have hsz2 : (order.filterMap (es1[·]?)).size = es1.size := by
        have := hperm.length_eq
        rwa [Array.length_toList, Array.length_toList] at this
      have hpl2 : t'.place.size = es1.size := by
        have h9 := congrArg List.length e5
        have h10 := e4.length_eq
        simp at h9 h10
        omega
      have hcov : coversAll order es1.size = true := by
        unfold coversAll
        exact List.isPerm_iff.mpr e4
      have hfit2 : t'.fits (order.filterMap (es1[·]?)).size = true := by
        unfold SetTable.fits SetTable.fill
        rw [e6, hpl2, hsz2, e2, h55]
        rfl
      have hrl : relayAll (t.put j).1 es1 (SetTable.grown es1.size) = (order.filterMap (es1[·]?), t', false) := by
        unfold relayAll
        rw [hrel]
        dsimp only
        rw [hcov, hfit2]
        rfl
      rw [hrl]
      dsimp only
      refine ⟨TI.laid h1.led e1, e3.trans h2, fun e he => hk1 e (hperm.mem_iff.mp he), ((hperm.map keyN).nodup_iff).mpr hn1, by rw [hpl2, hsz2], .inr ⟨e2, ?_⟩⟩
      rw [e5, Array.toList_filterMap, hfm _ hin]
  · have hf := free_own x hm hp hk hn
    obtain ⟨gave, hL, h1, h2, h3, h4, h5⟩ := x.put (u := u) hk hn hf (by omega)
    rw [hL]
    dsimp only
    have hk1 := TJ.keysAdd (u := u) (p := SetTable.below t.place k) x.keys hk
    have hn1 := TJ.ndAdd (u := u) (p := SetTable.below t.place k) x.nd hn
    have hz1 := insert_size es (SetTable.below t.place k) ((k : Int), Value.int (k : Int) u)
    have hpl : (t.put k).1.place.size = es.size + 1 := by rw [h4, insert_size, x.fit]
    have hnf : (t.put k).1.tooFull = false := by
      unfold SetTable.tooFull SetTable.fill
      rw [h5, hpl, h3, hm]
      simp
      omega
    refine ⟨h2, rfl, fun _ => ⟨h1, h2, hk1, hn1, by rw [hpl, hz1], .inr ⟨by rw [h3, hm], ?_⟩⟩, fun ht => by rw [hnf] at ht; cases ht⟩
    rw [insert_keys, h4, SetTable.toList_insertAt, hp]
    simp [keyN]
end Mine
namespace Mine

abbrev setO (es : Array (Int × Value)) (ep : Nat) (t : SetTable) : Obj := { cls := .type "set", dict := none, data := .set es ep t }

/-- a small set of small numbers -/
structure IS (b : Bool) (o : Obj) (ks : List Nat) : Prop where
  ex : ∃ es ep t, o = setO es ep t ∧ t.fits es.size = true ∧ TJ b es t ∧ (es.toList.map keyN).Perm ks

def addTo (ks : List Nat) (k : Nat) : List Nat := if k ∈ ks then ks else ks ++ [k]

theorem hash_small {k : Nat} (h : k < 32) : hashInt (k : Int) = (k : Int) := by
  have : ∀ k : Fin 32, hashInt ((k.val : Nat) : Int) = ((k.val : Nat) : Int) := by decide
  exact this ⟨k, h⟩

theorem is_elems {prog : Program} {w : World} {l : List (Int × Value)} (h : ∀ e ∈ l, ∃ (k : Nat) (u : Tok), k < 32 ∧ e = (((k : Nat) : Int), Value.int (k : Int) u)) : ElemsOf (intKind prog w) l := fun e he => by
  obtain ⟨k, u, hk, rfl⟩ := h e he
  exact ⟨⟨(k : Int), by simp [intKind, Value.isInt], (hash_small hk).symm⟩, rfl⟩

theorem found_mem {l : List (Int × Value)} (h : ∀ e ∈ l, ∃ (k : Nat) (u : Tok), k < 32 ∧ e = (((k : Nat) : Int), Value.int (k : Int) u)) (k : Nat) : (l.findIdx? fun e => Value.isInt (k : Int) e.2).isSome = decide (k ∈ l.map keyN) := by
  rw [Bool.eq_iff_iff, decide_eq_true_eq, List.mem_map]
  constructor
  · intro hs
    obtain ⟨j, hj⟩ := Option.isSome_iff_exists.mp hs
    obtain ⟨hj1, hj2, _⟩ := List.findIdx?_eq_some_iff_getElem.mp hj
    refine ⟨l[j], List.getElem_mem hj1, ?_⟩
    obtain ⟨k', u, _, e⟩ := h _ (List.getElem_mem hj1)
    rw [e] at hj2 ⊢
    have : (k' : Int) = (k : Int) := by simpa [Value.isInt] using hj2
    show (k' : Int).toNat = k
    omega
  · rintro ⟨e, he, rfl⟩
    cases hr : l.findIdx? fun e' => Value.isInt ((keyN e : Nat) : Int) e'.2 with
    | some j => rfl
    | none =>
      have := List.findIdx?_eq_none_iff.mp hr e he
      obtain ⟨k', u, _, rfl⟩ := h e he
      simp [keyN, Value.isInt] at this

section
variable {prog : Program} {w : World} {A : Around} {E : Value → Shared → Prop} {s : Shared} {a : Addr}

theorem setO_update {h : Heap} {es : Array (Int × Value)} {ep : Nat} {t : SetTable} (es' : Array (Int × Value)) (t' : SetTable) (ho : h.get? a = some (setO es ep t)) : (h.update a (Obj.putSet es' t')).get? a = some (setO es' (ep + 1) t') :=
  Heap.get?_update_self _ ho rfl

theorem add_ints {b : Bool} {o : Obj} {ks : List Nat} {k : Nat} {u : Tok} {Q : Bool → Shared → Prop} (ho : s.heap.get? a = some o) (x : IS b o ks) (hk32 : k < 32) (hr : ks.length < 18)
    (q : ∀ h' o', h'.get? a = some o' → IS b o' (addTo ks k) → Heap.SameBut a s.heap h' → ∀ r, Q r { s with heap := h' }) :
    wpAny (model prog w) A (setAddHashed a (.int (k : Int) u) (k : Int)) Q E s := by
  obtain ⟨es, ep, t, rfl, hf, tj, hp⟩ := x.ex
  have hel := tj.keys
  have hsz : es.size = ks.length := by rw [← hp.length_eq]; simp
  have hb : es.size < scanBound := by have : scanBound = 4096 := rfl; omega
  have hel' := is_elems (prog := prog) (w := w) hel
  have hhash : ((k : Nat) : Int) = (intKind prog w).hash (k : Int) := (hash_small hk32).symm
  unfold setAddHashed setAddHashedIn
  refine wpAny_holding (wpAny_bind (wpAny_setState_of ho rfl hf ?_))
  dsimp only
  rw [byScan_of (knd := intKind prog w) (x := .int (k : Int) u) rfl hb hel']
  simp only [↓reduceIte]
  unfold setAddByScan
  refine wpAny_bind (wpAny_bind (wpAny_rule (wpAny_bind ?_)))
  have hfm := found_mem hel k
  have scan := fun R q => wpAny_setScan_of (knd := intKind prog w) (k := (k : Int)) (A := A) (E := E) (s := s) (x := .int (k : Int) u) (adding := true) (Q := R) (by simp [intKind, Value.isInt]) ho rfl hf hel' q
  rw [← hhash] at scan
  refine scan _ ?_
  cases hr' : es.toList.findIdx? (fun e => (intKind prog w).is (k : Int) e.2) with
  | some j =>
    have hr'' : es.toList.findIdx? (fun e => Value.isInt (k : Int) e.2) = some j := hr'
    rw [hr''] at hfm
    have hk : k ∈ ks := hp.mem_iff.mp (of_decide_eq_true hfm.symm)
    refine wpAny_pure (wpAny_pure ?_)
    refine q s.heap _ ho ?_ (Heap.SameBut.refl a s.heap) false
    unfold addTo
    rw [if_pos hk]
    exact x
  | none =>
    have hr'' : es.toList.findIdx? (fun e => Value.isInt (k : Int) e.2) = none := hr'
    rw [hr''] at hfm
    have hkn : k ∉ es.toList.map keyN := of_decide_eq_false hfm.symm
    have hk : k ∉ ks := fun hh => hkn (hp.mem_iff.mpr hh)
    have hgw : ∀ (b : Bool) {s₁ : Shared} {Q' : Unit → Shared → Prop}, Q' () s₁ → wpAny (model prog w) A (match b with | true => rule "set.scan.the-table-gave-way" | false => pure ()) Q' E s₁ :=
      fun b s₁ Q' hq => by cases b <;> first | exact wpAny_pure hq | exact wpAny_rule hq
    have hperm := layNew_perm t es (k : Int) (.int (k : Int) u)
    have hfits := layNew_fits t es (k : Int) (.int (k : Int) u)
    obtain ⟨hpl, hwd, hA, hB⟩ := tj.add u hk32 hkn (by omega)
    dsimp only
    generalize hL : layNew t es (k : Int) (.int (k : Int) u) = L at hperm hfits hpl hwd hA hB ⊢
    obtain ⟨es1, t1, wd, gave⟩ := L
    dsimp only at hperm hfits hpl hwd hA hB ⊢
    subst hwd
    rw [Array.toList_push] at hperm
    have hp1 : (es1.toList.map keyN).Perm (ks ++ [k]) := by
      have := hperm.map keyN
      rw [List.map_append] at this
      exact this.trans (hp.append_right _)
    have hsz1 : es1.size = ks.length + 1 := by
      have := hp1.length_eq
      simpa using this
    have hzl : es1.size ≤ sizeLine := by have e : sizeLine = 16777216 := by decide
                                         omega
    have eadd : addTo ks k = ks ++ [k] := by unfold addTo; rw [if_neg hk]
    refine wpAny_bind (hgw _ ?_)
    have tail : wpAny (model prog w) A (do
        storeSet a es1 t1
        if (!false && t1.tooFull) = true then do
            (match (relayAll t1 es1 (SetTable.grown es1.size)).2.2 with | true => rule "set.scan.the-table-gave-way" | false => pure ())
            storeSet a (relayAll t1 es1 (SetTable.grown es1.size)).1 (relayAll t1 es1 (SetTable.grown es1.size)).2.1
            pure (some true)
          else pure (some true)) (fun r s' => ∃ h' o', s' = { s with heap := h' } ∧ h'.get? a = some o' ∧ IS b o' (addTo ks k) ∧ Heap.SameBut a s.heap h' ∧ r = some true) E s := by
      refine wpAny_bind (wpAny_storeSet_of ho rfl ?_ hzl)
      have g1 := setO_update es1 t1 ho
      have hsb1 := Heap.SameBut.update s.heap a (Obj.putSet es1 t1)
      by_cases htf : t1.tooFull = true
      · rw [if_pos (by rw [htf]; rfl)]
        have tj2 := hB htf
        have hp2 := relayAll_perm t1 es1 (SetTable.grown es1.size)
        have hf3 := relayAll_fits t1 es1 (SetTable.grown es1.size)
        generalize relayAll t1 es1 (SetTable.grown es1.size) = Rl at hp2 hf3 tj2 ⊢
        obtain ⟨es2, t3, gave2⟩ := Rl
        dsimp only at hp2 hf3 tj2 ⊢
        have hsz2 : es2.size = es1.size := by have := hp2.length_eq; simpa using this
        refine wpAny_bind (hgw _ (wpAny_bind (wpAny_storeSet_of g1 rfl ?_ (by omega))))
        exact wpAny_pure ⟨_, _, rfl, setO_update es2 t3 g1, ⟨es2, _, t3, rfl, hf3, tj2, by rw [eadd]; exact (hp2.map keyN).trans hp1⟩, hsb1.trans (Heap.SameBut.update _ a _), rfl⟩
      · have htf' : t1.tooFull = false := by simpa using htf
        rw [if_neg (by rw [htf']; decide)]
        exact wpAny_pure ⟨_, _, rfl, g1, ⟨es1, _, t1, rfl, hfits, hA htf', by rw [eadd]; exact hp1⟩, hsb1, rfl⟩
    have conv : ∀ {r : Option Bool} {s' : Shared}, (∃ h' o', s' = { s with heap := h' } ∧ h'.get? a = some o' ∧ IS b o' (addTo ks k) ∧ Heap.SameBut a s.heap h' ∧ r = some true) → wpAny (model prog w) A (match r with | some added => pure added | none => setAddHashedIn a (.int (k : Int) u) (k : Int) 99999) Q E s' := by
      rintro r s' ⟨h', o', rfl, g, hi, hsb, rfl⟩
      exact wpAny_pure (q h' o' g hi hsb true)
    rw [if_pos hpl]
    refine wpAny_bind ?_
    rw [hashByValue_scannable 8 (x := .int (k : Int) u) rfl]
    refine wpAny_pure ?_
    exact wpAny_mono tail (fun r s' h => conv h) fun _ _ e => e
end
end Mine
namespace Mine
section
variable {prog : Program} {w : World} {A : Around} {E : Value → Shared → Prop} {R : Result → Shared → Prop} {s : Shared} {a : Addr}

theorem compTurn_set (elt target iter : Expr) (scope : Scope) (pos : Pos) (it acc : Value) (env : Env) :
    compTurn (.SetComp elt [⟨target, iter, [], 0⟩] scope pos) 0 it acc env = (standAt iter.pos >>= fun _ => pyNext it >>= fun r => match r with
      | none => pure (.done .next)
      | some v => letOwnedTupleGo target it v >>= fun _ => assign target env v >>= fun _ =>
        (eval elt env >>= fun x => standAt elt.pos >>= fun _ => call (.builtin "set.add") [acc, x] >>= fun _ => pure ()) >>= fun _ =>
          again (.compLoop (.SetComp elt [⟨target, iter, [], 0⟩] scope pos) 0 it acc env)) := by rfl

theorem codeAny_compStart_set {elt target iter : Expr} {ifs : List Expr} {rest : List Comprehension} {scope : Scope} {pos : Pos} {it acc : Value} {env : Env}
    (h0 : codeAny (model prog w) A (.compLoop (.SetComp elt (⟨target, iter, ifs, 0⟩ :: rest) scope pos) 0 it acc env) R s)
    (h : wpAny (model prog w) A (pyIter it) (fun it' s' => codeAny (model prog w) A (.compLoop (.SetComp elt (⟨target, iter, ifs, 0⟩ :: rest) scope pos) 0 it' acc env) R s')
      (notedBy (model prog w) A env fun x s' => R (.error x) s') s) :
    codeAny (model prog w) A (.compStart (.SetComp elt (⟨target, iter, ifs, 0⟩ :: rest) scope pos) 0 it acc env) R s := by
  refine codeAny_of_tree ?_
  show wpAny _ A ((compStart (.SetComp elt (⟨target, iter, ifs, 0⟩ :: rest) scope pos) 0 it acc env).onRaise (fun x => do noteFrame x env; standAt theWindowsPlace)) _ _ s
  refine wpAny_notedAt ?_
  unfold compStart
  show wpAny _ A (ask >>= _) _ _ s
  refine wpAny_bind (wpAny_askSetting (wpAny_ite ?_))
  split
  · first
      | exact wpAny_bind (wpAny_pure (wpAny_pure (And.intro rfl h0)))
      | exact wpAny_pure (And.intro rfl h0)
  · first
      | exact wpAny_bind (wpAny_rule (wpAny_bind (wpAny_standAt (wpAny_bind (wpAny_mono h (fun it' s' h' => wpAny_pure (And.intro rfl h')) fun _ _ x => x)))))
      | (refine wpAny_bind (wpAny_rule ?_); show wpAny _ _ (standAt iter.pos >>= _) _ _ s; exact wpAny_bind (wpAny_standAt (wpAny_bind (wpAny_mono h (fun it' s' h' => wpAny_pure (And.intro rfl h')) fun _ _ x => x))))

theorem codeAny_compLoop_set {elt target iter : Expr} {scope : Scope} {pos : Pos} {it acc : Value} {env : Env} (I : Nat → Shared → Prop)
    (turn : ∀ n s, I n s → wpAny (model prog w) A (pyNext it) (fun r s₁ => match r with
      | none => R (.ok .next) s₁
      | some v => wpAny (model prog w) A (assign target env v) (fun _ s₂ => wpAny (model prog w) A (eval elt env) (fun x s₄ =>
              wpAny (model prog w) A (call (.builtin "set.add") [acc, x]) (fun _ s₅ => ∃ m, m < n ∧ I m s₅) (notedBy (model prog w) A env fun e s' => R (.error e) s') s₄) (notedBy (model prog w) A env fun e s' => R (.error e) s') s₂) (notedBy (model prog w) A env fun e s' => R (.error e) s') s₁) (notedBy (model prog w) A env fun e s' => R (.error e) s') s)
    (n : Nat) (h : I n s) (ht : ∀ v, letOwnedTupleGo target it v = pure () := by intro _; rfl) :
    codeAny (model prog w) A (.compLoop (.SetComp elt [⟨target, iter, [], 0⟩] scope pos) 0 it acc env) R s := by
  refine codeAny_loop rfl I (fun n s hI => ?_) n h
  show wpAny _ A ((compTurn (.SetComp elt [⟨target, iter, [], 0⟩] scope pos) 0 it acc env).onRaise (fun x => do noteFrame x env; theTreesLotGoes x)) _ _ s
  refine wpAny_noted ?_
  rw [compTurn_set]
  refine wpAny_bind (wpAny_standAt (wpAny_bind (wpAny_mono (turn n s hI) (fun r s₁ h₁ => ?_) fun _ _ h' => h')))
  cases r with
  | none => exact wpAny_pure h₁
  | some v =>
    refine wpAny_bind (wpAny_of_eq (ht v) ?_)
    refine wpAny_bind (wpAny_mono h₁ (fun _ s₂ h₂ => ?_) fun _ _ h' => h')
    exact wpAny_bind (wpAny_bind (wpAny_mono h₂ (fun x s₄ h₄ => wpAny_bind (wpAny_standAt (wpAny_bind (wpAny_mono h₄ (fun _ s₅ h₅ => wpAny_pure (wpAny_pure ⟨rfl, h₅⟩)) fun _ _ h' => h')))) fun _ _ h' => h'))

theorem eval_SetComp (elt : Expr) (gens : List Comprehension) (scope : Scope) (pos : Pos) (env : Env) :
    eval (.SetComp elt gens scope pos) env = comprehension (.SetComp elt gens scope pos) scope env (firstIterPos gens pos) (newSet (.type "set")) (firstAsync gens) (firstIter gens env) := rfl

/-- the setting that orders sets by a text -/
def byText (w : World) : Bool := w.params.followText "set-order"

theorem newSet_ints {Q : Value → Shared → Prop} (h : ∀ o : Obj, o.isFreed = false → IS (byText w) o [] → Q (.ref s.heap.objs.size) { s with heap := s.heap.push o }) : wpAny (model prog w) A (newSet (.type "set")) Q E s := by
  unfold newSet setsByText
  refine wpAny_bind (wpAny_bind (wpAny_askSetting (wpAny_pure ?_)))
  dsimp only
  simp only [newObj]
  refine wpAny_bind (wpAny_alloc (wpAny_pure (h _ rfl ⟨#[], 0, _, rfl, by rfl, ⟨⟨rfl, rfl, List.Pairwise.nil⟩, rfl, fun e he => by simp at he, by simp, rfl, .inl ⟨rfl, by simp⟩⟩, .refl _⟩)))

theorem call_add_ints {o : Obj} {ks : List Nat} {k : Nat} {u : Tok} {b : Bool} {Q : Value → Shared → Prop} (ho : s.heap.get? a = some o) (x : IS b o ks) (hk : k < 32) (hr : ks.length < 18)
    (q : ∀ h' o' tk', h'.get? a = some o' → IS b o' (addTo ks k) → Heap.SameBut a s.heap h' → Q .none { s with heap := h', toks := tk' }) :
    wpAny (model prog w) A (call (.builtin "set.add") [.ref a, .int (k : Int) u]) Q E s := by
  have hT : s.TypeIs (.ref a) "set" := by
    obtain ⟨es, ep, t, rfl, _⟩ := x.ex
    exact ⟨_, ho, rfl⟩
  refine wpAny_call_entry F.slot_set_add hT F.entry_set_add ?_ (F.args_set_add_2 _ _)
  unfold Builtin.«set.add» Builtin.Frozenset.oneOther
  simp only [List.isEmpty_nil, bind_assoc]
  unfold Builtin.Frozenset.addrOf setAdd
  refine wpAny_bind (wpAny_pure ?_)
  try dsimp only
  refine wpAny_bind (wpAny_pure ?_)
  try dsimp only
  refine wpAny_bind ?_
  refine wpAny_holding ?_
  refine wpAny_bind (wpAny_pyHash_int ?_)
  rw [hash_small hk]
  refine add_ints (s := { s with toks := s.toks + 1 }) ho x hk hr fun h' o' g hi hsb r => ?_
  show wpAny _ _ (ret Value.none) _ _ _
  exact wpAny_pure ⟨_, rfl, q h' o' _ g hi hsb⟩
end
end Mine
namespace Mine

theorem entry_set_iter : entryFor table "set.__iter__" = some Builtin.«frozenset.__iter__» :=
  entryFor_alias (id' := "frozenset.__iter__") (by kernel_rfl) rfl (by decide +kernel) (by kernel_rfl)
theorem owner_seti : Manifest.owners.lookup (String.ofList ['r', 'o', 't', 'a', 'r', 'e', 't', 'i', '_', 't', 'e', 's'].reverse) = some Manifest.sig_set_iterator := by kernel_rfl
theorem slot_seti_next : Slot "set_iterator" "__next__" "set_iterator.__next__" :=
  .of (owner := "set_iterator") (n := "__next__") (by rw [typeLookup_type, builtinLookup_eq_fast]; kernel_rfl) (by decide +kernel) (by decide +kernel) (by decide +kernel)
    (by first | exact .inl (by decide +kernel) | exact .inr (by decide +kernel)) (by rw [isSubtype_type]; kernel_rfl)
theorem entry_seti_next : entryFor table "set_iterator.__next__" = some Builtin.«set_iterator.__next__» := entryFor_of_tree (by kernel_rfl)
theorem args_seti_next (a : Value) : argsOk "set_iterator.__next__" ⟨[a], []⟩ := by
  unfold argsOk; rw [signature?_of (id := "set_iterator.__next__") (n := ['_', '_', 't', 'x', 'e', 'n', '_', '_']) (o := ['r', 'o', 't', 'a', 'r', 'e', 't', 'i', '_', 't', 'e', 's']) (by kernel_rfl) owner_seti]; kernel_rfl
theorem slot_seti_iter : Slot "set_iterator" "__iter__" "set_iterator.__iter__" :=
  .of (owner := "set_iterator") (n := "__iter__") (by rw [typeLookup_type, builtinLookup_eq_fast]; kernel_rfl) (by decide +kernel) (by decide +kernel) (by decide +kernel)
    (by first | exact .inl (by decide +kernel) | exact .inr (by decide +kernel)) (by rw [isSubtype_type]; kernel_rfl)
theorem entry_seti_iter : entryFor table "set_iterator.__iter__" = some Builtin.«dict_keyiterator.__iter__» :=
  entryFor_alias (id' := "dict_keyiterator.__iter__") (by kernel_rfl) rfl (by decide +kernel) (by kernel_rfl)
theorem args_seti_iter (a : Value) : argsOk "set_iterator.__iter__" ⟨[a], []⟩ := by unfold argsOk; kernel_rfl

theorem pick_go {α : Type} (next : Nat → Nat) : ∀ (fuel k : Nat) (left : List α) (out : Array α), left.length ≤ fuel → (pickOrder.go next fuel k left out).toList.Perm (out.toList ++ left)
  | 0, k, left, out, h => by
    have : left = [] := List.length_eq_zero_iff.mp (by omega)
    subst this
    simp [pickOrder.go]
  | fuel + 1, k, left, out, h => by
    unfold pickOrder.go
    cases left with
    | nil => simp
    | cons y r =>
      have hlt : next k % (y :: r).length < (y :: r).length := Nat.mod_lt _ (by simp)
      rw [List.getElem?_eq_getElem hlt]
      dsimp only
      have hl : ((y :: r).eraseIdx (next k % (y :: r).length)).length ≤ fuel := by
        rw [List.length_eraseIdx_of_lt hlt]; simp at h ⊢; omega
      refine (pick_go next fuel (k + 1) _ _ hl).trans ?_
      rw [Array.toList_push, List.append_assoc]
      refine List.Perm.append_left _ ?_
      rw [List.eraseIdx_eq_take_drop_succ]
      have h1 := (List.take_append_drop (next k % (y :: r).length) (y :: r)).symm
      rw [List.drop_eq_getElem_cons hlt] at h1
      show (((y :: r)[next k % (y :: r).length]) :: (List.take _ _ ++ List.drop _ _)).Perm _
      conv => rhs; rw [h1]
      exact List.perm_middle.symm
theorem pick_perm {α : Type} (next : Nat → Nat) (xs : Array α) : (pickOrder next xs).toList.Perm xs.toList := by
  unfold pickOrder
  have := pick_go next xs.size 0 xs.toList #[] (by simp)
  simpa using this

/-- the order of a walk -/
def ordOf (w : World) (a : Addr) (ep : Nat) (es : Array (Int × Value)) : Array (Int × Value) := if byText w then pickOrder (w.params.setOrder a ep) es else es
theorem ord_perm (w : World) (a : Addr) (ep : Nat) (es : Array (Int × Value)) : (ordOf w a ep es).toList.Perm es.toList := by
  unfold ordOf
  split
  · exact pick_perm _ _
  · exact .refl _

def slotOf (t : SetTable) : Nat → Nat
  | 0 => 0
  | i + 1 => t.place.getD i 0 + 1

abbrev setIt (slot i : Nat) (a : Addr) (n ep : Nat) : Obj := { cls := .type "set_iterator", data := .fields #[rawInt slot, rawInt i, .ref a, rawInt n, rawInt ep] }

def SetSt (w : World) (a I : Addr) (es : Array (Int × Value)) (ep : Nat) (t : SetTable) (i : Nat) (h : Heap) : Prop :=
  h.get? a = some (setO es ep t) ∧ ∃ slot, h.get? I = some (setIt slot i a es.size ep) ∧ (byText w = false → slot = slotOf t i)

section
variable {prog : Program} {w : World} {A : Around} {E : Value → Shared → Prop} {s : Shared} {a I : Addr} {es : Array (Int × Value)} {ep : Nat} {t : SetTable}

theorem set_walk_item {i : Nat} {x : Int × Value} {Q : Option Value → Shared → Prop} (tj : TJ (byText w) es t) (hf : t.fits es.size = true) (hne : a ≠ I) (st : SetSt w a I es ep t i s.heap) (hx : (ordOf w a ep es)[i]? = some x)
    (q : ∀ h', SetSt w a I es ep t (i + 1) h' → Heap.SameBut I s.heap h' → Q (some x.2) { s with heap := h' }) : wpAny (model prog w) A (pyNext (.ref I)) Q E s := by
  obtain ⟨ha, slot, hi, hsl⟩ := st
  unfold pyNext
  refine wpAny_bind (wpAny_attempt (wpAny_callSpecial?_slot (name := Str.ofString "__next__") ⟨_, hi, rfl⟩ slot_seti_next (wpAny_call_entry slot_seti_next ⟨_, hi, rfl⟩ entry_seti_next ?_ (args_seti_next _))))
  show wpAny _ _ (fieldsOf (.ref I) >>= _) _ _ s
  refine wpAny_bind (wpAny_fieldsOf hi rfl ?_)
  show wpAny _ _ (setEntries a >>= _) _ _ s
  refine wpAny_bind (wpAny_setEntries_of ha rfl hf ?_)
  dsimp only
  rw [if_neg (by simp)]
  show wpAny _ _ (setNext a (slot : Int).toNat (i : Int).toNat (ep : Int).toNat >>= _) _ _ s
  have e1 : ((slot : Int)).toNat = slot := rfl
  have e2 : ((i : Int)).toNat = i := rfl
  have e3 : ((ep : Int)).toNat = ep := rfl
  rw [e1, e2, e3]
  have key : wpAny (model prog w) A.in1 (setNext a slot i ep) (fun r s' => s' = s ∧ ∃ nx : Nat, r = some (x.2, nx) ∧ (byText w = false → nx = slotOf t (i + 1))) (fun _ _ => False) s := by
    unfold setNext setsByText
    refine wpAny_bind (wpAny_setState_of ha rfl hf ?_)
    dsimp only
    refine wpAny_bind (wpAny_bind (wpAny_askSetting (wpAny_pure ?_)))
    show wpAny _ _ (if byText w = true then _ else _) _ _ s
    cases hb : byText w with
    | true =>
      rw [if_pos rfl, if_neg (by simp)]
      unfold setWalk setsByText
      refine wpAny_bind (wpAny_bind (wpAny_setState_of ha rfl hf ?_))
      dsimp only
      refine wpAny_bind (wpAny_bind (wpAny_askSetting (wpAny_pure ?_)))
      show wpAny _ _ (if byText w = true then _ else _) _ _ s
      rw [hb, if_pos rfl]
      refine wpAny_bind (wpAny_askSetting (wpAny_pure ?_))
      refine wpAny_pure ⟨rfl, slot, ?_, fun h => by cases h⟩
      unfold ordOf at hx
      rw [hb, if_pos rfl] at hx
      show ((pickOrder (w.params.setOrder a ep) es)[i]?).map _ = _
      rw [hx]; rfl
    | false =>
      rw [if_neg (by decide)]
      unfold ordOf at hx
      rw [hb, if_neg (by decide)] at hx
      have his : i < es.size := by
        by_cases h : i < es.size
        · exact h
        · rw [Array.getElem?_eq_none (by omega)] at hx; cases hx
      have hpl : t.place.size = es.size := tj.fit
      have hbel : SetTable.below t.place slot = i := by
        rw [hsl hb]
        cases i with
        | zero => exact below_zero tj.ti.rise
        | succ i =>
          have : t.place[i]? = some (t.place.getD i 0) := by
            rw [Array.getElem?_eq_getElem (by omega)]
            simp [Array.getD, (by omega : i < t.place.size)]
          exact below_next tj.ti.rise this
      have hpi : t.place[i]? = some (t.place.getD i 0) := by
        rw [Array.getElem?_eq_getElem (by omega)]
        simp [Array.getD, (by omega : i < t.place.size)]
      show wpAny _ _ (if (!t.plain && decide (es.size > 1)) = true then _ else _) _ _ s
      rw [tj.plain]
      rw [if_neg (by simp)]
      refine wpAny_bind ?_
      have hled : t.led = true := by rw [tj.ti.led, hb]; rfl
      show wpAny _ _ (if (!t.led && !es.isEmpty) = true then _ else _) _ _ s
      rw [hled]
      rw [if_neg (by simp)]
      refine wpAny_pure ?_
      refine wpAny_pure ⟨rfl, t.place.getD i 0 + 1, ?_, fun _ => rfl⟩
      rw [hbel, hx, hpi]
  refine wpAny_bind (wpAny_mono key (fun r s' hk => ?_) fun _ _ e => ?_)
  · obtain ⟨rfl, nx, rfl, hnx⟩ := hk
    dsimp only
    refine wpAny_bind (wpAny_setField_rec hi (by simp) fun h₁ g₁ sb₁ => ?_)
    refine wpAny_bind (wpAny_setField_rec (s := { s' with heap := h₁ }) g₁ (by simp) fun h₂ g₂ sb₂ => ?_)
    refine wpAny_pure ⟨x.2, rfl, wpAny_pure (q h₂ ⟨?_, nx, ?_, hnx⟩ (sb₁.trans sb₂))⟩
    · exact (sb₂.2 a hne).trans ((sb₁.2 a hne).trans ha)
    · rw [g₂]
      simp [setIt, rawInt]
  · exact e.elim
end
end Mine
namespace Mine
section
variable {prog : Program} {w : World} {A : Around} {E : Value → Shared → Prop} {s : Shared} {a I : Addr} {es : Array (Int × Value)} {ep : Nat} {t : SetTable}

theorem below_end {xs : Array Nat} (hr : Rise xs.toList) : SetTable.below xs (slotOf { (default : SetTable) with place := xs } xs.size) = xs.size := by
  cases h : xs.size with
  | zero =>
    have := (below_sp (j := slotOf { (default : SetTable) with place := xs } 0) hr).1
    omega
  | succ n =>
    show SetTable.below xs (xs.getD n 0 + 1) = n + 1
    have : xs[n]? = some (xs.getD n 0) := by
      rw [Array.getElem?_eq_getElem (by omega)]
      simp [Array.getD, (by omega : n < xs.size)]
    exact below_next hr this

theorem set_walk_end {Q : Option Value → Shared → Prop} (hh : A.handled = none) (tj : TJ (byText w) es t) (hf : t.fits es.size = true) (st : SetSt w a I es ep t es.size s.heap)
    (q : ∀ h', Heap.ExtBut I s.heap h' → Q none { s with heap := h' }) : wpAny (model prog w) A (pyNext (.ref I)) Q E s := by
  obtain ⟨ha, slot, hi, hsl⟩ := st
  unfold pyNext
  refine wpAny_bind (wpAny_attempt (wpAny_callSpecial?_slot (name := Str.ofString "__next__") ⟨_, hi, rfl⟩ slot_seti_next (wpAny_call_entry slot_seti_next ⟨_, hi, rfl⟩ entry_seti_next ?_ (args_seti_next _))))
  show wpAny _ _ (fieldsOf (.ref I) >>= _) _ _ s
  refine wpAny_bind (wpAny_fieldsOf hi rfl ?_)
  show wpAny _ _ (setEntries a >>= _) _ _ s
  refine wpAny_bind (wpAny_setEntries_of ha rfl hf ?_)
  dsimp only
  rw [if_neg (by simp)]
  show wpAny _ _ (setNext a (slot : Int).toNat (es.size : Int).toNat (ep : Int).toNat >>= _) _ _ s
  have e1 : ((slot : Int)).toNat = slot := rfl
  have e2 : ((es.size : Int)).toNat = es.size := rfl
  have e3 : ((ep : Int)).toNat = ep := rfl
  rw [e1, e2, e3]
  have key : wpAny (model prog w) A.in1 (setNext a slot es.size ep) (fun r s' => s' = s ∧ r = none) (fun _ _ => False) s := by
    unfold setNext setsByText
    refine wpAny_bind (wpAny_setState_of ha rfl hf ?_)
    dsimp only
    refine wpAny_bind (wpAny_bind (wpAny_askSetting (wpAny_pure ?_)))
    show wpAny _ _ (if byText w = true then _ else _) _ _ s
    cases hb : byText w with
    | true =>
      rw [if_pos rfl, if_neg (by simp)]
      unfold setWalk setsByText
      refine wpAny_bind (wpAny_bind (wpAny_setState_of ha rfl hf ?_))
      dsimp only
      refine wpAny_bind (wpAny_bind (wpAny_askSetting (wpAny_pure ?_)))
      show wpAny _ _ (if byText w = true then _ else _) _ _ s
      rw [hb, if_pos rfl]
      refine wpAny_bind (wpAny_askSetting (wpAny_pure ?_))
      refine wpAny_pure ⟨rfl, ?_⟩
      have hsz : (pickOrder (w.params.setOrder a ep) es).size = es.size := by
        have := (pick_perm (w.params.setOrder a ep) es).length_eq
        rwa [Array.length_toList, Array.length_toList] at this
      show ((pickOrder (w.params.setOrder a ep) es)[es.size]?).map _ = _
      rw [Array.getElem?_eq_none (by omega)]; rfl
    | false =>
      rw [if_neg (by decide)]
      have hpl : t.place.size = es.size := tj.fit
      have hbel : SetTable.below t.place slot = es.size := by
        rw [hsl hb, ← hpl]
        have := below_end tj.ti.rise
        exact this
      show wpAny _ _ (if (!t.plain && decide (es.size > 1)) = true then _ else _) _ _ s
      rw [tj.plain]
      rw [if_neg (by simp)]
      refine wpAny_bind ?_
      have hled : t.led = true := by rw [tj.ti.led, hb]; rfl
      show wpAny _ _ (if (!t.led && !es.isEmpty) = true then _ else _) _ _ s
      rw [hled]
      rw [if_neg (by simp)]
      refine wpAny_pure (wpAny_pure ⟨rfl, ?_⟩)
      rw [hbel, Array.getElem?_eq_none (Nat.le_refl _)]
  refine wpAny_bind (wpAny_mono key (fun r s' hk => ?_) fun _ _ e => e.elim)
  obtain ⟨rfl, rfl⟩ := hk
  dsimp only
  refine wpAny_bind (wpAny_setField_rec hi (by simp) fun h₁ g₁ sb₁ => ?_)
  show wpAny _ _ (newExc (.type "StopIteration") [] >>= _) _ _ _
  refine wpAny_bind ?_
  simp only [newExc, newTuple]
  refine wpAny_bind (wpAny_newObj_type ?_ (by size_fits))
  refine wpAny_bind (m := firstArgMember _ _) (wpAny_of_eq (a := Value.none) (by first | rfl | (simp only [firstArgMember]; rfl)) ?_)
  refine wpAny_newObj_type ?_ (by size_fits)
  simp only [raiseNew]
  refine wpAny_bind (wpAny_handled ?_)
  rw [show A.in1.handled = none from hh]
  refine wpAny_bind (wpAny_pure (wpAny_throw ?_))
  refine wpAny_bind (wpAny_isInstance (T := "StopIteration") (b := true) ⟨_, Heap.get?_push_size _ rfl, rfl⟩ isSubtype_stop ?_)
  exact wpAny_pure (q _ ((sb₁.extBut.push _).push _))

theorem set_walks (hh : A.handled = none) (tj : TJ (byText w) es t) (hf : t.fits es.size = true) (hne : a ≠ I) :
    Walks prog w A I [I, a] [I] es.size (fun i v => (ordOf w a ep es)[i]?.map (·.2) = some v) (SetSt w a I es ep t) where
  sub := fun b hb => by simp at hb; simp [hb]
  frame := fun i h h' st k => by
    obtain ⟨ha, slot, hi, hsl⟩ := st
    exact ⟨k a (by simp) _ ha, slot, k I (by simp) _ hi, hsl⟩
  item := fun i s Q E hi st hQ => by
    have hsz : (ordOf w a ep es).size = es.size := by
      have := (ord_perm w a ep es).length_eq
      rwa [Array.length_toList, Array.length_toList] at this
    have hx : (ordOf w a ep es)[i]? = some (ordOf w a ep es)[i] := Array.getElem?_eq_getElem (by omega)
    refine set_walk_item tj hf hne st hx fun h' st' sb => ?_
    exact hQ _ h' s.toks (by rw [hx]; rfl) st' fun b o hb e => (sb.2 b (fun q => hb (by simp [q]))).trans e
  done := fun s Q E st hQ => set_walk_end hh tj hf st fun h' hx => hQ h' s.toks fun b o hb e => hx b o (fun q => hb (by simp [q])) e
  self := fun i s Q E st hQ => by
    obtain ⟨ha, slot, hi, hsl⟩ := st
    have hT : s.TypeIs (.ref I) "set_iterator" := ⟨_, hi, rfl⟩
    refine wpAny_pyIter_slot hT slot_seti_iter (wpAny_call_entry slot_seti_iter hT entry_seti_iter ?_ (args_seti_iter _))
    show wpAny _ _ (ret (.ref I)) _ _ s
    exact wpAny_pure ⟨_, rfl, "set_iterator", _, hT, slot_seti_next.lookup, hQ⟩

theorem set_pyIter {Q : Value → Shared → Prop} (tj : TJ (byText w) es t) (hf : t.fits es.size = true) (ha : s.heap.get? a = some (setO es ep t))
    (q : SetSt w a s.heap.objs.size es ep t 0 (s.heap.push (setIt 0 0 a es.size ep)) → Q (.ref s.heap.objs.size) { s with heap := s.heap.push (setIt 0 0 a es.size ep) }) : wpAny (model prog w) A (pyIter (.ref a)) Q E s := by
  have hT : s.TypeIs (.ref a) "set" := ⟨_, ha, rfl⟩
  refine wpAny_pyIter_slot hT F.slot_set_iter (wpAny_call_entry F.slot_set_iter hT entry_set_iter ?_ (F.args_set_iter_1 _))
  unfold Builtin.«frozenset.__iter__» Builtin.Frozenset.slot0 slotArgs
  simp only [List.isEmpty_nil, Bool.not_true, Bool.false_eq_true, ↓reduceIte, bind_assoc, List.length_nil, bne_self_eq_false]
  unfold Builtin.Frozenset.addrOf Builtin.Frozenset.sizeOf
  refine wpAny_bind (wpAny_pure ?_)
  try dsimp only
  refine wpAny_bind (wpAny_pure ?_)
  refine wpAny_bind (wpAny_bind (wpAny_setEntries_of ha rfl hf (wpAny_pure ?_)))
  have hd : wpAny (model prog w) A.in1 (setDrawn a) (fun r s' => s' = s ∧ r = false) (fun _ _ => False) s := by
    unfold setDrawn setsByText
    refine wpAny_bind (wpAny_setState_of ha rfl hf ?_)
    dsimp only
    refine wpAny_bind (wpAny_bind (wpAny_askSetting (wpAny_pure (wpAny_pure ⟨rfl, ?_⟩))))
    show (!(byText w) && (!t.plain && decide (es.size > 1))) = false
    rw [tj.plain]; simp
  refine wpAny_bind (wpAny_mono hd (fun r s' hk => ?_) fun _ _ e => e.elim)
  obtain ⟨rfl, rfl⟩ := hk
  rw [if_neg (by decide)]
  refine wpAny_bind (wpAny_pure ?_)
  unfold setEpoch
  refine wpAny_bind (wpAny_bind (wpAny_setState_of ha rfl hf (wpAny_pure ?_)))
  simp only [newFields]
  refine wpAny_bind (wpAny_newObj_type (wpAny_pure ⟨_, rfl, "set_iterator", _, ⟨_, Heap.get?_push_size _ rfl, rfl⟩, slot_seti_next.lookup, ?_⟩))
  exact q ⟨Heap.get?_push_of_some _ ha, 0, Heap.get?_push_size _ rfl, fun _ => rfl⟩
end
end Mine
namespace Mine

def ksOf (l : List Nat) : List Nat := l.foldl addTo []
theorem ksOf_snoc (l : List Nat) (k : Nat) : ksOf (l ++ [k]) = addTo (ksOf l) k := by unfold ksOf; rw [List.foldl_append]; rfl
theorem fold_addTo : ∀ (l acc : List Nat), acc.Nodup → (∀ k ∈ acc, k < 16) → (∀ k ∈ l, k < 16) → (l.foldl addTo acc).Nodup ∧ ∀ k ∈ l.foldl addTo acc, k < 16
  | [], acc, h1, h2, _ => ⟨h1, h2⟩
  | k :: r, acc, h1, h2, h3 => by
    show (r.foldl addTo (addTo acc k)).Nodup ∧ _
    refine fold_addTo r (addTo acc k) ?_ ?_ (fun k hk => h3 k (List.mem_cons_of_mem _ hk))
    · unfold addTo
      split
      · exact h1
      · rename_i hn
        rw [List.nodup_append]
        exact ⟨h1, by simp, fun y hy z hz => by rw [List.mem_singleton.mp hz]; exact fun e => hn (e ▸ hy)⟩
    · unfold addTo
      split
      · exact h2
      · intro y hy
        rcases List.mem_append.mp hy with h | h
        · exact h2 y h
        · rw [List.mem_singleton.mp h]; exact h3 k (by simp)
theorem ksOf_len {l : List Nat} (h : ∀ k ∈ l, k < 16) : (ksOf l).length ≤ 16 := by
  obtain ⟨h1, h2⟩ := fold_addTo l [] (by simp) (fun k hk => by cases hk) h
  have := List.Nodup.length_le_of_subset h1 (fun k hk => List.mem_range.mpr (h2 k hk))
  rw [List.length_range] at this
  exact this

def natOf : D → Nat
  | .int k => k.toNat
  | _ => 0
def AccS (b : Bool) (Dd : Addr) (h : Heap) (rs : List D) : Prop := ∃ o, h.get? Dd = some o ∧ IS b o (ksOf (rs.map natOf))

theorem ints_back (G : D → Nat) : ∀ ds : List D, ds.map G = ([] ++ ds.flatMap fun d => [D.int (G d : Int)]).map natOf
  | [] => rfl
  | a :: r => by
    have ih := ints_back G r
    rw [List.nil_append] at ih ⊢
    rw [List.map_cons, List.flatMap_cons, List.map_append, ← ih]; rfl

section
variable {c : Cfg} {n : Nat} {env : Env} {ρ : Str → Option Value} {H : View} {d : D} {cl : List (Str × Addr)} {scope : Scope}

theorem PE.setComp {elt iter : Expr} {x : Str} {px : Pos} {pos : Pos} {ds : List D} {G : D → Nat}
    (fo : FreeOk env scope cl) (hcell : ∀ y ∈ scope.names, y.2 ≠ .cell) (hkind : scope.kind = .function) (hnames : ∀ y ∈ scope.names, y.2 = .local → scope.names.lookup y.1 = some .local) (hx : scope.names.lookup x = some .local)
    (it : IT c n env ρ H iter ds) (hG : ∀ d ∈ ds, G d < 16)
    (hel : ∀ C d v H', d ∈ ds → VLe H H' → Rel H' v d → PE c n (compEnvC scope cl C env) (upd (freeρ cl ρ) x v) H' elt (.int (G d : Int)))
    {A : Around} (ok : Ok A n) {s : Shared} {H₁ : View} (k : VLe H H₁) (I : Inv c H₁ s.heap) (F : Frm c env ρ s.heap) {Q : Value → Shared → Prop} {E : Value → Shared → Prop}
    (q : ∀ Dd H' h' tk' o, HStep c H₁ s.heap H' h' → H' Dd = some o → IS (byText c.w) o (ksOf (ds.map G)) → Q (.ref Dd) { s with heap := h', toks := tk' })
    (hs : ∀ x, foldedSetIterable iter env x = pure x := by intro _; rfl) : wpAny (model c.prog c.w) A (eval (.SetComp elt [⟨.Name x px, iter, [], 0⟩] scope pos) env) Q E s := by
  rw [eval_SetComp]
  refine wpAny_comprehension_free (use := none) rfl hs fo.clos hkind hnames (it.run A ok s H₁ k I F _ _ fun it fp wr P St H₂ h₂ t₂ S₂ W st hfp hwr stl hP hnw => ?_)
  have I₂ := S₂.inv
  refine newSet_ints (s := { s with heap := h₂, toks := t₂ }) fun o₀ hfr is0 => ?_
  refine wpAny_newFunctionEnv hcell (by intro y hy; simp at hy) (fun h₁ hns₁ hsb₁ => ?_) hkind
  dsimp only at hns₁ hsb₁ ⊢
  generalize hH2 : h₂.push o₀ = H2 at hns₁ hsb₁ ⊢
  have hC : H2.objs.size = h₂.objs.size + 1 := by rw [← hH2, Heap.size_push]
  have hDC : h₂.objs.size ≠ H2.objs.size := by rw [hC]; exact Nat.ne_of_lt (Nat.lt_succ_self _)
  have fresh : ∀ a, h₂.objs.size ≤ a → h₂.get? a = none := fun a ha => Heap.get?_none_of_le ha
  have nD := fresh h₂.objs.size (Nat.le_refl _)
  have nC := fresh H2.objs.size (by rw [hC]; exact Nat.le_succ _)
  have hCfresh : H2.get? H2.objs.size = none := fresh_none H2
  have keep1 : ∀ b o, h₂.get? b = some o → H2.get? b = some o := fun b o e => hH2 ▸ Heap.get?_push_of_some _ e
  have keep2 : ∀ b o, H2.get? b = some o → h₁.get? b = some o := fun b o e => (hsb₁.2 b (fun q => by rw [q, hCfresh] at e; cases e)).trans (Heap.get?_push_of_some _ e)
  have old : ∀ b o, h₂.get? b = some o → h₁.get? b = some o := fun b o e => keep2 b o (keep1 b o e)
  have hacc : h₁.get? h₂.objs.size = some o₀ := keep2 _ _ (hH2 ▸ Heap.get?_push_size _ hfr)
  have S₁ : HStep c H₂ h₂ H₂ h₁ := .grow I₂ old
  have hst₁ : St 0 h₁ := W.frame _ _ _ st fun b _ o e => old b o e
  have PD : h₂.objs.size ≠ c.P := I₂.neP nD
  have PC : H2.objs.size ≠ c.P := I₂.neP nC
  have hbig : ∀ b ∈ fp, b < h₂.objs.size := fun b hb => (hfp b hb).1
  have loop : codeAny (model c.prog c.w) A (.compLoop (.SetComp elt [⟨.Name x px, iter, [], 0⟩] scope pos) 0 (.ref it) (.ref h₂.objs.size) (compEnvC scope cl H2.objs.size env))
        (compPost (model c.prog c.w) A E none Q (.ref h₂.objs.size) H2.objs.size) { s with heap := h₁, toks := t₂ + ([] : List (Str × Value)).length } := by
    refine comp_inv (H := H₂) (mu := [h₂.objs.size, H2.objs.size]) (ds := ds) (px := px) (x := x) (cenv := compEnvC scope cl H2.objs.size env) (Acc := fun _ => AccS (byText c.w) h₂.objs.size) (VI := fun h => ∃ m, h.Ns H2.objs.size m) (FV := fun v h => ∃ m, h.Ns H2.objs.size m ∧ m x = some v)
      (em := fun d => [.int (G d : Int)]) (rs₀ := [])
      (BT := fun Q E s9 => wpAny (model c.prog c.w) A (eval elt (compEnvC scope cl H2.objs.size env)) (fun x s₄ =>
              wpAny (model c.prog c.w) A (PySem.call (.builtin "set.add") [.ref h₂.objs.size, x]) (fun _ s₅ => Q () s₅) E s₄) E s9)
      W hP (fun J turn n' s' hJ => codeAny_compLoop_set (target := .Name x px) J (fun n s h => turn n s h) n' hJ) ?_ (fun b hb => (hfp b hb).2) (fun b hb => (hwr b hb).1) (stl 0 h₁ hst₁) ?_ ?_ stl S₁.inv hst₁ ⟨o₀, hacc, is0⟩ ⟨_, hns₁⟩ ?_ ?_ ?_ ?_ ?_
    · intro b hb hf
      rcases List.mem_cons.mp hb with rfl | hb
      · exact Nat.lt_irrefl _ (hbig _ hf)
      · rw [List.mem_singleton.mp hb] at hf
        exact absurd (hbig _ hf) (by rw [hC]; exact Nat.not_lt.mpr (Nat.le_succ _))
    · intro b hb
      rcases List.mem_cons.mp hb with rfl | hb
      · exact I₂.none_of nD
      · rw [List.mem_singleton.mp hb]; exact I₂.none_of nC
    · intro b hb
      rcases List.mem_cons.mp hb with rfl | hb
      · show (h₁.get? _).isSome = true
        rw [hacc]; rfl
      · rw [List.mem_singleton.mp hb]
        obtain ⟨o, _, _, ho, _⟩ := hns₁
        show (h₁.get? _).isSome = true
        rw [ho]; rfl
    · rintro X₁ X₂ g₁ g₂ rs hX hg ⟨o, h1, h2⟩
      exact ⟨o, hg _ _ (by simp) h1, h2⟩
    · rintro g₁ g₂ hg ⟨m, hm⟩
      exact ⟨m, hm.at' fun o e => hg _ o (by simp) e⟩
    · rintro v H' s' S' ⟨m, hm⟩ Q E q
      have offC : H' H2.objs.size = none := S'.miss (by obtain ⟨o, _, _, ho, _⟩ := hns₁; show (h₁.get? _).isSome = true; rw [ho]; rfl) (I₂.none_of nC)
      refine wpAny_assign_Name (wpAny_storeName_local (env := compEnvC scope cl H2.objs.size env) (lookup_relabel_local hx) hm (fun h₂' hn₂ hs₂ => ?_) (by show (scope.kind == .class || (scope.kind == .module && _)) = false; rw [hkind]; rfl))
      have hs₂' : Heap.SameBut H2.objs.size s'.heap h₂' := hs₂
      have hn₂' : h₂'.Ns H2.objs.size (fun y => if y = x then some v else m y) := hn₂
      refine q h₂' _ (MStep.at S'.inv (by simp) offC PC hs₂' ?_) ⟨_, hn₂', by simp⟩ ⟨_, hn₂'⟩ ?_
      · obtain ⟨o, _, _, ho, _⟩ := hn₂'
        rw [ho]; rfl
      · rintro rs ⟨o, h1, h2⟩
        exact ⟨o, (hs₂'.2 _ hDC).trans h1, h2⟩
    · rintro d v H' s' rs i hd hi hrs S' offM R' ⟨m, hm, hmx⟩ - ⟨o, ha, hi'⟩ Q E q
      have offD : H' h₂.objs.size = none := offM _ (by simp)
      have F' : Frm c (compEnvC scope cl H2.objs.size env) (upd (freeρ cl ρ) x v) s'.heap := by
        refine Frm.comp (F.ext fun b o hb e => ?_) fo hkind hm hmx PC hx
        refine S'.ext b o hb (fun hm' => ?_) (old b o (S₂.ext b o hb e))
        have e₂ := S₂.ext b o hb e
        rcases List.mem_append.mp hm' with q' | q'
        · rcases List.mem_cons.mp q' with rfl | q'
          · rw [nD] at e₂; cases e₂
          · rw [List.mem_singleton.mp q', nC] at e₂; cases e₂
        · rw [(hwr b q').2] at e; cases e
      have he := hel H2.objs.size d v H' hd ((k.trans S₂.up).trans S'.up) R'
      refine he.run A ok _ H' (.refl _) S'.inv F' _ _ fun y H₃ h₃ t₃ S₃ R₃ => ?_
      cases R₃ with
      | int _ u =>
        have ha₃ := S₃.ext _ _ PD ha
        have hm₃ : h₃.Ns H2.objs.size m := hm.at' fun o e => S₃.ext _ o PC e
        have offD₃ : H₃ h₂.objs.size = none := S₃.miss ha offD
        have hlt : ∀ k ∈ rs.map natOf, k < 16 := by
          rw [hrs, List.nil_append]
          intro k' hk'
          obtain ⟨d', hd', rfl⟩ := List.mem_map.mp hk'
          obtain ⟨d'', hd'', hd3⟩ := List.mem_flatMap.mp hd'
          rw [List.mem_singleton.mp hd3]
          exact hG d'' (List.mem_of_mem_take hd'')
        refine call_add_ints (s := { s' with heap := h₃, toks := t₃ }) ha₃ hi' (by have := hG d hd; omega) (by have := ksOf_len hlt; omega) fun h₄ o₄ t₄ ha₄ hi₄ hs₄ => ?_
        refine q H₃ h₄ _ (S₃.toM.trans (MStep.at S₃.inv (by simp) offD₃ PD hs₄ (by rw [ha₄]; rfl))) ⟨o₄, ha₄, ?_⟩ ⟨m, hm₃.sameBut hs₄ (Ne.symm hDC)⟩
        rw [List.map_append]
        show IS _ o₄ (ksOf (rs.map natOf ++ [G d]))
        rw [ksOf_snoc]
        exact hi₄
    · rintro H' h' t' S' offM ⟨o, ha, hi'⟩ ⟨m, hm⟩
      have oD := offM _ (by simp : h₂.objs.size ∈ _)
      have oC := offM _ (by simp : H2.objs.size ∈ _)
      refine ⟨m, hm, fun h'' hs'' => ?_⟩
      have y : DStep c ([h₂.objs.size, H2.objs.size] ++ wr) H₂ h₂ H' h' := ⟨S'.up, fun b o e => (S'.fresh b o e).imp id (fun e' => S₁.alive I₂ e'), fun b o hb hm' e => S'.ext b o hb hm' (old b o e), S'.inv⟩
      have z := DStep.frozen S₂ I y nD nC hDC oD oC (fun b hb => (hwr b hb).2) hs'' ha
      refine q _ _ h'' t' o z View.add_self ?_
      rw [ints_back G ds]
      exact hi'
  exact codeAny_compStart_set loop (W.self 0 _ _ _ hst₁ loop)
end
end Mine
namespace Mine

def sumPow : List Nat → Int
  | [] => 0
  | k :: r => (2 : Int) ^ k + sumPow r
theorem sumPow_map : ∀ ks : List Nat, (ks.map fun k => (2 : Int) ^ k).sum = sumPow ks
  | [] => rfl
  | k :: r => by rw [List.map_cons, List.sum_cons, sumPow_map r]; rfl
theorem sumPow_perm {a b : List Nat} (h : a.Perm b) : sumPow a = sumPow b := by
  induction h with
  | nil => rfl
  | cons x _ ih => rw [sumPow, sumPow, ih]
  | swap x y l => simp only [sumPow]; omega
  | trans _ _ h1 h2 => exact h1.trans h2

section
variable {c : Cfg} {n : Nat} {env : Env} {ρ : Str → Option Value} {H : View} {d : D} {cl : List (Str × Addr)} {scope : Scope}

/-- a list comprehension over a small set just made: the items in some order -/
theorem overSet {elt iter : Expr} {x : Str} {px : Pos} {pos : Pos} {g : D → D} {ks : List Nat}
    (fo : FreeOk env scope cl) (hcell : ∀ y ∈ scope.names, y.2 ≠ .cell) (hkind : scope.kind = .function) (hnames : ∀ y ∈ scope.names, y.2 = .local → scope.names.lookup y.1 = some .local) (hx : scope.names.lookup x = some .local)
    (hks : ks.length ≤ 1000)
    (hel : ∀ C (k : Nat) v H', k ∈ ks → VLe H H' → Rel H' v (.int (k : Int)) → PE c n (compEnvC scope cl C env) (upd (freeρ cl ρ) x v) H' elt (g (.int (k : Int))))
    {A : Around} (ok : Ok A n) {s : Shared} {H₁ : View} (k : VLe H H₁) (I : Inv c H₁ s.heap) (F : Frm c env ρ s.heap) {Q : Value → Shared → Prop} {E : Value → Shared → Prop}
    (hit : ∀ Q', (∀ Dd H' h' tk' o, HStep c H₁ s.heap H' h' → H' Dd = some o → IS (byText c.w) o ks → Q' (.ref Dd) { s with heap := h', toks := tk' }) → wpAny (model c.prog c.w) A (eval iter env) Q' E s)
    (q : ∀ v H' h' tk' (ks' : List Nat), HStep c H₁ s.heap H' h' → ks'.Perm ks → Rel H' v (.list (ks'.map fun k : Nat => g (.int (k : Int)))) → Q v { s with heap := h', toks := tk' })
    (hs : ∀ x, foldedSetIterable iter env x = pure x := by intro _; rfl) : wpAny (model c.prog c.w) A (eval (.ListComp elt [⟨.Name x px, iter, [], 0⟩] scope pos) env) Q E s := by
  rw [eval_ListComp]
  refine wpAny_comprehension_free (use := none) rfl hs fo.clos hkind hnames (hit _ fun a H₂ h₂ t₂ o S₂ ha is => ?_)
  obtain ⟨es, ep, t, rfl, hf, tj, hp⟩ := is.ex
  have hg := S₂.inv.le _ _ ha
  refine set_pyIter (s := { s with heap := h₂, toks := t₂ }) tj hf hg fun st => ?_
  dsimp only at st ⊢
  have nI := fresh_none h₂
  have hne : a ≠ h₂.objs.size := fun q => by rw [q, nI] at hg; cases hg
  have S₃ := HStep.push S₂.inv (setIt 0 0 a es.size ep)
  have S := S₂.trans S₃ I
  have W := set_walks (prog := c.prog) (w := c.w) (A := A) (I := h₂.objs.size) ok.hh (ep := ep) tj hf hne
  have hsz : (ordOf c.w a ep es).size = es.size := by
    have := (ord_perm c.w a ep es).length_eq
    rwa [Array.length_toList, Array.length_toList] at this
  have hlen : (((ordOf c.w a ep es).toList.map keyN).map fun k : Nat => D.int (k : Int)).length = es.size := by simp [hsz]
  have hes : es.size = ks.length := by have := hp.length_eq; simpa using this
  have hperm : ((ordOf c.w a ep es).toList.map keyN).Perm ks := ((ord_perm c.w a ep es).map keyN).trans hp
  rw [← hlen] at W
  refine compRun (ρ := ρ) (p := fun _ => true) (g := g) (ds := ((ordOf c.w a ep es).toList.map keyN).map fun k : Nat => D.int (k : Int)) fo hcell hkind hx ?_ ?_ ok (k.trans S.up) S.inv W st ?_ ?_ ?_ ?_ ?_ ?_
  · rw [hlen]
    have e : sizeLine = 16777216 := by decide
    omega
  · intro C d v H' hd hH r
    obtain ⟨k', hk', rfl⟩ := List.mem_map.mp hd
    exact ⟨.nil, fun _ => hel C k' v H' (hperm.mem_iff.mp hk') hH r⟩
  · intro b hb
    rcases List.mem_cons.mp hb with rfl | hb
    · exact ⟨by show _ < (h₂.push _).objs.size; rw [Heap.size_push]; exact Nat.lt_succ_self _, S₂.inv.neP nI⟩
    · rw [List.mem_singleton.mp hb]
      refine ⟨by show _ < (h₂.push _).objs.size; rw [Heap.size_push]; exact Nat.lt_succ_of_lt (Heap.lt_size hg), fun q => by rw [q, S₂.inv.noP] at ha; cases ha⟩
  · intro b hb
    rw [List.mem_singleton.mp hb]
    exact S₂.inv.none_of nI
  · rintro i h ⟨_, slot, e, _⟩ b hb
    rw [List.mem_singleton.mp hb, e]; rfl
  · intro i v hi hv
    have hi' : i < (ordOf c.w a ep es).size := by rw [hlen] at hi; omega
    rw [Array.getElem?_eq_getElem hi'] at hv
    cases hv
    have hm : (ordOf c.w a ep es)[i] ∈ es.toList := (ord_perm c.w a ep es).mem_iff.mp (by simp)
    obtain ⟨k', u, hk', e⟩ := tj.keys _ hm
    refine ⟨.int (k' : Int), ?_, by rw [e]; exact .int _ _⟩
    rw [List.getElem?_map, List.getElem?_map, Array.getElem?_toList, Array.getElem?_eq_getElem hi', e]
    rfl
  · intro h' hk
    refine F.ext fun b o hb e => hk b o hb (fun hw => ?_) (S.ext b o hb e)
    rw [List.mem_singleton.mp hw] at e
    have := S₂.alive I nI
    rw [this] at e; cases e
  · rintro Dd C H' h' tk' vs k' S' nD nC hDC oD oC hacc hr ⟨m, hm⟩
    refine ⟨m, hm, fun h'' hs'' => ?_⟩
    have z := DStep.frozen S I S' nD nC hDC oD oC (fun b hb => by rw [List.mem_singleton.mp hb]; exact S₂.alive I nI) hs'' hacc
    refine q _ _ h'' tk' ((ordOf c.w a ep es).toList.map keyN) z hperm (.list View.add_self ?_)
    rw [List.filter_eq_self.mpr (fun _ _ => rfl), List.map_map] at hr
    exact hr.mono (View.le_add oD)
end
end Mine
namespace Mine

def powSum : List Nat → Nat
  | [] => 0
  | k :: r => 2 ^ k + powSum r
mutual
def D.num : D → Nat
  | .list l => powSum (ksOf (nums l))
  | _ => 0
def nums : List D → List Nat
  | [] => []
  | t :: r => t.num :: nums r
end
theorem nums_map : ∀ l : List D, nums l = l.map D.num
  | [] => rfl
  | t :: r => by rw [nums, nums_map r]; rfl
inductive D.Sm : D → Prop
  | node (l : List D) : (∀ t ∈ l, t.Sm) → (∀ t ∈ l, t.num < 16) → D.Sm (.list l)

theorem bit_add : ∀ (k x i : Nat), x.testBit k = false → (2 ^ k + x).testBit i = (decide (i = k) || x.testBit i)
  | 0, x, 0, h => by
    rw [Nat.testBit_zero] at h ⊢
    have h' : ¬ x % 2 = 1 := of_decide_eq_false h
    have : (2 ^ 0 + x) % 2 = 1 := by simp; omega
    simp [this]
  | 0, x, i + 1, h => by
    rw [Nat.testBit_zero] at h
    have h' : ¬ x % 2 = 1 := of_decide_eq_false h
    rw [Nat.testBit_succ, Nat.testBit_succ]
    have : (2 ^ 0 + x) / 2 = x / 2 := by simp; omega
    rw [this]; simp
  | k + 1, x, 0, h => by
    rw [Nat.testBit_zero, Nat.testBit_zero]
    have : (2 ^ (k + 1) + x) % 2 = x % 2 := by rw [Nat.pow_succ]; omega
    rw [this]; simp
  | k + 1, x, i + 1, h => by
    rw [Nat.testBit_succ] at h
    rw [Nat.testBit_succ, Nat.testBit_succ]
    have : (2 ^ (k + 1) + x) / 2 = 2 ^ k + x / 2 := by rw [Nat.pow_succ]; omega
    rw [this, bit_add k (x / 2) i h]
    simp
theorem powSum_bit : ∀ (ks : List Nat), ks.Nodup → ∀ i, (powSum ks).testBit i = decide (i ∈ ks)
  | [], _, i => by simp [powSum]
  | k :: r, h, i => by
    rw [List.nodup_cons] at h
    have h1 := powSum_bit r h.2
    rw [powSum, bit_add k (powSum r) i (by rw [h1]; simpa using h.1), h1, Bool.eq_iff_iff]
    simp
theorem fold_mem : ∀ (l acc : List Nat), acc.Nodup → (l.foldl addTo acc).Nodup ∧ ∀ k, k ∈ l.foldl addTo acc ↔ k ∈ acc ∨ k ∈ l
  | [], acc, h => ⟨h, fun k => by simp⟩
  | x :: r, acc, h => by
    have hnd : (addTo acc x).Nodup := by
      unfold addTo
      split
      · exact h
      · rename_i hn
        rw [List.nodup_append]
        exact ⟨h, by simp, fun y hy z hz => by rw [List.mem_singleton.mp hz]; exact fun e => hn (e ▸ hy)⟩
    obtain ⟨h1, h2⟩ := fold_mem r (addTo acc x) hnd
    refine ⟨h1, fun k => (h2 k).trans ?_⟩
    have h3 : k ∈ addTo acc x ↔ k ∈ acc ∨ k = x := by
      unfold addTo
      split
      · rename_i hm
        constructor
        · exact .inl
        · rintro (h | rfl)
          · exact h
          · exact hm
      · simp
    rw [h3, List.mem_cons]
    constructor
    · rintro ((h | h) | h)
      · exact .inl h
      · exact .inr (.inl h)
      · exact .inr (.inr h)
    · rintro (h | h | h)
      · exact .inl (.inl h)
      · exact .inl (.inr h)
      · exact .inr h
theorem ksOf_mem (l : List Nat) (k : Nat) : k ∈ ksOf l ↔ k ∈ l := by
  have h := (fold_mem l [] (by simp)).2 k
  show k ∈ l.foldl addTo [] ↔ k ∈ l
  rw [h]; simp
theorem num_bit (l : List D) (i : Nat) : (D.list l).num.testBit i = decide (i ∈ l.map D.num) := by
  have hb := powSum_bit (ksOf (nums l)) (fold_mem (nums l) [] (by simp)).1 i
  rw [D.num, hb, nums_map, Bool.eq_iff_iff, decide_eq_true_eq, decide_eq_true_eq]
  exact ksOf_mem _ _
theorem bits_mem (m k : Nat) : k ∈ bitsOf m ↔ m.testBit k = true := by
  have ht : m.testBit k = (m / 2 ^ k % 2 != 0) := by
    rw [Nat.testBit_eq_decide_div_mod_eq, Bool.eq_iff_iff]
    simp
  constructor
  · intro h
    unfold bitsOf at h
    rw [List.mem_filter] at h
    rw [ht]; exact h.2
  · intro h
    unfold bitsOf
    rw [List.mem_filter, List.mem_range]
    refine ⟨?_, by rw [← ht]; exact h⟩
    have h1 : 2 ^ k ≤ m := by
      by_cases hh : 2 ^ k ≤ m
      · exact hh
      · rw [ht, Nat.div_eq_of_lt (by omega)] at h; simp at h
    have hm0 : m ≠ 0 := by have : 0 < 2 ^ k := Nat.two_pow_pos k; omega
    unfold Builtin.Int.intBits
    rw [if_neg (by simp; omega)]
    show k < m.log2 + 1
    have := (Nat.le_log2 hm0).mpr h1
    omega

theorem tr_num : ∀ f m, m < lim f → (tr f m).num = m
  | 0, m, h => by
    have : m = 0 := by have : lim 0 = 1 := rfl; omega
    subst this
    decide
  | f + 1, m, h => by
    refine Nat.eq_of_testBit_eq fun i => ?_
    show (D.list ((bitsOf m).map (tr f))).num.testBit i = _
    rw [num_bit, List.map_map, Bool.eq_iff_iff, decide_eq_true_eq, List.mem_map]
    rw [← bits_mem]
    constructor
    · rintro ⟨k, hk, rfl⟩
      have := tr_num f k (bits_lim hk h)
      show (tr f k).num ∈ _
      rw [this]; exact hk
    · intro hi
      exact ⟨i, hi, tr_num f i (bits_lim hi h)⟩
theorem tr_sm : ∀ f m, f ≤ 4 → m < lim f → (tr f m).Sm
  | 0, m, _, h => .node _ (by simp) (by simp)
  | f + 1, m, hf, h => by
    have hl : lim f ≤ 16 := by
      have : f = 0 ∨ f = 1 ∨ f = 2 ∨ f = 3 := by omega
      rcases this with rfl | rfl | rfl | rfl <;> decide
    refine .node _ (fun t ht => ?_) (fun t ht => ?_)
    · obtain ⟨k, hk, rfl⟩ := List.mem_map.mp ht
      exact tr_sm f k (by omega) (bits_lim hk h)
    · obtain ⟨k, hk, rfl⟩ := List.mem_map.mp ht
      have := bits_lim hk h
      rw [tr_num f k this]; omega
theorem tr_bare : ∀ f m, (tr f m).Bare
  | 0, m => .node (by simp)
  | f + 1, m => .node fun t ht => by
    obtain ⟨k, hk, rfl⟩ := List.mem_map.mp ht
    exact tr_bare f k
theorem tr_ht : ∀ f m, (tr f m).ht ≤ f + 1
  | 0, m => by simp [tr, D.ht, hts]
  | f + 1, m => by
    show hts ((bitsOf m).map (tr f)) + 1 ≤ f + 1 + 1
    have : ∀ l : List Nat, hts (l.map (tr f)) ≤ f + 1 := fun l => by
      induction l with
      | nil => simp [hts]
      | cons k r ih => rw [List.map_cons, hts]; have := tr_ht f k; omega
    have := this (bitsOf m)
    omega

/-! texts are plain -/
theorem join_mem : ∀ (xs : List Str) (ch : Nat), ch ∈ cod (Str.join (Str.ofString ",") xs) → ch = 44 ∨ ∃ x ∈ xs, ch ∈ cod x
  | [], ch, h => by cases h
  | [x], ch, h => .inr ⟨x, by simp, h⟩
  | x :: y :: r, ch, h => by
    rw [join_cod x (y :: r) (by simp)] at h
    rcases List.mem_append.mp h with h | h
    · exact .inr ⟨x, by simp, h⟩
    · rcases List.mem_cons.mp h with h | h
      · exact .inl h
      · rcases join_mem (y :: r) ch h with h | ⟨z, hz, h⟩
        · exact .inl h
        · exact .inr ⟨z, List.mem_cons_of_mem _ hz, h⟩
theorem arr_low {d : D} (h : d.Arr) : ∀ ch ∈ cod d.txt, ch < 200 := by
  induction h with
  | num i hi =>
    intro ch hc
    rw [num_txt i hi] at hc
    simp at hc; omega
  | node l hl ih =>
    intro ch hc
    rw [list_cod] at hc
    rcases List.mem_cons.mp hc with h | h
    · omega
    · rcases List.mem_append.mp h with h | h
      · rcases join_mem _ ch h with h | ⟨x, hx, h⟩
        · omega
        · rw [txts_map] at hx
          obtain ⟨t, ht, rfl⟩ := List.mem_map.mp hx
          exact ih t ht ch h
      · simp at h; omega
theorem arr_strOk {d : D} (h : d.Arr) : PyData.strOk d.txt = true := by
  unfold PyData.strOk
  rw [← Array.all_toList, List.all_eq_true]
  intro ch hc
  have := arr_low h ch hc
  simp; omega

/-! the finite part -/
def subs (w : Nat) : List Nat := (List.range 16).filter fun p => (p &&& w) == p
def prodAt (w : Nat) : Nat → Nat
  | 0 => 1
  | k + 1 => if w / 2 ^ k % 2 != 0 then prodAt w k * (1 + 2 ^ 2 ^ k) else prodAt w k
theorem power_ok : ∀ w : Fin 16, powSum (ksOf (subs w.val)) = prodAt w.val 4 := by decide
theorem whole_ok : ∀ w : Fin 16, powSum (ksOf ((subs w.val).flatMap bitsOf)) = w.val := by decide
end Mine
namespace Mine

theorem powSum_int : ∀ ks : List Nat, (powSum ks : Int) = sumPow ks
  | [] => rfl
  | k :: r => by
    rw [sumPow, ← powSum_int r, powSum]
    simp
section
variable {c : Cfg}
theorem law_number_step (X : Cst c) {n : Nat} {H : View} {l : List D} (hG : ∀ t ∈ l, t.num < 16) (hlen : l.length ≤ 1000000) (ih : ∀ t ∈ l, ∀ H', VLe H H' → Fun c n (.ref 769) H' [t] (.int (t.num : Int))) :
    Fun c (n + 1) (.ref 769) H [.list l] (.int ((D.list l).num : Int)) := by
  have hK := X.hK
  refine' Fun.enter (ps := [Str.ofString "members"]) ?ho ?hcd ?hbind ?hloc ?hcell ?h ?h1 ?h2 ?h3
  case ho => rw [hK]; k_is
  case hcd => rw [hK]; k_is
  case h1 => rfl
  case h2 => rfl
  case h3 => rfl
  case hcell => decide
  case hloc => decide
  case hbind => intro vs hl; obtain ⟨v, rfl⟩ := one_of hl rfl; rfl
  case h =>
    intro vs H₁ L k R
    obtain ⟨v, rfl⟩ := one_of R.length rfl
    have r := R.one
    have hks : ∀ k ∈ l.map D.num, k < 16 := fun k hk => by obtain ⟨t, ht, rfl⟩ := List.mem_map.mp hk; exact hG t ht
    have hkl := ksOf_len hks
    have hLine : sizeLine = 16777216 := by decide
    refine SR.ret ⟨fun A ok s H₂ k₂ I F Q E q => ?_⟩
    refine Call_Name rfl (ldGlob I F rfl (globB (v := .builtin "sum") (by rw [hK]; k_is) (by decide +kernel)) (by decide) ?_)
    refine callWith_builtin rfl (evalArgs_any rfl (wpAny_items_cons ?_))
    refine overSet (ρ := fun x => List.lookup x ([Str.ofString "members"].zip [v]).reverse) (H := H₁) (g := fun d => .int ((2 : Int) ^ natOf d)) (ks := ksOf (l.map D.num)) (FreeOk.none (by decide)) (by decide) rfl (by decide) rfl (by omega) ?_ ok k₂ I F (fun Q' q' => ?_) ?_
    · intro C k' u H' hk' hH ru
      have hlt : k' < 16 := (fold_addTo (l.map D.num) [] (by simp) (fun k hk => by cases hk) hks).2 k' hk'
      exact PE.bin PE.constInt (PE.name (v := u) rfl ru (.inl rfl)) (BinR.powI (by omega) (by omega) (by decide))
    · refine PE.setComp (G := D.num) (FreeOk.none (by decide)) (by decide) rfl (by decide) rfl (IT.list (PE.name (v := v) rfl r (.inl rfl))) hG ?_ ok k₂ I F q'
      intro C t u H' ht hH ru
      exact PE.call rfl (.inl (by rw [hK]; k_is)) (.fn (by rw [hK]; k_is)) (PEs.one (PE.name (v := u) rfl ru (.inl rfl))) (ih t ht H' (k.trans hH))
    · intro v₃ H₃ h₃ t₃ ks' S₃ hp R₃
      refine wpAny_items_nil ?_
      have hs := Fun.sum (c := c) (n := n) (H := H₃) (ns := ks'.map fun k => (2 : Int) ^ k)
      have e1 : (ks'.map fun k : Nat => D.int ((2 : Int) ^ natOf (.int (k : Int)))) = (ks'.map fun k => (2 : Int) ^ k).map D.int := by
        rw [List.map_map]; rfl
      have R₃' : Rel H₃ v₃ (.list ((ks'.map fun k => (2 : Int) ^ k).map D.int)) := by rw [← e1]; exact R₃
      refine hs.run A ok { s with heap := h₃, toks := t₃ } H₃ [v₃] (.refl _) S₃.inv (.cons R₃' .nil) _ _ fun u H' h' tk' S' R' => ?_
      refine q u H' h' tk' (S₃.trans S' I) ?_
      rw [sumPow_map, sumPow_perm hp, ← powSum_int] at R'
      rw [D.num, nums_map]
      exact R'

theorem law_number_sp (X : Cst c) {d : D} (h : d.Sm) : d.sz ≤ 100000 → ∀ (n : Nat) (H : View), Fun c (n + d.ht) (.ref 769) H [d] (.int (d.num : Int)) := by
  induction h with
  | node l hl hG ih =>
    intro hsz n H
    have hs := szs_sum l
    rw [D.sz] at hsz
    show Fun c (n + hts l + 1) (.ref 769) H [.list l] _
    refine law_number_step X hG (by omega) fun t ht H' hH => ?_
    have h1 := sz_mem ht
    have h2 := ht_mem ht
    exact (ih t ht (by omega) n H').mono (by omega) (.refl _)
end
end Mine
namespace Mine

def mus (env : Env) : List Addr := env.locals :: env.cells.filterMap fun p => env.cells.lookup p.1
theorem mus_iff {env : Env} {b : Addr} : b ∈ mus env ↔ b = env.locals ∨ ∃ x, env.cells.lookup x = some b := by
  unfold mus
  rw [List.mem_cons, List.mem_filterMap]
  constructor
  · rintro (h | ⟨p, _, h⟩)
    · exact .inl h
    · exact .inr ⟨p.1, h⟩
  · rintro (h | ⟨x, h⟩)
    · exact .inl h
    · exact .inr ⟨(x, b), mem_of_lookup h, h⟩

/-- where a frame stands, against where it began -/
structure Fs (c : Cfg) (env : Env) (H₀ : View) (h₀ : Heap) (ρ : Str → Option Value) (H : View) (h : Heap) : Prop where
  base : MStep c (mus env) H₀ h₀ H h
  frm : Frm c env ρ h
  off : ∀ b ∈ mus env, H b = none

section
variable {c : Cfg} {n : Nat} {env : Env} {ρ : Str → Option Value} {H H₀ H₁ H₂ : View} {h₀ h h' h₁ h₂ : Heap} {d : D}

theorem Frm.alive {h : Heap} (F : Frm c env ρ h) : ∀ b ∈ mus env, (h.get? b).isSome = true := fun b hb => by
  rcases mus_iff.mp hb with rfl | ⟨x, hx⟩
  · obtain ⟨o, ho⟩ := F.aliveL; rw [ho]; rfl
  · obtain ⟨_, o, ho, _⟩ := F.cell x b hx; rw [ho]; rfl
theorem Frm.extM {h h' : Heap} (F : Frm c env ρ h) (k : ∀ b ∈ mus env, ∀ o, h.get? b = some o → h'.get? b = some o) : Frm c env ρ h' :=
  ⟨F.kind, F.gl, F.bl, F.apL, F.apC, let ⟨m, h1, h2⟩ := F.loc; ⟨m, h1.at' fun o e => k _ (mus_iff.mpr (.inl rfl)) o e, h2⟩,
    fun x a e => let ⟨v, o, h2, h3⟩ := F.cell x a e; ⟨v, o, k a (mus_iff.mpr (.inr ⟨x, e⟩)) o h2, h3⟩,
    fun x v e q => let ⟨a, h1, o, h2, h3⟩ := F.cel x v e q; ⟨a, h1, o, k a (mus_iff.mpr (.inr ⟨x, h1⟩)) o h2, h3⟩⟩
theorem Fs.init (I : Inv c H h) (F : Frm c env ρ h) (oL : H env.locals = none) (oC : ∀ x a, env.cells.lookup x = some a → H a = none) : Fs c env H h ρ H h :=
  ⟨.refl I, F, fun b hb => (mus_iff.mp hb).elim (fun e => e ▸ oL) fun ⟨x, hx⟩ => oC x b hx⟩
theorem Fs.step (σ : Fs c env H₀ h₀ ρ H h) (S : HStep c H h H₁ h₁) : Fs c env H₀ h₀ ρ H₁ h₁ :=
  ⟨σ.base.trans S.toM, σ.frm.step S, fun b hb => by
    obtain ⟨o, ho⟩ := Option.isSome_iff_exists.mp (σ.frm.alive b hb)
    exact S.miss ho (σ.off b hb)⟩
theorem Fs.re (σ : Fs c env H₀ h₀ ρ H h) : Fs c env H h ρ H h := ⟨.refl σ.base.inv, σ.frm, σ.off⟩
theorem Fs.trans (σ : Fs c env H₀ h₀ ρ H h) {ρ' : Str → Option Value} (τ : Fs c env H h ρ' H₁ h₁) : Fs c env H₀ h₀ ρ' H₁ h₁ := ⟨σ.base.trans τ.base, τ.frm, τ.off⟩
theorem Fs.weak (σ : Fs c env H₀ h₀ ρ H h) {ρ' : Str → Option Value} (k : ∀ x v, ρ' x = some v → ρ x = some v) : Fs c env H₀ h₀ ρ' H h := ⟨σ.base, σ.frm.weak k, σ.off⟩

/-- cells that are stored apart -/
def CellsApart (env : Env) : Prop := ∀ x y a, env.cells.lookup x = some a → env.cells.lookup y = some a → x = y

theorem Fs.store (σ : Fs c env H₀ h₀ ρ H h) {A : Around} {s : Shared} {E : Value → Shared → Prop} {Q : Unit → Shared → Prop} {x : Str} {v : Value} (hs : s.heap = h) (hx : env.kindOf x = some .local ∨ (env.kindOf x = some .cell ∧ ∃ a, env.cells.lookup x = some a)) (ap : CellsApart env)
    (q : ∀ h' tk', Fs c env H₀ h₀ (upd ρ x v) H h' → Q () { s with heap := h', toks := tk' }) : wpAny (model c.prog c.w) A (storeName env x v) Q E s := by
  subst hs
  rcases hx with hx | ⟨hx, a, ha⟩
  · obtain ⟨m, hm1, hm2⟩ := σ.frm.loc
    refine wpAny_storeName_local hx hm1 (fun h₃ hn₃ hs₃ => q h₃ _ ?_) (by rw [σ.frm.kind]; rfl)
    have hL : env.locals ∈ mus env := mus_iff.mpr (.inl rfl)
    exact ⟨σ.base.trans (MStep.at σ.base.inv hL (σ.off _ hL) σ.frm.apL hs₃ (by obtain ⟨o, _, _, ho, _⟩ := hn₃; rw [ho]; rfl)), σ.frm.store hm2 hx hn₃ hs₃, σ.off⟩
  · obtain ⟨u, hu⟩ := σ.frm.cell x a ha
    refine wpAny_storeName_cell σ.frm.kind hx ha hu fun h₃ hc₃ hs₃ => q h₃ _ ?_
    have hA : a ∈ mus env := mus_iff.mpr (.inr ⟨x, ha⟩)
    have haL : a ≠ env.locals := σ.frm.cellNe ha
    refine ⟨σ.base.trans (MStep.at σ.base.inv hA (σ.off _ hA) (σ.frm.apC x a ha) hs₃ (by obtain ⟨o, ho, _⟩ := hc₃; rw [ho]; rfl)), ?_, σ.off⟩
    refine ⟨σ.frm.kind, σ.frm.gl, σ.frm.bl, σ.frm.apL, σ.frm.apC, ?_, fun y b e => ?_, fun y w e hk => ?_⟩
    · obtain ⟨m, hm1, hm2⟩ := σ.frm.loc
      refine ⟨m, hm1.sameBut hs₃ (Ne.symm haL), fun y w e hk => ?_⟩
      unfold upd at e
      by_cases hy : y = x
      · subst hy; rw [hx] at hk; cases hk
      · rw [if_neg hy] at e; exact hm2 y w e hk
    · by_cases hb : b = a
      · exact ⟨_, hb ▸ hc₃⟩
      · obtain ⟨w, hw⟩ := σ.frm.cell y b e
        exact ⟨w, hw.sameBut hs₃ hb⟩
    · unfold upd at e
      by_cases hy : y = x
      · rw [if_pos hy] at e
        cases e
        exact ⟨a, hy ▸ ha, hc₃⟩
      · rw [if_neg hy] at e
        obtain ⟨b, hb, hw⟩ := σ.frm.cel y w e hk
        refine ⟨b, hb, hw.sameBut hs₃ fun q => hy (ap y x a (q ▸ hb) ha)⟩

/-- going on with a list of statements that returns -/
theorem Fs.sr (σ : Fs c env H₀ h₀ ρ H h) {st : List Stmt} (x : SR c n env ρ H st d) {A : Around} (ok : Ok A n) {s : Shared} (hs : s.heap = h) {Q : Flow → Shared → Prop} {E : Value → Shared → Prop}
    (q : ∀ v H' h' tk', VLe H₀ H' → (∀ b o, H' b = some o → H₀ b = some o ∨ h₀.get? b = none) → (∀ b o, b ≠ c.P → b ≠ env.locals → (∀ x a, env.cells.lookup x = some a → b ≠ a) → h₀.get? b = some o → h'.get? b = some o) → Inv c H' h' → Rel H' v d →
      Q (.ret v) { s with heap := h', toks := tk' }) : wpAny (model c.prog c.w) A (execs st env) Q E s := by
  subst hs
  refine x.run A ok s H (.refl _) σ.base.inv σ.frm (σ.off _ (mus_iff.mpr (.inl rfl))) (fun y a e => σ.off _ (mus_iff.mpr (.inr ⟨y, e⟩))) Q E fun v H' h' tk' hu hf he hI hR => ?_
  refine q v H' h' tk' (σ.base.up.trans hu) (fun b o e => ?_) (fun b o hb hl hc e => ?_) hI hR
  · rcases hf b o e with e' | e'
    · exact σ.base.fresh b o e'
    · refine .inr ?_
      cases q' : h₀.get? b with
      | none => rfl
      | some ob => have := σ.base.lives (b := b) (by rw [q']; rfl); rw [e'] at this; cases this
  · have hm : b ∉ mus env := fun hm => (mus_iff.mp hm).elim hl fun ⟨x, hx⟩ => hc x b hx rfl
    exact he b o hb hl hc (σ.base.ext b o hb hm e)
theorem SR.of {st : List Stmt} (k : ∀ (A : Around), Ok A n → ∀ (s : Shared) (H₁ : View), VLe H H₁ → Fs c env H₁ s.heap ρ H₁ s.heap → ∀ (Q : Flow → Shared → Prop) (E : Value → Shared → Prop),
    (∀ v H' h' tk', VLe H₁ H' → (∀ b o, H' b = some o → H₁ b = some o ∨ s.heap.get? b = none) → (∀ b o, b ≠ c.P → b ≠ env.locals → (∀ x a, env.cells.lookup x = some a → b ≠ a) → s.heap.get? b = some o → h'.get? b = some o) → Inv c H' h' → Rel H' v d →
      Q (.ret v) { s with heap := h', toks := tk' }) → wpAny (model c.prog c.w) A (execs st env) Q E s) : SR c n env ρ H st d :=
  ⟨fun A ok s H₁ hk I F oL oC Q E q => k A ok s H₁ hk (.init I F oL oC) Q E q⟩

/-- stores in the order of a list -/
def updL (ρ : Str → Option Value) : List (Str × Value) → Str → Option Value
  | [] => ρ
  | (x, v) :: r => updL (upd ρ x v) r
def Storable (env : Env) (x : Str) : Prop := env.kindOf x = some .local ∨ (env.kindOf x = some .cell ∧ ∃ a, env.cells.lookup x = some a)

theorem stores_run {A : Around} {E : Value → Shared → Prop} (ap : CellsApart env) : ∀ (xs : List (Str × Value)) (ρ : Str → Option Value) (h : Heap) (s : Shared) (Q : Unit → Shared → Prop), Fs c env H₀ h₀ ρ H h → s.heap = h → (∀ x ∈ xs, Storable env x.1) →
    (∀ h' tk', Fs c env H₀ h₀ (updL ρ xs) H h' → Q () { s with heap := h', toks := tk' }) → wpAny (model c.prog c.w) A (assignInOrder (xs.map fun x => bindName env x.1) (xs.map (·.2))) Q E s
  | [], ρ, h, s, Q, σ, hs, _, q => by
    subst hs
    exact wpAny_pure (q s.heap s.toks σ)
  | (x, v) :: r, ρ, h, s, Q, σ, hs, hx, q => by
    show wpAny _ A (do holding (r.map (·.2)) (bindName env x v); assignInOrder (r.map fun x => bindName env x.1) (r.map (·.2))) Q E s
    refine wpAny_bind (wpAny_holding (wpAny_bindName (σ.store hs (hx (x, v) (by simp)) ap fun h' tk' σ' => ?_)))
    exact stores_run ap r (upd ρ x v) h' { s with heap := h', toks := tk' } Q σ' rfl (fun y hy => hx y (List.mem_cons_of_mem _ hy)) fun h'' tk'' σ'' => q h'' tk'' σ''
end
end Mine
namespace Mine
section
variable {c : Cfg} {n : Nat} {env : Env} {ρ : Str → Option Value} {H H₀ H₁ H₂ : View} {h₀ h h' h₁ h₂ : Heap} {d : D}

def updL3 (ρ : Str → Option Value) : List (Str × Pos × Value) → Str → Option Value
  | [] => ρ
  | (x, _, v) :: r => updL3 (upd ρ x v) r
theorem assigns_run {A : Around} {E : Value → Shared → Prop} (ap : CellsApart env) : ∀ (xs : List (Str × Pos × Value)) (ρ : Str → Option Value) (h : Heap) (s : Shared) (Q : Unit → Shared → Prop), Fs c env H₀ h₀ ρ H h → s.heap = h → (∀ x ∈ xs, Storable env x.1) →
    (∀ h' tk', Fs c env H₀ h₀ (updL3 ρ xs) H h' → Q () { s with heap := h', toks := tk' }) → wpAny (model c.prog c.w) A (assignInOrder (xs.map fun x => assign (.Name x.1 x.2.1) env) (xs.map (·.2.2))) Q E s
  | [], ρ, h, s, Q, σ, hs, _, q => by
    subst hs
    exact wpAny_pure (q s.heap s.toks σ)
  | (x, p, v) :: r, ρ, h, s, Q, σ, hs, hx, q => by
    show wpAny _ A (do holding (r.map (·.2.2)) (assign (.Name x p) env v); assignInOrder (r.map fun x => assign (.Name x.1 x.2.1) env) (r.map (·.2.2))) Q E s
    refine wpAny_bind (wpAny_holding (wpAny_assign_Name (σ.store hs (hx (x, p, v) (by simp)) ap fun h' tk' σ' => ?_)))
    exact assigns_run ap r (upd ρ x v) h' { s with heap := h', toks := tk' } Q σ' rfl (fun y hy => hx y (List.mem_cons_of_mem _ hy)) fun h'' tk'' σ'' => q h'' tk'' σ''

theorem SR.unpack3 {x1 x2 x3 : Str} {p1 p2 p3 tp pos : Pos} {tk : Nat} {e : Expr} {rest : List Stmt} {d1 d2 d3 : D} (ap : CellsApart env) (h1 : Storable env x1) (h2 : Storable env x2) (h3 : Storable env x3)
    (he : PE c n env ρ H e (.tup [d1, d2, d3]))
    (k : ∀ v1 v2 v3 H', VLe H H' → Rel H' v1 d1 → Rel H' v2 d2 → Rel H' v3 d3 → SR c n env (upd (upd (upd ρ x1 v1) x2 v2) x3 v3) H' rest d)
    (hs : swapsWithSole [.Tuple [.Name x1 p1, .Name x2 p2, .Name x3 p3] tk tp] e pos.line env = pure false := by rfl)
    (hw : swappedStores [.Tuple [.Name x1 p1, .Name x2 p2, .Name x3 p3] tk tp] e env = pure none := by rfl) :
    SR c n env ρ H (.Assign [.Tuple [.Name x1 p1, .Name x2 p2, .Name x3 p3] tk tp] e pos :: rest) d := SR.of fun A ok s H₁ hk σ Q E q => by
  refine wpAny_execs_cons (PyProof.Rows.Assign_Tuple (he.run A ok s H₁ hk σ.base.inv σ.frm _ _ fun v H₂ h₂ t₂ S₂ R₂ => ?_) hs hw)
  have σ₂ := σ.step S₂
  cases R₂ with
  | @tup a ws m _ ha hr =>
    have hi := σ₂.base.inv.le _ _ ha
    have hw3 : ∃ v1 v2 v3, ws.toList = [v1, v2, v3] ∧ Rel H₂ v1 d1 ∧ Rel H₂ v2 d2 ∧ Rel H₂ v3 d3 := by
      generalize ws.toList = l at hr
      cases hr with
      | cons r1 t1 => cases t1 with
        | cons r2 t2 => cases t2 with
          | cons r3 t3 => cases t3; exact ⟨_, _, _, rfl, r1, r2, r3⟩
    obtain ⟨v1, v2, v3, hl, r1, r2, r3⟩ := hw3
    refine PyProof.Rows.assign_Tuple_tuple (s := { s with heap := h₂, toks := t₂ }) ok.hh (items := ws) ⟨_, hi, rfl, m, rfl⟩ ?_ rfl fun h₃ hx₃ => ?_
    · have := congrArg List.length hl
      simp at this
      rw [this]; rfl
    · have S₃ : HStep c H₂ h₂ H₂ h₃ := .grow S₂.inv fun b o e => hx₃ b o (fun q => by rw [q, fresh_none] at e; cases e) e
      rw [hl]
      refine assigns_run ap [(x1, p1, v1), (x2, p2, v2), (x3, p3, v3)] ρ h₃ { s with heap := h₃, toks := t₂ } _ (σ₂.step S₃) rfl ?_ fun h₄ t₄ σ₄ => ?_
      · intro x hx
        simp at hx
        rcases hx with rfl | rfl | rfl
        · exact h1
        · exact h2
        · exact h3
      · exact σ₄.sr (k v1 v2 v3 H₂ (hk.trans S₂.up) r1 r2 r3) ok (s := { s with heap := h₄, toks := t₄ }) rfl q

theorem SR.unpack2 {x1 x2 : Str} {p1 p2 tp pos : Pos} {tk : Nat} {e : Expr} {rest : List Stmt} {d1 d2 : D} (ap : CellsApart env) (h1 : Storable env x1) (h2 : Storable env x2)
    (he : PE c n env ρ H e (.tup [d1, d2]))
    (k : ∀ v1 v2 H', VLe H H' → Rel H' v1 d1 → Rel H' v2 d2 → SR c n env (upd (upd ρ x1 v1) x2 v2) H' rest d)
    (hs : swapsWithSole [.Tuple [.Name x1 p1, .Name x2 p2] tk tp] e pos.line env = pure false := by rfl)
    (hw : swappedStores [.Tuple [.Name x1 p1, .Name x2 p2] tk tp] e env = pure none := by rfl) :
    SR c n env ρ H (.Assign [.Tuple [.Name x1 p1, .Name x2 p2] tk tp] e pos :: rest) d := SR.of fun A ok s H₁ hk σ Q E q => by
  refine wpAny_execs_cons (PyProof.Rows.Assign_Tuple (he.run A ok s H₁ hk σ.base.inv σ.frm _ _ fun v H₂ h₂ t₂ S₂ R₂ => ?_) hs hw)
  have σ₂ := σ.step S₂
  cases R₂ with
  | @tup a ws m _ ha hr =>
    have hi := σ₂.base.inv.le _ _ ha
    have hw3 : ∃ v1 v2, ws.toList = [v1, v2] ∧ Rel H₂ v1 d1 ∧ Rel H₂ v2 d2 := by
      generalize ws.toList = l at hr
      cases hr with
      | cons r1 t1 => cases t1 with
        | cons r2 t2 => cases t2; exact ⟨_, _, rfl, r1, r2⟩
    obtain ⟨v1, v2, hl, r1, r2⟩ := hw3
    refine PyProof.Rows.assign_Tuple_tuple (s := { s with heap := h₂, toks := t₂ }) ok.hh (items := ws) ⟨_, hi, rfl, m, rfl⟩ ?_ rfl fun h₃ hx₃ => ?_
    · have := congrArg List.length hl
      simp at this
      rw [this]; rfl
    · have S₃ : HStep c H₂ h₂ H₂ h₃ := .grow S₂.inv fun b o e => hx₃ b o (fun q => by rw [q, fresh_none] at e; cases e) e
      rw [hl]
      refine assigns_run ap [(x1, p1, v1), (x2, p2, v2)] ρ h₃ { s with heap := h₃, toks := t₂ } _ (σ₂.step S₃) rfl ?_ fun h₄ t₄ σ₄ => ?_
      · intro x hx
        simp at hx
        rcases hx with rfl | rfl
        · exact h1
        · exact h2
      · exact σ₄.sr (k v1 v2 H₂ (hk.trans S₂.up) r1 r2) ok (s := { s with heap := h₄, toks := t₄ }) rfl q

/-- two locals, stored the other way round -/
theorem SR.unpack2s {x1 x2 : Str} {p1 p2 tp pos : Pos} {tk : Nat} {e : Expr} {rest : List Stmt} {d1 d2 : D} (ap : CellsApart env) (h1 : Storable env x1) (h2 : Storable env x2)
    (he : PE c n env ρ H e (.tup [d1, d2]))
    (k : ∀ v1 v2 H', VLe H H' → Rel H' v1 d1 → Rel H' v2 d2 → SR c n env (upd (upd ρ x2 v2) x1 v1) H' rest d)
    (hs : swapsWithSole [.Tuple [.Name x1 p1, .Name x2 p2] tk tp] e pos.line env = pure false := by rfl)
    (hw : swappedStores [.Tuple [.Name x1 p1, .Name x2 p2] tk tp] e env = pure (some [x1, x2]) := by rfl) :
    SR c n env ρ H (.Assign [.Tuple [.Name x1 p1, .Name x2 p2] tk tp] e pos :: rest) d := SR.of fun A ok s H₁ hk σ Q E q => by
  refine wpAny_execs_cons (PyProof.Rows.Assign_Tuple_swapped (he.run A ok s H₁ hk σ.base.inv σ.frm _ _ fun v H₂ h₂ t₂ S₂ R₂ => ?_) hs hw)
  have σ₂ := σ.step S₂
  cases R₂ with
  | @tup a ws m _ ha hr =>
    have hi := σ₂.base.inv.le _ _ ha
    have hw3 : ∃ v1 v2, ws.toList = [v1, v2] ∧ Rel H₂ v1 d1 ∧ Rel H₂ v2 d2 := by
      generalize ws.toList = l at hr
      cases hr with
      | cons r1 t1 => cases t1 with
        | cons r2 t2 => cases t2; exact ⟨_, _, rfl, r1, r2⟩
    obtain ⟨v1, v2, hl, r1, r2⟩ := hw3
    have hsz : ws.size = [x1, x2].length := by
      have := congrArg List.length hl
      simpa using this
    rw [← hsz]
    refine PyProof.Rows.unpackItems_tuple (s := { s with heap := h₂, toks := t₂ }) ok.hh (items := ws) ⟨_, hi, rfl, m, rfl⟩ fun h₃ hx₃ => ?_
    have S₃ : HStep c H₂ h₂ H₂ h₃ := .grow S₂.inv fun b o e => hx₃ b o (fun q => by rw [q, fresh_none] at e; cases e) e
    rw [hl]
    refine stores_run ap [(x2, v2), (x1, v1)] ρ h₃ { s with heap := h₃, toks := t₂ } _ (σ₂.step S₃) rfl ?_ fun h₄ t₄ σ₄ => ?_
    · intro x hx
      simp at hx
      rcases hx with rfl | rfl
      · exact h2
      · exact h1
    · exact σ₄.sr (k v1 v2 H₂ (hk.trans S₂.up) r1 r2) ok (s := { s with heap := h₄, toks := t₄ }) rfl q

/-- statements that give one name a new datum -/
structure ST (c : Cfg) (n : Nat) (env : Env) (ρ : Str → Option Value) (H : View) (st : List Stmt) (y : Str) (d : D) : Prop where
  run : ∀ (A : Around), Ok A n → ∀ (s : Shared) (H₁ : View), VLe H H₁ → Fs c env H₁ s.heap ρ H₁ s.heap → ∀ (Q : Flow → Shared → Prop) (E : Value → Shared → Prop),
    (∀ u H' h' tk', Fs c env H₁ s.heap (upd ρ y u) H' h' → VLe H₁ H' → Rel H' u d → Q .next { s with heap := h', toks := tk' }) → wpAny (model c.prog c.w) A (execs st env) Q E s

theorem ST.set {y : Str} {py pos : Pos} {e : Expr} (ap : CellsApart env) (hy : Storable env y) (he : PE c n env ρ H e d) (hs : swapsWith e (some (.Name y py)) pos.line env = pure false := by rfl) : ST c n env ρ H [.Assign [.Name y py] e pos] y d :=
  ⟨fun A ok s H₁ hk σ Q E q => wpAny_execs_cons (wpAny_Assign_Name (he.run A ok s H₁ hk σ.base.inv σ.frm _ _ fun v H₂ h₂ t₂ S₂ R₂ => by
    refine (σ.step S₂).store (s := { s with heap := h₂, toks := t₂ }) rfl hy ap fun h₃ t₃ σ₃ => ?_
    exact wpAny_execs_nil (q v H₂ h₃ t₃ σ₃ S₂.up R₂)) hs)⟩

theorem ST.ifSet {y : Str} {u : Value} {test : Expr} {body : List Stmt} {pos : Pos} {b : Bool} (hρ : ρ y = some u) (ht : PT c n env ρ H test b) (hb : b = true → ST c n env ρ H body y d) (ho : b = false → Rel H u d) :
    ST c n env ρ H [.If test body [] pos] y d := ⟨fun A ok s H₁ hk σ Q E q => wpAny_execs_cons (wpAny_If (ht.run A ok s H₁ hk σ.base.inv σ.frm _ _ fun H₂ h₂ t₂ S₂ => by
    have σ₂ := σ.step S₂
    cases b with
    | true =>
      simp only [if_true]
      refine wpAny_mono ((hb rfl).run A ok { s with heap := h₂, toks := t₂ } H₂ (hk.trans S₂.up) σ₂.re (fun f s' => f = .next ∧ wpAny (model c.prog c.w) A (execs [] env) Q E s') E fun u' H' h' tk' σ' hu r => ⟨rfl, wpAny_execs_nil (q u' H' h' tk' (σ₂.trans σ') (S₂.up.trans hu) r)⟩) (fun f s' hf => ?_) fun _ _ e => e
      obtain ⟨rfl, hf⟩ := hf
      exact hf
    | false =>
      simp only [Bool.false_eq_true, if_false]
      refine wpAny_execs_nil (wpAny_execs_nil (q u H₂ h₂ t₂ (σ₂.weak fun z w e => ?_) S₂.up ((ho rfl).mono (hk.trans S₂.up))))
      unfold upd at e
      by_cases hz : z = y
      · rw [if_pos hz] at e; cases e; rw [hz]; exact hρ
      · rw [if_neg hz] at e; exact e))⟩

/-- a loop that gives one name a new datum at every turn -/
theorem SR.forAcc {x y : Str} {px pos : Pos} {iter : Expr} {body rest : List Stmt} {ds : List D} {acc : Nat → D} {u₀ : Value} (ap : CellsApart env) (hx : Storable env x) (hxy : y ≠ x) (hρx : ρ x = none)
    (it : IT c n env ρ H iter ds) (h0 : ρ y = some u₀) (r0 : Rel H u₀ (acc 0))
    (hb : ∀ i d v u H', ds[i]? = some d → VLe H H' → Rel H' v d → Rel H' u (acc i) → ST c n env (upd (upd ρ y u) x v) H' body y (acc (i + 1)))
    (k : ∀ u H', VLe H H' → Rel H' u (acc ds.length) → SR c n env (upd ρ y u) H' rest d) (hs : ∀ x, foldedSetIterable iter env x = pure x := by intro _; rfl) :
    SR c n env ρ H (.For (.Name x px) iter body [] pos :: rest) d := SR.of fun A ok s H₁ hk σ Q E q => by
  refine wpAny_execs_cons (wpAny_For (it.run A ok s H₁ hk σ.base.inv σ.frm _ _ fun I fp wr P St H₂ h₂ t₂ S₂ W st hfp hwr stl hP hnw => ?_) hs)
  have σ₂ := σ.step S₂
  have hwP : ∀ b ∈ wr, b ≠ c.P := fun b hb => (hfp b (W.sub b hb)).2
  have hfm : ∀ b ∈ mus env, b ∉ wr := fun b hb hw => by
    have := σ.frm.alive b hb
    rw [(hwr b hw).2] at this; cases this
  have hfM : ∀ b ∈ wr, b ∉ mus env := fun b hb hm => hfm b hm hb
  refine codeAny_forLoop (fun kk s' => ∃ h' tk H' i u, s' = { s with heap := h', toks := tk } ∧ Fs c env H₁ s.heap (upd ρ y u) H' h' ∧ VLe H₂ H' ∧ (∀ b ∈ wr, H' b = none) ∧ St i h' ∧ i ≤ ds.length ∧ Rel H' u (acc i) ∧ kk = ds.length + 1 - i) ?_ (ds.length + 1)
    ⟨h₂, t₂, H₂, 0, u₀, rfl, σ₂.weak fun z w e => ?_, .refl _, fun b hb => (hwr b hb).1, st, Nat.zero_le _, r0.mono (hk.trans S₂.up), rfl⟩
  · rintro kk s' ⟨h', tk, H', i, u, rfl, τ, hle, hoff, st', hi, ru, rfl⟩
    have next : ∀ {h₁ : Heap}, (∀ b o, b ∉ wr → h'.get? b = some o → h₁.get? b = some o) → Inv c H' h₁ := fun k₁ =>
      ⟨fun b o e => k₁ b o (fun q => by rw [hoff b q] at e; cases e) (τ.base.inv.le b o e), τ.base.inv.base, τ.base.inv.noP, let ⟨ob, e1, e2⟩ := τ.base.inv.tb; ⟨ob, k₁ _ _ (fun q => hwP _ q rfl) e1, e2⟩⟩
    by_cases hlt : i < ds.length
    · refine W.item i _ _ _ hlt st' fun v h₃ t₃ hPv st₃ hk₃ => ?_
      obtain ⟨d', hd', rv⟩ := hP i v hlt hPv
      have hM : MStep c wr H' h' H' h₃ := ⟨.refl _, fun _ _ e => .inl e, fun b o _ hm e => hk₃ b o hm e, fun b hb _ => stl _ _ st₃ b hb, next hk₃⟩
      have τ₃ : Fs c env H₁ s.heap (upd ρ y u) H' h₃ := by
        refine ⟨?_, τ.frm.extM fun b hb o e => hk₃ b o (hfm b hb) e, τ.off⟩
        refine ⟨τ.base.up, fun b o e => τ.base.fresh b o e, fun b o hb hm e => hk₃ b o (fun q => by rw [(hwr b q).2] at e; cases e) (τ.base.ext b o hb hm e), fun b hb e => ?_, next hk₃⟩
        obtain ⟨o, ho⟩ := Option.isSome_iff_exists.mp (τ.frm.alive b hb)
        rw [hk₃ b o (hfm b hb) ho]; rfl
      refine wpAny_assign_Name (τ₃.re.store (s := { s with heap := h₃, toks := t₃ }) rfl hx ap fun h₄ t₄ τ4s => ?_)
      have τ₄ := τ₃.trans τ4s
      have up := hk.trans (S₂.up.trans hle)
      have τ4r := τ₄.re
      refine (hb i d' v u H' hd' up (rv.mono hle) ru).run A ok { s with heap := h₄, toks := t₄ } H' (.refl _) τ4r _ _ fun u' H'' h'' t'' σ' hu r => ?_
      -- a step from h₃ to h'' that leaves what the loop walks
      have hst : St (i + 1) h'' := by
        refine W.frame _ _ _ st₃ fun b hb o e => ?_
        have hbm : b ∉ mus env := fun hm => by
          rcases hnw b hb with ⟨o', ho'⟩ | hn
          · have := hle b o' ho'
            rw [τ.off b hm] at this; cases this
          · have := σ.frm.alive b hm
            rw [hn] at this; cases this
        have hbP := (hfp b hb).2
        exact σ'.base.ext b o hbP hbm (τ4s.base.ext b o hbP hbm e)
      refine ⟨ds.length + 1 - (i + 1), by omega, h'', t'', H'', i + 1, u', rfl, (τ₄.trans σ').weak fun z w e => ?_, hle.trans hu, fun b hb => ?_, hst, hlt, r, rfl⟩
      · unfold upd at e ⊢
        by_cases hz : z = y
        · rw [if_pos hz] at e ⊢; exact e
        · rw [if_neg hz] at e ⊢
          have hzx : z ≠ x := fun q => by rw [q, hρx] at e; cases e
          rw [if_neg hzx, if_neg hz]; exact e
      · have al := stl _ _ st₃ b hb
        exact σ'.base.miss (τ4s.base.lives al) (hoff b hb)
    · have hin : i = ds.length := by omega
      subst hin
      refine W.done _ _ _ st' fun h₃ t₃ hk₃ => ?_
      refine wpAny_execs_nil ?_
      have τ₃ : Fs c env H₁ s.heap (upd ρ y u) H' h₃ := by
        refine ⟨?_, τ.frm.extM fun b hb o e => hk₃ b o (hfm b hb) e, τ.off⟩
        refine ⟨τ.base.up, fun b o e => τ.base.fresh b o e, fun b o hb hm e => hk₃ b o (fun q => by rw [(hwr b q).2] at e; cases e) (τ.base.ext b o hb hm e), fun b hb e => ?_, next hk₃⟩
        obtain ⟨o, ho⟩ := Option.isSome_iff_exists.mp (τ.frm.alive b hb)
        rw [hk₃ b o (hfm b hb) ho]; rfl
      exact τ₃.sr (k u H' (hk.trans (S₂.up.trans hle)) ru) ok (s := { s with heap := h₃, toks := t₃ }) rfl q
  · unfold upd at e
    by_cases hz : z = y
    · rw [if_pos hz] at e; cases e; rw [hz]; exact h0
    · rw [if_neg hz] at e; exact e
end
end Mine
namespace Mine
section
variable {prog : Program} {w : World} {A : Around} {E : Value → Shared → Prop} {R : Result → Shared → Prop} {s : Shared}

abbrev comp2 (elt : Expr) (x y : Str) (px py : Pos) (i0 i1 : Expr) (scope : Scope) (pos : Pos) : Expr := .ListComp elt [⟨.Name x px, i0, [], 0⟩, ⟨.Name y py, i1, [], 0⟩] scope pos

theorem compTurn_two (elt : Expr) (x y : Str) (px py : Pos) (i0 i1 : Expr) (scope : Scope) (pos : Pos) (it acc : Value) (env : Env) :
    compTurn (comp2 elt x y px py i0 i1 scope pos) 0 it acc env = (standAt i0.pos >>= fun _ => pyNext it >>= fun r => match r with
      | none => pure (.done .next)
      | some v => letOwnedTupleGo (.Name x px) it v >>= fun _ => assign (.Name x px) env v >>= fun _ =>
        eval i1 env >>= fun z => standAt i1.pos >>= fun _ => foldedSetIterable i1 env z >>= fun z => holding [z] (pyIter z) >>= fun it' => runOwn (.compStart (comp2 elt x y px py i0 i1 scope pos) 1 it' acc env) env >>= fun _ =>
          again (.compLoop (comp2 elt x y px py i0 i1 scope pos) 0 it acc env)) := by rfl
theorem compTurn_inner (elt : Expr) (x y : Str) (px py : Pos) (i0 i1 : Expr) (scope : Scope) (pos : Pos) (it acc : Value) (env : Env) :
    compTurn (comp2 elt x y px py i0 i1 scope pos) 1 it acc env = (standAt i1.pos >>= fun _ => pyNext it >>= fun r => match r with
      | none => pure (.done .next)
      | some v => letOwnedTupleGo (.Name y py) it v >>= fun _ => assign (.Name y py) env v >>= fun _ =>
        (eval elt env >>= fun z => call (.builtin "list.append") [acc, z] >>= fun _ => pure ()) >>= fun _ =>
          again (.compLoop (comp2 elt x y px py i0 i1 scope pos) 1 it acc env)) := by rfl

theorem codeAny_start_inner {elt : Expr} {x y : Str} {px py : Pos} {i0 i1 : Expr} {scope : Scope} {pos : Pos} {it acc : Value} {env : Env}
    (h0 : codeAny (model prog w) A (.compLoop (comp2 elt x y px py i0 i1 scope pos) 1 it acc env) R s)
    (h : wpAny (model prog w) A (pyIter it) (fun it' s' => codeAny (model prog w) A (.compLoop (comp2 elt x y px py i0 i1 scope pos) 1 it' acc env) R s') (notedBy (model prog w) A env fun x s' => R (.error x) s') s) :
    codeAny (model prog w) A (.compStart (comp2 elt x y px py i0 i1 scope pos) 1 it acc env) R s := by
  refine codeAny_of_tree ?_
  show wpAny _ A ((compStart (comp2 elt x y px py i0 i1 scope pos) 1 it acc env).onRaise (fun x => do noteFrame x env; standAt theWindowsPlace)) _ _ s
  refine wpAny_notedAt ?_
  unfold compStart
  show wpAny _ A (ask >>= _) _ _ s
  refine wpAny_bind (wpAny_askSetting (wpAny_ite ?_))
  split
  · first
      | exact wpAny_bind (wpAny_pure (wpAny_pure (And.intro rfl h0)))
      | exact wpAny_pure (And.intro rfl h0)
  · first
      | exact wpAny_bind (wpAny_rule (wpAny_bind (wpAny_standAt (wpAny_bind (wpAny_mono h (fun it' s' h' => wpAny_pure (And.intro rfl h')) fun _ _ x => x)))))
      | (refine wpAny_bind (wpAny_rule ?_); show wpAny _ _ (standAt i1.pos >>= _) _ _ s; exact wpAny_bind (wpAny_standAt (wpAny_bind (wpAny_mono h (fun it' s' h' => wpAny_pure (And.intro rfl h')) fun _ _ x => x))))

theorem codeAny_loop_outer {elt : Expr} {x y : Str} {px py : Pos} {i0 i1 : Expr} {scope : Scope} {pos : Pos} {it acc : Value} {env : Env} (I : Nat → Shared → Prop)
    (turn : ∀ n s, I n s → wpAny (model prog w) A (pyNext it) (fun r s₁ => match r with
      | none => R (.ok .next) s₁
      | some v => wpAny (model prog w) A (assign (.Name x px) env v) (fun _ s₂ => wpAny (model prog w) A (eval i1 env) (fun z s₃ => wpAny (model prog w) A (pyIter z) (fun it' s₄ =>
          codeAny (model prog w) A (.compStart (comp2 elt x y px py i0 i1 scope pos) 1 it' acc env) (fun r s' => match r with | .ok f => ∃ m, m < n ∧ I m s' | .error e => cameBackBy (model prog w) A env (notedBy (model prog w) A env fun e s' => R (.error e) s') e s') s₄)
            (notedBy (model prog w) A env fun e s' => R (.error e) s') s₃) (notedBy (model prog w) A env fun e s' => R (.error e) s') s₂) (notedBy (model prog w) A env fun e s' => R (.error e) s') s₁) (notedBy (model prog w) A env fun e s' => R (.error e) s') s)
    (n : Nat) (h : I n s) (hs : ∀ z, foldedSetIterable i1 env z = pure z) :
    codeAny (model prog w) A (.compLoop (comp2 elt x y px py i0 i1 scope pos) 0 it acc env) R s := by
  refine codeAny_loop rfl I (fun n s hI => ?_) n h
  show wpAny _ A ((compTurn (comp2 elt x y px py i0 i1 scope pos) 0 it acc env).onRaise (fun x => do noteFrame x env; theTreesLotGoes x)) _ _ s
  refine wpAny_noted ?_
  rw [compTurn_two]
  refine wpAny_bind (wpAny_standAt (wpAny_bind (wpAny_mono (turn n s hI) (fun r s₁ h₁ => ?_) fun _ _ h' => h')))
  cases r with
  | none => exact wpAny_pure h₁
  | some v =>
    refine wpAny_bind (wpAny_pure ?_)
    refine wpAny_bind (wpAny_mono h₁ (fun _ s₂ h₂ => ?_) fun _ _ h' => h')
    refine wpAny_bind (wpAny_mono h₂ (fun z s₃ h₃ => wpAny_bind (wpAny_standAt (wpAny_bind (wpAny_of_eq (hs z) (wpAny_bind (wpAny_holding (wpAny_mono h₃ (fun it' s₄ h₄ => ?_) fun _ _ h' => h'))))))) fun _ _ h' => h')
    refine wpAny_bind (wpAny_runOwn (codeAny_mono h₄ fun r s' hr => ?_))
    cases r with
    | ok f => exact wpAny_pure ⟨rfl, hr⟩
    | error e => exact hr

theorem codeAny_loop_inner {elt : Expr} {x y : Str} {px py : Pos} {i0 i1 : Expr} {scope : Scope} {pos : Pos} {it acc : Value} {env : Env} (I : Nat → Shared → Prop)
    (turn : ∀ n s, I n s → wpAny (model prog w) A (pyNext it) (fun r s₁ => match r with
      | none => R (.ok .next) s₁
      | some v => wpAny (model prog w) A (assign (.Name y py) env v) (fun _ s₂ => wpAny (model prog w) A (eval elt env) (fun z s₃ =>
          wpAny (model prog w) A (call (.builtin "list.append") [acc, z]) (fun _ s₄ => ∃ m, m < n ∧ I m s₄) (notedBy (model prog w) A env fun e s' => R (.error e) s') s₃) (notedBy (model prog w) A env fun e s' => R (.error e) s') s₂) (notedBy (model prog w) A env fun e s' => R (.error e) s') s₁) (notedBy (model prog w) A env fun e s' => R (.error e) s') s)
    (n : Nat) (h : I n s) : codeAny (model prog w) A (.compLoop (comp2 elt x y px py i0 i1 scope pos) 1 it acc env) R s := by
  refine codeAny_loop rfl I (fun n s hI => ?_) n h
  show wpAny _ A ((compTurn (comp2 elt x y px py i0 i1 scope pos) 1 it acc env).onRaise (fun x => do noteFrame x env; theTreesLotGoes x)) _ _ s
  refine wpAny_noted ?_
  rw [compTurn_inner]
  refine wpAny_bind (wpAny_standAt (wpAny_bind (wpAny_mono (turn n s hI) (fun r s₁ h₁ => ?_) fun _ _ h' => h')))
  cases r with
  | none => exact wpAny_pure h₁
  | some v =>
    refine wpAny_bind (wpAny_pure ?_)
    refine wpAny_bind (wpAny_mono h₁ (fun _ s₂ h₂ => ?_) fun _ _ h' => h')
    exact wpAny_bind (wpAny_bind (wpAny_mono h₂ (fun z s₃ h₃ => wpAny_bind (wpAny_mono h₃ (fun _ s₄ h₄ => wpAny_pure (wpAny_pure ⟨rfl, h₄⟩)) fun _ _ h' => h')) fun _ _ h' => h'))
end
end Mine
namespace Mine
section
variable {c : Cfg} {n : Nat} {env : Env} {ρ : Str → Option Value} {H : View} {d : D} {cl : List (Str × Addr)} {scope : Scope}

theorem Frm.comp2 {h : Heap} {C : Addr} {m : Str → Option Value} {x y : Str} {v u : Value} (F : Frm c env ρ h) (fo : FreeOk env scope cl) (hk : scope.kind = .function) (hn : h.Ns C m) (hm : m x = some v) (hm2 : m y = some u) (hC : C ≠ c.P)
    (hx : scope.names.lookup x = some .local) (hy : scope.names.lookup y = some .local) (hxy : x ≠ y) : Frm c (compEnvC scope cl C env) (upd (upd (freeρ cl ρ) x v) y u) h := by
  have F1 := Frm.comp F fo hk hn hm hC hx
  refine ⟨F1.kind, F1.gl, F1.bl, F1.apL, F1.apC, ⟨m, hn, fun z w e hl => ?_⟩, F1.cell, fun z w e hkd => ?_⟩
  · by_cases hz : z = y
    · subst hz; rw [upd_eq] at e; cases e; exact hm2
    · rw [upd_ne hz] at e
      by_cases hzx : z = x
      · subst hzx; rw [upd_eq] at e; cases e; exact hm
      · rw [upd_ne hzx] at e
        unfold freeρ at e
        cases q : cl.lookup z with
        | none => rw [q] at e; simp at e
        | some a =>
          have hl' : (relabel scope env).names.lookup z = some .local := hl
          rcases fo.kinds z a q with k | k <;> rw [k] at hl' <;> cases hl'
  · by_cases hz : z = y
    · subst hz
      have hl : (compEnvC scope cl C env).kindOf z = some .local := lookup_relabel_local hy
      rw [hl] at hkd
      rcases hkd with k | k <;> cases k
    · rw [upd_ne hz] at e
      exact F1.cel z w e hkd

theorem flat_one (f : D → D) : ∀ l : List D, (l.flatMap fun d => [f d]) = l.map f
  | [] => rfl
  | a :: r => by rw [List.flatMap_cons, flat_one f r]; rfl
theorem flat_le (f : D → List D) {N : Nat} : ∀ l : List D, (∀ d ∈ l, (f d).length ≤ N) → (l.flatMap f).length ≤ l.length * N
  | [], _ => by simp
  | a :: r, h => by
    have h1 := h a (by simp)
    have h2 := flat_le f r fun d hd => h d (List.mem_cons_of_mem _ hd)
    rw [List.flatMap_cons, List.length_append, List.length_cons, Nat.succ_mul]
    omega
theorem comp2Run {elt i0 i1 : Expr} {x y : Str} {px py pos : Pos} {ds : List D} {inn : D → List D} {g : D → D → D} {RR : Value → Addr → Result → Shared → Prop}
    (fo : FreeOk env scope cl) (hcell : ∀ y ∈ scope.names, y.2 ≠ .cell) (hkind : scope.kind = .function) (hx : scope.names.lookup x = some .local) (hy : scope.names.lookup y = some .local) (hxy : x ≠ y)
    {N : Nat} (hN : ∀ d ∈ ds, (inn d).length ≤ N) (hsz : (ds.length + 1) * N ≤ sizeLine)
    (hin : ∀ C d v H', d ∈ ds → VLe H H' → Rel H' v d → IT c n (compEnvC scope cl C env) (upd (freeρ cl ρ) x v) H' i1 (inn d))
    (hel : ∀ C d v d2 u H', d ∈ ds → d2 ∈ inn d → VLe H H' → Rel H' v d → Rel H' u d2 → PE c n (compEnvC scope cl C env) (upd (upd (freeρ cl ρ) x v) y u) H' elt (g d d2))
    (hs1 : ∀ env x, foldedSetIterable i1 env x = pure x)
    {A : Around} (ok : Ok A n) {s : Shared} {H₂ : View} (k : VLe H H₂) (I₂ : Inv c H₂ s.heap) {it : Addr} {fp wr : List Addr} {P : Nat → Value → Prop} {St : Nat → Heap → Prop}
    (W : Walks c.prog c.w A it fp wr ds.length P St) (st : St 0 s.heap) (hfp : ∀ b ∈ fp, b < s.heap.objs.size ∧ b ≠ c.P) (hwr : ∀ b ∈ wr, H₂ b = none) (stl : ∀ i h, St i h → ∀ b ∈ wr, (h.get? b).isSome = true)
    (hP : ∀ i v, i < ds.length → P i v → ∃ d, ds[i]? = some d ∧ Rel H₂ v d) {E : Value → Shared → Prop}
    (hsep : ∀ h', (∀ b o, b ≠ c.P → b ∉ wr → s.heap.get? b = some o → h'.get? b = some o) → Frm c env ρ h')
    (hRR : ∀ Dd C H' h' tk' vs k', DStep c ([Dd, C] ++ wr) H₂ s.heap H' h' → s.heap.get? Dd = none → s.heap.get? C = none → Dd ≠ C → H' Dd = none → H' C = none → h'.get? Dd = some (lstO vs k') → RelL H' vs.toList (ds.flatMap fun d => (inn d).map (g d)) → (∃ m, h'.Ns C m) →
      RR (.ref Dd) C (.ok .next) { s with heap := h', toks := tk' }) :
    wpAny (model c.prog c.w) A (newList []) (fun acc s₃ => wpAny (model c.prog c.w) A (newFunctionEnv scope env.globals cl [] env.qual none .none (some env)) (fun cenv s₄ =>
      codeAny (model c.prog c.w) A (.compStart (comp2 elt x y px py i0 i1 scope pos) 0 (.ref it) acc { cenv with scope := relabel scope env }) (RR acc cenv.locals) s₄) E s₃) E s := by
  refine wpAny_newObj_type (wpAny_newFunctionEnv hcell (by intro y hy; simp at hy) (fun h₁ hns₁ hsb₁ => ?_) hkind)
  dsimp only at hns₁ hsb₁ ⊢
  generalize hH2 : s.heap.push { cls := .type "list", dict := none, data := .seq ([] : List Value).toArray } = H2 at hns₁ hsb₁ ⊢
  have hC : H2.objs.size = s.heap.objs.size + 1 := by rw [← hH2, Heap.size_push]
  have hDC : s.heap.objs.size ≠ H2.objs.size := by rw [hC]; exact Nat.ne_of_lt (Nat.lt_succ_self _)
  have fresh : ∀ a, s.heap.objs.size ≤ a → s.heap.get? a = none := fun a ha => Heap.get?_none_of_le ha
  have nD := fresh s.heap.objs.size (Nat.le_refl _)
  have nC := fresh H2.objs.size (by rw [hC]; exact Nat.le_succ _)
  have hCfresh : H2.get? H2.objs.size = none := fresh_none H2
  have keep1 : ∀ b o, s.heap.get? b = some o → H2.get? b = some o := fun b o e => hH2 ▸ Heap.get?_push_of_some _ e
  have keep2 : ∀ b o, H2.get? b = some o → h₁.get? b = some o := fun b o e => (hsb₁.2 b (fun q => by rw [q, hCfresh] at e; cases e)).trans (Heap.get?_push_of_some _ e)
  have old : ∀ b o, s.heap.get? b = some o → h₁.get? b = some o := fun b o e => keep2 b o (keep1 b o e)
  have hacc : h₁.get? s.heap.objs.size = some (lstO #[] 0) := keep2 _ _ (hH2 ▸ Heap.get?_push_size _ rfl)
  have S₁ : HStep c H₂ s.heap H₂ h₁ := .grow I₂ old
  have hst₁ : St 0 h₁ := W.frame _ _ _ st fun b _ o e => old b o e
  have PD : s.heap.objs.size ≠ c.P := I₂.neP nD
  have PC : H2.objs.size ≠ c.P := I₂.neP nC
  have hbig : ∀ b ∈ fp, b < s.heap.objs.size := fun b hb => (hfp b hb).1
  have two : ∀ {b : Addr}, b ∈ [s.heap.objs.size, H2.objs.size] → b = s.heap.objs.size ∨ b = H2.objs.size := fun hb => by simpa using hb
  have loop : codeAny (model c.prog c.w) A (.compLoop (comp2 elt x y px py i0 i1 scope pos) 0 (.ref it) (.ref s.heap.objs.size) (compEnvC scope cl H2.objs.size env))
        (RR (.ref s.heap.objs.size) H2.objs.size) { s with heap := h₁, toks := s.toks + ([] : List (Str × Value)).length } := by
    refine comp_inv (H := H₂) (mu := [s.heap.objs.size, H2.objs.size]) (ds := ds) (px := px) (x := x) (cenv := compEnvC scope cl H2.objs.size env) (Acc := AccL s.heap.objs.size) (VI := fun h => ∃ m, h.Ns H2.objs.size m) (FV := fun v h => ∃ m, h.Ns H2.objs.size m ∧ m x = some v)
      (em := fun d => (inn d).map (g d)) (rs₀ := [])
      (BT := fun Q E s9 => wpAny (model c.prog c.w) A (eval i1 (compEnvC scope cl H2.objs.size env)) (fun z s₃ => wpAny (model c.prog c.w) A (pyIter z) (fun it' s₄ =>
          codeAny (model c.prog c.w) A (.compStart (comp2 elt x y px py i0 i1 scope pos) 1 it' (.ref s.heap.objs.size) (compEnvC scope cl H2.objs.size env)) (fun r s' => match r with | .ok f => Q () s' | .error e => cameBackBy (model c.prog c.w) A (compEnvC scope cl H2.objs.size env) E e s') s₄) E s₃) E s9)
      W hP (fun J turn n' s' hJ => codeAny_loop_outer J (fun n s h => turn n s h) n' hJ (hs1 _)) ?_ (fun b hb => (hfp b hb).2) hwr (stl 0 h₁ hst₁) ?_ ?_ stl S₁.inv hst₁ ⟨#[], 0, hacc, .nil⟩ ⟨_, hns₁⟩ ?_ ?_ ?_ ?_ ?_
    · intro b hb hf
      rcases two hb with rfl | rfl
      · exact Nat.lt_irrefl _ (hbig _ hf)
      · exact absurd (hbig _ hf) (by rw [hC]; exact Nat.not_lt.mpr (Nat.le_succ _))
    · intro b hb
      rcases two hb with rfl | rfl
      · exact I₂.none_of nD
      · exact I₂.none_of nC
    · intro b hb
      rcases two hb with rfl | rfl
      · show (h₁.get? _).isSome = true
        rw [hacc]; rfl
      · obtain ⟨o, _, _, ho, _⟩ := hns₁
        show (h₁.get? _).isSome = true
        rw [ho]; rfl
    · rintro X₁ X₂ g₁ g₂ rs hX hg ⟨vs, k', h1, h2⟩
      exact ⟨vs, k', hg _ _ (by simp) h1, h2.mono hX⟩
    · rintro g₁ g₂ hg ⟨m, hm⟩
      exact ⟨m, hm.at' fun o e => hg _ o (by simp) e⟩
    · rintro v H' s' S' ⟨m, hm⟩ Q E q
      have offC : H' H2.objs.size = none := S'.miss (by obtain ⟨o, _, _, ho, _⟩ := hns₁; show (h₁.get? _).isSome = true; rw [ho]; rfl) (I₂.none_of nC)
      refine wpAny_assign_Name (wpAny_storeName_local (env := compEnvC scope cl H2.objs.size env) (lookup_relabel_local hx) hm (fun h₂' hn₂ hs₂ => ?_) (by show (scope.kind == .class || (scope.kind == .module && _)) = false; rw [hkind]; rfl))
      have hs₂' : Heap.SameBut H2.objs.size s'.heap h₂' := hs₂
      have hn₂' : h₂'.Ns H2.objs.size (fun y => if y = x then some v else m y) := hn₂
      refine q h₂' _ (MStep.at S'.inv (by simp) offC PC hs₂' ?_) ⟨_, hn₂', by simp⟩ ⟨_, hn₂'⟩ ?_
      · obtain ⟨o, _, _, ho, _⟩ := hn₂'
        rw [ho]; rfl
      · rintro rs ⟨vs, k', h1, h2⟩
        exact ⟨vs, k', (hs₂'.2 _ hDC).trans h1, h2⟩
    · rintro d v H' s' rs i hd hi hrs S' offM R' ⟨m, hm, hmx⟩ - ⟨vs, k', ha, hr⟩ Q E q
      have offD : H' s.heap.objs.size = none := offM _ (by simp)
      have offC : H' H2.objs.size = none := offM _ (by simp)
      have FF : ∀ {h' : Heap}, (∀ b o, b ≠ c.P → b ≠ s.heap.objs.size → b ≠ H2.objs.size → s'.heap.get? b = some o → h'.get? b = some o) → Frm c env ρ h' := fun hk => hsep _ fun b o hb hw e₂ => by
        have h1 : b ≠ s.heap.objs.size := fun q => by rw [q, nD] at e₂; cases e₂
        have h2 : b ≠ H2.objs.size := fun q => by rw [q, nC] at e₂; cases e₂
        refine hk b o hb h1 h2 (S'.ext b o hb (fun hm' => ?_) (old b o e₂))
        rcases List.mem_append.mp hm' with q' | q'
        · exact (two q').elim h1 h2
        · exact hw q'
      have F' : Frm c (compEnvC scope cl H2.objs.size env) (upd (freeρ cl ρ) x v) s'.heap := Frm.comp (FF fun b o _ _ _ e => e) fo hkind hm hmx PC hx
      have Cne : H2.objs.size ≠ s.heap.objs.size := Ne.symm hDC
      have liveMu : ∀ b ∈ [s.heap.objs.size, H2.objs.size], (s'.heap.get? b).isSome = true := fun b hb => by
        rcases two hb with rfl | rfl
        · rw [ha]; rfl
        · obtain ⟨o, _, _, ho, _⟩ := hm; rw [ho]; rfl
      refine (hin H2.objs.size d v H' hd (k.trans S'.up) R').run A ok s' H' (.refl _) S'.inv F' _ _ fun it' fp' wr' P' St' H₄ h₄ t₄ S₄ W' st' hfp' hwr' stl' hP' hnw' => ?_
      have loop' : codeAny (model c.prog c.w) A (.compLoop (comp2 elt x y px py i0 i1 scope pos) 1 (.ref it') (.ref s.heap.objs.size) (compEnvC scope cl H2.objs.size env))
          (fun r s' => match r with | .ok f => Q () s' | .error e => cameBackBy (model c.prog c.w) A (compEnvC scope cl H2.objs.size env) E e s') { s' with heap := h₄, toks := t₄ } := by
        have off4 : ∀ b ∈ [s.heap.objs.size, H2.objs.size], H₄ b = none := fun b hb => by
          obtain ⟨o, ho⟩ := Option.isSome_iff_exists.mp (liveMu b hb)
          exact S₄.miss ho (offM b hb)
        have hm₄ : h₄.Ns H2.objs.size m := hm.at' fun o e => S₄.ext _ o PC e
        have ha₄ := S₄.ext _ _ PD ha
        refine comp_inv (H := H₄) (mu := [s.heap.objs.size, H2.objs.size]) (ds := inn d) (px := py) (x := y) (cenv := compEnvC scope cl H2.objs.size env) (Acc := AccL s.heap.objs.size) (VI := fun h => ∃ m, h.Ns H2.objs.size m ∧ m x = some v) (FV := fun u h => ∃ m, h.Ns H2.objs.size m ∧ m x = some v ∧ m y = some u)
          (em := fun d2 => [g d d2]) (rs₀ := rs)
          (BT := fun Q E s9 => wpAny (model c.prog c.w) A (eval elt (compEnvC scope cl H2.objs.size env)) (fun z s₃ => wpAny (model c.prog c.w) A (PySem.call (.builtin "list.append") [.ref s.heap.objs.size, z]) (fun _ s₄ => Q () s₄) E s₃) E s9)
          W' hP' (fun J turn n' s' hJ => codeAny_loop_inner J (fun n s h => turn n s h) n' hJ) ?_ (fun b hb => (hfp' b hb).2) (fun b hb => (hwr' b hb).1) (stl' 0 h₄ st') off4 ?_ stl' S₄.inv st' ⟨vs, k', ha₄, hr.mono S₄.up⟩ ⟨m, hm₄, hmx⟩ ?_ ?_ ?_ ?_ ?_
        · intro b hb hf
          rcases hnw' b hf with ⟨o, ho⟩ | hn
          · rw [off4 b hb] at ho; cases ho
          · have := liveMu b hb; rw [hn] at this; cases this
        · intro b hb
          rcases two hb with rfl | rfl
          · show (h₄.get? _).isSome = true
            rw [ha₄]; rfl
          · obtain ⟨o, _, _, ho, _⟩ := hm₄
            show (h₄.get? _).isSome = true
            rw [ho]; rfl
        · rintro X₁ X₂ g₁ g₂ rs hX hg ⟨vs, k', h1, h2⟩
          exact ⟨vs, k', hg _ _ (by simp) h1, h2.mono hX⟩
        · rintro g₁ g₂ hg ⟨m, hm, hmx⟩
          exact ⟨m, hm.at' fun o e => hg _ o (by simp) e, hmx⟩
        · rintro u H₅ s₅ S₅ ⟨m', hm', hmx'⟩ Q E q
          have offC5 : H₅ H2.objs.size = none := S₅.miss (by obtain ⟨o, _, _, ho, _⟩ := hm₄; show (h₄.get? _).isSome = true; rw [ho]; rfl) (off4 _ (by simp))
          refine wpAny_assign_Name (wpAny_storeName_local (env := compEnvC scope cl H2.objs.size env) (lookup_relabel_local hy) hm' (fun h₆ hn₆ hs₆ => ?_) (by show (scope.kind == .class || (scope.kind == .module && _)) = false; rw [hkind]; rfl))
          have hs₆' : Heap.SameBut H2.objs.size s₅.heap h₆ := hs₆
          have hn₆' : h₆.Ns H2.objs.size (fun z => if z = y then some u else m' z) := hn₆
          have hx6 : (fun z => if z = y then some u else m' z) x = some v := by
            show (if x = y then some u else m' x) = some v
            rw [if_neg hxy]; exact hmx'
          refine q h₆ _ (MStep.at S₅.inv (by simp) offC5 PC hs₆' ?_) ⟨_, hn₆', hx6, by simp⟩ ⟨_, hn₆', hx6⟩ ?_
          · obtain ⟨o, _, _, ho, _⟩ := hn₆'
            rw [ho]; rfl
          · rintro rs ⟨vs, k', h1, h2⟩
            exact ⟨vs, k', (hs₆'.2 _ hDC).trans h1, h2⟩
        · rintro d2 u H₅ s₅ rs' j hd2 hj hrs' S₅ offM5 R₅ ⟨m', hm', hmx', hmy'⟩ - ⟨vs', k5, ha5, hr5⟩ Q E q
          have offD5 : H₅ s.heap.objs.size = none := offM5 _ (by simp)
          have F5 : Frm c (compEnvC scope cl H2.objs.size env) (upd (upd (freeρ cl ρ) x v) y u) s₅.heap := by
            refine Frm.comp2 (FF fun b o hb h1 h2 e => ?_) fo hkind hm' hmx' hmy' PC hx hy hxy
            refine S₅.ext b o hb (fun hm'' => ?_) (S₄.ext b o hb e)
            rcases List.mem_append.mp hm'' with q' | q'
            · exact (two q').elim h1 h2
            · rw [(hwr' b q').2] at e; cases e
          have up5 := (k.trans S'.up).trans (S₄.up.trans S₅.up)
          refine (hel H2.objs.size d v d2 u H₅ hd hd2 up5 (R'.mono (S₄.up.trans S₅.up)) R₅).run A ok s₅ H₅ (.refl _) S₅.inv F5 _ _ fun z H₆ h₆ t₆ S₆ R₆ => ?_
          have ha6 := S₆.ext _ _ PD ha5
          have hm6 : h₆.Ns H2.objs.size m' := hm'.at' fun o e => S₆.ext _ o PC e
          have offD6 : H₆ s.heap.objs.size = none := S₆.miss ha5 offD5
          refine wpAny_list_append_plain (items := vs') ⟨k5, ha6⟩ (fun h₇ hl₇ hs₇ => ?_) ?_
          · obtain ⟨k₇, ha₇⟩ := hl₇
            refine q H₆ h₇ t₆ (S₆.toM.trans (MStep.at S₆.inv (by simp) offD6 PD hs₇ (by rw [ha₇]; rfl))) ⟨vs'.push z, k₇, ha₇, ?_⟩ ⟨m', hm6.sameBut hs₇ Cne, hmx'⟩
            rw [Array.toList_push]
            exact (hr5.mono S₆.up).append (.cons R₆ .nil)
          · have e1 := hr5.length
            have e3 : vs'.toList.length = vs'.size := by simp
            have hle : rs'.length ≤ (ds.length + 1) * N := by
              rw [hrs', hrs, List.nil_append, List.length_append]
              have e5 : ((inn d).take j |>.flatMap fun d2 => [g d d2]).length ≤ N := by
                rw [flat_one, List.length_map, List.length_take]
                exact Nat.le_trans (Nat.min_le_right _ _) (hN d hd)
              have e6 := flat_le (fun d => (inn d).map (g d)) (N := N) (ds.take i) (fun d hd => by rw [List.length_map]; exact hN d (List.mem_of_mem_take hd))
              have e7 : (ds.take i).length * N ≤ ds.length * N := Nat.mul_le_mul_right _ (by rw [List.length_take]; exact Nat.min_le_right _ _)
              rw [Nat.succ_mul]
              omega
            omega
        · rintro H₅ h₅ t₅ S₅ offM5 ⟨vs', k5, ha5, hr5⟩ ⟨m', hm', hmx'⟩
          refine q H₅ h₅ t₅ ⟨S₄.up.trans S₅.up, fun b o e => ?_, fun b o hb hm'' e => ?_, fun b hb _ => ?_, S₅.inv⟩ ⟨vs', k5, ha5, ?_⟩ ⟨m', hm'⟩
          · rcases S₅.fresh b o e with e' | e'
            · exact S₄.fresh b o e'
            · exact .inr (S₄.alive S'.inv e')
          · refine S₅.ext b o hb (fun q' => ?_) (S₄.ext b o hb e)
            rcases List.mem_append.mp q' with q' | q'
            · exact hm'' q'
            · rw [(hwr' b q').2] at e; cases e
          · rcases two hb with rfl | rfl
            · rw [ha5]; rfl
            · obtain ⟨o, _, _, ho, _⟩ := hm'; rw [ho]; rfl
          · rw [flat_one] at hr5; exact hr5
      exact codeAny_start_inner loop' (W'.self 0 _ _ _ st' loop')
    · rintro H' h' t' S' offM ⟨vs, k', ha, hr⟩ hm
      rw [List.nil_append] at hr
      exact hRR _ _ H' h' t' vs k' ⟨S'.up, fun b o e => (S'.fresh b o e).imp id (fun e' => S₁.alive I₂ e'), fun b o hb hm' e => S'.ext b o hb hm' (old b o e), S'.inv⟩ nD nC hDC (offM _ (by simp)) (offM _ (by simp)) ha hr hm
  exact codeAny_compStart_list loop (W.self 0 _ _ _ hst₁ loop)

theorem PE.listComp2 {elt i0 i1 : Expr} {x y : Str} {px py pos : Pos} {ds : List D} {inn : D → List D} {g : D → D → D}
    (fo : FreeOk env scope cl) (hcell : ∀ y ∈ scope.names, y.2 ≠ .cell) (hkind : scope.kind = .function) (hnames : ∀ y ∈ scope.names, y.2 = .local → scope.names.lookup y.1 = some .local) (hx : scope.names.lookup x = some .local) (hy : scope.names.lookup y = some .local) (hxy : x ≠ y)
    (it : IT c n env ρ H i0 ds) {N : Nat} (hN : ∀ d ∈ ds, (inn d).length ≤ N) (hsz : (ds.length + 1) * N ≤ sizeLine)
    (hin : ∀ C d v H', d ∈ ds → VLe H H' → Rel H' v d → IT c n (compEnvC scope cl C env) (upd (freeρ cl ρ) x v) H' i1 (inn d))
    (hel : ∀ C d v d2 u H', d ∈ ds → d2 ∈ inn d → VLe H H' → Rel H' v d → Rel H' u d2 → PE c n (compEnvC scope cl C env) (upd (upd (freeρ cl ρ) x v) y u) H' elt (g d d2))
    (hs : ∀ x, foldedSetIterable i0 env x = pure x := by intro _; rfl) (hs1 : ∀ env x, foldedSetIterable i1 env x = pure x := by intro _ _; rfl) :
    PE c n env ρ H (comp2 elt x y px py i0 i1 scope pos) (.list (ds.flatMap fun d => (inn d).map (g d))) := ⟨fun A ok s H₁ k I F Q E q => by
  rw [eval_ListComp]
  refine wpAny_comprehension_free (use := none) rfl hs fo.clos hkind hnames (it.run A ok s H₁ k I F _ _ fun it fp wr P St H₂ h₂ t₂ S₂ W st hfp hwr stl hP hnw => ?_)
  refine comp2Run fo hcell hkind hx hy hxy hN hsz hin hel hs1 ok (s := { s with heap := h₂, toks := t₂ }) (k.trans S₂.up) S₂.inv W st hfp (fun b hb => (hwr b hb).1) stl hP (fun h' hk => F.ext fun b o hb e => hk b o hb (fun hw => by rw [(hwr b hw).2] at e; cases e) (S₂.ext b o hb e)) ?_
  rintro Dd C H' h' tk' vs k' S' nD nC hDC oD oC ha hr ⟨m, hm⟩
  refine ⟨m, hm, fun h'' hs'' => ?_⟩
  have z := DStep.frozen S₂ I S' nD nC hDC oD oC (fun b hb => (hwr b hb).2) hs'' ha
  exact q _ _ h'' tk' z (.list View.add_self (hr.mono (View.le_add oD)))⟩
end
end Mine
namespace Mine

section
variable {c : Cfg}
theorem array_out_node (hK : c.K = Mine.hd.heap_39 c.w.params) {n : Nat} {H : View} {l : List D} (hsz : szs l ≤ 1000000)
    (ih : ∀ t ∈ l, ∀ H', VLe H H' → Fun c n (.ref 745) H' [t] (.str t.txt)) : Fun c (n + 1) (.ref 745) H [.list l] (.str (D.list l).txt) := by
  refine' Fun.enter (ps := [Str.ofString "val"]) ?ho ?hcd ?hbind ?hloc ?hcell ?h ?h1 ?h2 ?h3
  case ho => rw [hK]; k_is
  case hcd => rw [hK]; k_is
  case h1 => rfl
  case h2 => rfl
  case h3 => rfl
  case hcell => decide
  case hloc => decide
  case hbind => intro vs hl; obtain ⟨v, rfl⟩ := one_of hl rfl; rfl
  case h =>
    intro vs H₁ L k R
    obtain ⟨v, rfl⟩ := one_of R.length rfl
    have r := R.one
    refine SR.ifRet (b := true) (PT.bool (PE.call rfl (globB (by rw [hK]; k_is) (by decide +kernel)) (.builtin _) (PEs.two (PE.name (v := v) rfl r (.inl rfl)) (PE.glob (globB (v := .type "list") (by rw [hK]; k_is) (by decide +kernel)) rfl)) Fun.isList)) (fun _ => ?_) (fun h => by cases h)
    have hlen : l.length ≤ sizeLine := by
      have := szs_sum l
      have e : sizeLine = 16777216 := by decide
      omega
    refine SR.assignCompAll (g := fun d => .str d.txt) rfl rfl (by decide) (by decide) rfl (by decide) rfl (IT.list (PE.name (v := v) rfl r (.inl rfl))) hlen ?_ ?_
    · intro C d u H' hd hH ru
      exact PE.call rfl (.inl (by rw [hK]; k_is)) (.fn (by rw [hK]; k_is)) (PEs.one (PE.name (v := u) rfl ru (.inl rfl))) (ih d hd H' (k.trans hH))
    · intro u H' hH ru
      have e : l.map (fun d => D.str d.txt) = (txts l).map D.str := by rw [txts_map, List.map_map]; rfl
      rw [e] at ru
      rw [D.txt]
      refine SR.ret (PE.joined (xs := [Str.ofString "{", Str.join (Str.ofString ",") (txts l), Str.ofString "}"]) (.cons PE.constStr (.cons (PE.fmt (PE.meth PE.constStr MethR.join (PEs.one (PE.name (v := u) rfl ru (.inl rfl))) (Fun.join (D.joinOk hsz)) (.mk (fun _ _ => rfl) (fun _ => rfl) (by decide) (by decide))) ?_) (.cons PE.constStr .nil))) ?_)
      · exact join_le hsz
      · have := txt_fits hsz
        rwa [D.txt] at this
end
end Mine
namespace Mine

section
variable {c : Cfg} {n : Nat} {env : Env} {ρ : Str → Option Value} {H : View} {d : D}
theorem array_out_sp (hK : c.K = Mine.hd.heap_39 c.w.params) {d : D} (h : d.Bare) : d.sz ≤ 1000000 → ∀ (n : Nat) (H : View), Fun c (n + d.ht) (.ref 745) H [d] (.str d.txt) := by
  induction h with
  | @node l hl ih =>
    intro hsz n H
    rw [D.sz] at hsz
    show Fun c (n + hts l + 1) (.ref 745) H [.list l] _
    refine array_out_node hK (by omega) fun t ht H' hH => ?_
    have h1 := sz_mem ht
    have h2 := ht_mem ht
    exact (ih t ht (by omega) n H').mono (by omega) (.refl _)

theorem PT.or {a b : Expr} {pos : Pos} {x y : Bool} (ha : PT c n env ρ H a x) (hb : x = false → PT c n env ρ H b y) : PT c n env ρ H (.BoolOp .Or [a, b] pos) (x || y) :=
  ⟨fun A ok s H₁ k I F Q E q => isTrue_or (ha.run A ok s H₁ k I F _ _ fun H₂ h₂ t₂ S₂ => by
    cases x with
    | true => simp only [if_true]; exact q H₂ h₂ t₂ S₂
    | false =>
      simp only [Bool.false_eq_true, if_false]
      refine isTrue_or ((hb rfl).run A ok _ H₂ (k.trans S₂.up) S₂.inv (F.step S₂) _ _ fun H₃ h₃ t₃ S₃ => ?_)
      cases y with
      | true => simp only [if_true]; exact q H₃ h₃ t₃ (S₂.trans S₃ I)
      | false => simp only [Bool.false_eq_true, if_false]; exact isTrue_or_nil (q H₃ h₃ t₃ (S₂.trans S₃ I)))⟩

/-- a list given from without -/
structure Given (H : View) (a : Addr) (ds : List D) : Prop where
  ex : ∃ o vs m, H a = some o ∧ o.cls = .type "list" ∧ o.data = .seq vs m ∧ RelL H vs.toList ds
theorem Given.mono {H H' : View} {a : Addr} {ds : List D} (x : Given H a ds) (k : VLe H H') : Given H' a ds := let ⟨o, vs, m, h1, h2, h3, h4⟩ := x.ex; ⟨o, vs, m, k _ _ h1, h2, h3, h4.mono k⟩

theorem Fun.lenG {a : Addr} {ds : List D} (g : Given H a ds) (hf : ds.length ≤ sizeLine) : Fun c n (.builtin "len") H [.raw (.ref a)] (.int (ds.length : Int)) := ⟨fun A ok s H₁ vs k I R Q E q => by
  cases R with
  | cons r t =>
    cases t; cases r
    obtain ⟨o, ws, m, h1, h2, h3, h4⟩ := g.ex
    have e : ws.size = ds.length := by have := h4.length; simpa using this
    refine call_len_list (l := a) (items := ws) ⟨_, I.le _ _ (k _ _ h1), h2, m, h3⟩ ?_ ?_
    · have e2 : sizeLine = 16777216 := by decide
      omega
    · rw [e]; exact q _ H₁ s.heap _ (.refl I) (.int _ _)⟩
theorem PE.idxG {e x : Expr} {pos : Pos} {a : Addr} {l : List D} {i : Nat} (g : Given H a l) (he : PE c n env ρ H e (.raw (.ref a))) (hx : PE c n env ρ H x (.int (i : Int))) (hi : l[i]? = some d) (hb : i < 2 ^ 62) (hs : ∀ o i, subscripted x false o i = operate [o, i] (getItem o i) := by intro _ _; with_unfolding_all rfl) : PE c n env ρ H (.Subscript e x pos) d :=
  ⟨fun A ok s H₁ k I F Q E q => Sub_any (he.run A ok s H₁ k I F _ _ fun v H₂ h₂ t₂ S₂ R₂ => hx.run A ok _ H₂ (k.trans S₂.up) S₂.inv (F.step S₂) _ _ fun w H₃ h₃ t₃ S₃ R₃ => by
    cases R₂
    obtain ⟨o, ws, m, h1, h2, h3, h4⟩ := (g.mono ((k.trans S₂.up).trans S₃.up)).ex
    obtain ⟨y, hy, ry⟩ := h4.get' hi
    have hg := S₃.inv.le _ _ h1
    cases R₃ with
    | int _ t =>
      exact ⟨"list", "list.__getitem__", slot_list_getitem.lookup, ⟨o, hg, h2⟩, wpAny_getItem_list (s := { s with heap := h₃, toks := t₃ }) ⟨o, hg, h2, m, h3⟩ (by omega) (by omega) (x := y) (by simpa using hy) (q y H₃ h₃ t₃ (S₂.trans S₃ I) ry)⟩) hs⟩

theorem PE.globR {x : Str} {pos : Pos} {v : Value} (g : GlobV c x v) (hr : ∀ H h, Inv c H h → Rel H v d) (hx : env.kindOf x = some .globalImplicit) (hd : (x == ("__debug__" : Str)) = false := by decide) : PE c n env ρ H (.Name x pos) d :=
  ⟨fun A _ s H₁ k I F Q E q => ldGlob I F hx g hd (q v H₁ s.heap s.toks (.refl I) (hr H₁ s.heap I))⟩
theorem Rel.ofK {a : Addr} {vs : Array Value} {m : Nat} {ds : List D} (hk : c.K.lookup a = some (tupO vs m)) (hr : ∀ H : View, RelL H vs.toList ds) : ∀ H h, Inv c H h → Rel H (.ref a) (.tup ds) := fun H h I => .tup (I.base _ _ (c.k _ _ hk)) (hr H)
end
end Mine
namespace Mine

theorem ints_rel {H : View} : ∀ {vs : List Value} {ns : List Int}, IntsAre vs ns → RelL H vs (ns.map D.int)
  | _, _, .nil => .nil
  | _, _, .cons n t h => .cons (.int n t) (ints_rel h)

def scriptρ (sa : Addr) : Str → Option Value := fun x => if x = Str.ofString "script" then some (.ref sa) else none

theorem law_close {prog : Program} {w : World} {h₀ h₁ : Heap} {s₁ : Shared} {tk₁ : Tok} {mg mb m : Str → Option Value} {L sa : Addr} {vs : List Value} {ns : List Int} {loose : List Str} {mean : ExcName → Option Value} {env : Env} {body : List Stmt} {news : List (Addr × Obj)} {Q : Flow → Shared → Prop} {E : Value → Shared → Prop}
    (X : (Mine.hd.heap_39 w.params).In h₀) (T : Top topProg loose mean mg mb h₀) (C : CodeHd h₀ 725 721) (hl : h₀.IsList sa vs.toArray) (hI : IntsAre vs ns) (F : Fr h₀ L h₁ m) (N : News h₀ L h₁ news) (hP : (721, tabObj #[]) ∈ news)
    (hcells : ∀ x a, env.cells.lookup x = some a → ∃ o v, (a, o) ∈ news ∧ o.data = .cell v ∧ (x = Str.ofString "script" → v = some (.ref sa)))
    (hs : env.kindOf "script" = some .cell) (hsc : ∃ a, env.cells.lookup (Str.ofString "script") = some a) (hL : env.locals = L) (hgl : env.globals = mainGlobals) (hbl : env.builtins = builtinsNs) (hk : env.scope.kind = .function)
    (main : ∀ c : Cfg, Cst c → c.w = w → ∀ H, Given H sa (ns.map D.int) → SR c 40 env (scriptρ sa) H body (.bool true))
    (hQ : ∀ h' tk', (∀ b o, h₀.get? b = some o → h'.get? b = some o) → GrownAll [(725, 721)] h' → Q (.ret (.bool true)) { s₁ with heap := h', toks := tk' }) :
    wpAny (model prog w) (callerA.deeper env) (execs body env) Q E { s₁ with heap := h₁, toks := tk₁ } := by
  have hN := N _ hP
  let c : Cfg := { prog := prog, w := w, K := Mine.hd.heap_39 w.params, P := 721, cc := 725, tl := 430, tc := 4, tq := Str.ofString "_array_in.<locals>.f", h₀ := h₀, mg := mg, mb := mb, k := X, g := T.g, b := T.b, nolimit := T.nolimit, bt := T.builtins, nodig := T.nodigits, bmain := T.bmain, chd := C, noP := hN.2.2 }
  have I : Inv c (fun b => h₀.get? b) h₁ := ⟨F.keep, fun b o e => e, hN.2.2, ⟨_, hN.1, .inl rfl⟩⟩
  have nL : h₀.get? L = none := Heap.get?_none_of_le F.above
  have cellNe : ∀ x a, env.cells.lookup x = some a → a ≠ 721 := fun x a e => by
    obtain ⟨o, v, h1, h2, _⟩ := hcells x a e
    intro q
    have h3 := (N _ h1).1
    rw [q] at h3
    rw [hN.1] at h3
    cases h3; cases h2
  have Fm : Frm c env (scriptρ sa) h₁ := by
    refine ⟨hk, hgl, hbl, by rw [hL]; exact Ne.symm hN.2.1, cellNe, ⟨m, by rw [hL]; exact F.ns, fun x v e hkd => ?_⟩, fun x a e => ?_, fun x v e hkd => ?_⟩
    · unfold scriptρ at e
      by_cases hx : x = Str.ofString "script"
      · subst hx
        have hs' : env.kindOf (Str.ofString "script") = some .cell := hs
        rw [hs'] at hkd; cases hkd
      · rw [if_neg hx] at e; cases e
    · obtain ⟨o, v, h1, h2, _⟩ := hcells x a e
      exact ⟨v, o, (N _ h1).1, h2⟩
    · unfold scriptρ at e
      by_cases hx : x = Str.ofString "script"
      · rw [if_pos hx] at e
        cases e
        obtain ⟨a, ha⟩ := hsc
        obtain ⟨o, v, h1, h2, h3⟩ := hcells _ a ha
        exact ⟨a, hx ▸ ha, o, (N _ h1).1, by rw [h2, h3 rfl]⟩
      · rw [if_neg hx] at e; cases e
  have hG : Given (fun b => h₀.get? b) sa (ns.map D.int) := by
    obtain ⟨o, h1, h2, n, h3⟩ := hl
    exact ⟨o, vs.toArray, n, h1, h2, h3, ints_rel hI⟩
  refine (main c ⟨rfl, rfl, rfl, rfl, rfl⟩ rfl _ hG).run (callerA.deeper env) ⟨rfl, by show callerA.depth + 1 + 40 < recursionLimit; decide, by show callerA.units + 3 + 8 * 40 + 100 < cLine; decide⟩ { s₁ with heap := h₁, toks := tk₁ } _ (.refl _) I Fm (by rw [hL]; exact nL) (fun x a e => ?_) Q E ?_
  · obtain ⟨o, v, h1, h2, _⟩ := hcells x a e
    exact (N _ h1).2.2
  · intro v H' h' tk' hup hfr hext I' R'
    cases R'
    refine hQ h' tk' (fun b o e => I'.le b o (hup b o e)) ⟨?_, trivial⟩
    obtain ⟨o, h1, h2⟩ := I'.tb
    rcases h2 with rfl | ⟨_, _, _, _, rfl, _⟩
    · exact ⟨_, h1⟩
    · exact ⟨_, h1⟩
end Mine
namespace Mine
def drawAt (ns : List Int) (k : Nat) : Int := (ns[k]?).getD ([2059, 777, 13].getD k 0)
theorem fmod_nat (a : Int) (m : Nat) (h : 0 < m) : ∃ k : Nat, a.fmod (m : Int) = (k : Int) ∧ k < m := by
  have h1 : 0 ≤ a.fmod (m : Int) := Int.fmod_nonneg_of_pos _ (by omega)
  have h2 : a.fmod (m : Int) < (m : Int) := Int.fmod_lt_of_pos _ (by omega)
  exact ⟨(a.fmod (m : Int)).toNat, by omega, by omega⟩
theorem apart2 {env : Env} {x1 x2 : Str} {a1 a2 : Addr} (h : a1 ≠ a2) (e : env.cells = [(x1, a1), (x2, a2)]) : CellsApart env := by
  intro x y a h1 h2
  rw [e] at h1 h2
  have look : ∀ z, List.lookup z [(x1, a1), (x2, a2)] = some a → (z = x1 ∧ a = a1) ∨ (z = x2 ∧ a = a2) := by
    intro z hz
    rw [List.lookup_cons] at hz
    cases hx : (z == x1) with
    | true => rw [hx] at hz; cases hz; exact .inl ⟨eq_of_beq hx, rfl⟩
    | false =>
      rw [hx] at hz
      dsimp only at hz
      rw [List.lookup_cons] at hz
      cases hy : (z == x2) with
      | true => rw [hy] at hz; cases hz; exact .inr ⟨eq_of_beq hy, rfl⟩
      | false => rw [hy] at hz; cases hz
  rcases look x h1 with ⟨e1, e2⟩ | ⟨e1, e2⟩ <;> rcases look y h2 with ⟨e3, e4⟩ | ⟨e3, e4⟩
  · rw [e1, e3]
  · exact absurd (e2.symm.trans e4) h
  · exact absurd (e4.symm.trans e2) h
  · rw [e1, e3]

theorem bit_and (a b : Nat) : Builtin.bitAnd (a : Int) (b : Int) = ((a &&& b : Nat) : Int) := by
  rfl
theorem bit_or (a b : Nat) : Builtin.bitOr (a : Int) (b : Int) = ((a ||| b : Nat) : Int) := by
  have hn : ∀ x : Int, Builtin.bitNot x = -x - 1 := fun x => by unfold Builtin.bitNot; omega
  have h1 : decide (0 ≤ Builtin.bitNot (a : Int)) = false := by rw [hn]; exact decide_eq_false (by omega)
  have h2 : decide (0 ≤ Builtin.bitNot (b : Int)) = false := by rw [hn]; exact decide_eq_false (by omega)
  have h3 : ∀ x : Int, Builtin.bitNot (Builtin.bitNot x) = x := fun x => by rw [hn, hn]; omega
  unfold Builtin.bitOr Builtin.bitAnd
  rw [h1, h2]
  dsimp only
  rw [h3, h3, h3]
  rfl
theorem shr_nat (a k : Nat) : ((a : Int).fdiv (2 ^ ((k : Int)).toNat)) = ((a / 2 ^ k : Nat) : Int) := by
  have h1 : ((k : Int)).toNat = k := rfl
  rw [h1]
  have : ((2 : Int) ^ k) = ((2 ^ k : Nat) : Int) := by simp
  rw [this, Int.fdiv_eq_ediv_of_nonneg _ (Int.natCast_nonneg _)]
  rfl
theorem low_nat (a : Nat) : Builtin.bitAnd (a : Int) 1 = ((a % 2 : Nat) : Int) := by rw [bitAnd_m1]; rfl

/-- both together -/
theorem both_num {a b : Nat} (ha : a < 4096) (hb : b < 4096) : (D.list ((bitsOf a).map (tr 3) ++ (bitsOf b).map (tr 3))).num = a ||| b := by
  have h4 : (4096 : Nat) < lim 4 := by decide
  have hn : ∀ m, m < 4096 → ∀ i, i ∈ ((bitsOf m).map (tr 3)).map D.num ↔ m.testBit i = true := by
    intro m hm i
    rw [List.map_map, List.mem_map, ← bits_mem]
    constructor
    · rintro ⟨k, hk, rfl⟩
      have := tr_num 3 k (bits_lim hk (by show m < lim 4; omega))
      show (tr 3 k).num ∈ _
      rw [this]; exact hk
    · intro hi
      exact ⟨i, hi, tr_num 3 i (bits_lim hi (by show m < lim 4; omega))⟩
  refine Nat.eq_of_testBit_eq fun i => ?_
  rw [num_bit, List.map_append, Nat.testBit_or, Bool.eq_iff_iff, decide_eq_true_eq, List.mem_append, hn a ha, hn b hb, Bool.or_eq_true]
theorem both_sm {a b : Nat} (ha : a < 4096) (hb : b < 4096) : (D.list ((bitsOf a).map (tr 3) ++ (bitsOf b).map (tr 3))).Sm := by
  have h4 : (4096 : Nat) < lim 4 := by decide
  have h1 := tr_sm 4 a (by omega) (by omega)
  have h2 := tr_sm 4 b (by omega) (by omega)
  cases h1 with
  | node _ p q => cases h2 with
    | node _ p' q' =>
      exact .node _ (fun t ht => (List.mem_append.mp ht).elim (p t) (p' t)) (fun t ht => (List.mem_append.mp ht).elim (q t) (q' t))
theorem szs_append : ∀ l l' : List D, szs (l ++ l') = szs l + szs l'
  | [], l' => by simp [szs]
  | t :: r, l' => by rw [List.cons_append, szs, szs, szs_append r l']; omega
theorem tr3_szs {a : Nat} (ha : a < 4096) : szs ((bitsOf a).map (tr 3)) ≤ 1010 := by
  have h4 : (4096 : Nat) < lim 4 := by decide
  have h1 := tr_szs (f := 3) (m := a) (by show a < lim 4; omega)
  rw [trS4] at h1; omega
theorem tr4_sz {a : Nat} (ha : a < 4096) : (tr 4 a).sz ≤ 1012 := by
  have h := tr3_szs ha
  have e : (tr 4 a).sz = szs ((bitsOf a).map (tr 3)) + 2 := rfl
  omega
theorem both_arr (a b : Nat) : (D.list ((bitsOf a).map (tr 3) ++ (bitsOf b).map (tr 3))).Arr := .node _ fun t ht => by
  rcases List.mem_append.mp ht with h | h <;> (obtain ⟨k, hk, rfl⟩ := List.mem_map.mp h; exact tr_arr 3 k)
theorem both_bare (a b : Nat) : (D.list ((bitsOf a).map (tr 3) ++ (bitsOf b).map (tr 3))).Bare := .node fun t ht => by
  rcases List.mem_append.mp ht with h | h <;> (obtain ⟨k, hk, rfl⟩ := List.mem_map.mp h; exact tr_bare 3 k)
theorem hts_le {B : Nat} : ∀ l : List D, (∀ t ∈ l, t.ht ≤ B) → hts l ≤ B
  | [], _ => Nat.zero_le _
  | t :: r, h => by rw [hts]; have h1 := h t (by simp); have h2 := hts_le r fun t ht => h t (List.mem_cons_of_mem _ ht); omega
theorem both_ht (a b : Nat) : (D.list ((bitsOf a).map (tr 3) ++ (bitsOf b).map (tr 3))).ht ≤ 5 := by
  show hts _ + 1 ≤ 5
  have := hts_le (B := 4) ((bitsOf a).map (tr 3) ++ (bitsOf b).map (tr 3)) fun t ht => by
    rcases List.mem_append.mp ht with h | h <;> (obtain ⟨k, hk, rfl⟩ := List.mem_map.mp h; exact tr_ht 3 k)
  omega

/-- the power set -/
abbrev parts (w : Nat) : D := .list ((subs w).map (tr 4))
theorem subs_lt {w p : Nat} (h : p ∈ subs w) : p < 16 := by
  unfold subs at h
  rw [List.mem_filter] at h
  exact List.mem_range.mp h.1
theorem subs_len (w : Nat) : (subs w).length ≤ 16 := by
  unfold subs
  have := List.length_filter_le (fun p => (p &&& w) == p) (List.range 16)
  simpa using this
theorem parts_nums (w : Nat) : ((subs w).map (tr 4)).map D.num = subs w := by
  rw [List.map_map]
  have h16 : (16 : Nat) < lim 4 := by decide
  have : ∀ l : List Nat, (∀ p ∈ l, p < 16) → l.map (D.num ∘ tr 4) = l := by
    intro l
    induction l with
    | nil => intro _; rfl
    | cons p r ih =>
      intro h
      rw [List.map_cons, ih fun p hp => h p (List.mem_cons_of_mem _ hp)]
      show (tr 4 p).num :: r = p :: r
      rw [tr_num 4 p (by have := h p (by simp); omega)]
  exact this _ fun p hp => subs_lt hp
theorem parts_num {w : Nat} (hw : w < 16) : (parts w).num = prodAt w 4 := by
  rw [D.num, nums_map, parts_nums]
  exact power_ok ⟨w, hw⟩
theorem parts_sm (w : Nat) : (parts w).Sm := .node _
  (fun t ht => by
    obtain ⟨k, hk, rfl⟩ := List.mem_map.mp ht
    have h16 : (16 : Nat) < lim 4 := by decide
    exact tr_sm 4 k (by omega) (by have := subs_lt hk; omega))
  (fun t ht => by
    obtain ⟨k, hk, rfl⟩ := List.mem_map.mp ht
    have h16 : (16 : Nat) < lim 4 := by decide
    have := subs_lt hk
    rw [tr_num 4 k (by omega)]; omega)
theorem parts_arr (w : Nat) : (parts w).Arr := .node _ fun t ht => by obtain ⟨k, hk, rfl⟩ := List.mem_map.mp ht; exact tr_arr 4 k
theorem parts_bare (w : Nat) : (parts w).Bare := .node fun t ht => by obtain ⟨k, hk, rfl⟩ := List.mem_map.mp ht; exact tr_bare 4 k
theorem parts_ht (w : Nat) : (parts w).ht ≤ 6 := by
  show hts _ + 1 ≤ 6
  have := hts_le (B := 5) ((subs w).map (tr 4)) fun t ht => by obtain ⟨k, hk, rfl⟩ := List.mem_map.mp ht; exact tr_ht 4 k
  omega
theorem small_sz {k : Nat} (h : k < 16) : (tr 4 k).sz ≤ 40 := by
  have : ∀ k : Fin 16, (tr 4 k.val).sz ≤ 40 := by decide
  exact this ⟨k, h⟩
theorem parts_szs (w : Nat) : szs ((subs w).map (tr 4)) ≤ 656 := by
  have h1 := szs_le (B := 40) (l := (subs w).map (tr 4)) fun t ht => by
    obtain ⟨k, hk, rfl⟩ := List.mem_map.mp ht
    exact small_sz (subs_lt hk)
  rw [List.length_map] at h1
  have h2 := subs_len w
  have h3 : (subs w).length * (40 + 1) ≤ 16 * 41 := Nat.mul_le_mul_right _ h2
  omega
/-- all members of the parts -/
def kids : D → List D
  | .list l => l
  | _ => []
theorem members_num {w : Nat} (hw : w < 16) : (D.list (((subs w).map (tr 4)).flatMap kids)).num = w := by
  have e : (((subs w).map (tr 4)).flatMap kids).map D.num = (subs w).flatMap bitsOf := by
    have : ∀ l : List Nat, (∀ p ∈ l, p < 16) → (((l.map (tr 4)).flatMap kids).map D.num) = l.flatMap bitsOf := by
      intro l
      induction l with
      | nil => intro _; rfl
      | cons p r ih =>
        intro h
        rw [List.map_cons, List.flatMap_cons, List.map_append, ih fun p hp => h p (List.mem_cons_of_mem _ hp), List.flatMap_cons]
        congr 1
        show ((bitsOf p).map (tr 3)).map D.num = bitsOf p
        rw [List.map_map]
        have h16 : (16 : Nat) < lim 4 := by decide
        have hp := h p (by simp)
        have : ∀ m : List Nat, (∀ k ∈ m, k < lim 3) → m.map (D.num ∘ tr 3) = m := by
          intro m
          induction m with
          | nil => intro _; rfl
          | cons k m ih =>
            intro hm
            rw [List.map_cons, ih fun k hk => hm k (List.mem_cons_of_mem _ hk)]
            show (tr 3 k).num :: m = _
            rw [tr_num 3 k (hm k (by simp))]
        exact this _ fun k hk => bits_lim hk (by show p < lim 4; omega)
    exact this _ fun p hp => subs_lt hp
  rw [D.num, nums_map, e]
  exact whole_ok ⟨w, hw⟩

theorem shaped2 {x y : Str} (hx : PyData.strOk x = true) (hy : PyData.strOk y = true) : PySem.SeqAt.shaped (D.list [.str x, .str y]).pd = true := by
  show ((PyData.strOk x && (PyData.strOk y && true)) && decide (_ ≤ 64)) = true
  rw [hx, hy]; rfl
theorem parts_list (w : Nat) : ((((List.range 16).map fun (i : Nat) => D.int (i : Int)).filter (fun d => (natOf d &&& w) == natOf d)).map fun d => tr 4 (natOf d)) = (subs w).map (tr 4) := by
  rw [List.filter_map, List.map_map]
  rfl
theorem and_test (i w : Nat) : ((i &&& w) == i) = (Builtin.bitAnd (i : Int) (w : Int) == (i : Int)) := by
  rw [bit_and, Bool.eq_iff_iff, beq_iff_eq, beq_iff_eq]
  omega
theorem prodAt_lt : ∀ (w : Fin 16) (i : Fin 5), prodAt w.val i.val < 131072 := by decide
theorem pow_step : ∀ i : Fin 4, ((2 : Int) ^ ((2 : Int) ^ ((i.val : Int)).toNat).toNat) = ((2 ^ 2 ^ i.val : Nat) : Int) ∧ (2 : Int) ^ ((i.val : Int)).toNat ≤ 8 ∧ 0 ≤ (2 : Int) ^ ((i.val : Int)).toNat := by decide
theorem mul_ok {a b : Int} (h0 : 0 ≤ a) (h : a < 2 ^ 64) : IntMulOk a b := IntMulOk.of_left (intBits_le_64 (by omega) h)
theorem CmpR.neFalse {c : Cfg} {a b : Int} (h : a = b) : CmpR c .NotEq (.int a) (.int b) (.bool false) := by
  have := CmpR.neI (c := c) (a := a) (b := b)
  have e : (a != b) = false := by simp [h]
  rwa [e] at this
theorem CmpR.eqTrue {c : Cfg} {a b : Int} (h : a = b) : CmpR c .Eq (.int a) (.int b) (.bool true) := by
  have := CmpR.eqI (c := c) (a := a) (b := b)
  have e : (a == b) = true := by simp [h]
  rwa [e] at this
theorem members_eq (w : Nat) : (((subs w).map (tr 4)).flatMap fun d => (kids d).map fun d2 => d2) = ((subs w).map (tr 4)).flatMap kids := by
  simp
theorem kid_of {w : Nat} {t : D} (h : t ∈ ((subs w).map (tr 4)).flatMap kids) : ∃ k, t = tr 3 k ∧ k < 16 := by
  obtain ⟨d, hd, ht⟩ := List.mem_flatMap.mp h
  obtain ⟨p, hp, rfl⟩ := List.mem_map.mp hd
  obtain ⟨k, hk, rfl⟩ := List.mem_map.mp (show t ∈ (bitsOf p).map (tr 3) from ht)
  have h1 := bits_lt hk
  have h2 := subs_lt hp
  refine ⟨k, rfl, ?_⟩
  have : k < 2 ^ k := Nat.lt_two_pow_self
  omega
theorem members_sm (w : Nat) : (D.list (((subs w).map (tr 4)).flatMap kids)).Sm := .node _
  (fun t ht => by
    obtain ⟨k, rfl, hk⟩ := kid_of ht
    have h16 : (16 : Nat) ≤ lim 3 := by decide
    exact tr_sm 3 k (by omega) (by omega))
  (fun t ht => by
    obtain ⟨k, rfl, hk⟩ := kid_of ht
    have h16 : (16 : Nat) ≤ lim 3 := by decide
    rw [tr_num 3 k (by omega)]; exact hk)
theorem members_ht (w : Nat) : (D.list (((subs w).map (tr 4)).flatMap kids)).ht ≤ 5 := by
  show hts _ + 1 ≤ 5
  have := hts_le (B := 4) (((subs w).map (tr 4)).flatMap kids) fun t ht => by obtain ⟨k, rfl, _⟩ := kid_of ht; exact tr_ht 3 k
  omega
theorem kids_len {p : Nat} (h : p < 16) : (kids (tr 4 p)).length ≤ 4 := by
  show ((bitsOf p).map (tr 3)).length ≤ 4
  rw [List.length_map]
  exact bits_le (B := 4) (by omega)
theorem members_sz (w : Nat) : (D.list (((subs w).map (tr 4)).flatMap kids)).sz ≤ 10000 := by
  have h1 := szs_le (B := 100) (l := ((subs w).map (tr 4)).flatMap kids) fun t ht => by
    obtain ⟨k, rfl, hk⟩ := kid_of ht
    have h16 : (16 : Nat) ≤ lim 3 := by decide
    have := tr_sz 3 k (by omega)
    have e : trS 3 = 62 := by decide
    omega
  have h2 := flat_le kids (N := 4) ((subs w).map (tr 4)) fun d hd => by obtain ⟨p, hp, rfl⟩ := List.mem_map.mp hd; exact kids_len (subs_lt hp)
  have h3 := subs_len w
  rw [List.length_map] at h2
  have h4 : (subs w).length * 4 ≤ 16 * 4 := Nat.mul_le_mul_right _ h3
  have h5 : (((subs w).map (tr 4)).flatMap kids).length * 101 ≤ 64 * 101 := Nat.mul_le_mul_right _ (by omega)
  show szs _ + 2 ≤ 10000
  have e : (100 + 1 : Nat) = 101 := rfl
  rw [e] at h1
  omega
end Mine
namespace Mine
theorem two_cells {L : Addr} {x : Str} {a : Addr} {o1 o2 : Obj} {v2 : Option Value} {sa : Addr} (h1 : o1.data = .cell (some (.ref sa))) (h2 : o2.data = .cell v2) (news : List (Addr × Obj)) (hm1 : (L + 1, o1) ∈ news) (hm2 : (L + 1 + 1, o2) ∈ news)
    (e : List.lookup x [(Str.ofString "whole", L + 1 + 1), (Str.ofString "script", L + 1)] = some a) : ∃ o v, (a, o) ∈ news ∧ o.data = .cell v ∧ (x = Str.ofString "script" → v = some (.ref sa)) := by
  rw [List.lookup_cons] at e
  cases hx : (x == Str.ofString "whole") with
  | true => rw [hx] at e; cases e; exact ⟨o2, _, hm2, h2, fun q => absurd (q ▸ hx) (by decide)⟩
  | false =>
    rw [hx] at e
    dsimp only at e
    rw [List.lookup_cons] at e
    cases hy : (x == Str.ofString "script") with
    | true => rw [hy] at e; cases e; exact ⟨o1, _, hm1, h1, fun _ => rfl⟩
    | false => rw [hy] at e; cases e
theorem draw_in {ns : List Int} {i : Nat} (h : i < ns.length) : (ns.map D.int)[i]? = some (.int (drawAt ns i)) := by
  rw [List.getElem?_map, List.getElem?_eq_getElem h]
  unfold drawAt
  rw [List.getElem?_eq_getElem h]; rfl
theorem draw_out {ns : List Int} {i : Nat} (h3 : i < 3) (h : ¬ i < ns.length) : [D.int 2059, D.int 777, D.int 13][i]? = some (.int (drawAt ns i)) := by
  unfold drawAt
  rw [show ns[i]? = none from List.getElem?_eq_none (by omega)]
  have : i = 0 ∨ i = 1 ∨ i = 2 := by omega
  rcases this with rfl | rfl | rfl <;> rfl
end Mine
theorem PySem.Challenge.cw_em5011_01_holds : PySem.Challenge.rw_em5011_01.Holds :=
  Mine.hd (by
    w_strict (
      k_go0
      (all_goals try k_fold)
      rename_i hg hT8 X8 V8 T8 B8 TE8 TW8 hT9 w7 hs hlay0 hL8 hr8 hl28 w6 w5 w4 w3 w2 hL9 ra8 w18 r08 hI hr hcA hcB hD h1 tk1 o2 o1 left right X0 Xp Tp Kp Fp Np l0
      refine Mine.law_close (s₁ := _) Xp Tp codeHd lifted hI Fp Np (by simp) ?hcells rfl ⟨_, rfl⟩ rfl rfl rfl rfl ?main ?hQ
      case hcells => 
        intro x a e
        exact Mine.two_cells right left _ (by simp) (by simp) e
      case hQ =>
        intro h' tk' hk hg'
        refine ⟨⟨.inl ⟨_, .bool true, [], rfl, fun _ => rfl, .bool true, ?_, fun _ => ⟨List.nodup_nil, fun a ha => by cases ha⟩⟩, hk, rfl, ?_⟩, hg'⟩
        · first | kc_post | wrow_post
        · assumption
      case main =>
        intro c X hw H hG
        have hK := X.hK
        have hlen : w7.length ≤ 63 := by omega
        clear hcA hcB hD hI hr X0 Xp Tp Kp Fp Np l0 left right lifted codeHd
        obtain ⟨one, e1, l1⟩ := Mine.fmod_nat (Mine.drawAt w7 0) 4096 (by decide)
        obtain ⟨other, e2, l2⟩ := Mine.fmod_nat (Mine.drawAt w7 1) 4096 (by decide)
        obtain ⟨whole, e3, l3⟩ := Mine.fmod_nat (Mine.drawAt w7 2) 16 (by decide)
        refine Mine.SR.assignComp (cl := [(Str.ofString "script", _)]) (ds := (List.range 3).map (fun i : Nat => Mine.D.int i)) (p := fun _ => true) (g := fun d => .int (Mine.drawAt w7 (Mine.natOf d))) rfl rfl ⟨rfl, Mine.free_one rfl (.inl rfl), Mine.kind_one (.inl rfl)⟩ (by decide) rfl (by decide) rfl (Mine.IT.range rfl (Mine.globB (by rw [hK]; k_is) (by decide +kernel)) Mine.PE.constInt (by decide)) (by decide) ?_ ?_
        · intro C d v H' hd hH r
          obtain ⟨i, hi, rfl⟩ := List.mem_map.mp hd
          refine ⟨.nil, fun _ => ?_⟩
          have hi3 := List.mem_range.mp hi
          have hLine : sizeLine = 16777216 := by decide
          have hml : (w7.map Mine.D.int).length = w7.length := List.length_map _
          refine Mine.PE.ifexp (b := decide ((i : Int) < ((w7.map Mine.D.int).length : Int))) (Mine.PT.cmp (Mine.PE.name (v := v) rfl r (.inl rfl)) (Mine.PE.call rfl (Mine.globB (by rw [hK]; k_is) (by decide +kernel)) (.builtin _) (Mine.PEs.one (Mine.PE.name (v := .ref w4) rfl (.raw _) (.inr (.inl rfl)))) (Mine.Fun.lenG (hG.mono hH) (by omega))) Mine.CmpR.ltI) (fun hb => ?_) (fun hb => ?_)
          · have hb' := of_decide_eq_true hb
            refine Mine.PE.idxG (hG.mono hH) (Mine.PE.name (v := .ref w4) rfl (.raw _) (.inr (.inl rfl))) (Mine.PE.name (v := v) rfl r (.inl rfl)) (Mine.draw_in (by omega)) (by omega)
          · have hb' := of_decide_eq_false hb
            refine Mine.PE.idxT (l := [.int 2059, .int 777, .int 13]) (Mine.PE.globR (v := .ref 759) (.inl (by rw [hK]; k_is)) (Mine.Rel.ofK (by rw [hK]; k_is) fun H => .cons (.int _ _) (.cons (.int _ _) (.cons (.int _ _) .nil))) rfl) (Mine.PE.name (v := v) rfl r (.inl rfl)) (Mine.draw_out hi3 (by omega)) (by omega)
        intro v H₁ k₁ r₁
        have hd3 : Mine.Rel H₁ v (.list [.int (Mine.drawAt w7 0), .int (Mine.drawAt w7 1), .int (Mine.drawAt w7 2)]) := r₁
        refine Mine.SR.unpack3 (d1 := .int (one : Int)) (d2 := .int (other : Int)) (d3 := .int (whole : Int)) (Mine.apart2 (Nat.succ_ne_self _) rfl) (.inl rfl) (.inl rfl) (.inr ⟨rfl, _, rfl⟩) ?_ ?_
        · rw [← e1, ← e2, ← e3]
          exact Mine.PE.tupD (.cons (by intro _; rfl) (Mine.PE.bin (Mine.PE.idx (i := 0) (Mine.PE.name (v := v) rfl hd3 (.inl rfl)) Mine.PE.constInt rfl (by decide)) Mine.PE.constInt (Mine.BinR.modI (by decide)))
            (.cons (by intro _; rfl) (Mine.PE.bin (Mine.PE.idx (i := 1) (Mine.PE.name (v := v) rfl hd3 (.inl rfl)) Mine.PE.constInt rfl (by decide)) Mine.PE.constInt (Mine.BinR.modI (by decide)))
            (.cons (by intro _; rfl) (Mine.PE.bin (Mine.PE.idx (i := 2) (Mine.PE.name (v := v) rfl hd3 (.inl rfl)) Mine.PE.constInt rfl (by decide)) Mine.PE.constInt (Mine.BinR.modI (by decide))) .nil))) (by show 3 ≤ sizeLine; decide)
        clear e1 e2 e3 hd3 r₁
        intro v1 v2 v3 H₂ k₂ r1 r2 r3
        have m1 : one < Mine.lim 4 := by rw [Mine.lim4]; omega
        have m2 : other < Mine.lim 4 := by rw [Mine.lim4]; omega
        refine Mine.SR.assignCompAll (ds := [.int (one : Int), .int (other : Int)]) (g := fun d => Mine.tr 4 (Mine.natOf d)) rfl rfl (by decide) (by decide) rfl (by decide) rfl (Mine.IT.tup (Mine.PE.tupD (Mine.PEs.two (Mine.PE.name (v := v1) rfl r1 (.inl rfl)) (Mine.PE.name (v := v2) rfl r2 (.inl rfl))) (by show 2 ≤ sizeLine; decide))) (by show 2 ≤ sizeLine; decide) ?_ ?_
        · intro C d u H' hd hH ru
          have hd' : ∃ k : Nat, d = .int (k : Int) ∧ k < 4096 := by
            rcases List.mem_cons.mp hd with rfl | hd
            · exact ⟨one, rfl, l1⟩
            · rw [List.mem_singleton.mp hd]; exact ⟨other, rfl, l2⟩
          obtain ⟨k, rfl, hk⟩ := hd'
          have mk : k < Mine.lim 4 := by rw [Mine.lim4]; omega
          refine Mine.PE.call rfl (.inl (by rw [hK]; k_is)) (.fn (by rw [hK]; k_is)) (Mine.PEs.one (Mine.PE.call rfl (.inl (by rw [hK]; k_is)) (.fn (by rw [hK]; k_is)) (Mine.PEs.one (Mine.PE.name (v := u) rfl ru (.inl rfl))) (Mine.law_text_sp X 4 (by decide) k mk 35 _))) ?_
          exact Mine.int_array_in_sp X (n := 34) (l := (Mine.bitsOf k).map (Mine.tr 3)) (Mine.tr_arr 4 k) (by have := Mine.tr3_szs hk; omega)
        intro vt H₃ k₃ rt
        have rt : Mine.Rel H₃ vt (.list [Mine.tr 4 one, Mine.tr 4 other]) := rt
        have n1 := Mine.tr_num 4 one m1
        have n2 := Mine.tr_num 4 other m2
        -- the numbers
        refine Mine.SR.ifRet (b := false) (Mine.PT.cmp (a := .list [.int (one : Int), .int (other : Int)]) (b := .list [.int (one : Int), .int (other : Int)]) ?_ (Mine.PE.listD (Mine.PEs.two (Mine.PE.name (v := v1) rfl (r1.mono k₃) (.inl rfl)) (Mine.PE.name (v := v2) rfl (r2.mono k₃) (.inl rfl))) (by show 2 ≤ sizeLine; decide)) (Mine.CmpR.neSame rfl rfl)) (fun h => by cases h) (fun _ => ?_)
        · have e : [Mine.D.int (one : Int), Mine.D.int (other : Int)] = [Mine.tr 4 one, Mine.tr 4 other].map (fun d => Mine.D.int (d.num : Int)) := by
            rw [List.map_cons, List.map_cons, n1, n2]; rfl
          rw [e]
          refine Mine.PE.listCompAll (by decide) (by decide) rfl (by decide) rfl (Mine.IT.list (Mine.PE.name (v := vt) rfl rt (.inl rfl))) (by show 2 ≤ sizeLine; decide) ?_
          intro C d u H' hd hH ru
          have hd' : ∃ k : Nat, d = Mine.tr 4 k ∧ k < 4096 := by
            rcases List.mem_cons.mp hd with rfl | hd
            · exact ⟨one, rfl, l1⟩
            · rw [List.mem_singleton.mp hd]; exact ⟨other, rfl, l2⟩
          obtain ⟨k, rfl, hk⟩ := hd'
          have mk : k < Mine.lim 4 := by rw [Mine.lim4]; omega
          have hz := Mine.tr3_szs hk
          refine Mine.PE.call rfl (.inl (by rw [hK]; k_is)) (.fn (by rw [hK]; k_is)) (Mine.PEs.one (Mine.PE.name (v := u) rfl ru (.inl rfl))) ((Mine.law_number_sp X (Mine.tr_sm 4 k (by decide) mk) ?_ 35 _).mono ?_ (.refl _))
          · have := Mine.tr4_sz hk; omega
          · have := Mine.tr_ht 4 k; omega
        -- the texts
        refine Mine.SR.ifRet (b := false) (Mine.PT.cmp (a := .list [.str (Mine.tr 4 one).txt, .str (Mine.tr 4 other).txt]) (b := .list [.str (Mine.tr 4 one).txt, .str (Mine.tr 4 other).txt]) ?_ (Mine.PE.listD (Mine.PEs.two (Mine.PE.call rfl (.inl (by rw [hK]; k_is)) (.fn (by rw [hK]; k_is)) (Mine.PEs.one (Mine.PE.name (v := v1) rfl (r1.mono k₃) (.inl rfl))) (Mine.law_text_sp X 4 (by decide) one m1 35 _)) (Mine.PE.call rfl (.inl (by rw [hK]; k_is)) (.fn (by rw [hK]; k_is)) (Mine.PEs.one (Mine.PE.name (v := v2) rfl (r2.mono k₃) (.inl rfl))) (Mine.law_text_sp X 4 (by decide) other m2 35 _))) (by show 2 ≤ sizeLine; decide)) (Mine.CmpR.neSame rfl (Mine.shaped2 (Mine.arr_strOk (Mine.tr_arr 4 one)) (Mine.arr_strOk (Mine.tr_arr 4 other))))) (fun h => by cases h) (fun _ => ?_)
        · show Mine.PE c 40 _ _ H₃ _ (.list ([Mine.tr 4 one, Mine.tr 4 other].map fun d => Mine.D.str d.txt))
          refine Mine.PE.listCompAll (by decide) (by decide) rfl (by decide) rfl (Mine.IT.list (Mine.PE.name (v := vt) rfl rt (.inl rfl))) (by show 2 ≤ sizeLine; decide) ?_
          intro C d u H' hd hH ru
          have hd' : ∃ k : Nat, d = Mine.tr 4 k ∧ k < 4096 := by
            rcases List.mem_cons.mp hd with rfl | hd
            · exact ⟨one, rfl, l1⟩
            · rw [List.mem_singleton.mp hd]; exact ⟨other, rfl, l2⟩
          obtain ⟨k, rfl, hk⟩ := hd'
          have hz := Mine.tr3_szs hk
          refine Mine.PE.call rfl (.inl (by rw [hK]; k_is)) (.fn (by rw [hK]; k_is)) (Mine.PEs.one (Mine.PE.name (v := u) rfl ru (.inl rfl))) ((Mine.array_out_sp hK (Mine.tr_bare 4 k) ?_ 35 _).mono ?_ (.refl _))
          · have := Mine.tr4_sz hk; omega
          · have := Mine.tr_ht 4 k; omega
        have z1 := Mine.tr3_szs l1
        have z2 := Mine.tr3_szs l2
        have hbs : Mine.szs ((Mine.bitsOf one).map (Mine.tr 3) ++ (Mine.bitsOf other).map (Mine.tr 3)) ≤ 2020 := by rw [Mine.szs_append]; omega
        have hbl : ((Mine.bitsOf one).map (Mine.tr 3)).length + ((Mine.bitsOf other).map (Mine.tr 3)).length ≤ sizeLine := by
          have := Mine.szs_sum ((Mine.bitsOf one).map (Mine.tr 3))
          have := Mine.szs_sum ((Mine.bitsOf other).map (Mine.tr 3))
          have e : sizeLine = 16777216 := by decide
          omega
        -- both
        refine Mine.SR.assign (de := .list ((Mine.bitsOf one).map (Mine.tr 3) ++ (Mine.bitsOf other).map (Mine.tr 3))) rfl (Mine.PE.call rfl (.inl (by rw [hK]; k_is)) (.fn (by rw [hK]; k_is)) (Mine.PEs.one (Mine.PE.call rfl (.inl (by rw [hK]; k_is)) (.fn (by rw [hK]; k_is)) (Mine.PEs.one (Mine.PE.bin (a := .list ((Mine.bitsOf one).map (Mine.tr 3))) (b := .list ((Mine.bitsOf other).map (Mine.tr 3))) (Mine.PE.idx (i := 0) (Mine.PE.name (v := vt) rfl rt (.inl rfl)) Mine.PE.constInt rfl (by decide)) (Mine.PE.idx (i := 1) (Mine.PE.name (v := vt) rfl rt (.inl rfl)) Mine.PE.constInt rfl (by decide)) (Mine.BinR.addL hbl))) ((Mine.array_out_sp hK (Mine.both_bare one other) ?_ 35 _).mono ?_ (.refl _)))) (Mine.int_array_in_sp X (n := 34) (Mine.both_arr one other) (by omega))) ?_
        · show Mine.szs _ + 2 ≤ _
          omega
        · have := Mine.both_ht one other; omega
        intro vb H₄ k₄ rb
        -- parts
        refine Mine.SR.assignComp (cl := [(Str.ofString "whole", _)]) (ds := (List.range 16).map (fun i : Nat => Mine.D.int i)) (p := fun d => (Mine.natOf d &&& whole) == Mine.natOf d) (g := fun d => Mine.tr 4 (Mine.natOf d)) rfl rfl ⟨rfl, Mine.free_one rfl (.inl rfl), Mine.kind_one (.inl rfl)⟩ (by decide) rfl (by decide) rfl (Mine.IT.range rfl (Mine.globB (by rw [hK]; k_is) (by decide +kernel)) Mine.PE.constInt (by decide)) (by decide) ?_ ?_
        · intro C d u H' hd hH ru
          obtain ⟨i, hi, rfl⟩ := List.mem_map.mp hd
          have hi16 := List.mem_range.mp hi
          have mi : i < Mine.lim 4 := by rw [Mine.lim4]; omega
          have hz := Mine.tr3_szs (a := i) (by omega)
          refine ⟨?_, fun _ => ?_⟩
          · show Mine.Tests c 40 _ _ H' _ ((i &&& whole) == i)
            rw [Mine.and_test]
            exact .one (Mine.PT.cmp (Mine.PE.bin (Mine.PE.name (v := u) rfl ru (.inl rfl)) (Mine.PE.name (v := v3) rfl (((r3.mono k₃).mono k₄).mono hH) (.inr (.inl rfl))) Mine.BinR.andI) (Mine.PE.name (v := u) rfl ru (.inl rfl)) Mine.CmpR.eqI)
          · exact Mine.PE.call rfl (.inl (by rw [hK]; k_is)) (.fn (by rw [hK]; k_is)) (Mine.PEs.one (Mine.PE.call rfl (.inl (by rw [hK]; k_is)) (.fn (by rw [hK]; k_is)) (Mine.PEs.one (Mine.PE.name (v := u) rfl ru (.inl rfl))) (Mine.law_text_sp X 4 (by decide) i mi 35 _))) (Mine.int_array_in_sp X (n := 34) (l := (Mine.bitsOf i).map (Mine.tr 3)) (Mine.tr_arr 4 i) (by omega))
        intro vp H₅ k₅ rp
        rw [Mine.parts_list] at rp
        refine Mine.SR.unpack2s (d1 := Mine.parts whole) (d2 := .int 1) (Mine.apart2 (Nat.succ_ne_self _) rfl) (.inl rfl) (.inl rfl) (Mine.PE.tupD (Mine.PEs.two (Mine.PE.call rfl (.inl (by rw [hK]; k_is)) (.fn (by rw [hK]; k_is)) (Mine.PEs.one (Mine.PE.call rfl (.inl (by rw [hK]; k_is)) (.fn (by rw [hK]; k_is)) (Mine.PEs.one (Mine.PE.name (v := vp) rfl rp (.inl rfl))) ((Mine.array_out_sp hK (Mine.parts_bare whole) ?_ 34 _).mono ?_ (.refl _)))) (Mine.int_array_in_sp X (n := 34) (Mine.parts_arr whole) ?_)) Mine.PE.constInt) (by show 2 ≤ sizeLine; decide)) ?_
        · have := Mine.parts_szs whole
          show Mine.szs _ + 2 ≤ _
          omega
        · have := Mine.parts_ht whole; omega
        · have := Mine.parts_szs whole; omega
        intro vw vq H₆ k₆ rw6 rq6
        have rq6 : Mine.Rel H₆ vq (.int ((Mine.prodAt whole 0 : Nat) : Int)) := rq6
        -- the product
        refine Mine.SR.forAcc (x := Str.ofString "k") (y := Str.ofString "product") (ds := (List.range 4).map (fun i : Nat => Mine.D.int i)) (acc := fun i => .int ((Mine.prodAt whole i : Nat) : Int)) (Mine.apart2 (Nat.succ_ne_self _) rfl) (.inl rfl) (by decide) rfl (Mine.IT.range rfl (Mine.globB (by rw [hK]; k_is) (by decide +kernel)) Mine.PE.constInt (by decide)) rfl rq6 ?_ ?_
        · intro i d u1 u2 H' hd hH ru1 ru2
          have hi : i < 4 ∧ d = .int (i : Int) := by
            rw [List.getElem?_map] at hd
            by_cases h4 : i < 4
            · rw [List.getElem?_range h4] at hd; cases hd; exact ⟨h4, rfl⟩
            · rw [List.getElem?_eq_none (by simp; omega)] at hd; cases hd
          obtain ⟨h4, rfl⟩ := hi
          obtain ⟨q1, q2, q3⟩ := Mine.pow_step ⟨i, h4⟩
          have hp := Mine.prodAt_lt ⟨whole, l3⟩ ⟨i, by omega⟩
          dsimp only at q1 q2 q3 hp
          have rw3 := (((r3.mono k₃).mono k₄).mono k₅).mono k₆
          refine Mine.ST.ifSet (u := u2) (b := (whole / 2 ^ i % 2 != 0)) rfl ?_ (fun hb => ?_) (fun hb => ?_)
          · have e : (whole / 2 ^ i % 2 != 0) = (Builtin.bitAnd ((whole : Int).fdiv (2 ^ ((i : Int)).toNat)) 1 != 0) := (Mine.bit_eq whole i).symm
            rw [e]
            exact Mine.PT.int (Mine.PE.bin (Mine.PE.bin (Mine.PE.name (v := v3) rfl (rw3.mono hH) (.inr (.inl rfl))) (Mine.PE.name (v := u1) rfl ru1 (.inl rfl)) (Mine.BinR.shrI (by omega))) Mine.PE.constInt Mine.BinR.andI)
          · have e : ((Mine.prodAt whole (i + 1) : Nat) : Int) = ((Mine.prodAt whole i : Nat) : Int) * (1 + (2 : Int) ^ ((2 : Int) ^ ((i : Int)).toNat).toNat) := by
              rw [q1, Mine.prodAt, if_pos hb]
              simp
            rw [e]
            exact Mine.ST.set (Mine.apart2 (Nat.succ_ne_self _) rfl) (.inl rfl) (Mine.PE.bin (Mine.PE.name (v := u2) rfl ru2 (.inl rfl)) (Mine.PE.bin Mine.PE.constInt (Mine.PE.bin Mine.PE.constInt (Mine.PE.bin Mine.PE.constInt (Mine.PE.name (v := u1) rfl ru1 (.inl rfl)) (Mine.BinR.powI (by omega) (by omega) (by decide))) (Mine.BinR.powI q3 (by omega) (by decide))) Mine.BinR.addI) (Mine.BinR.mulI (Mine.mul_ok (by omega) (by omega))))
          · have e : Mine.prodAt whole (i + 1) = Mine.prodAt whole i := by
              rw [Mine.prodAt, if_neg (by rw [hb]; decide)]
            rw [e]; exact ru2
        intro vq' H₇ k₇ rq7
        have rq7 : Mine.Rel H₇ vq' (.int ((Mine.prodAt whole 4 : Nat) : Int)) := rq7
        have mb := Mine.both_num l1 l2
        have mp := Mine.parts_num l3
        have rb7 := ((rb.mono k₅).mono k₆).mono k₇
        have rw7 := rw6.mono k₇
        have r17 := (((((r1.mono k₃).mono k₄).mono k₅).mono k₆).mono k₇)
        have r27 := (((((r2.mono k₃).mono k₄).mono k₅).mono k₆).mono k₇)
        have r37 := (((((r3.mono k₃).mono k₄).mono k₅).mono k₆).mono k₇)
        refine Mine.SR.ifRet (b := false) (Mine.PT.or (x := false) (y := false) (Mine.PT.cmp (Mine.PE.call rfl (.inl (by rw [hK]; k_is)) (.fn (by rw [hK]; k_is)) (Mine.PEs.one (Mine.PE.name (v := vb) rfl rb7 (.inl rfl))) ((Mine.law_number_sp X (Mine.both_sm l1 l2) ?_ 35 _).mono ?_ (.refl _))) (Mine.PE.bin (Mine.PE.name (v := v1) rfl r17 (.inl rfl)) (Mine.PE.name (v := v2) rfl r27 (.inl rfl)) Mine.BinR.orI) (Mine.CmpR.neFalse (by rw [mb, Mine.bit_or])))
          (fun _ => Mine.PT.cmp (Mine.PE.call rfl (.inl (by rw [hK]; k_is)) (.fn (by rw [hK]; k_is)) (Mine.PEs.one (Mine.PE.name (v := vw) rfl rw7 (.inl rfl))) ((Mine.law_number_sp X (Mine.parts_sm whole) ?_ 34 _).mono ?_ (.refl _))) (Mine.PE.name (v := vq') rfl rq7 (.inl rfl)) (Mine.CmpR.neFalse (by rw [mp])))) (fun h => by cases h) (fun _ => ?_)
        · show Mine.szs _ + 2 ≤ _
          omega
        · have := Mine.both_ht one other; omega
        · have := Mine.parts_szs whole
          show Mine.szs _ + 2 ≤ _
          omega
        · have := Mine.parts_ht whole; omega
        refine Mine.SR.ret (Mine.PE.cmp (Mine.PE.call rfl (.inl (by rw [hK]; k_is)) (.fn (by rw [hK]; k_is)) (Mine.PEs.one (d := .list (((Mine.subs whole).map (Mine.tr 4)).flatMap Mine.kids)) ?_) ((Mine.law_number_sp X (Mine.members_sm whole) ?_ 35 _).mono ?_ (.refl _))) (Mine.PE.name (v := v3) rfl r37 (.inr (.inl rfl))) (Mine.CmpR.eqTrue (by rw [Mine.members_num l3])))
        · rw [← Mine.members_eq]
          refine Mine.PE.listComp2 (cl := []) (N := 4) (inn := Mine.kids) (g := fun _ d2 => d2) (Mine.FreeOk.none (by decide)) (by decide) rfl (by decide) rfl rfl (by decide) (Mine.IT.list (Mine.PE.name (v := vw) rfl rw7 (.inl rfl))) ?_ ?_ ?_ ?_
          · intro d hd
            obtain ⟨p, hp, rfl⟩ := List.mem_map.mp hd
            exact Mine.kids_len (Mine.subs_lt hp)
          · have := Mine.subs_len whole
            have e : sizeLine = 16777216 := by decide
            rw [List.length_map]; omega
          · intro C d u H' hd hH ru
            obtain ⟨p, hp, rfl⟩ := List.mem_map.mp hd
            exact Mine.IT.list (Mine.PE.name (v := u) rfl ru (.inl rfl))
          · intro C d u d2 u2 H' hd hd2 hH ru ru2
            exact Mine.PE.name (v := u2) rfl ru2 (.inl rfl)
        · have := Mine.members_sz whole; omega
        · have := Mine.members_ht whole; omega))
