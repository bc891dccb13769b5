import PyProof.Rows.All
import Wide.All
import OpenK.AllK
import Wide.FinOn
import PySem.Challenge.RW_kl0397_01
set_option Elab.async false

/-! HeadQ -/
section
open PySem PySem.W PyProof.Rows
set_option Elab.async false
set_option maxRecDepth 100000
set_option maxHeartbeats 8000000
namespace Mine
noncomputable def anyQ (as : Array Nat) (p : Nat → Bool) (start stop : Nat) : Bool :=
  @Bool.rec (fun _ => Bool) (Array.any as p start stop) (PySem.W.R.anyR as.toList p) (Nat.beq start 0 && Nat.beq stop as.size)
theorem anyQ_eq (as : Array Nat) (p : Nat → Bool) (start stop : Nat) : Array.any as p start stop = anyQ as p start stop := by
  unfold anyQ
  cases h : (Nat.beq start 0 && Nat.beq stop as.size) with
  | false => rfl
  | true =>
    obtain ⟨h1, h2⟩ := Bool.and_eq_true_iff.mp h
    obtain rfl := Nat.eq_of_beq_eq_true h1
    obtain rfl := Nat.eq_of_beq_eq_true h2
    show _ = PySem.W.R.anyR as.toList p
    rw [← PySem.W.R.anyR_eq]; simp
theorem anyQ_eq' : @Array.any Nat = @anyQ := by funext as p a b; exact anyQ_eq as p a b
noncomputable def newQ : Builtin := by
  refine haveI h : Builtin.«type.__new__» = ?b := (by
    refine Eq.trans PySem.W.Fast.te4202317264376624991 ?_
    delta PySem.W.Fast.tw4202317264376624991
    rw [anyQ_eq']); ?b
theorem newQ_eq : Builtin.«type.__new__» = newQ := by
  refine Eq.trans PySem.W.Fast.te4202317264376624991 ?_
  delta PySem.W.Fast.tw4202317264376624991 newQ
  rw [anyQ_eq']
noncomputable def tbQ (id : String) : Option Builtin :=
  @Bool.rec (fun _ => Option Builtin) (PySem.W.Fast.tw14364793385576792824 id) (some newQ) (Nat.beq (PySem.W.Fast.tw13482112738370960269 id) 29827186395103491166823348853)
theorem tbQ_eq : PySem.treeTable = tbQ := by
  funext id
  unfold tbQ
  rw [← PySem.W.Fast.te14364793385576792824, ← PySem.W.Fast.te13482112738370960269]
  cases h : Nat.beq (PySem.code id) 29827186395103491166823348853 with
  | false => rfl
  | true =>
    show PySem.treeTable id = some newQ
    have e : PySem.code id = 29827186395103491166823348853 := Nat.eq_of_beq_eq_true h
    show PySem.entriesT.find (PySem.code id) = some newQ
    rw [e, ← newQ_eq]
    kernel_rfl
end Mine
end

/-! Head3 -/
section
open PySem PySem.W PyProof.Rows
set_option Elab.async false
set_option maxRecDepth 100000
set_option maxHeartbeats 8000000
namespace Mine
noncomputable abbrev P : Program := PySem.Challenge.pw_kl0397_01
noncomputable def classDoc : Stmt → Str
  | .ClassDef _ _ _ (.Expr (.Constant (.str d) _ _) _ :: _) _ _ _ _ _ _ _ => d
  | _ => Str.empty
noncomputable def withDoc (d : Str) : Stmt → Stmt
  | .ClassDef n b k (.Expr (.Constant (.str _) i p) q :: r) x1 x2 x3 x4 x5 x6 x7 => .ClassDef n b k (.Expr (.Constant (.str d) i p) q :: r) x1 x2 x3 x4 x5 x6 x7
  | s => s
theorem withDoc_same (s : Stmt) : withDoc (classDoc s) s = s := by
  unfold withDoc
  split
  · rfl
  · rfl
noncomputable def cell (i : Nat) : Stmt := (P.main.body[i]?).getD (.Pass ⟨0,0,0,0⟩)
noncomputable def docQ : { x : Str // classDoc (cell 5) = x } := ⟨_, PySem.W.Fast.ofString_ofList _⟩

noncomputable def cell5Q : Stmt := withDoc docQ.val (cell 5)
theorem cell5Q_eq : cell 5 = cell5Q := by
  unfold cell5Q
  rw [← docQ.property, withDoc_same]
noncomputable def cellsA : List Stmt := P.main.body.take 5
noncomputable def cellsZ : List Stmt := P.main.body.drop 6
noncomputable def cells : List Stmt := cellsA ++ cell5Q :: cellsZ
theorem cells_eq : behindTheImports P = cells := by
  unfold cells
  rw [← cell5Q_eq]
  kernel_rfl
noncomputable def z : Pos := ⟨0, 0, 0, 0⟩
noncomputable def envE : Env := { scope := P.main.scope, locals := mainNs, globals := mainNs, cells := [], code := .ref 13, frame := some 14 }
noncomputable def cE : Code := .body cells envE
noncomputable abbrev B : List Frame := [topFrame z]
noncomputable def S0 (w : World) (os : OsState) : Shared := ⟨boot_heap w.params, Array.mk [], boot_drawn, boot_toks, os⟩
noncomputable def treeA (q : Params) : BT :=
  .node (boot_o_0 q)
    (.node (boot_o_1 q)
      (.node (boot_o_3 q) (.node (boot_o_7 q) .nil .nil) (.node { cls := .type "tuple", data := .seq (Array.mk []) } .nil .nil))
      (.node (boot_o_5 q) (.node (boot_o_9 q) .nil .nil) (.node { cls := .type "code", data := .fields (Array.mk [.str "<module>" 182, .str "<module>" 183, .str "/claim/cut.py" 184, .int 1 0, .int 0 0, .int 0 0, .int 0 0, .int 0 0, .ref 11, .bool false, .int 181 0, .ref 12, .none, .none, .none, .none, .int 185 0, .int 1 0, .str "/claim/cut.py" 186]) } .nil .nil)))
    (.node (boot_o_2 q)
      (.node (boot_o_4 q) (.node (boot_o_8 q) .nil .nil) (.node { cls := .none, data := .fields (Array.mk []) } .nil .nil))
      (.node (boot_o_6 q) (.node (boot_o_10 q) .nil .nil) (.node { cls := .type "frame", data := .plain, slots := Array.mk [some (.ref 13), some (.ref 3), some (.ref 3), none, some (.str "__main__" 164), none, some (.ref 0)] } .nil .nil)))
noncomputable def Sa (w : World) (os : OsState) : SharedT := ⟨treeA w.params, 15, (boot_heap w.params).life, Array.mk [], boot_drawn, 187, os⟩

open PySem.W.Fast
/-- the pre part: twelve steps from the stub to the body -/
theorem pre_run (w : World) (os : OsState) : topGo treeTable P w 11 (some (.ref 6)) 12 (S0 w os) (topStub P) = some ((Sa w os).abs, ⟨denote treeTable cE, cE, z, B⟩) := by
  rw [te15667345088766844465, te11892475500146522536, tbQ_eq]
  unfold cE
  rw [← cells_eq]
  kernel_rfl
theorem block_run (w : World) (os : OsState) : segRun treeTable P w 11 (some (.ref 6)) 1 1 (Sa w os).abs (blockOf cells envE cE z B) = some (.next, (Sa w os).abs, cE, z) := by
  kernel_rfl

/-- the run of all statements, in one -/
noncomputable def R (w : World) (os : OsState) : Option (Flow × SharedT × Code × Pos) :=
  tw10110043849684766642 tbQ P w 11 (some (.ref 6)) 1 2490 (Sa w os) ⟨(tw12563942051412417395 cells envE).wrap doneF deadEnd id id, cE, z, B⟩

noncomputable def bodyOf : Stmt → List Stmt
  | .FunctionDef _ _ b _ _ _ _ _ _ _ => b
  | .ClassDef _ _ _ b _ _ _ _ _ _ _ => b
  | _ => []
noncomputable def paramsOf : Stmt → Arguments
  | .FunctionDef _ a _ _ _ _ _ _ _ _ => a
  | _ => default
noncomputable def scopeOf : Stmt → Scope
  | .FunctionDef _ _ _ _ _ _ sc _ _ _ => sc
  | _ => default
noncomputable def nameOf : Stmt → Str
  | .FunctionDef n _ _ _ _ _ _ _ _ _ => n
  | _ => Str.empty
noncomputable def docAt (s : Stmt) : Str := match bodyOf s with
  | .Expr (.Constant (.str d) _ _) _ :: _ => d
  | _ => Str.empty
noncomputable def meth (c i : Nat) : Stmt := ((bodyOf (cell c))[i]?).getD (.Pass ⟨0,0,0,0⟩)
noncomputable def fnO (st : Stmt) (qual : Str) (dV doc pm : Value) (an : Option Addr) (c : Addr) : Obj :=
  { cls := .type "function", data := .func { name := nameOf st, qualname := qual, params := paramsOf st, body := .stmts (bodyOf st), scope := scopeOf st, globals := 3, closure := [], defaults := dV, kwdefaults := .none, doc := doc, pyModule := pm, annotations := an, code := .ref c, closureTuple := .none, builtins := 0 } }
noncomputable def K (q : Params) : Frag :=
  [(253, fnO (cell 7) "heappush" (.none) (.str (docAt (cell 7)) 584) (.str "cpy313.heapq" 575) none 252),
   (252, { cls := .type "code", data := .fields (Array.mk [.str "heappush" 577, .str "heappush" 578, .str "/claim/cut.py" 579, .int 419 0, .int 2 0, .int 0 0, .int 0 0, .int 3 0, .ref 247, .bool true, .int 181 0, .ref 248, .none, .ref 249, .ref 250, .ref 251, .int 582 0, .int 419 0, .str "/claim/cut.py" 583]) }),
   (260, fnO (cell 8) "heappop" (.none) (.str (docAt (cell 8)) 594) (.str "cpy313.heapq" 575) none 259),
   (259, { cls := .type "code", data := .fields (Array.mk [.str "heappop" 586, .str "heappop" 587, .str "/claim/cut.py" 588, .int 423 0, .int 1 0, .int 0 0, .int 0 0, .int 3 0, .ref 254, .bool true, .int 181 0, .ref 255, .none, .ref 256, .ref 257, .ref 258, .int 592 0, .int 423 0, .str "/claim/cut.py" 593]) }),
   (267, fnO (cell 9) "heapreplace" (.none) (.str (docAt (cell 9)) 604) (.str "cpy313.heapq" 575) none 266),
   (266, { cls := .type "code", data := .fields (Array.mk [.str "heapreplace" 596, .str "heapreplace" 597, .str "/claim/cut.py" 598, .int 432 0, .int 2 0, .int 0 0, .int 0 0, .int 3 0, .ref 261, .bool true, .int 181 0, .ref 262, .none, .ref 263, .ref 264, .ref 265, .int 602 0, .int 432 0, .str "/claim/cut.py" 603]) }),
   (274, fnO (cell 10) "_siftdown" (.none) (.none) (.str "cpy313.heapq" 575) none 273),
   (273, { cls := .type "code", data := .fields (Array.mk [.str "_siftdown" 606, .str "_siftdown" 607, .str "/claim/cut.py" 608, .int 447 0, .int 3 0, .int 0 0, .int 0 0, .int 3 0, .ref 268, .bool true, .int 181 0, .ref 269, .none, .ref 270, .ref 271, .ref 272, .int 615 0, .int 447 0, .str "/claim/cut.py" 616]) }),
   (281, fnO (cell 11) "_siftup" (.none) (.none) (.str "cpy313.heapq" 575) none 280),
   (280, { cls := .type "code", data := .fields (Array.mk [.str "_siftup" 618, .str "_siftup" 619, .str "/claim/cut.py" 620, .int 458 0, .int 2 0, .int 0 0, .int 0 0, .int 3 0, .ref 275, .bool true, .int 181 0, .ref 276, .none, .ref 277, .ref 278, .ref 279, .int 628 0, .int 458 0, .str "/claim/cut.py" 629]) }),
   (288, fnO (cell 13) "_law_lists" (.none) (.none) (.str "law_kl0397_01" 631) none 287),
   (287, { cls := .type "code", data := .fields (Array.mk [.str "_law_lists" 633, .str "_law_lists" 634, .str "/claim/cut.py" 635, .int 473 0, .int 1 0, .int 0 0, .int 0 0, .int 3 0, .ref 282, .bool true, .int 181 0, .ref 283, .none, .ref 284, .ref 285, .ref 286, .int 641 0, .int 473 0, .str "/claim/cut.py" 642]) }),
   (295, fnO (cell 14) "_law_runs" (.none) (.none) (.str "law_kl0397_01" 631) none 294),
   (294, { cls := .type "code", data := .fields (Array.mk [.str "_law_runs" 644, .str "_law_runs" 645, .str "/claim/cut.py" 646, .int 484 0, .int 2 0, .int 0 0, .int 0 0, .int 3 0, .ref 289, .bool true, .int 181 0, .ref 290, .none, .ref 291, .ref 292, .ref 293, .int 653 0, .int 484 0, .str "/claim/cut.py" 654]) }),
   (302, fnO (cell 15) "_law_due" (.none) (.none) (.str "law_kl0397_01" 631) none 301),
   (301, { cls := .type "code", data := .fields (Array.mk [.str "_law_due" 656, .str "_law_due" 657, .str "/claim/cut.py" 658, .int 494 0, .int 2 0, .int 0 0, .int 0 0, .int 3 0, .ref 296, .bool true, .int 181 0, .ref 297, .none, .ref 298, .ref 299, .ref 300, .int 670 0, .int 494 0, .str "/claim/cut.py" 671]) }),
   (309, fnO (cell 16) "_law_entry" (.none) (.none) (.str "law_kl0397_01" 631) none 308),
   (308, { cls := .type "code", data := .fields (Array.mk [.str "_law_entry" 673, .str "_law_entry" 674, .str "/claim/cut.py" 675, .int 507 0, .int 5 0, .int 0 0, .int 0 0, .int 3 0, .ref 303, .bool true, .int 181 0, .ref 304, .none, .ref 305, .ref 306, .ref 307, .int 684 0, .int 507 0, .str "/claim/cut.py" 685]) }),
   (316, fnO (cell 17) "_law_told" (.none) (.none) (.str "law_kl0397_01" 631) none 315),
   (315, { cls := .type "code", data := .fields (Array.mk [.str "_law_told" 687, .str "_law_told" 688, .str "/claim/cut.py" 689, .int 510 0, .int 3 0, .int 0 0, .int 0 0, .int 3 0, .ref 310, .bool true, .int 181 0, .ref 311, .none, .ref 312, .ref 313, .ref 314, .int 705 0, .int 510 0, .str "/claim/cut.py" 706]) }),
   (321, fnO (cell 18) "law" (.none) (.none) (.str "law_kl0397_01" 631) none 320),
   (320, { cls := .type "code", data := .fields (Array.mk [.str "law" 708, .str "law" 709, .str "/claim/cut.py" 710, .int 521 0, .int 1 0, .int 0 0, .int 0 0, .int 3 0, .ref 317, .bool true, .int 181 0, .ref 318, .none, .none, .none, .ref 319, .int 711 0, .int 521 0, .str "/claim/cut.py" 712]) }),
   (160, fnO (meth 5 1) "SequenceMatcher.__init__" (.ref 153) (.str (docAt (meth 5 1)) 416) (.str "cpy313.difflib" 194) none 159),
   (159, { cls := .type "code", data := .fields (Array.mk [.str "__init__" 406, .str "SequenceMatcher.__init__" 407, .str "/claim/cut.py" 408, .int 145 0, .int 5 0, .int 0 0, .int 0 0, .int 3 0, .ref 154, .bool true, .int 181 0, .ref 155, .none, .ref 156, .ref 157, .ref 158, .int 414 0, .int 145 0, .str "/claim/cut.py" 415]) }),
   (167, fnO (meth 5 2) "SequenceMatcher.set_seqs" (.none) (.str (docAt (meth 5 2)) 426) (.str "cpy313.difflib" 194) none 166),
   (166, { cls := .type "code", data := .fields (Array.mk [.str "set_seqs" 418, .str "SequenceMatcher.set_seqs" 419, .str "/claim/cut.py" 420, .int 173 0, .int 3 0, .int 0 0, .int 0 0, .int 3 0, .ref 161, .bool true, .int 181 0, .ref 162, .none, .ref 163, .ref 164, .ref 165, .int 424 0, .int 173 0, .str "/claim/cut.py" 425]) }),
   (174, fnO (meth 5 3) "SequenceMatcher.set_seq1" (.none) (.str (docAt (meth 5 3)) 435) (.str "cpy313.difflib" 194) none 173),
   (173, { cls := .type "code", data := .fields (Array.mk [.str "set_seq1" 428, .str "SequenceMatcher.set_seq1" 429, .str "/claim/cut.py" 430, .int 184 0, .int 2 0, .int 0 0, .int 0 0, .int 3 0, .ref 168, .bool true, .int 181 0, .ref 169, .none, .ref 170, .ref 171, .ref 172, .int 433 0, .int 184 0, .str "/claim/cut.py" 434]) }),
   (181, fnO (meth 5 4) "SequenceMatcher.set_seq2" (.none) (.str (docAt (meth 5 4)) 444) (.str "cpy313.difflib" 194) none 180),
   (180, { cls := .type "code", data := .fields (Array.mk [.str "set_seq2" 437, .str "SequenceMatcher.set_seq2" 438, .str "/claim/cut.py" 439, .int 209 0, .int 2 0, .int 0 0, .int 0 0, .int 3 0, .ref 175, .bool true, .int 181 0, .ref 176, .none, .ref 177, .ref 178, .ref 179, .int 442 0, .int 209 0, .str "/claim/cut.py" 443]) }),
   (188, fnO (meth 5 5) "SequenceMatcher.__chain_b" (.none) (.none) (.str "cpy313.difflib" 194) none 187),
   (187, { cls := .type "code", data := .fields (Array.mk [.str "__chain_b" 446, .str "SequenceMatcher.__chain_b" 447, .str "/claim/cut.py" 448, .int 236 0, .int 1 0, .int 0 0, .int 0 0, .int 3 0, .ref 182, .bool true, .int 181 0, .ref 183, .none, .ref 184, .ref 185, .ref 186, .int 461 0, .int 236 0, .str "/claim/cut.py" 462]) }),
   (196, fnO (meth 5 6) "SequenceMatcher.find_longest_match" (.ref 189) (.str (docAt (meth 5 6)) 490) (.str "cpy313.difflib" 194) none 195),
   (195, { cls := .type "code", data := .fields (Array.mk [.str "find_longest_match" 466, .str "SequenceMatcher.find_longest_match" 467, .str "/claim/cut.py" 468, .int 260 0, .int 5 0, .int 0 0, .int 0 0, .int 3 0, .ref 190, .bool true, .int 181 0, .ref 191, .none, .ref 192, .ref 193, .ref 194, .int 488 0, .int 260 0, .str "/claim/cut.py" 489]) }),
   (203, fnO (meth 5 7) "SequenceMatcher.get_matching_blocks" (.none) (.str (docAt (meth 5 7)) 517) (.str "cpy313.difflib" 194) none 202),
   (202, { cls := .type "code", data := .fields (Array.mk [.str "get_matching_blocks" 492, .str "SequenceMatcher.get_matching_blocks" 493, .str "/claim/cut.py" 494, .int 335 0, .int 1 0, .int 0 0, .int 0 0, .int 3 0, .ref 197, .bool true, .int 181 0, .ref 198, .none, .ref 199, .ref 200, .ref 201, .int 515 0, .int 335 0, .str "/claim/cut.py" 516]) }),
   (82, fnO (meth 3 4) "Match.__new__" (.none) (.str (docAt (meth 3 4)) 283) (.str "cpy313.difflib" 194) none 81),
   (81, { cls := .type "code", data := .fields (Array.mk [.str "__new__" 274, .str "Match.__new__" 275, .str "/claim/cut.py" 276, .int 29 0, .int 4 0, .int 0 0, .int 0 0, .int 3 0, .ref 76, .bool true, .int 181 0, .ref 77, .none, .ref 78, .ref 79, .ref 80, .int 281 0, .int 29 0, .str "/claim/cut.py" 282]) }),
   (89, fnO (meth 3 5) "Match._make" (.none) (.str (docAt (meth 3 5)) 293) (.str "cpy313.difflib" 194) (some 92) 88),
   (88, { cls := .type "code", data := .fields (Array.mk [.str "_make" 285, .str "Match._make" 286, .str "/claim/cut.py" 287, .int 33 0, .int 2 0, .int 0 0, .int 0 0, .int 3 0, .ref 83, .bool true, .int 181 0, .ref 84, .none, .ref 85, .ref 86, .ref 87, .int 291 0, .int 33 0, .str "/claim/cut.py" 292]) }),
   (3, { cls := .type "dict", dict := none, data := .dict (Array.mk [⟨PyData.keyHash q ("__name__"), .str "__name__" 165, .str "law_kl0397_01" 631⟩,
      ⟨PyData.keyHash q ("__doc__"), .str "__doc__" 166, .none⟩,
      ⟨PyData.keyHash q ("__package__"), .str "__package__" 167, .none⟩,
      ⟨PyData.keyHash q ("__loader__"), .str "__loader__" 168, .builtin "__main__.__loader__#opaque"⟩,
      ⟨PyData.keyHash q ("__spec__"), .str "__spec__" 169, .none⟩,
      ⟨PyData.keyHash q ("__annotations__"), .str "__annotations__" 170, .ref 6⟩,
      ⟨PyData.keyHash q ("__builtins__"), .str "__builtins__" 171, .ref 4⟩,
      ⟨PyData.keyHash q ("__file__"), .str "__file__" 173, .str "/claim/cut.py" 172⟩,
      ⟨PyData.keyHash q ("__cached__"), .str "__cached__" 174, .none⟩,
      ⟨PyData.keyHash q ("_wall"), .str "_wall" 193, .ref 21⟩,
      ⟨PyData.keyHash q ("_tuplegetter"), .str "_tuplegetter" 252, .ref 60⟩,
      ⟨PyData.keyHash q ("Match"), .str "Match" 380, .ref 135⟩,
      ⟨PyData.keyHash q ("_calculate_ratio"), .str "_calculate_ratio" 388, .ref 145⟩,
      ⟨PyData.keyHash q ("SequenceMatcher"), .str "SequenceMatcher" 574, .ref 242⟩,
      ⟨PyData.keyHash q ("heappush"), .str "heappush" 585, .ref 253⟩,
      ⟨PyData.keyHash q ("heappop"), .str "heappop" 595, .ref 260⟩,
      ⟨PyData.keyHash q ("heapreplace"), .str "heapreplace" 605, .ref 267⟩,
      ⟨PyData.keyHash q ("_siftdown"), .str "_siftdown" 617, .ref 274⟩,
      ⟨PyData.keyHash q ("_siftup"), .str "_siftup" 630, .ref 281⟩,
      ⟨PyData.keyHash q ("_law_lists"), .str "_law_lists" 643, .ref 288⟩,
      ⟨PyData.keyHash q ("_law_runs"), .str "_law_runs" 655, .ref 295⟩,
      ⟨PyData.keyHash q ("_law_due"), .str "_law_due" 672, .ref 302⟩,
      ⟨PyData.keyHash q ("_law_entry"), .str "_law_entry" 686, .ref 309⟩,
      ⟨PyData.keyHash q ("_law_told"), .str "_law_told" 707, .ref 316⟩,
      ⟨PyData.keyHash q ("law"), .str "law" 713, .ref 321⟩]) 25, slots := Array.mk [] }),
   (241, { cls := .type "dict", dict := none, data := .dict (Array.mk [⟨PyData.keyHash q ("__module__"), .str "__module__" 396, .str "cpy313.difflib" 194⟩,
      ⟨PyData.keyHash q ("__firstlineno__"), .str "__firstlineno__" 400, .int 70 399⟩,
      ⟨PyData.keyHash q ("__doc__"), .str "__doc__" 402, .str (docQ.val) 401⟩,
      ⟨PyData.keyHash q ("__init__"), .str "__init__" 417, .ref 160⟩,
      ⟨PyData.keyHash q ("set_seqs"), .str "set_seqs" 427, .ref 167⟩,
      ⟨PyData.keyHash q ("set_seq1"), .str "set_seq1" 436, .ref 174⟩,
      ⟨PyData.keyHash q ("set_seq2"), .str "set_seq2" 445, .ref 181⟩,
      ⟨PyData.keyHash q ("_SequenceMatcher__chain_b"), .str "_SequenceMatcher__chain_b" 463, .ref 188⟩,
      ⟨PyData.keyHash q ("find_longest_match"), .str "find_longest_match" 491, .ref 196⟩,
      ⟨PyData.keyHash q ("get_matching_blocks"), .str "get_matching_blocks" 518, .ref 203⟩,
      ⟨PyData.keyHash q ("get_opcodes"), .str "get_opcodes" 525, .ref 210⟩,
      ⟨PyData.keyHash q ("get_grouped_opcodes"), .str "get_grouped_opcodes" 534, .ref 218⟩,
      ⟨PyData.keyHash q ("ratio"), .str "ratio" 543, .ref 225⟩,
      ⟨PyData.keyHash q ("quick_ratio"), .str "quick_ratio" 550, .ref 232⟩,
      ⟨PyData.keyHash q ("real_quick_ratio"), .str "real_quick_ratio" 557, .ref 239⟩,
      ⟨PyData.keyHash q ("__static_attributes__"), .str "__static_attributes__" 568, .ref 240⟩,
      ⟨PyData.keyHash q ("__dict__"), .str "__dict__" 570, .ref 243⟩,
      ⟨PyData.keyHash q ("__weakref__"), .str "__weakref__" 572, .ref 244⟩]) 3, slots := Array.mk [] }),
   (242, { cls := .type "type", dict := none, data := .cls { name := "SequenceMatcher", bases := [.type "object"], mro := [.ref 242, .type "object"], ns := 241, qualname := "SequenceMatcher", hasDict := true }, slots := Array.mk [none, none, some (.str "SequenceMatcher" 389), some (.str "SequenceMatcher" 397), some (.builtin "object.__new__"), some (.bool true)] }),
   (134, { cls := .type "dict", dict := none, data := .dict (Array.mk [⟨PyData.keyHash q ("__module__"), .str "__module__" 260, .str "cpy313.difflib" 194⟩,
      ⟨PyData.keyHash q ("__firstlineno__"), .str "__firstlineno__" 264, .int 23 263⟩,
      ⟨PyData.keyHash q ("__doc__"), .str "__doc__" 266, .str (docAt (cell 3)) 265⟩,
      ⟨PyData.keyHash q ("__slots__"), .str "__slots__" 268, .ref 73⟩,
      ⟨PyData.keyHash q ("_fields"), .str "_fields" 272, .ref 74⟩,
      ⟨PyData.keyHash q ("_field_defaults"), .str "_field_defaults" 273, .ref 75⟩,
      ⟨PyData.keyHash q ("__new__"), .str "__new__" 284, .ref 136⟩,
      ⟨PyData.keyHash q ("_make"), .str "_make" 306, .ref 91⟩,
      ⟨PyData.keyHash q ("_replace"), .str "_replace" 317, .ref 100⟩,
      ⟨PyData.keyHash q ("__replace__"), .str "__replace__" 318, .ref 100⟩,
      ⟨PyData.keyHash q ("__repr__"), .str "__repr__" 326, .ref 107⟩,
      ⟨PyData.keyHash q ("_asdict"), .str "_asdict" 333, .ref 114⟩,
      ⟨PyData.keyHash q ("__getnewargs__"), .str "__getnewargs__" 341, .ref 121⟩,
      ⟨PyData.keyHash q ("__match_args__"), .str "__match_args__" 345, .ref 122⟩,
      ⟨PyData.keyHash q ("a"), .str "a" 355, .ref 124⟩,
      ⟨PyData.keyHash q ("b"), .str "b" 365, .ref 127⟩,
      ⟨PyData.keyHash q ("size"), .str "size" 375, .ref 130⟩,
      ⟨PyData.keyHash q ("__static_attributes__"), .str "__static_attributes__" 376, .ref 132⟩]) 2, slots := Array.mk [] }),
   (135, { cls := .type "type", dict := none, data := .cls { name := "Match", bases := [.type "tuple"], mro := [.ref 135, .type "tuple", .type "object"], ns := 134, qualname := "Match", hasDict := false }, slots := Array.mk [some (.ref 65), none, some (.str "Match" 253), some (.str "Match" 261), some (.none), some (.bool false)] }),
   (136, { cls := .type "staticmethod", dict := none, data := .fields (Array.mk [.ref 82]), slots := Array.mk [] }),
   (91, { cls := .type "classmethod", dict := some 90, data := .fields (Array.mk [.ref 89, .bool false]), slots := Array.mk [] }),
   (153, { cls := .type "tuple", dict := none, data := .seq (Array.mk [.none, .str "" 404, .str "" 405, .bool true]) 0, slots := Array.mk [] }),
   (189, { cls := .type "tuple", dict := none, data := .seq (Array.mk [.int 0 464, .none, .int 0 465, .none]) 0, slots := Array.mk [] }),
   (2, { cls := .none, dict := none, data := .dict (Array.mk []) 0, slots := Array.mk [] })]

noncomputable def V : Program := { P with main := { P.main with body := [cell 18] } }
noncomputable def loose : List Str := ["_wall", "__name__", "_tuplegetter", "Match", "_calculate_ratio", "SequenceMatcher", "heappush", "heappop", "heapreplace", "_siftdown", "_siftup", "_law_lists", "_law_runs", "_law_due", "_law_entry", "_law_told"]
noncomputable def kAs : List Addr := [253, 252, 260, 259, 267, 266, 274, 273, 281, 280, 288, 287, 295, 294, 302, 301, 309, 308, 316, 315, 321, 320, 160, 159, 167, 166, 174, 173, 181, 180, 188, 187, 196, 195, 203, 202, 82, 81, 89, 88, 3, 241, 242, 134, 135, 136, 91, 153, 189, 2]
noncomputable def Yf (s : Shared) : List (Option Obj) := kAs.map s.heap.get?
noncomputable def Ya (w : World) : List (Option Obj) := (K w.params).map fun p => some p.2
noncomputable def zF : Pos := ⟨521, 0, 536, 15⟩
noncomputable def LK (w : World) (S : SharedT) :=
  ((staticsOk (importedModules P.main.body) (boot_heap w.params) S.abs.heap && namesBound P S.abs.heap && gensDone S.abs && laidKept (boot_heap w.params) S.abs.heap),
   tw4187177175401517315 V loose (importedModules P.main.body) (fun _ => true) true S.abs, Yf S.abs)
theorem run_all (w : World) (os : OsState) : (R w os).map (fun r => (r.1, r.2.2.1, r.2.2.2, LK w r.2.1)) = some (.next, cE, zF, (true, openGood V loose, Ya w)) := by kernel_rfl
end Mine
end

/-! Head4 -/
section
open PySem PySem.W PyProof.Rows
set_option Elab.async false
set_option maxRecDepth 100000
set_option maxHeartbeats 8000000
namespace Mine
open PySem.W.Fast
theorem R_eq (w : World) (os : OsState) : R w os = segRunT treeTable P w 11 (some (.ref 6)) 1 2490 (Sa w os) (piecesOf cells envE cE z B) := by
  unfold R
  rw [← tbQ_eq, ← te10110043849684766642, ← te12563942051412417395]
theorem fin_run (w : World) (S : SharedT) : topRun treeTable P w 11 (some (.ref 6)) 2 S.abs (restOf [] envE cE zF B) = some S.abs := by kernel_rfl
theorem top_run (w : World) (os : OsState) : ∃ S : SharedT, topRun treeTable P w 11 (some (.ref 6)) (12 + (1 + (2490 + 2))) (S0 w os) (topStub P) = some S.abs ∧
    LK w S = (true, openGood V loose, Ya w) := by
  obtain ⟨⟨f, S, c, p⟩, h1, h2⟩ := Option.map_eq_some_iff.mp (run_all w os)
  simp only [Prod.mk.injEq] at h2
  obtain ⟨rfl, rfl, rfl, h3⟩ := h2
  refine ⟨S, go_top (pre_run w os) (piece_block (block_run w os) ?_), by rw [h3]⟩
  rw [R_eq] at h1
  have h4 := segRun_of h1
  have h5 := piece_app h4 (fin_run w S)
  rw [List.append_nil] at h5
  exact h5
theorem size_ok (w : World) : ((boot_heap w.params).isNs mainGlobals && (Array.mk [] : Array GenState).size == 0, (boot_heap w.params).objs.size, (boot_heap w.params).nsMap mainGlobals "__annotations__") = (true, 11, some (.ref 6)) := by kernel_rfl
theorem o1 : opening P = plainProg P.main.scope.names := by kernel_rfl
theorem o2 : Nat.ble 600 6000 = true := by rfl
theorem o3 (s : Shared) : fenceModules? P s = some s := by
  have h3 : (fenceAll? (importedModules P.main.body) s) = some s := by kernel_rfl
  have h4 : (P.main.body.any namesNumpy) = false := by kernel_rfl
  unfold fenceModules?
  rw [h3, h4]; rfl
theorem open_ok (w : World) : (fencedOpening treeTable P w 6000).map (fun s => (s.heap, s.gens, s.drawn, s.toks)) = some (boot_heap w.params, Array.mk [], boot_drawn, boot_toks) :=
  boot_open o1 o2 o3 w
theorem left_of {p q : Program} {loose : List Str} {Xt : Shared → Bool} {α : Type} {Yf : Shared → α} {Ya : World → α} {N : Nat} {g0 : Bool} {H₀ : Params → Heap} {gs₀ : Array GenState} {d₀ : Drawn} {k₀ : Nat} {m₀ : Nat} {ann : Option Value} {M : Nat}
    (open_ : ∀ w : World, (fencedOpening treeTable p w N).map (fun s => (s.heap, s.gens, s.drawn, s.toks)) = some (H₀ w.params, gs₀, d₀, k₀))
    (size : ∀ w : World, ((H₀ w.params).isNs mainGlobals && gs₀.size == 0, (H₀ w.params).objs.size, (H₀ w.params).nsMap mainGlobals "__annotations__") = (true, m₀, ann))
    (run : ∀ (w : World) (os : OsState), ∃ S, topRun treeTable p w m₀ ann M ⟨H₀ w.params, gs₀, d₀, k₀, os⟩ (topStub p) = some S ∧
      (staticsOk (importedModules p.main.body) (H₀ w.params) S.heap && namesBound p S.heap && gensDone S && laidKept (H₀ w.params) S.heap) = true ∧
      openSeen q loose (importedModules p.main.body) Xt g0 S = openGood q loose ∧ Yf S = Ya w) (le : Nat.ble M N = true) : LeftO p q loose Xt Yf Ya N g0 := fun w => by
  obtain ⟨⟨h, gs, d, k, os⟩, e, e'⟩ := Option.map_eq_some_iff.mp (open_ w)
  obtain ⟨rfl, rfl, rfl, rfl⟩ : h = H₀ w.params ∧ gs = gs₀ ∧ d = d₀ ∧ k = k₀ := by simpa using e'
  obtain ⟨z1, z2, z3⟩ : _ ∧ _ ∧ _ := by simpa only [Prod.mk.injEq] using size w
  obtain ⟨S, r, l1, l2, l3⟩ := run w os
  have r := topRun_mono (N - M) _ _ _ _ r
  rw [show M + (N - M) = N by have := Nat.le_of_ble_eq_true le; omega] at r
  have t : topFrom treeTable p w N ⟨H₀ w.params, gs, d, k, os⟩ = some S := by
    unfold topFrom
    dsimp only
    rw [z1, z2, z3, r]
    show (match staticsOk (importedModules p.main.body) (H₀ w.params) S.heap && namesBound p S.heap && gensDone S && laidKept (H₀ w.params) S.heap with | true => _ | false => _) = _
    rw [l1]
  unfold openEnds
  rw [e]
  show (topFrom treeTable p w N _).map _ = _
  rw [t]
  exact congrArg some (Prod.ext l2 l3)
theorem LK_parts {w : World} {S : SharedT} {c : Bool} {x y} (h : LK w S = (c, x, y)) :
    (staticsOk (importedModules P.main.body) (boot_heap w.params) S.abs.heap && namesBound P S.abs.heap && gensDone S.abs && laidKept (boot_heap w.params) S.abs.heap) = c ∧
    openSeen V loose (importedModules P.main.body) (fun _ => true) true S.abs = x ∧ Yf S.abs = y :=
  ⟨congrArg Prod.fst h, (congrFun (congrFun (congrFun (congrFun (congrFun (congrFun te4187177175401517315 _) _) _) _) _) _).trans (congrArg (fun z => z.2.1) h), congrArg (fun z => z.2.2) h⟩
theorem left : LeftO P V loose (fun _ => true) Yf Ya 6000 :=
  left_of open_ok size_ok (fun w os => let ⟨S, r, l⟩ := top_run w os; ⟨S.abs, r, LK_parts l⟩) (by decide)
end Mine
end

/-! Head5 -/
section
open PySem PySem.W PyProof.Rows
set_option Elab.async false
set_option maxRecDepth 100000
set_option maxHeartbeats 8000000
namespace Mine
theorem kAs_eq (q : Params) : kAs = (K q).map (·.1) := by kernel_rfl
noncomputable def LawMain : Prop := ∀ (w : World) (s₁ : Shared) (mg mb : Str → Option Value), (K w.params).In s₁.heap → s₁.gens = #[] → TopRead V (looseW V loose) mg mb s₁.heap → s₁.heap.NoSeer →
  ∀ (l : Addr) (vs : List Value) (ns : List Int), s₁.heap.IsList l vs.toArray → IntsAre vs ns → ns.length ≤ 63 →
    wpAny (model P w) callerA (call (.ref 321) [.ref l]) (fun v s' => v = .bool true ∧ (∀ b o, s₁.heap.get? b = some o → s'.heap.get? b = some o) ∧ s'.os = s₁.os ∧ s'.gens = #[]) (fun _ _ => False) s₁
theorem law_at {w : World} {h : Heap} {mg : Str → Option Value} {fa : Addr} (X : (K w.params).In h) (G : h.Ns mainGlobals mg) (e : mg (Str.ofString "law") = some (.ref fa)) : fa = 321 := by
  have := mg_of (n := Str.ofString "law") (v := .ref 321) X G (by kernel_rfl)
  rw [e] at this
  cases this
  rfl
theorem of_main (main : LawMain) : PySem.Challenge.rw_kl0397_01.Holds := by
  w_on
  refine holds_law (by kernel_rfl) fun said => ?_
  refine W.holds_open (q := V) (loose := loose) (Xt := fun _ => true) (XP := fun _ _ => True) (Yf := Yf) (Ya := Ya) (YP := fun w h => (K w.params).In h) left
    ?hY ?hYk (fun _ _ => trivial) (fun _ _ _ _ _ => trivial) (by rfl) (by rfl) (by rfl) (fun s _ => recFacts_nil rfl) (by rfl) (by first | assumption | decide +kernel) (by decide +kernel) ⟨rfl, rfl, rfl, rfl, rfl, by decide +kernel⟩ ?hw ?hc
  case hw => w_witness2
  case hY => exact fun w s e => InK.of kAs_eq w s e
  case hYk => exact fun w h h' a b => InK.keeps w h h' a b
  case hc =>
    intro w s₀ s₁ mg mb G Y fa o pm cd doc dV kV ho hd hcd hD hmg hg args vals as hpre hlay hrd hwl hlo
    have T0 := topRead_of G.T
    have S0 := G.T.seer (by decide +kernel)
    obtain rfl := law_at Y T0.g hmg
    wrow_args hpre hlay hrd hwl hlo
    rename_i ns _ _ _ _ _ _ _ l vs _ hL _ _ _ hI _ hn _
    refine wpAny_mono (main w s₁ mg mb Y hg T0 S0 l vs ns hL hI (by omega)) (fun v s' h => ?_) fun _ _ h => h.elim
    obtain ⟨rfl, h1, h2, h3⟩ := h
    exact GoodW.toG ⟨.inl ⟨.bool true, .bool true, [], rfl, fun _ => rfl, by first | exact .plain (.bool true) | exact ReadsW.ofPy (.bool true) | exact .bool true, by first | kernel_rfl | exact postW_of rfl (w_eq_bool (w_res rfl) w_lit (by rfl)), unshared_nil⟩, h1, h2, h3⟩
end Mine
end

/-! Fw1 -/
section
open PySem PySem.W PyProof.Rows
set_option Elab.async false
set_option maxRecDepth 100000
set_option maxHeartbeats 1000000
namespace Mine

/-! ## values and objects as data -/
inductive MV where
  | none | bool (b : Bool) | int (i : Int) | tup (m : Bool) (ds : List MV) | obj (a : Addr) | raw (v : Value) | bm (id : String) (a : Addr)
noncomputable def tupO (m : Bool) (items : Array Value) (n : Nat × Option Addr) : Obj := { cls := bif m then .ref 135 else .type "tuple", dict := bif m then n.2 else none, data := .seq items n.1, slots := #[] }
noncomputable def bmO (id : String) (a : Addr) : Obj := { cls := .type "builtin_function_or_method", data := .fields #[.builtin id, .ref a] }
mutual
noncomputable def VR (h : Heap) : MV → Value → Prop
  | .none, u => u = .none
  | .bool b, u => u = .bool b
  | .int i, u => ∃ t, u = .int i t
  | .tup m ds, u => ∃ a items n, u = .ref a ∧ h.get? a = some (tupO m items n) ∧ VRs h ds items.toList
  | .obj a, u => u = .ref a
  | .raw v, u => u = v
  | .bm id a, u => ∃ b, u = .ref b ∧ h.get? b = some (bmO id a)
noncomputable def VRs (h : Heap) : List MV → List Value → Prop
  | [], us => us = []
  | d :: ds, us => ∃ u r, us = u :: r ∧ VR h d u ∧ VRs h ds r
end
noncomputable def Imm (o : Obj) : Prop := (∃ items n, o.data = .seq items n ∧ o.cls ≠ .type "list") ∨ (∃ vs, o.data = .fields vs ∧ o.cls = .type "builtin_function_or_method")
noncomputable def Keep (h h' : Heap) : Prop := ∀ a o, h.get? a = some o → Imm o → h'.get? a = some o
theorem Keep.refl (h : Heap) : Keep h h := fun _ _ e _ => e
theorem Keep.trans {h₁ h₂ h₃ : Heap} (a : Keep h₁ h₂) (b : Keep h₂ h₃) : Keep h₁ h₃ := fun x o e i => b x o (a x o e i) i
theorem Keep.of_all {h h' : Heap} (k : ∀ a o, h.get? a = some o → h'.get? a = some o) : Keep h h' := fun a o e _ => k a o e
theorem Keep.push (h : Heap) (o : Obj) : Keep h (h.push o) := fun _ _ e _ => Heap.get?_push_of_some o e
theorem Keep.but {h h' : Heap} {a : Addr} (e : Heap.ExtBut a h h') (ni : ∀ o, h.get? a = some o → ¬ Imm o) : Keep h h' := fun b o hb i => by
  by_cases q : b = a
  · subst q; exact absurd i (ni o hb)
  · exact e b o q hb
theorem imm_tup (m : Bool) (items : Array Value) (n : Nat × Option Addr) : Imm (tupO m items n) := .inl ⟨items, n.1, rfl, by cases m <;> simp [tupO]⟩
theorem imm_bm (id : String) (a : Addr) : Imm (bmO id a) := .inr ⟨_, rfl, rfl⟩
mutual
theorem VR.keep {h h' : Heap} (k : Keep h h') : ∀ {d : MV} {u : Value}, VR h d u → VR h' d u
  | .none, _, r => by simpa [VR] using r
  | .bool _, _, r => by simpa [VR] using r
  | .int _, _, r => by simpa [VR] using r
  | .tup m ds, u, r => by
    rw [VR] at r ⊢
    obtain ⟨a, items, n, e, g, rs⟩ := r
    exact ⟨a, items, n, e, k _ _ g (imm_tup ..), VRs.keep k rs⟩
  | .obj _, _, r => by simpa [VR] using r
  | .raw _, _, r => by simpa [VR] using r
  | .bm id a, u, r => by
    rw [VR] at r ⊢
    obtain ⟨b, e, g⟩ := r
    exact ⟨b, e, k _ _ g (imm_bm ..)⟩
theorem VRs.keep {h h' : Heap} (k : Keep h h') : ∀ {ds : List MV} {us : List Value}, VRs h ds us → VRs h' ds us
  | [], _, r => by simpa [VRs] using r
  | d :: ds, us, r => by
    rw [VRs] at r ⊢
    obtain ⟨u, x, e, r1, r2⟩ := r
    exact ⟨u, x, e, VR.keep k r1, VRs.keep k r2⟩
end
theorem vr_none {h : Heap} {u : Value} : VR h .none u ↔ u = .none := by rw [VR]
theorem vr_bool {h : Heap} {b : Bool} {u : Value} : VR h (.bool b) u ↔ u = .bool b := by rw [VR]
theorem vr_int {h : Heap} {i : Int} {u : Value} : VR h (.int i) u ↔ ∃ t, u = .int i t := by rw [VR]
theorem vr_obj {h : Heap} {a : Addr} {u : Value} : VR h (.obj a) u ↔ u = .ref a := by rw [VR]
theorem vr_raw {h : Heap} {v u : Value} : VR h (.raw v) u ↔ u = v := by rw [VR]
theorem vr_tup {h : Heap} {m : Bool} {ds : List MV} {u : Value} : VR h (.tup m ds) u ↔ ∃ a items n, u = .ref a ∧ h.get? a = some (tupO m items n) ∧ VRs h ds items.toList := by rw [VR]
theorem vr_bm {h : Heap} {id : String} {a : Addr} {u : Value} : VR h (.bm id a) u ↔ ∃ b, u = .ref b ∧ h.get? b = some (bmO id a) := by rw [VR]
theorem vrs_nil {h : Heap} {us : List Value} : VRs h [] us ↔ us = [] := by rw [VRs]
theorem vrs_cons {h : Heap} {d : MV} {ds : List MV} {us : List Value} : VRs h (d :: ds) us ↔ ∃ u r, us = u :: r ∧ VR h d u ∧ VRs h ds r := by rw [VRs]
theorem VRs.length {h : Heap} : ∀ {ds : List MV} {us : List Value}, VRs h ds us → us.length = ds.length
  | [], _, r => by rw [vrs_nil] at r; subst r; rfl
  | d :: ds, us, r => by
    rw [vrs_cons] at r
    obtain ⟨u, x, rfl, _, r2⟩ := r
    simp [VRs.length r2]
theorem VRs.get {h : Heap} : ∀ {ds : List MV} {us : List Value} {i : Nat} {d : MV}, VRs h ds us → ds[i]? = some d → ∃ u, us[i]? = some u ∧ VR h d u
  | [], _, _, _, _, e => by simp at e
  | d :: ds, us, i, d', r, e => by
    rw [vrs_cons] at r
    obtain ⟨u, x, rfl, r1, r2⟩ := r
    cases i with
    | zero => simp at e; subst e; exact ⟨u, rfl, r1⟩
    | succ i => simp at e ⊢; exact VRs.get r2 e
theorem VRs.append {h : Heap} : ∀ {ds es : List MV} {us vs : List Value}, VRs h ds us → VRs h es vs → VRs h (ds ++ es) (us ++ vs)
  | [], _, _, _, r, q => by rw [vrs_nil] at r; subst r; exact q
  | d :: ds, es, us, vs, r, q => by
    rw [vrs_cons] at r
    obtain ⟨u, x, rfl, r1, r2⟩ := r
    exact vrs_cons.mpr ⟨u, x ++ vs, rfl, r1, r2.append q⟩
theorem VRs.one {h : Heap} {d : MV} {u : Value} (r : VR h d u) : VRs h [d] [u] := vrs_cons.mpr ⟨u, [], rfl, r, vrs_nil.mpr rfl⟩
theorem VRs.set {h : Heap} : ∀ {ds : List MV} {us : List Value} {i : Nat} {d : MV} {u : Value}, VRs h ds us → VR h d u → VRs h (ds.set i d) (us.set i u)
  | [], _, _, _, _, r, _ => by rw [vrs_nil] at r; subst r; simp [vrs_nil]
  | d :: ds, us, i, d', u', r, q => by
    rw [vrs_cons] at r
    obtain ⟨u, x, rfl, r1, r2⟩ := r
    cases i with
    | zero => exact vrs_cons.mpr ⟨u', x, rfl, q, r2⟩
    | succ i => exact vrs_cons.mpr ⟨u, x.set i u', rfl, r1, r2.set q⟩
theorem VRs.drop {h : Heap} : ∀ {ds : List MV} {us : List Value} (n : Nat), VRs h ds us → VRs h (ds.drop n) (us.drop n)
  | _, _, 0, r => r
  | [], _, n + 1, r => by rw [vrs_nil] at r; subst r; simp [vrs_nil]
  | d :: ds, us, n + 1, r => by
    rw [vrs_cons] at r
    obtain ⟨u, x, rfl, r1, r2⟩ := r
    exact VRs.drop n r2
theorem VRs.take {h : Heap} : ∀ {ds : List MV} {us : List Value} (n : Nat), VRs h ds us → VRs h (ds.take n) (us.take n)
  | _, _, 0, r => by simp [vrs_nil]
  | [], _, n + 1, r => by rw [vrs_nil] at r; subst r; simp [vrs_nil]
  | d :: ds, us, n + 1, r => by
    rw [vrs_cons] at r
    obtain ⟨u, x, rfl, r1, r2⟩ := r
    exact vrs_cons.mpr ⟨u, _, rfl, r1, VRs.take n r2⟩

inductive MO where
  | list (vs : List MV) | dict (f : Int → Option MV) (n : Nat) | inst (dx : Addr) | attrs (l : List (Str × MV)) | set0
noncomputable def OV (h : Heap) : Option MV → Option Value → Prop
  | none, none => True
  | some d, some u => VR h d u
  | _, _ => False
theorem OV.keep {h h' : Heap} (k : Keep h h') {d : Option MV} {u : Option Value} (r : OV h d u) : OV h' d u := by
  cases d <;> cases u <;> first | trivial | exact VR.keep k r | exact r
noncomputable def AR (h : Heap) : List (Str × MV) → List DictEntry → Prop
  | [], es => es = []
  | p :: l, es => ∃ e r t, es = e :: r ∧ e.key = .str p.1 t ∧ VR h p.2 e.val ∧ AR h l r
theorem AR.keep {h h' : Heap} (k : Keep h h') : ∀ {l : List (Str × MV)} {es : List DictEntry}, AR h l es → AR h' l es
  | [], _, r => r
  | _ :: _, _, ⟨e, r, t, q1, q2, q3, q4⟩ => ⟨e, r, t, q1, q2, q3.keep k, q4.keep k⟩
noncomputable def OR (h : Heap) (a : Addr) : MO → Prop
  | .list vs => ∃ items n, IsL h a items n ∧ VRs h vs items.toList
  | .dict f n => ∃ g, h.IntMap a g ∧ h.DictLe a n ∧ (∀ o, h.get? a = some o → o.dict = none ∧ o.slots = #[]) ∧ ∀ k, OV h (f k) (g k)
  | .inst dx => h.get? a = some ⟨.ref 242, some dx, .plain, #[]⟩
  | .attrs l => ∃ es n, h.get? a = some (dictOf es n) ∧ AR h l es
  | .set0 => ∃ led : Bool, h.get? a = some { cls := .type "set", dict := none, data := .set #[] 0 (.fresh 0 0 led) }
theorem OR.there {h : Heap} {a : Addr} {mo : MO} (r : OR h a mo) : ∃ o, h.get? a = some o ∧ ¬ Imm o := by
  cases mo with
  | list vs => obtain ⟨items, n, e, _⟩ := r; exact ⟨_, e, by simp [Imm]⟩
  | dict f n => obtain ⟨g, ⟨o, es, ep, e, _, hd, _⟩, _⟩ := r; exact ⟨o, e, by simp [Imm, hd]⟩
  | inst dx => exact ⟨_, r, by simp [Imm]⟩
  | attrs l => obtain ⟨es, n, e, _⟩ := r; exact ⟨_, e, by simp [Imm]⟩
  | set0 => obtain ⟨led, e⟩ := r; exact ⟨_, e, by simp [Imm]⟩
/-- the object is as it was, the rest grew -/
theorem OR.same {h h' : Heap} {a : Addr} {mo : MO} (r : OR h a mo) (k : Keep h h') (e : ∀ o, h.get? a = some o → h'.get? a = some o) : OR h' a mo := by
  cases mo with
  | list vs => obtain ⟨items, n, q, rs⟩ := r; exact ⟨items, n, e _ q, rs.keep k⟩
  | dict f n =>
    obtain ⟨g, m, l, nd, rs⟩ := r
    obtain ⟨o, es, ep, q, z⟩ := id m
    exact ⟨g, ⟨o, es, ep, e _ q, z⟩, l.of_same q (e _ q), (fun o' ho' => by rw [e _ q] at ho'; cases ho'; exact nd _ q), fun x => (rs x).keep k⟩
  | inst dx => exact e _ r
  | attrs l => obtain ⟨es, n, q, rs⟩ := r; exact ⟨es, n, e _ q, rs.keep k⟩
  | set0 => obtain ⟨led, q⟩ := r; exact ⟨led, e _ q⟩

end Mine
end

/-! Fw2 -/
section
open PySem PySem.W PyProof.Rows
set_option Elab.async false
set_option maxRecDepth 100000
set_option maxHeartbeats 1000000
set_option linter.unusedVariables false
namespace Mine

structure MS where
  loc : Str → Option MV
  sto : Addr → Option MO
/-- where we stand: the world, the state at the start, the frame kept, the locals' object -/
structure Z where
  w : World
  s₁ : Shared
  mg : Str → Option Value
  mb : Str → Option Value
  X : (K w.params).In s₁.heap
  T : TopRead V (looseW V loose) mg mb s₁.heap
  A : Around
  hd : A.handled = none
  S : s₁.heap.NoSeer
  fs : ∃ l, A.frames = some l
  F : Addr → Option Obj
  L : Addr
structure SH (z : Z) (ms : MS) (h : Heap) : Prop where
  base : ∀ a o, z.s₁.heap.get? a = some o → z.F a = some o
  fr : ∀ a o, z.F a = some o → h.get? a = some o
  ns : ∃ m, h.Ns z.L m ∧ ∀ x d, ms.loc x = some d → ∃ u, m x = some u ∧ VR h d u
  lF : z.F z.L = none
  sto : ∀ a mo, ms.sto a = some mo → z.F a = none ∧ 321 < a ∧ a ≠ z.L ∧ OR h a mo
noncomputable def Ok (z : Z) (s : Shared) : Prop := s.gens = #[] ∧ s.os = z.s₁.os
noncomputable def NoE : Value → Shared → Prop := fun _ _ => False
noncomputable def Post (z : Z) {α β : Type} (R : Heap → β → α → Prop) (h₀ : Heap) (Q : β → MS → Prop) (u : α) (s' : Shared) : Prop :=
  Ok z s' ∧ Keep h₀ s'.heap ∧ ∃ d ms', SH z ms' s'.heap ∧ R s'.heap d u ∧ Q d ms'
noncomputable def WG (z : Z) {α β : Type} (R : Heap → β → α → Prop) (t : Sem α) (ms : MS) (Q : β → MS → Prop) : Prop :=
  ∀ s, Ok z s → SH z ms s.heap → wpAny (model P z.w) z.A t (Post z R s.heap Q) NoE s
noncomputable abbrev WV (z : Z) (t : Sem Value) (ms : MS) (Q : MV → MS → Prop) : Prop := WG z VR t ms Q
noncomputable abbrev WVs (z : Z) (t : Sem (List Value)) (ms : MS) (Q : List MV → MS → Prop) : Prop := WG z VRs t ms Q
noncomputable abbrev WB (z : Z) (t : Sem Bool) (ms : MS) (Q : Bool → MS → Prop) : Prop := WG z (fun _ d b => b = d) t ms Q
noncomputable abbrev WU (z : Z) (t : Sem Unit) (ms : MS) (Q : MS → Prop) : Prop := WG z (fun _ (_ : Unit) _ => True) t ms (fun _ => Q)
inductive MF where
  | next | brk | cont | ret (d : MV)
noncomputable def FR (h : Heap) : MF → Flow → Prop
  | .next, f => f = .next
  | .brk, f => f = .brk
  | .cont, f => f = .cont
  | .ret d, f => ∃ u, f = .ret u ∧ VR h d u
noncomputable abbrev WS (z : Z) (t : Sem Flow) (ms : MS) (Q : MF → MS → Prop) : Prop := WG z FR t ms Q

section
variable {z : Z} {ms ms' : MS} {h h' : Heap}
theorem Post.mono {α β : Type} {R : Heap → β → α → Prop} {h₀ h₁ : Heap} {Q Q' : β → MS → Prop} {u : α} {s' : Shared} (p : Post z R h₁ Q u s') (k : Keep h₀ h₁) (q : ∀ d ms, Q d ms → Q' d ms) : Post z R h₀ Q' u s' :=
  let ⟨a, b, d, m, c, e, f⟩ := p; ⟨a, k.trans b, d, m, c, e, q _ _ f⟩
theorem WG.mono {α β : Type} {R : Heap → β → α → Prop} {t : Sem α} {Q Q' : β → MS → Prop} (p : WG z R t ms Q) (q : ∀ d ms, Q d ms → Q' d ms) : WG z R t ms Q' :=
  fun s ok sh => wpAny_mono (p s ok sh) (fun _ _ r => r.mono (Keep.refl _) q) fun _ _ x => x
/-- run t, go on from what it gives -/
theorem WG.run {α β γ δ : Type} {R : Heap → β → α → Prop} {R' : Heap → δ → γ → Prop} {t : Sem α} {f : α → Shared → Prop} {Q : β → MS → Prop} {s : Shared} (p : WG z R t ms Q) (ok : Ok z s) (sh : SH z ms s.heap)
    (k : ∀ u d ms₁ s₁, Ok z s₁ → Keep s.heap s₁.heap → SH z ms₁ s₁.heap → R s₁.heap d u → Q d ms₁ → f u s₁) : wpAny (model P z.w) z.A t f NoE s :=
  wpAny_mono (p s ok sh) (fun u s₁ ⟨ok₁, k₁, d, ms₁, sh₁, r, q⟩ => k u d ms₁ s₁ ok₁ k₁ sh₁ r q) fun _ _ x => x

/-! ### steps of the heap -/
theorem SH.grow (x : SH z ms h) (k : Keep h h') (e : ∀ a o, h.get? a = some o → h'.get? a = some o) : SH z ms h' where
  base := x.base
  fr := fun a o q => e _ _ (x.fr a o q)
  ns := by
    obtain ⟨m, n, r⟩ := x.ns
    refine ⟨m, n.keeps e, fun y d q => ?_⟩
    obtain ⟨u, a, b⟩ := r y d q
    exact ⟨u, a, b.keep k⟩
  lF := x.lF
  sto := fun a mo q => let ⟨p1, p2, p3, p4⟩ := x.sto a mo q; ⟨p1, p2, p3, p4.same k fun o => e a o⟩
theorem SH.push (x : SH z ms h) (o : Obj) : SH z ms (h.push o) := x.grow (Keep.push h o) fun _ _ e => Heap.get?_push_of_some o e
theorem SH.new_none (x : SH z ms h) : z.F h.objs.size = none ∧ ms.sto h.objs.size = none ∧ h.objs.size ≠ z.L ∧ 321 < h.objs.size := by
  refine ⟨?_, ?_, ?_, ?_⟩
  · cases q : z.F h.objs.size with
    | none => rfl
    | some o => exact absurd (Heap.lt_size (x.fr _ _ q)) (Nat.lt_irrefl _)
  · cases q : ms.sto h.objs.size with
    | none => rfl
    | some mo =>
      obtain ⟨o, e, _⟩ := (x.sto _ _ q).2.2.2.there
      exact absurd (Heap.lt_size e) (Nat.lt_irrefl _)
  · intro e
    obtain ⟨m, n, _⟩ := x.ns
    exact absurd n.lt (e ▸ Nat.lt_irrefl _)
  · have : (K z.w.params).lookup 321 = some (fnO (cell 18) "law" (.none) (.none) (.str "law_kl0397_01" 631) none 320) := by kernel_rfl
    exact Heap.lt_size (x.fr _ _ (x.base _ _ (z.X _ _ this)))
noncomputable def upd {α : Type} (f : Nat → Option α) (a : Nat) (v : α) : Nat → Option α := fun b => if b = a then some v else f b
noncomputable def updL (f : Str → Option MV) (a : Str) (v : MV) : Str → Option MV := fun b => if b = a then some v else f b
theorem SH.alloc (x : SH z ms h) {o : Obj} {mo : MO} (r : OR (h.push o) h.objs.size mo) : SH z ⟨ms.loc, upd ms.sto h.objs.size mo⟩ (h.push o) where
  base := x.base
  fr := (x.push o).fr
  ns := (x.push o).ns
  lF := x.lF
  sto := fun a m q => by
    dsimp only [upd] at q
    by_cases e : a = h.objs.size
    · subst e
      rw [if_pos rfl] at q
      cases q
      exact ⟨x.new_none.1, x.new_none.2.2.2, x.new_none.2.2.1, r⟩
    · rw [if_neg e] at q
      exact (x.push o).sto a m q
/-- a store object is changed in its place -/
theorem SH.put (x : SH z ms h) {a : Addr} {mo mo' : MO} (hm : ms.sto a = some mo) (e : Heap.SameBut a h h') (r : Keep h h' → OR h' a mo') : SH z ⟨ms.loc, upd ms.sto a mo'⟩ h' ∧ Keep h h' := by
  obtain ⟨p1, p2, p3, p4⟩ := x.sto a mo hm
  obtain ⟨o₀, e₀, ni⟩ := p4.there
  have k : Keep h h' := Keep.but e.extBut fun o q => by rw [e₀] at q; cases q; exact ni
  refine ⟨⟨x.base, fun b o q => ?_, ?_, x.lF, fun b m q => ?_⟩, k⟩
  · have : b ≠ a := fun z => by subst z; rw [p1] at q; cases q
    exact (e.2 b this).trans (x.fr b o q)
  · obtain ⟨m, n, y⟩ := x.ns
    refine ⟨m, n.sameBut e (Ne.symm p3), fun v d q => ?_⟩
    obtain ⟨u, b, c⟩ := y v d q
    exact ⟨u, b, c.keep k⟩
  · dsimp only [upd] at q
    by_cases z : b = a
    · subst z
      rw [if_pos rfl] at q
      cases q
      exact ⟨p1, p2, p3, r k⟩
    · rw [if_neg z] at q
      obtain ⟨q1, q2, q3, q4⟩ := x.sto b m q
      exact ⟨q1, q2, q3, q4.same k fun o c => (e.2 b z).trans c⟩
/-- the locals are changed -/
theorem SH.setL (x : SH z ms h) {m' : Str → Option Value} {y : Str} {d : MV} {u : Value} (n : ∀ m, h.Ns z.L m → h'.Ns z.L (fun b => if b = y then some u else m b)) (e : Heap.SameBut z.L h h') (r : VR h d u) :
    SH z ⟨updL ms.loc y d, ms.sto⟩ h' ∧ Keep h h' := by
  obtain ⟨m, n₀, q⟩ := x.ns
  have k : Keep h h' := Keep.but e.extBut fun o c => by
    obtain ⟨o', es, ep, c', d', _⟩ := n₀
    rw [c] at c'
    cases c'
    simp [Imm, d']
  refine ⟨⟨x.base, fun b o c => ?_, ⟨_, n m n₀, fun b d' c => ?_⟩, x.lF, fun b mo c => ?_⟩, k⟩
  · have : b ≠ z.L := fun w => by subst w; rw [x.lF] at c; cases c
    exact (e.2 b this).trans (x.fr b o c)
  · simp only [updL] at c
    by_cases w : b = y
    · rw [if_pos w] at c
      cases c
      exact ⟨u, by simp [w], r.keep k⟩
    · rw [if_neg w] at c
      obtain ⟨u', a1, a2⟩ := q b d' c
      exact ⟨u', by simp [w, a1], a2.keep k⟩
  · obtain ⟨q1, q2, q3, q4⟩ := x.sto b mo c
    exact ⟨q1, q2, q3, q4.same k fun o g => (e.2 b q3).trans g⟩
/-- objects and names may be forgotten -/
noncomputable def Le (a b : MS) : Prop := (∀ x d, a.loc x = some d → b.loc x = some d) ∧ ∀ x d, a.sto x = some d → b.sto x = some d
theorem SH.forget (x : SH z ms h) (l : Le ms' ms) : SH z ms' h :=
  ⟨x.base, x.fr, let ⟨m, n, q⟩ := x.ns; ⟨m, n, fun y d e => q y d (l.1 y d e)⟩, x.lF, fun a mo e => x.sto a mo (l.2 a mo e)⟩
theorem WG.forget {α β : Type} {R : Heap → β → α → Prop} {t : Sem α} {Q : β → MS → Prop} (p : WG z R t ms' Q) (l : Le ms' ms) : WG z R t ms Q :=
  fun s ok sh => p s ok (sh.forget l)
theorem SH.keepIn (x : SH z ms h) : (K z.w.params).In h := fun a o e => x.fr _ _ (x.base _ _ (z.X a o e))
theorem SH.all (x : SH z ms h) : ∀ b o, z.s₁.heap.get? b = some o → h.get? b = some o := fun b o e => x.fr _ _ (x.base _ _ e)
theorem SH.top (x : SH z ms h) : TopRead V (looseW V loose) z.mg z.mb h := z.T.keeps x.all
end
end Mine
end

/-! Fw3 -/
section
open PySem PySem.W PyProof.Rows
set_option Elab.async false
set_option maxRecDepth 100000
set_option maxHeartbeats 1000000
set_option linter.unusedVariables false
namespace Mine

structure EnvOk (z : Z) (env : Env) : Prop where
  kind : env.scope.kind = .function
  locals : env.locals = z.L
  globals : env.globals = mainGlobals
  builtins : env.builtins = builtinsNs
  gen : env.scope.isGenerator = false
  co : env.scope.isCoroutine = false
  top : ∃ l, z.A.frames = some (env :: l)
structure AOk (A : Around) (k : Nat) : Prop where
  hd : A.handled = none
  dp : A.depth + 3 * k ≤ 600
  un : A.units + 50 * k ≤ 5000
noncomputable def Op1 (z : Z) (f : Value → Sem Value) (a : MV) (ms : MS) (Q : MV → MS → Prop) : Prop :=
  ∀ u s, Ok z s → SH z ms s.heap → VR s.heap a u → wpAny (model P z.w) z.A (f u) (Post z VR s.heap Q) NoE s
noncomputable def Op2 (z : Z) (f : Value → Value → Sem Value) (a b : MV) (ms : MS) (Q : MV → MS → Prop) : Prop :=
  ∀ u v s, Ok z s → SH z ms s.heap → VR s.heap a u → VR s.heap b v → wpAny (model P z.w) z.A (f u v) (Post z VR s.heap Q) NoE s
noncomputable def Tr (z : Z) (a : MV) (ms : MS) (Q : Bool → MS → Prop) : Prop :=
  ∀ u s, Ok z s → SH z ms s.heap → VR s.heap a u → wpAny (model P z.w) z.A (truthy u) (Post z (fun _ d b => b = d) s.heap Q) NoE s
/-- what is done to a value: a store -/
noncomputable def StV (z : Z) (f : Value → Sem Unit) (a : MV) (ms : MS) (Q : MS → Prop) : Prop :=
  ∀ u s, Ok z s → SH z ms s.heap → VR s.heap a u → wpAny (model P z.w) z.A (f u) (Post z (fun _ (_ : Unit) _ => True) s.heap (fun _ => Q)) NoE s

section
variable {z : Z} {ms ms' : MS} {env : Env} {Q : MV → MS → Prop}
theorem Ok.tok {s : Shared} {h : Heap} {t : Nat} (ok : Ok z s) : Ok z { s with heap := h, toks := t } := ok
theorem post_here {α β : Type} {R : Heap → β → α → Prop} {Q : β → MS → Prop} {u : α} {d : β} {s : Shared} (ok : Ok z s) (sh : SH z ms s.heap) (r : R s.heap d u) (q : Q d ms) : Post z R s.heap Q u s :=
  ⟨ok, Keep.refl _, d, ms, sh, r, q⟩
theorem post_tok {α β : Type} {R : Heap → β → α → Prop} {Q : β → MS → Prop} {u : α} {d : β} {s : Shared} {t : Nat} (ok : Ok z s) (sh : SH z ms s.heap) (r : R s.heap d u) (q : Q d ms) : Post z R s.heap Q u { s with toks := t } :=
  ⟨ok, Keep.refl _, d, ms, sh, r, q⟩
theorem post_at {α β : Type} {R : Heap → β → α → Prop} {Q : β → MS → Prop} {u : α} {d : β} {h₀ : Heap} {s : Shared} (ok : Ok z s) (k : Keep h₀ s.heap) (sh : SH z ms s.heap) (r : R s.heap d u) (q : Q d ms) : Post z R h₀ Q u s :=
  ⟨ok, k, d, ms, sh, r, q⟩
theorem wp_post {α β : Type} {R : Heap → β → α → Prop} {t : Sem α} {Q Q' : β → MS → Prop} {h₀ h₁ : Heap} {s : Shared} (p : wpAny (model P z.w) z.A t (Post z R h₁ Q) NoE s) (k : Keep h₀ h₁) (q : ∀ d ms, Q d ms → Q' d ms) :
    wpAny (model P z.w) z.A t (Post z R h₀ Q') NoE s := wpAny_mono p (fun _ _ r => r.mono k q) fun _ _ x => x

/-! ## expressions -/
theorem name_l {x : Str} {pos : Pos} {d : MV} (he : EnvOk z env) (hx : env.kindOf x = some .local) (hd : (x == ("__debug__" : Str)) = false) (h : ms.loc x = some d) (q : Q d ms) : WV z (eval (.Name x pos) env) ms Q := by
  intro s ok sh
  obtain ⟨m, n, r⟩ := sh.ns
  obtain ⟨u, e, ru⟩ := r x d h
  exact wpAny_Name (wpAny_loadName_local he.kind hx (he.locals ▸ n) e (post_here ok sh ru q)) hd
theorem name_g {x : Str} {pos : Pos} {v : Value} (he : EnvOk z env) (hx : env.kindOf x = some .globalImplicit) (hd : (x == ("__debug__" : Str)) = false) (h : nsIn (K z.w.params) mainGlobals x = some (some v)) (q : Q (.raw v) ms) : WV z (eval (.Name x pos) env) ms Q := by
  intro s ok sh
  exact Calls.Name_function_global he.kind hx (Calls.loadGlobal_global (he.globals ▸ sh.top.g) (mg_of sh.keepIn sh.top.g h) (post_here ok sh (vr_raw.mpr rfl) q)) hd
theorem name_b {x : Str} {pos : Pos} {v : Value} (he : EnvOk z env) (hx : env.kindOf x = some .globalImplicit) (hd : (x == ("__debug__" : Str)) = false) (h : nsIn (K z.w.params) mainGlobals x = some none) (hb : bootBuiltins x = some v) (hn : x ≠ "__name__") (q : Q (.raw v) ms) :
    WV z (eval (.Name x pos) env) ms Q := by
  intro s ok sh
  exact Calls.Name_function_global he.kind hx (Calls.loadGlobal_builtin (he.globals ▸ sh.top.g) (mg_none_of sh.keepIn sh.top.g h) (he.builtins ▸ sh.top.b) ((sh.top.builtins x hn).trans hb) (post_here ok sh (vr_raw.mpr rfl) q)) hd
theorem const_int {i : Int} {k : Nat} {pos : Pos} (q : Q (.int i) ms) : WV z (eval (.Constant (.int i) k pos) env) ms Q :=
  fun s ok sh => wpAny_Constant_int (post_tok ok sh (vr_int.mpr ⟨_, rfl⟩) q)
theorem const_none {k : Nat} {pos : Pos} (q : Q .none ms) : WV z (eval (.Constant .none k pos) env) ms Q :=
  fun s ok sh => wpAny_Constant_none (post_here ok sh (vr_none.mpr rfl) q)
theorem const_bool {b : Bool} {k : Nat} {pos : Pos} (q : Q (.bool b) ms) : WV z (eval (.Constant (.bool b) k pos) env) ms Q :=
  fun s ok sh => wpAny_Constant_bool (post_here ok sh (vr_bool.mpr rfl) q)
theorem binop {l r : Expr} {op : Operator} {pos : Pos} (h : WV z (eval l env) ms fun a ms₁ => WV z (eval r env) ms₁ fun b ms₂ => Op2 z (binaryOp op) a b ms₂ Q) : WV z (eval (.BinOp l op r pos) env) ms Q := by
  intro s ok sh
  refine wpAny_BinOp (h.run (R' := VR) ok sh fun u a ms₁ s₁ ok₁ k₁ sh₁ ru q₁ => q₁.run (R' := VR) ok₁ sh₁ fun v b ms₂ s₂ ok₂ k₂ sh₂ rv q₂ => ?_)
  exact wp_post (q₂ u v s₂ ok₂ sh₂ (ru.keep k₂) rv) (k₁.trans k₂) fun _ _ x => x
theorem compare {l r : Expr} {op : CmpOp} {pos : Pos} (hm : behindInMarks op r = false) (h : WV z (eval l env) ms fun a ms₁ => WV z (eval r env) ms₁ fun b ms₂ => Op2 z (compareOp op) a b ms₂ Q) : WV z (eval (.Compare l [op] [r] pos) env) ms Q := by
  intro s ok sh
  refine wpAny_Compare1 (h.run (R' := VR) ok sh fun u a ms₁ s₁ ok₁ k₁ sh₁ ru q₁ => q₁.run (R' := VR) ok₁ sh₁ fun v b ms₂ s₂ ok₂ k₂ sh₂ rv q₂ => ?_) hm
  exact wp_post (q₂ u v s₂ ok₂ sh₂ (ru.keep k₂) rv) (k₁.trans k₂) fun _ _ x => x
theorem unop {x : Expr} {op : UnaryOp} {pos : Pos} (h : WV z (eval x env) ms fun a ms₁ => Op1 z (unaryOp op) a ms₁ Q) : WV z (eval (.UnaryOp op x pos) env) ms Q := by
  intro s ok sh
  refine wpAny_UnaryOp (h.run (R' := VR) ok sh fun u a ms₁ s₁ ok₁ k₁ sh₁ ru q₁ => ?_)
  exact wp_post (q₁ u s₁ ok₁ sh₁ ru) k₁ fun _ _ x => x
theorem ifexp {t b e : Expr} {pos : Pos} (h : WB z (isTrue t env (eval t env)) ms fun c ms₁ => if c then WV z (eval b env) ms₁ Q else WV z (eval e env) ms₁ Q) : WV z (eval (.IfExp t b e pos) env) ms Q := by
  intro s ok sh
  refine wpAny_IfExp (h.run (R' := VR) ok sh fun u c ms₁ s₁ ok₁ k₁ sh₁ ru q₁ => ?_)
  subst ru
  cases u with
  | true => simp only [if_true] at q₁ ⊢; exact wp_post (q₁ s₁ ok₁ sh₁) k₁ fun _ _ x => x
  | false => simp only [Bool.false_eq_true, if_false] at q₁ ⊢; exact wp_post (q₁ s₁ ok₁ sh₁) k₁ fun _ _ x => x

/-! ## tests -/
theorem test_cmp {l r : Expr} {op : CmpOp} {pos : Pos} {whole : Sem Value} {Q : Bool → MS → Prop} (hm : behindInMarks op r = false)
    (h : WV z (eval l env) ms fun a ms₁ => WV z (eval r env) ms₁ fun b ms₂ => Op2 z (compareOp op) a b ms₂ fun c ms₃ => Tr z c ms₃ Q) : WB z (isTrue (.Compare l [op] [r] pos) env whole) ms Q := by
  intro s ok sh
  refine wpAny_isTrue_Compare1 (h.run (R' := VR) ok sh fun u a ms₁ s₁ ok₁ k₁ sh₁ ru q₁ => q₁.run (R' := VR) ok₁ sh₁ fun v b ms₂ s₂ ok₂ k₂ sh₂ rv q₂ => ?_) hm
  refine wpAny_mono (q₂ u v s₂ ok₂ sh₂ (ru.keep k₂) rv) (fun c s₃ p => ?_) fun _ _ x => x
  obtain ⟨ok₃, k₃, d, ms₃, sh₃, r₃, q₃⟩ := p
  exact wp_post (q₃ c s₃ ok₃ sh₃ r₃) ((k₁.trans k₂).trans k₃) fun _ _ x => x
theorem test_not {x : Expr} {pos : Pos} {whole : Sem Value} {Q : Bool → MS → Prop} (h : WB z (isTrue x env (eval x env)) ms fun b ms₁ => Q (!b) ms₁) : WB z (isTrue (.UnaryOp .Not x pos) env whole) ms Q := by
  intro s ok sh
  refine wpAny_isTrue_Not (h.run (R' := VR) ok sh fun u c ms₁ s₁ ok₁ k₁ sh₁ ru q₁ => ?_)
  subst ru
  exact post_at ok₁ k₁ sh₁ rfl q₁
theorem test_val {e : Expr} {Q : Bool → MS → Prop} (he : isTrue e env (eval e env) = (do let v ← eval e env; standAt e.pos; holding [v] (truthy v)))
    (h : WV z (eval e env) ms fun a ms₁ => Tr z a ms₁ Q) : WB z (isTrue e env (eval e env)) ms Q := by
  intro s ok sh
  refine wpAny_isTrue_value (h.run (R' := VR) ok sh fun u a ms₁ s₁ ok₁ k₁ sh₁ ru q₁ => ?_) he
  exact wp_post (q₁ u s₁ ok₁ sh₁ ru) k₁ fun _ _ x => x
theorem test_bool {op : BoolOp} {values : List Expr} {pos : Pos} {whole : Sem Value} {Q : Bool → MS → Prop} (h : WB z (allTrue op values env) ms Q) : WB z (isTrue (.BoolOp op values pos) env whole) ms Q :=
  fun s ok sh => wpAny_isTrue_BoolOp (h s ok sh)
theorem and_nil {Q : Bool → MS → Prop} (q : Q true ms) : WB z (allTrue .And [] env) ms Q := fun s ok sh => wpAny_allTrue_And_nil (post_here ok sh rfl q)
theorem and_cons {x : Expr} {rest : List Expr} {Q : Bool → MS → Prop} (h : WB z (isTrue x env (eval x env)) ms fun b ms₁ => if b then WB z (allTrue .And rest env) ms₁ Q else Q false ms₁) : WB z (allTrue .And (x :: rest) env) ms Q := by
  intro s ok sh
  refine wpAny_allTrue_And_cons (h.run (R' := VR) ok sh fun u c ms₁ s₁ ok₁ k₁ sh₁ ru q₁ => ?_)
  subst ru
  cases u with
  | true => simp only [if_true] at q₁ ⊢; exact wp_post (q₁ s₁ ok₁ sh₁) k₁ fun _ _ x => x
  | false => simp only [Bool.false_eq_true, if_false] at q₁ ⊢; exact post_at ok₁ k₁ sh₁ rfl q₁
theorem tr_bool {b : Bool} {Q : Bool → MS → Prop} (q : Q b ms) : Tr z (.bool b) ms Q := by
  intro u s ok sh ru
  obtain rfl := vr_bool.mp ru
  exact wpAny_truthy_bool (post_here ok sh rfl q)
theorem tr_int {i : Int} {Q : Bool → MS → Prop} (q : Q (i != 0) ms) : Tr z (.int i) ms Q := by
  intro u s ok sh ru
  obtain ⟨t, rfl⟩ := vr_int.mp ru
  exact PySem.P.truthy_int (post_here ok sh rfl q)
theorem tr_none {Q : Bool → MS → Prop} (q : Q false ms) : Tr z .none ms Q := by
  intro u s ok sh ru
  obtain rfl := vr_none.mp ru
  exact wpAny_pure (post_here ok sh rfl q)

/-! ## operators on ints -/
theorem op_add {i j : Int} (q : Q (.int (i + j)) ms) : Op2 z (binaryOp .Add) (.int i) (.int j) ms Q := by
  intro u v s ok sh ru rv
  obtain ⟨t, rfl⟩ := vr_int.mp ru
  obtain ⟨t', rfl⟩ := vr_int.mp rv
  exact PyProof.Rows.add_int (post_tok ok sh (vr_int.mpr ⟨_, rfl⟩) q)
theorem op_sub {i j : Int} (q : Q (.int (i - j)) ms) : Op2 z (binaryOp .Sub) (.int i) (.int j) ms Q := by
  intro u v s ok sh ru rv
  obtain ⟨t, rfl⟩ := vr_int.mp ru
  obtain ⟨t', rfl⟩ := vr_int.mp rv
  exact PyProof.Rows.sub_int (post_tok ok sh (vr_int.mpr ⟨_, rfl⟩) q)
theorem op_mod {i j : Int} (hj : j ≠ 0) (q : Q (.int (i.fmod j)) ms) : Op2 z (binaryOp .Mod) (.int i) (.int j) ms Q := by
  intro u v s ok sh ru rv
  obtain ⟨t, rfl⟩ := vr_int.mp ru
  obtain ⟨t', rfl⟩ := vr_int.mp rv
  exact PyProof.Rows.mod_int' hj (post_tok ok sh (vr_int.mpr ⟨_, rfl⟩) q)
theorem op_lt {i j : Int} (q : Q (.bool (decide (i < j))) ms) : Op2 z (compareOp .Lt) (.int i) (.int j) ms Q := by
  intro u v s ok sh ru rv
  obtain ⟨t, rfl⟩ := vr_int.mp ru
  obtain ⟨t', rfl⟩ := vr_int.mp rv
  exact PySem.P.lt_int (post_here ok sh (vr_bool.mpr rfl) q)
theorem op_gt {i j : Int} (q : Q (.bool (decide (i > j))) ms) : Op2 z (compareOp .Gt) (.int i) (.int j) ms Q := by
  intro u v s ok sh ru rv
  obtain ⟨t, rfl⟩ := vr_int.mp ru
  obtain ⟨t', rfl⟩ := vr_int.mp rv
  exact PySem.P.gt_int (post_here ok sh (vr_bool.mpr rfl) q)
theorem op_ge {i j : Int} (q : Q (.bool (decide (i ≥ j))) ms) : Op2 z (compareOp .GtE) (.int i) (.int j) ms Q := by
  intro u v s ok sh ru rv
  obtain ⟨t, rfl⟩ := vr_int.mp ru
  obtain ⟨t', rfl⟩ := vr_int.mp rv
  exact PySem.P.ge_int (post_here ok sh (vr_bool.mpr rfl) q)
theorem op_eq {i j : Int} (q : Q (.bool (i == j)) ms) : Op2 z (compareOp .Eq) (.int i) (.int j) ms Q := by
  intro u v s ok sh ru rv
  obtain ⟨t, rfl⟩ := vr_int.mp ru
  obtain ⟨t', rfl⟩ := vr_int.mp rv
  exact PySem.P.eq_int (post_here ok sh (vr_bool.mpr rfl) q)
theorem op_ne {i j : Int} (q : Q (.bool (i != j)) ms) : Op2 z (compareOp .NotEq) (.int i) (.int j) ms Q := by
  intro u v s ok sh ru rv
  obtain ⟨t, rfl⟩ := vr_int.mp ru
  obtain ⟨t', rfl⟩ := vr_int.mp rv
  exact PySem.P.ne_int (post_here ok sh (vr_bool.mpr rfl) q)
theorem op_neg {i : Int} (q : Q (.int (-i)) ms) : Op1 z (unaryOp .USub) (.int i) ms Q := by
  intro u s ok sh ru
  obtain ⟨t, rfl⟩ := vr_int.mp ru
  exact PySem.P.neg_int (post_tok ok sh (vr_int.mpr ⟨_, rfl⟩) q)
theorem op_not {a : MV} (h : Tr z a ms fun b ms₁ => Q (.bool (!b)) ms₁) : Op1 z (unaryOp .Not) a ms Q := by
  intro u s ok sh ru
  refine not_value (wpAny_mono (h u s ok sh ru) (fun b s₁ p => ?_) fun _ _ x => x)
  obtain ⟨ok₁, k₁, d, ms₁, sh₁, rfl, q₁⟩ := p
  exact post_at ok₁ k₁ sh₁ (vr_bool.mpr rfl) q₁
theorem op_is_none {a : MV} {b : Bool} (hb : ∀ h u, VR h a u → (u == Value.none) = b) (q : Q (.bool b) ms) : Op2 z (compareOp .Is) a .none ms Q := by
  intro u v s ok sh ru rv
  obtain rfl := vr_none.mp rv
  exact is_none (post_here ok sh (vr_bool.mpr (by rw [hb _ _ ru])) q)
theorem op_isnot_none {a : MV} {b : Bool} (hb : ∀ h u, VR h a u → (u == Value.none) = b) (q : Q (.bool (!b)) ms) : Op2 z (compareOp .IsNot) a .none ms Q := by
  intro u v s ok sh ru rv
  obtain rfl := vr_none.mp rv
  exact isNot_none (post_here ok sh (vr_bool.mpr (by rw [hb _ _ ru])) q)
theorem isn_none : ∀ h u, VR h .none u → (u == Value.none) = true := fun h u r => by rw [vr_none] at r; subst r; rfl
theorem isn_int (i : Int) : ∀ h u, VR h (.int i) u → (u == Value.none) = false := fun h u r => by obtain ⟨t, rfl⟩ := vr_int.mp r; rfl
theorem isn_obj (a : Addr) : ∀ h u, VR h (.obj a) u → (u == Value.none) = false := fun h u r => by rw [vr_obj] at r; subst r; rfl
end
end Mine
end

/-! Fw4 -/
section
open PySem PySem.W PyProof.Rows
set_option Elab.async false
set_option maxRecDepth 100000
set_option maxHeartbeats 1000000
set_option linter.unusedVariables false
namespace Mine
section
variable {z : Z} {ms ms' : MS} {env : Env} {Q : MF → MS → Prop}
/-! ## statements -/
theorem frN {h : Heap} : FR h .next .next := rfl
theorem frB {h : Heap} : FR h .brk .brk := rfl
theorem frC {h : Heap} : FR h .cont .cont := rfl
theorem frR {h : Heap} {d : MV} {u : Value} (r : VR h d u) : FR h (.ret d) (.ret u) := ⟨u, rfl, r⟩
theorem s_nil (q : Q .next ms) : WS z (execs [] env) ms Q := fun s ok sh => wpAny_execs_nil (post_here ok sh frN q)
noncomputable def Then (z : Z) (rest : Sem Flow) (Q : MF → MS → Prop) : MF → MS → Prop
  | .next, ms => WS z rest ms Q
  | f, ms => Q f ms
theorem s_cons {st : Stmt} {rest : List Stmt} (h : WS z (exec st env) ms (Then z (execs rest env) Q)) : WS z (execs (st :: rest) env) ms Q := by
  intro s ok sh
  refine wpAny_execs_cons (h.run (R' := FR) ok sh fun f d ms₁ s₁ ok₁ k₁ sh₁ rf q₁ => ?_)
  cases d with
  | next => obtain rfl := rf; exact wp_post (q₁ s₁ ok₁ sh₁) k₁ fun _ _ x => x
  | brk => obtain rfl := rf; exact post_at ok₁ k₁ sh₁ frB q₁
  | cont => obtain rfl := rf; exact post_at ok₁ k₁ sh₁ frC q₁
  | ret d => obtain ⟨u, rfl, r⟩ := rf; exact post_at ok₁ k₁ sh₁ (frR r) q₁
theorem s_pass {pos : Pos} (q : Q .next ms) : WS z (exec (.Pass pos) env) ms Q := fun s ok sh => wpAny_Pass (post_here ok sh frN q)
theorem s_break {pos : Pos} (q : Q .brk ms) : WS z (exec (.Break pos) env) ms Q := fun s ok sh => wpAny_Break (post_here ok sh frB q)
theorem s_continue {pos : Pos} (q : Q .cont ms) : WS z (exec (.Continue pos) env) ms Q := fun s ok sh => wpAny_Continue (post_here ok sh frC q)
theorem s_return {e : Expr} {pos : Pos} (h : WV z (eval e env) ms fun d ms₁ => Q (.ret d) ms₁) : WS z (exec (.Return (some e) pos) env) ms Q := by
  intro s ok sh
  exact wpAny_Return_some (h.run (R' := FR) ok sh fun u d ms₁ s₁ ok₁ k₁ sh₁ ru q₁ => post_at ok₁ k₁ sh₁ (frR ru) q₁)
theorem s_return0 {pos : Pos} (q : Q (.ret .none) ms) : WS z (exec (.Return none pos) env) ms Q := fun s ok sh => wpAny_Return_none (post_here ok sh (frR (vr_none.mpr rfl)) q)
theorem s_doc {x : Str} {k : Nat} {p pos : Pos} (hi : interactive env = false) (q : Q .next ms) : WS z (exec (.Expr (.Constant (.str x) k p) pos) env) ms Q :=
  fun s ok sh => wpAny_Expr (wpAny_Constant_str (post_tok ok sh frN q)) hi
theorem s_expr {e : Expr} {pos : Pos} (hi : interactive env = false) (hs : swapsWith e none pos.line env = pure false) (h : WV z (eval e env) ms fun d ms₁ => d = .none ∧ Q .next ms₁) : WS z (exec (.Expr e pos) env) ms Q := by
  intro s ok sh
  refine wpAny_Expr (h.run (R' := FR) ok sh fun u d ms₁ s₁ ok₁ k₁ sh₁ ru q₁ => ?_) hi hs
  obtain ⟨rfl, q₁⟩ := q₁
  obtain rfl := vr_none.mp ru
  exact post_at ok₁ k₁ sh₁ frN q₁
theorem s_if {t : Expr} {b e : List Stmt} {pos : Pos} (h : WB z (isTrue t env (eval t env)) ms fun c ms₁ => if c then WS z (execs b env) ms₁ Q else WS z (execs e env) ms₁ Q) : WS z (exec (.If t b e pos) env) ms Q := by
  intro s ok sh
  refine wpAny_If (h.run (R' := FR) ok sh fun u c ms₁ s₁ ok₁ k₁ sh₁ ru q₁ => ?_)
  subst ru
  cases u with
  | true => simp only [if_true] at q₁ ⊢; exact wp_post (q₁ s₁ ok₁ sh₁) k₁ fun _ _ x => x
  | false => simp only [Bool.false_eq_true, if_false] at q₁ ⊢; exact wp_post (q₁ s₁ ok₁ sh₁) k₁ fun _ _ x => x

/-! ## stores -/
theorem st_name {x : Str} {pos : Pos} {d : MV} {Q : MS → Prop} (he : EnvOk z env) (hx : env.kindOf x = some .local) (q : Q ⟨updL ms.loc x d, ms.sto⟩) : StV z (assign (.Name x pos) env) d ms Q := by
  intro u s ok sh ru
  obtain ⟨m, n, _⟩ := sh.ns
  refine wpAny_assign_Name (wpAny_storeName_local hx (he.locals ▸ n) (fun h' n' e => ?_) (by rw [he.kind]; rfl))
  rw [he.locals] at n' e
  have p := sh.setL (h' := h') (m' := m) (y := x) (d := d) (u := u) (fun m₂ n₂ => by
    obtain ⟨o, es, ep, a1, a2, a3, a4⟩ := n
    obtain ⟨o', es', ep', b1, b2, b3, b4⟩ := n₂
    rw [a1] at b1; cases b1
    rw [a2] at b2; cases b2
    have : m = m₂ := funext fun y => (a4 y).symm.trans (b4 y)
    rw [← this]; exact n') e ru
  exact ⟨ok, p.2, (), _, p.1, trivial, q⟩
theorem s_assign {t value : Expr} {pos : Pos} (hs : swapsWithSole [t] value pos.line env = pure false) (hw : swappedStores [t] value env = pure none) (he : (assignEach [t] env).map (·.2) = [assign t env])
    (h : WV z (eval value env) ms fun d ms₁ => StV z (assign t env) d ms₁ (Q .next)) : WS z (exec (.Assign [t] value pos) env) ms Q := by
  intro s ok sh
  refine wpAny_Assign_stores (h.run (R' := FR) ok sh fun u d ms₁ s₁ ok₁ k₁ sh₁ ru q₁ => ?_) hs hw
  rw [he]
  show wpAny (model P z.w) z.A (assign t env u) _ NoE s₁
  refine wpAny_mono (q₁ u s₁ ok₁ sh₁ ru) (fun _ s₂ p => ?_) fun _ _ x => x
  obtain ⟨ok₂, k₂, _, ms₂, sh₂, _, q₂⟩ := p
  exact post_at ok₂ (k₁.trans k₂) sh₂ frN q₂
theorem s_assign2 {t₁ t₂ value : Expr} {pos : Pos} (hw : swappedStores [t₁, t₂] value env = pure none) (he : (assignEach [t₁, t₂] env).map (·.2) = [assign t₁ env, assign t₂ env])
    (h : WV z (eval value env) ms fun d ms₁ => StV z (assign t₁ env) d ms₁ fun ms₂ => StV z (assign t₂ env) d ms₂ (Q .next)) : WS z (exec (.Assign [t₁, t₂] value pos) env) ms Q := by
  intro s ok sh
  refine wpAny_Assign_two (h.run (R' := FR) ok sh fun u d ms₁ s₁ ok₁ k₁ sh₁ ru q₁ => ?_) he hw
  refine wpAny_mono (q₁ u s₁ ok₁ sh₁ ru) (fun _ s₂ p => ?_) fun _ _ x => x
  obtain ⟨ok₂, k₂, _, ms₂, sh₂, _, q₂⟩ := p
  refine wpAny_mono (q₂ u s₂ ok₂ sh₂ (ru.keep k₂)) (fun _ s₃ p => ?_) fun _ _ x => x
  obtain ⟨ok₃, k₃, _, ms₃, sh₃, _, q₃⟩ := p
  exact post_at ok₃ ((k₁.trans k₂).trans k₃) sh₃ frN q₃
theorem s_assign3 {t₁ t₂ t₃ value : Expr} {pos : Pos} (hw : swappedStores [t₁, t₂, t₃] value env = pure none) (he : (assignEach [t₁, t₂, t₃] env).map (·.2) = [assign t₁ env, assign t₂ env, assign t₃ env])
    (h : WV z (eval value env) ms fun d ms₁ => StV z (assign t₁ env) d ms₁ fun ms₂ => StV z (assign t₂ env) d ms₂ fun ms₃ => StV z (assign t₃ env) d ms₃ (Q .next)) : WS z (exec (.Assign [t₁, t₂, t₃] value pos) env) ms Q := by
  intro s ok sh
  refine wpAny_Assign_three (h.run (R' := FR) ok sh fun u d ms₁ s₁ ok₁ k₁ sh₁ ru q₁ => ?_) he hw
  refine wpAny_mono (q₁ u s₁ ok₁ sh₁ ru) (fun _ s₂ p => ?_) fun _ _ x => x
  obtain ⟨ok₂, k₂, _, ms₂, sh₂, _, q₂⟩ := p
  refine wpAny_mono (q₂ u s₂ ok₂ sh₂ (ru.keep k₂)) (fun _ s₃ p => ?_) fun _ _ x => x
  obtain ⟨ok₃, k₃, _, ms₃, sh₃, _, q₃⟩ := p
  refine wpAny_mono (q₃ u s₃ ok₃ sh₃ ((ru.keep k₂).keep k₃)) (fun _ s₄ p => ?_) fun _ _ x => x
  obtain ⟨ok₄, k₄, _, ms₄, sh₄, _, q₄⟩ := p
  exact post_at ok₄ (((k₁.trans k₂).trans k₃).trans k₄) sh₄ frN q₄
/-- stores of items, one after the other -/
noncomputable def StAll (z : Z) : List (Value → Sem Unit) → List MV → MS → (MS → Prop) → Prop
  | [], [], ms, Q => Q ms
  | f :: fs, d :: ds, ms, Q => StV z f d ms fun ms₁ => StAll z fs ds ms₁ Q
  | _, _, _, _ => False
theorem stAll_run {fs : List (Value → Sem Unit)} : ∀ {ds : List MV} {us : List Value} {ms : MS} {Q : MS → Prop} {s : Shared}, StAll z fs ds ms Q → Ok z s → SH z ms s.heap → VRs s.heap ds us →
    wpAny (model P z.w) z.A (assignInOrder fs us) (Post z (fun _ (_ : Unit) _ => True) s.heap (fun _ => Q)) NoE s := by
  induction fs with
  | nil =>
    intro ds us ms Q s h ok sh r
    cases ds with
    | nil =>
      rw [vrs_nil] at r; subst r
      exact wpAny_pure (post_here (d := ()) ok sh trivial h)
    | cons d ds => exact h.elim
  | cons f fs ih =>
    intro ds us ms Q s h ok sh r
    cases ds with
    | nil => exact h.elim
    | cons d ds =>
      rw [vrs_cons] at r
      obtain ⟨u, x, rfl, r1, r2⟩ := r
      show wpAny _ _ (holding x (f u) >>= fun _ => assignInOrder fs x) _ _ s
      refine wpAny_bind (wpAny_holding (wpAny_mono (h u s ok sh r1) (fun _ s₁ p => ?_) fun _ _ x => x))
      obtain ⟨ok₁, k₁, _, ms₁, sh₁, _, q₁⟩ := p
      exact wp_post (ih q₁ ok₁ sh₁ (r2.keep k₁)) k₁ fun _ _ x => x
end
end Mine
end

/-! Fw5 -/
section
open PySem PySem.W PyProof.Rows
set_option Elab.async false
set_option maxRecDepth 100000
set_option maxHeartbeats 1000000
set_option linter.unusedVariables false
namespace Mine
section
variable {z : Z} {ms ms' : MS} {env : Env} {Q : MF → MS → Prop}
/-! ## loops -/
noncomputable def AftW (again : MS → Prop) (Q : MF → MS → Prop) : MF → MS → Prop
  | .next, ms => again ms
  | .cont, ms => again ms
  | .brk, ms => Q .next ms
  | .ret d, ms => Q (.ret d) ms
noncomputable def WhileN (z : Z) (env : Env) (test : Expr) (body : List Stmt) : Nat → MS → (MF → MS → Prop) → Prop
  | 0, _, _ => False
  | n + 1, ms, Q => WB z (isTrue test env (eval test env)) ms fun c ms₁ => if c then WS z (execs body env) ms₁ (AftW (fun ms₂ => WhileN z env test body n ms₂ Q) Q) else Q .next ms₁
theorem noted_of {h : Value → Shared → Prop} {α : Type} {t : Sem α} {q : α → Shared → Prop} {s : Shared} (p : wpAny (model P z.w) z.A t q NoE s) : wpAny (model P z.w) z.A t q h s := wpAny_mono p (fun _ _ x => x) fun _ _ x => x.elim
theorem s_while {test : Expr} {body : List Stmt} {pos : Pos} (n : Nat) (h : WhileN z env test body n ms Q) : WS z (exec (.While test body [] pos) env) ms Q := by
  intro s ok sh
  refine wpAny_While (codeAny_whileLoop (fun m s' => ∃ ms', Ok z s' ∧ Keep s.heap s'.heap ∧ SH z ms' s'.heap ∧ WhileN z env test body m ms' Q) ?_ n ⟨ms, ok, Keep.refl _, sh, h⟩)
  rintro m s' ⟨ms₀, ok₀, k₀, sh₀, h₀⟩
  cases m with
  | zero => exact h₀.elim
  | succ m =>
    refine noted_of (h₀.run (R' := FR) ok₀ sh₀ fun c d ms₁ s₁ ok₁ k₁ sh₁ rc q₁ => ?_)
    subst rc
    cases c with
    | false =>
      simp only [Bool.false_eq_true, if_false] at q₁ ⊢
      exact wpAny_execs_nil (post_at (d := MF.next) ok₁ (k₀.trans k₁) sh₁ frN q₁)
    | true =>
      simp only [if_true] at q₁ ⊢
      refine noted_of (q₁.run (R' := FR) ok₁ sh₁ fun f d ms₂ s₂ ok₂ k₂ sh₂ rf q₂ => ?_)
      have k := (k₀.trans k₁).trans k₂
      cases d with
      | next => obtain rfl := rf; exact ⟨m, Nat.lt_succ_self _, ms₂, ok₂, k, sh₂, q₂⟩
      | cont => obtain rfl := rf; exact ⟨m, Nat.lt_succ_self _, ms₂, ok₂, k, sh₂, q₂⟩
      | brk => obtain rfl := rf; exact post_at (d := MF.next) ok₂ k sh₂ frN q₂
      | ret d => obtain ⟨u, rfl, r⟩ := rf; exact post_at ok₂ k sh₂ (frR r) q₂

noncomputable def Z.fr (z : Z) (F' : Addr → Option Obj) : Z := { z with F := F' }
theorem EnvOk.fr (he : EnvOk z env) (F' : Addr → Option Obj) : EnvOk (z.fr F') env := ⟨he.kind, he.locals, he.globals, he.builtins, he.gen, he.co, he.top⟩
/-- an iterator: its own objects, its state at each turn, what it gives -/
structure It (z : Z) (it : Addr) (own : List Addr) (st : Nat → Heap → Prop) (ds : List MV) (chk : MS → Prop) (target : Expr) : Prop where
  frame : ∀ i h h', st i h → (∀ b ∈ own, ∀ o, h.get? b = some o → h'.get? b = some o) → st i h'
  here : ∀ i h, st i h → ∀ b ∈ own, ∃ o, h.get? b = some o
  item : ∀ i d ms (s : Shared) (q : Value → Shared → Prop), ds[i]? = some d → chk ms → st i s.heap → Ok z s → SH z ms s.heap →
    (∀ u h' tk, st (i + 1) h' → (∀ b o, b ∉ own → s.heap.get? b = some o → h'.get? b = some o) → Keep s.heap h' → VR h' d u → q u { s with heap := h', toks := tk }) →
    wpAny (model P z.w) z.A (pyNext (.ref it)) (fun r s₁ => match r with | none => False | some v => wpAny (model P z.w) z.A (letOwnedTupleGo target (.ref it) v) (fun _ s₂ => q v s₂) NoE s₁) NoE s
  done : ∀ ms (s : Shared) (q : Shared → Prop), chk ms → st ds.length s.heap → Ok z s → SH z ms s.heap →
    (∀ h' tk, (∀ b o, b ∉ own → s.heap.get? b = some o → h'.get? b = some o) → Keep s.heap h' → q { s with heap := h', toks := tk }) →
    wpAny (model P z.w) z.A (pyNext (.ref it)) (fun r s₁ => match r with | none => q s₁ | some _ => False) NoE s
noncomputable def ForN (z : Z) (env : Env) (target : Expr) (body : List Stmt) (chk : MS → Prop) : List MV → MS → (MF → MS → Prop) → Prop
  | [], ms, Q => chk ms ∧ Q .next ms
  | d :: ds, ms, Q => chk ms ∧ ∀ F', StV (z.fr F') (assign target env) d ms fun ms₁ => WS (z.fr F') (execs body env) ms₁ (AftW (fun ms₂ => ForN z env target body chk ds ms₂ Q) Q)
theorem SH.frame {h : Heap} {own : List Addr} (x : SH z ms h) (h1 : ∀ b ∈ own, z.F b = none ∧ b ≠ z.L) (h2 : ∀ a mo, ms.sto a = some mo → a ∉ own) :
    SH (z.fr fun a => if a ∈ own then h.get? a else z.F a) ms h where
  base := fun a o e => by
    show (if a ∈ own then h.get? a else z.F a) = some o
    have e' := x.base a o e
    by_cases q : a ∈ own
    · rw [(h1 a q).1] at e'; cases e'
    · rw [if_neg q]; exact e'
  fr := fun a o e => by
    have e : (if a ∈ own then h.get? a else z.F a) = some o := e
    by_cases q : a ∈ own
    · rw [if_pos q] at e; exact e
    · rw [if_neg q] at e; exact x.fr a o e
  ns := x.ns
  lF := by
    show (if z.L ∈ own then h.get? z.L else z.F z.L) = none
    rw [if_neg fun q => (h1 _ q).2 rfl]; exact x.lF
  sto := fun a mo e => by
    obtain ⟨p1, p2, p3, p4⟩ := x.sto a mo e
    refine ⟨?_, p2, p3, p4⟩
    show (if a ∈ own then h.get? a else z.F a) = none
    rw [if_neg (h2 a mo e)]; exact p1
theorem SH.unframe {h h₀ : Heap} {own : List Addr} (x : SH (z.fr fun a => if a ∈ own then h₀.get? a else z.F a) ms h) (b1 : ∀ a o, z.s₁.heap.get? a = some o → z.F a = some o) (h1 : ∀ b ∈ own, z.F b = none ∧ b ≠ z.L ∧ ∃ o, h₀.get? b = some o) :
    SH z ms h ∧ (∀ a mo, ms.sto a = some mo → a ∉ own) ∧ ∀ b ∈ own, ∀ o, h₀.get? b = some o → h.get? b = some o := by
  have key : ∀ a mo, ms.sto a = some mo → (if a ∈ own then h₀.get? a else z.F a) = none := fun a mo e => (x.sto a mo e).1
  have off : ∀ a mo, ms.sto a = some mo → a ∉ own := fun a mo e q => by
    have := key a mo e
    rw [if_pos q] at this
    obtain ⟨o, e'⟩ := (h1 a q).2.2
    rw [this] at e'; cases e'
  refine ⟨⟨b1, fun a o e => ?_, x.ns, ?_, fun a mo e => ?_⟩, off, fun b hb o e => ?_⟩
  · refine x.fr a o ?_
    show (if a ∈ own then h₀.get? a else z.F a) = some o
    by_cases q : a ∈ own
    · rw [(h1 a q).1] at e; cases e
    · rw [if_neg q]; exact e
  · have := x.lF
    have : (if z.L ∈ own then h₀.get? z.L else z.F z.L) = none := this
    rwa [if_neg fun q => (h1 _ q).2.1 rfl] at this
  · obtain ⟨p1, p2, p3, p4⟩ := x.sto a mo e
    have := key a mo e
    rw [if_neg (off a mo e)] at this
    exact ⟨this, p2, p3, p4⟩
  · refine x.fr b o ?_
    show (if b ∈ own then h₀.get? b else z.F b) = some o
    rw [if_pos hb]; exact e
theorem for_it {target : Expr} {body : List Stmt} {it : Addr} {own : List Addr} {st : Nat → Heap → Prop} {ds : List MV} {chk : MS → Prop} {h₀ : Heap} {s : Shared}
    (T : It z it own st ds chk target) (ok : Ok z s) (k₀ : Keep h₀ s.heap) (sh : SH z ms s.heap) (h0 : st 0 s.heap) (h1 : ∀ b ∈ own, z.F b = none ∧ b ≠ z.L) (h2 : ∀ a mo, ms.sto a = some mo → a ∉ own) (h : ForN z env target body chk ds ms Q) :
    codeAny (model P z.w) z.A (.forLoop target (.ref it) body [] env) (fun r s' => match r with | .ok f => Post z FR h₀ Q f s' | .error e => cameBackBy (model P z.w) z.A env NoE e s') s := by
  refine codeAny_forLoop_any (fun n s' => ∃ i ms', n = ds.length - i ∧ i ≤ ds.length ∧ Ok z s' ∧ Keep h₀ s'.heap ∧ SH z ms' s'.heap ∧ st i s'.heap ∧ (∀ a mo, ms'.sto a = some mo → a ∉ own) ∧ ForN z env target body chk (ds.drop i) ms' Q) ?_ ds.length
    ⟨0, ms, rfl, Nat.zero_le _, ok, k₀, sh, h0, h2, h⟩
  rintro n s' ⟨i, ms₀, rfl, hi, ok₀, k₁, sh₀, hst, hoff, hN⟩
  cases hd : ds.drop i with
  | nil =>
    rw [hd] at hN
    have e : i = ds.length := by have := List.drop_eq_nil_iff.mp hd; omega
    subst e
    refine noted_of (wpAny_mono (T.done ms₀ s' (fun s₁ => Post z FR h₀ Q .next s₁) hN.1 hst ok₀ sh₀ fun h' tk e k => ?_) (fun r s₁ q => ?_) fun _ _ x => x)
    · have sh₁ : SH z ms₀ h' := by
        refine ⟨sh₀.base, fun a o c => ?_, ?_, sh₀.lF, fun a mo c => ?_⟩
        · refine e a o (fun q => ?_) (sh₀.fr a o c)
          rw [(h1 a q).1] at c; cases c
        · obtain ⟨m, n, r⟩ := sh₀.ns
          refine ⟨m, n.at' fun o c => e _ _ (fun q => (h1 _ q).2 rfl) c, fun y d c => ?_⟩
          obtain ⟨u, a, b⟩ := r y d c
          exact ⟨u, a, b.keep k⟩
        · obtain ⟨p1, p2, p3, p4⟩ := sh₀.sto a mo c
          exact ⟨p1, p2, p3, p4.same k fun o q => e a o (hoff a mo c) q⟩
      exact post_at (d := MF.next) ok₀ (k₁.trans k) sh₁ frN hN.2
    · cases r with
      | none => exact noted_of (wpAny_execs_nil q)
      | some v => exact q.elim
  | cons d rest =>
    rw [hd] at hN
    have hlt : i < ds.length := by
      by_cases q : i < ds.length
      · exact q
      · rw [List.drop_eq_nil_iff.mpr (by omega)] at hd; cases hd
    have hdi : ds[i]? = some d := by
      have : (ds.drop i)[0]? = some d := by rw [hd]; rfl
      simpa using this
    have hrest : ds.drop (i + 1) = rest := by
      have : (ds.drop i).drop 1 = rest := by rw [hd]; rfl
      rw [List.drop_drop] at this; exact this
    refine noted_of (wpAny_mono (T.item i d ms₀ s' (fun v s₁ => wpAny (model P z.w) z.A (assign target env v) (fun _ s₂ => wpAny (model P z.w) z.A (execs body env) (fun f s₃ => match f with
            | .next | .cont => ∃ m, m < ds.length - i ∧ ∃ i ms', m = ds.length - i ∧ i ≤ ds.length ∧ Ok z s₃ ∧ Keep h₀ s₃.heap ∧ SH z ms' s₃.heap ∧ st i s₃.heap ∧ (∀ a mo, ms'.sto a = some mo → a ∉ own) ∧ ForN z env target body chk (ds.drop i) ms' Q
            | .brk => Post z FR h₀ Q .next s₃
            | .ret v => Post z FR h₀ Q (.ret v) s₃) NoE s₂) NoE s₁) hdi hN.1 hst ok₀ sh₀ fun u h' tk hst' e k ru => ?_) (fun r s₁ q => ?_) fun _ _ x => x)
    · have sh₁ : SH z ms₀ h' := by
        refine ⟨sh₀.base, fun a o c => ?_, ?_, sh₀.lF, fun a mo c => ?_⟩
        · refine e a o (fun q => ?_) (sh₀.fr a o c)
          rw [(h1 a q).1] at c; cases c
        · obtain ⟨m, n, r⟩ := sh₀.ns
          refine ⟨m, n.at' fun o c => e _ _ (fun q => (h1 _ q).2 rfl) c, fun y d c => ?_⟩
          obtain ⟨u, a, b⟩ := r y d c
          exact ⟨u, a, b.keep k⟩
        · obtain ⟨p1, p2, p3, p4⟩ := sh₀.sto a mo c
          exact ⟨p1, p2, p3, p4.same k fun o q => e a o (hoff a mo c) q⟩
      have shF := sh₁.frame h1 hoff
      have h1' : ∀ b ∈ own, z.F b = none ∧ b ≠ z.L ∧ ∃ o, h'.get? b = some o := fun b hb => ⟨(h1 b hb).1, (h1 b hb).2, T.here _ _ hst' b hb⟩
      have go := hN.2 (fun a => if a ∈ own then h'.get? a else z.F a) u { s' with heap := h', toks := tk } ok₀ shF ru
      refine wpAny_mono go (fun _ s₂ p => ?_) fun _ _ x => x
      obtain ⟨ok₂, k₂, _, ms₂, sh₂, _, q₂⟩ := p
      refine wpAny_mono (q₂ s₂ ok₂ sh₂) (fun f s₃ p => ?_) fun _ _ x => x
      obtain ⟨ok₃, k₃, d₃, ms₃, sh₃, rf, q₃⟩ := p
      obtain ⟨sh₄, off₄, own₄⟩ := sh₃.unframe sh₀.base h1'
      have kk : Keep h₀ s₃.heap := ((k₁.trans k).trans k₂).trans k₃
      have stn : st (i + 1) s₃.heap := T.frame _ _ _ hst' own₄
      have again : ForN z env target body chk rest ms₃ Q → ∃ m, m < ds.length - i ∧ ∃ i ms', m = ds.length - i ∧ i ≤ ds.length ∧ Ok z s₃ ∧ Keep h₀ s₃.heap ∧ SH z ms' s₃.heap ∧ st i s₃.heap ∧ (∀ a mo, ms'.sto a = some mo → a ∉ own) ∧ ForN z env target body chk (ds.drop i) ms' Q :=
        fun q => ⟨ds.length - (i + 1), by omega, i + 1, ms₃, rfl, hlt, ok₃, kk, sh₄, stn, off₄, hrest ▸ q⟩
      cases d₃ with
      | next => obtain rfl := rf; exact again q₃
      | cont => obtain rfl := rf; exact again q₃
      | brk => obtain rfl := rf; exact post_at (d := MF.next) ok₃ kk sh₄ frN q₃
      | ret d => obtain ⟨u', rfl, r⟩ := rf; exact post_at ok₃ kk sh₄ (frR r) q₃
    · cases r with
      | none => exact q.elim
      | some v =>
        refine noted_of (wpAny_mono q (fun _ s₂ q₂ => noted_of (wpAny_mono q₂ (fun _ s₃ q₃ => noted_of (wpAny_mono q₃ (fun f s₄ q₄ => ?_) fun _ _ x => x)) fun _ _ x => x)) fun _ _ x => x)
        cases f <;> exact q₄
end
end Mine
end

/-! Fw6 -/
section
open PySem PySem.W PyProof.Rows
set_option Elab.async false
set_option maxRecDepth 100000
set_option maxHeartbeats 1000000
set_option linter.unusedVariables false
namespace Mine
theorem IsL.lst {h : Heap} {l : Addr} {items : Array Value} {n : Nat} (e : IsL h l items n) : h.IsList l items := ⟨_, e, rfl, n, rfl⟩
section
variable {z : Z} {ms ms' : MS} {env : Env} {Q : MF → MS → Prop}
inductive Tgt : Expr → Prop
  | name (x : Str) (p : Pos) : Tgt (.Name x p)
  | tup (es : List Expr) (k : Nat) (p : Pos) : Tgt (.Tuple es k p)
theorem noLet_list {target : Expr} (ht : Tgt target) {s : Shared} {I l : Addr} {i : Nat} (hi : s.heap.IsListIter I l i) {v : Value} {q : Unit → Shared → Prop} {A : Around} (h : q () s) :
    wpAny (model P z.w) A (letOwnedTupleGo target (.ref I) v) q NoE s := by
  cases ht with
  | name => exact wpAny_pure h
  | tup => cases v <;> first | exact wpAny_letOwnedTupleGo_listiter hi h | exact wpAny_pure h
theorem listIter_notImm {h : Heap} {I l : Addr} {i : Nat} (hi : h.IsListIter I l i) : ∀ o, h.get? I = some o → ¬ Imm o := fun o e => by
  obtain ⟨o', e', c, d⟩ := hi
  rw [e] at e'; cases e'
  simp [Imm, c, d]
theorem vrs_sto {h : Heap} {l : Addr} {ds : List MV} (r : OR h l (.list ds)) : ∃ items n, IsL h l items n ∧ VRs h ds items.toList := r
theorem arr_get {h : Heap} {items : Array Value} {ds : List MV} (r : VRs h ds items.toList) {i : Nat} {d : MV} (e : ds[i]? = some d) : ∃ u, items[i]? = some u ∧ VR h d u := by
  obtain ⟨u, a, b⟩ := r.get e
  exact ⟨u, by rw [← a, Array.getElem?_toList], b⟩
theorem arr_len {h : Heap} {items : Array Value} {ds : List MV} (r : VRs h ds items.toList) : items.size = ds.length := by
  have := r.length; simpa using this
theorem it_list {I l : Addr} {ds : List MV} {target : Expr} (ht : Tgt target) : It z I [I] (fun i h => h.IsListIter I l i) ds (fun ms => ms.sto l = some (.list ds)) target where
  frame := fun i h h' ⟨o, e, r⟩ k => ⟨o, k I (List.mem_singleton.mpr rfl) o e, r⟩
  here := fun i h ⟨o, e, r⟩ b hb => by rw [List.mem_singleton.mp hb]; exact ⟨o, e⟩
  item := fun i d ms s q hd hc hi ok sh k => by
    obtain ⟨items, n, el, rs⟩ := vrs_sto (sh.sto l _ hc).2.2.2
    obtain ⟨u, hu, ru⟩ := arr_get rs hd
    refine wpAny_pyNext_list_item hi (IsL.lst el) hu fun h' hi' sb => ?_
    have k1 : Keep s.heap h' := Keep.but sb.extBut (listIter_notImm hi)
    exact noLet_list ht hi' (k u h' s.toks hi' (fun b o hb e => sb.extBut b o (fun x => hb (x ▸ List.mem_singleton.mpr rfl)) e) k1 (ru.keep k1))
  done := fun ms s q hc hi ok sh k => by
    obtain ⟨items, n, el, rs⟩ := vrs_sto (sh.sto l _ hc).2.2.2
    refine wpAny_pyNext_list_end z.hd hi (IsL.lst el) (by rw [Array.getElem?_eq_none_iff, arr_len rs]; exact Nat.le_refl _) fun h' sb => ?_
    exact k h' s.toks (fun b o hb e => sb b o (fun x => hb (x ▸ List.mem_singleton.mpr rfl)) e) (Keep.but sb (listIter_notImm hi))
/-- for over a list of the store -/
theorem s_for_list {target iter : Expr} {body : List Stmt} {pos : Pos} (ht : Tgt target) (hf : ∀ x, foldedSetIterable iter env x = pure x)
    (h : WV z (eval iter env) ms fun d ms₁ => ∃ l ds, d = .obj l ∧ ms₁.sto l = some (.list ds) ∧ ForN z env target body (fun ms => ms.sto l = some (.list ds)) ds ms₁ Q) : WS z (exec (.For target iter body [] pos) env) ms Q := by
  intro s ok sh
  refine wpAny_For (h.run (R' := FR) ok sh fun u d ms₁ s₁ ok₁ k₁ sh₁ ru ⟨l, ds, hd, hl, hN⟩ => ?_) hf
  subst hd
  obtain rfl := vr_obj.mp ru
  obtain ⟨items, n, el, rs⟩ := vrs_sto (sh₁.sto l _ hl).2.2.2
  refine wpAny_pyIter_list (IsL.lst el) ?_
  have N := sh₁.new_none
  refine for_it (own := [s₁.heap.objs.size]) (st := fun i h => h.IsListIter s₁.heap.objs.size l i) (it_list ht) ok₁ (k₁.trans (Keep.push _ _)) (sh₁.push _) ?_ ?_ ?_ hN
  · refine ⟨{ cls := .type "list_iterator", data := .fields #[.ref l, .int 0 0] }, Heap.get?_push_size _ rfl, rfl, rfl⟩
  · exact fun b hb => by rw [List.mem_singleton.mp hb]; exact ⟨N.1, N.2.2.1⟩
  · exact fun a mo e hb => by rw [List.mem_singleton.mp hb, N.2.1] at e; cases e

/-! ranges -/
noncomputable def RI (h : Heap) (I : Addr) (a b : Int) (i : Nat) : Prop := IsRangeIter h I (a + i) (max (b - a) 0 - i) 1
noncomputable def upTo (a b : Int) : List MV := (List.range (b - a).toNat).map fun (i : Nat) => .int (a + i)
theorem upTo_get {a b : Int} {i : Nat} {d : MV} (e : (upTo a b)[i]? = some d) : d = .int (a + i) ∧ (i : Int) < b - a := by
  unfold upTo at e
  rw [List.getElem?_map] at e
  by_cases q : i < (b - a).toNat
  · rw [List.getElem?_range q] at e; cases e; exact ⟨rfl, by omega⟩
  · rw [List.getElem?_eq_none (by simpa using q)] at e; cases e
theorem rangeIter_notImm {h : Heap} {I : Addr} {x l t : Int} (hi : IsRangeIter h I x l t) : ∀ o, h.get? I = some o → ¬ Imm o := fun o e => by
  rw [hi] at e; cases e
  simp [Imm]
theorem it_range {I : Addr} {a b : Int} {x : Str} {p : Pos} : It z I [I] (fun i h => RI h I a b i) (upTo a b) (fun _ => True) (.Name x p) where
  frame := fun i h h' e k => k I (List.mem_singleton.mpr rfl) _ e
  here := fun i h e b hb => by rw [List.mem_singleton.mp hb]; exact ⟨_, e⟩
  item := fun i d ms s q hd hc hi ok sh k => by
    obtain ⟨rfl, hlt⟩ := upTo_get hd
    refine wpAny_pyNext_range_item hi (by omega) fun h' hi' sb => ?_
    have k1 : Keep s.heap h' := Keep.but sb.extBut (rangeIter_notImm hi)
    refine wpAny_pure (k _ h' (s.toks + 1) ?_ (fun b o hb e => sb.extBut b o (fun x => hb (x ▸ List.mem_singleton.mpr rfl)) e) k1 (vr_int.mpr ⟨_, rfl⟩))
    show IsRangeIter _ _ _ _ _
    rw [show a + ((i + 1 : Nat) : Int) = a + i + 1 by omega, show max (b - a) 0 - ((i + 1 : Nat) : Int) = max (b - a) 0 - i - 1 by omega]
    exact hi'
  done := fun ms s q hc hi ok sh k => by
    refine wpAny_pyNext_range_end z.hd hi (by simp only [upTo, List.length_map, List.length_range]; omega) fun h' sb => ?_
    exact k h' s.toks (fun b o hb e => sb b o (fun x => hb (x ▸ List.mem_singleton.mpr rfl)) e) (Keep.but sb (rangeIter_notImm hi))
/-- a range object was just made: what the evaluation of the iterable gives -/
noncomputable def RangeV (z : Z) (t : Sem Value) (ms : MS) (Q : Int → Int → MS → Prop) : Prop :=
  WG z (fun h (d : Int × Int) u => ∃ r x y v, u = .ref r ∧ IsRange h r d.1 d.2 1 x y v) t ms fun d ms₁ => Q d.1 d.2 ms₁
theorem s_for_range {x : Str} {p : Pos} {iter : Expr} {body : List Stmt} {pos : Pos} (hf : ∀ x, foldedSetIterable iter env x = pure x)
    (h : RangeV z (eval iter env) ms fun a b ms₁ => (-100000 ≤ a ∧ a ≤ 100000 ∧ -100000 ≤ b ∧ b ≤ 100000) ∧ ForN z env (.Name x p) body (fun _ => True) (upTo a b) ms₁ Q) : WS z (exec (.For (.Name x p) iter body [] pos) env) ms Q := by
  intro s ok sh
  refine wpAny_For (WG.run (R' := FR) h ok sh fun u d ms₁ s₁ ok₁ k₁ sh₁ ru ⟨hb, hN⟩ => ?_) hf
  obtain ⟨r, t, y, v, rfl, hr⟩ := ru
  refine wpAny_pyIter_range hr (small_one (by omega) (by omega) (by omega) (by omega)) ?_
  have N := sh₁.new_none
  refine for_it (own := [s₁.heap.objs.size]) (st := fun i h => RI h s₁.heap.objs.size d.1 d.2 i) it_range ok₁ (k₁.trans (Keep.push _ _)) (sh₁.push _) ?_ ?_ ?_ hN
  · show IsRangeIter _ _ _ _ _
    rw [show d.1 + ((0 : Nat) : Int) = d.1 by omega, show max (d.2 - d.1) 0 - ((0 : Nat) : Int) = Builtin.Range.rangeSize d.1 d.2 1 by rw [rangeSize_one]; split <;> omega]
    exact Heap.get?_push_size _ rfl
  · exact fun b hb => by rw [List.mem_singleton.mp hb]; exact ⟨N.1, N.2.2.1⟩
  · exact fun a mo e hb => by rw [List.mem_singleton.mp hb, N.2.1] at e; cases e

/-! enumerate of a list -/
noncomputable def enumOf (ds : List MV) : List MV := ds.mapIdx fun i d => .tup false [.int i, d]
noncomputable def EI (h : Heap) (E I l : Addr) (i : Nat) : Prop := (∃ old, IsEnum h E I i old) ∧ h.IsListIter I l i
theorem it_enum {E I l : Addr} {ds : List MV} {es : List Expr} {k : Nat} {p : Pos} (ne : E ≠ I) : It z E [E, I] (fun i h => EI h E I l i) (enumOf ds) (fun ms => ms.sto l = some (.list ds)) (.Tuple es k p) where
  frame := fun i h h' ⟨⟨old, e⟩, ⟨o, e', r⟩⟩ k => ⟨⟨old, k E (by simp) _ e⟩, ⟨o, k I (by simp) o e', r⟩⟩
  here := fun i h ⟨⟨old, e⟩, ⟨o, e', r⟩⟩ b hb => by
    rcases List.mem_cons.mp hb with rfl | hb
    · exact ⟨_, e⟩
    · rw [List.mem_singleton.mp hb]; exact ⟨o, e'⟩
  item := fun i d ms s q hd hc hi ok sh k => by
    obtain ⟨⟨old, he⟩, hl⟩ := hi
    obtain ⟨items, n, el, rs⟩ := vrs_sto (sh.sto l _ hc).2.2.2
    obtain ⟨d₀, hd₀, rfl⟩ : ∃ d₀, ds[i]? = some d₀ ∧ d = .tup false [.int i, d₀] := by
      unfold enumOf at hd
      rw [List.getElem?_mapIdx] at hd
      obtain ⟨d₀, a, b⟩ := Option.map_eq_some_iff.mp hd
      exact ⟨d₀, a, b.symm⟩
    obtain ⟨u, hu, ru⟩ := arr_get rs hd₀
    refine wpAny_pyNext_enum_item he hl (IsL.lst el) hu ne fun h' e1 e2 e3 e4 e5 => ?_
    have k1 : Keep s.heap h' := fun a o ha im => by
      refine e5 a o (fun x => ?_) (fun x => ?_) ha
      · subst x; rw [he] at ha; cases ha; simp [Imm] at im
      · subst x; exact absurd im (listIter_notImm hl o ha)
    refine wpAny_letOwnedTupleGo_enum e1 fun h'' f1 f2 => ?_
    have k2 : Keep h' h'' := Keep.but f2.extBut fun o ha => by rw [e1] at ha; cases ha; simp [Imm]
    have sz : s.heap.objs.size ≠ E := fun x => by
      have := Heap.lt_size he
      rw [x] at this
      exact absurd this (Nat.lt_irrefl _)
    refine k _ h'' (s.toks + 1) ⟨⟨u, f1⟩, ?_⟩ ?_ (k1.trans k2) ?_
    · obtain ⟨o, a, b⟩ := e2
      exact ⟨o, (f2.2 I (Ne.symm ne)).trans a, b⟩
    · intro b o hb e
      simp only [List.mem_cons, List.mem_singleton, not_or, List.not_mem_nil, or_false] at hb
      exact f2.extBut b o hb.1 (e5 b o hb.1 hb.2 e)
    · exact vr_tup.mpr ⟨_, #[.int i s.toks, u], (0, none), rfl, (f2.2 _ sz).trans e3, vrs_cons.mpr ⟨_, _, rfl, vr_int.mpr ⟨_, rfl⟩, VRs.one (ru.keep (k1.trans k2))⟩⟩
  done := fun ms s q hc hi ok sh k => by
    obtain ⟨⟨old, he⟩, hl⟩ := hi
    obtain ⟨items, n, el, rs⟩ := vrs_sto (sh.sto l _ hc).2.2.2
    have hn : (enumOf ds).length = ds.length := by simp [enumOf]
    refine wpAny_pyNext_enum_end z.hd he hl (IsL.lst el) (by rw [Array.getElem?_eq_none_iff, arr_len rs, hn]; exact Nat.le_refl _) fun h' sb => ?_
    exact k h' s.toks (fun b o hb e => sb b o (fun x => hb (x ▸ by simp)) e) (Keep.but sb (listIter_notImm hl))
/-- for over an enumerate object that was just made -/
theorem s_for_enum {l : Addr} {ds : List MV} {iter : Expr} {es : List Expr} {k : Nat} {p : Pos} {body : List Stmt} {pos : Pos} (hf : ∀ x, foldedSetIterable iter env x = pure x)
    (hl : ms.sto l = some (.list ds))
    (hE : ∀ s, Ok z s → SH z ms s.heap → wpAny (model P z.w) z.A (eval iter env) (fun u s' => u = .ref (s.heap.objs.size + 1) ∧ Ok z s' ∧ EI s'.heap (s.heap.objs.size + 1) s.heap.objs.size l 0 ∧ ∀ b o, s.heap.get? b = some o → s'.heap.get? b = some o) NoE s)
    (hN : ForN z env (.Tuple es k p) body (fun ms => ms.sto l = some (.list ds)) (enumOf ds) ms Q) : WS z (exec (.For (.Tuple es k p) iter body [] pos) env) ms Q := by
  intro s ok sh
  refine wpAny_For (wpAny_mono (hE s ok sh) (fun u s₁ ⟨hu, ok₁, hei, all⟩ => ?_) fun _ _ x => x) hf
  subst hu
  obtain ⟨⟨old, he⟩, hi⟩ := id hei
  refine wpAny_pyIter_enum he ?_
  have N := sh.new_none
  have kk : Keep s.heap s₁.heap := Keep.of_all all
  have far : ∀ a o, s.heap.get? a = some o → a < s.heap.objs.size := fun a o e => Heap.lt_size e
  have nF : ∀ a, s.heap.objs.size ≤ a → z.F a = none ∧ ms.sto a = none ∧ a ≠ z.L := fun a ha => by
    refine ⟨?_, ?_, ?_⟩
    · cases q : z.F a with
      | none => rfl
      | some o => exact absurd (far _ _ (sh.fr _ _ q)) (Nat.not_lt.mpr ha)
    · cases q : ms.sto a with
      | none => rfl
      | some mo =>
        obtain ⟨o, e, _⟩ := (sh.sto _ _ q).2.2.2.there
        exact absurd (far _ _ e) (Nat.not_lt.mpr ha)
    · intro e
      obtain ⟨m, n, _⟩ := sh.ns
      exact absurd n.lt (e ▸ Nat.not_lt.mpr ha)
  refine for_it (own := [s.heap.objs.size + 1, s.heap.objs.size]) (st := fun i h => EI h (s.heap.objs.size + 1) s.heap.objs.size l i) (it_enum (Nat.succ_ne_self _)) ok₁ kk (sh.grow kk all) hei ?_ ?_ hN
  · intro b hb
    have : s.heap.objs.size ≤ b := by
      rcases List.mem_cons.mp hb with rfl | hb
      · exact Nat.le_succ _
      · rw [List.mem_singleton.mp hb]; exact Nat.le_refl _
    exact ⟨(nF b this).1, (nF b this).2.2⟩
  · intro a mo e hb
    have : s.heap.objs.size ≤ a := by
      rcases List.mem_cons.mp hb with rfl | hb
      · exact Nat.le_succ _
      · rw [List.mem_singleton.mp hb]; exact Nat.le_refl _
    rw [(nF a this).2.1] at e; cases e
end
end Mine
end

/-! Fw7 -/
section
open PySem PySem.W PyProof.Rows
set_option Elab.async false
set_option maxRecDepth 100000
set_option maxHeartbeats 1000000
set_option linter.unusedVariables false
namespace Mine
noncomputable def CallV (z : Z) (f : Value) (ds : List MV) (ms : MS) (Q : MV → MS → Prop) : Prop :=
  ∀ us s, Ok z s → SH z ms s.heap → VRs s.heap ds us → wpAny (model P z.w) z.A (call f us) (Post z VR s.heap Q) NoE s
section
variable {z : Z} {ms ms' : MS} {env : Env} {Q : MV → MS → Prop} {pos : Pos}
/-! ## arguments, displays -/
theorem args_nil {Q : List MV → MS → Prop} (q : Q [] ms) : WVs z (spliced (backTo pos (starEach [] env))) ms Q := fun s ok sh => wpAny_items_nil (post_here ok sh (vrs_nil.mpr rfl) q)
theorem args_cons {e : Expr} {rest : List Expr} {Q : List MV → MS → Prop} (he : starEach (e :: rest) env = (false, eval e env) :: starEach rest env)
    (h : WV z (eval e env) ms fun d ms₁ => WVs z (spliced (backTo pos (starEach rest env))) ms₁ fun ds ms₂ => Q (d :: ds) ms₂) : WVs z (spliced (backTo pos (starEach (e :: rest) env))) ms Q := by
  intro s ok sh
  refine wpAny_items_cons (h.run (R' := VRs) ok sh fun u d ms₁ s₁ ok₁ k₁ sh₁ ru q₁ => ?_) he
  refine wpAny_mono (q₁ s₁ ok₁ sh₁) (fun us s₂ p => ?_) fun _ _ x => x
  obtain ⟨ok₂, k₂, ds, ms₂, sh₂, rs, q₂⟩ := p
  exact post_at ok₂ (k₁.trans k₂) sh₂ (vrs_cons.mpr ⟨u, us, rfl, ru.keep k₂, rs⟩) q₂
theorem e_tuple {elts : List Expr} {k : Nat} (h : WVs z (spliced (backTo pos (starEach elts env))) ms fun ds ms₁ => ds.length ≤ sizeLine ∧ Q (.tup false ds) ms₁) : WV z (eval (.Tuple elts k pos) env) ms Q := by
  intro s ok sh
  refine wpAny_Tuple (h.run (R' := VR) ok sh fun us ds ms₁ s₁ ok₁ k₁ sh₁ rs q₁ => ⟨by rw [rs.length]; exact q₁.1, ?_⟩)
  have k2 : Keep s₁.heap (s₁.heap.push { cls := .type "tuple", data := .seq us.toArray }) := Keep.push _ _
  exact post_at ok₁ (k₁.trans k2) (sh₁.push _) (vr_tup.mpr ⟨_, us.toArray, (0, none), rfl, Heap.get?_push_size _ rfl, rs.keep k2⟩) q₁.2
theorem or_list_new {h : Heap} {ds : List MV} {us : List Value} (rs : VRs h ds us) : OR (h.push { cls := .type "list", data := .seq us.toArray }) h.objs.size (.list ds) :=
  ⟨us.toArray, 0, Heap.get?_push_size _ rfl, rs.keep (Keep.push _ _)⟩
theorem e_list {elts : List Expr} (h : WVs z (spliced (backTo pos (starEach elts env))) ms fun ds ms₁ => ds.length ≤ sizeLine ∧ ∀ l, ms₁.sto l = none → Q (.obj l) ⟨ms₁.loc, upd ms₁.sto l (.list ds)⟩) : WV z (eval (.List elts pos) env) ms Q := by
  intro s ok sh
  refine wpAny_List (h.run (R' := VR) ok sh fun us ds ms₁ s₁ ok₁ k₁ sh₁ rs q₁ => ⟨by rw [rs.length]; exact q₁.1, ?_⟩)
  exact post_at ok₁ (k₁.trans (Keep.push _ _)) (sh₁.alloc (or_list_new rs)) (vr_obj.mpr rfl) (q₁.2 _ sh₁.new_none.2.1)

/-! ## calls -/
noncomputable def Plain (z : Z) (f : Value) : Prop := ∀ (pos : Pos) (us₀ : List Value) (args : List (Bool × Sem Value)) s (R : Args → Shared → Prop) (Q : Value → Shared → Prop), args.any (·.1) = false →
  (∀ a s₁, R a s₁ → (K z.w.params).In s₁.heap ∧ wpAny (model P z.w) z.A (call f (us₀ ++ a.pos) a.kw) Q NoE s₁) → wpAny (model P z.w) z.A (evalArgs f true args []) R NoE s → wpAny (model P z.w) z.A (callWith pos f us₀ args []) Q NoE s
theorem plain_builtin (id : String) : Plain z (.builtin id) := fun pos us₀ args s R Q hp h e => Calls.callWith_builtin hp (wpAny_mono e (fun a s₁ r => (h a s₁ r).2) fun _ _ x => x)
theorem plain_type (T : String) : Plain z (.type T) := fun pos us₀ args s R Q hp h e => PySem.callWith_type hp (wpAny_mono e (fun a s₁ r => (h a s₁ r).2) fun _ _ x => x)
theorem plain_K {f : Value} (hk : keepIn (K z.w.params) f = true) : Plain z f := fun pos us₀ args s R Q hp h e =>
  callWith_of (by rw [hp]; rfl) (keeps_K hk) (wpAny_mono e (fun a s₁ r => h a s₁ r) fun _ _ x => x)
theorem callW {f : Value} {x : Sem Value} {rest : List (Bool × Sem Value)} {first : List MV} {us₀ : List Value} (hf : Plain z f) (hp : rest.any (·.1) = false)
    (h : WVs z (spliced ((false, x) :: rest)) ms fun ds ms₁ => CallV z f (first ++ ds) ms₁ Q) {s : Shared} (ok : Ok z s) (sh : SH z ms s.heap) (r₀ : VRs s.heap first us₀) :
    wpAny (model P z.w) z.A (callWith pos f us₀ ((false, x) :: rest) []) (Post z VR s.heap Q) NoE s := by
  refine hf _ _ _ s (fun a s₁ => a.kw = [] ∧ ∃ ds ms₁, Ok z s₁ ∧ Keep s.heap s₁.heap ∧ SH z ms₁ s₁.heap ∧ VRs s₁.heap ds a.pos ∧ CallV z f (first ++ ds) ms₁ Q) _ hp ?_ ?_
  · rintro ⟨vs, kw⟩ s₁ ⟨hk, ds, ms₁, ok₁, k₁, sh₁, rs, q₁⟩
    dsimp only at hk rs
    subst hk
    exact ⟨sh₁.keepIn, wp_post (q₁ _ s₁ ok₁ sh₁ ((r₀.keep k₁).append rs)) k₁ fun _ _ x => x⟩
  · refine Calls.evalArgs_plain (h.run (R' := VR) ok sh fun us ds ms₁ s₁ ok₁ k₁ sh₁ rs q₁ => ⟨rfl, ds, ms₁, ok₁, k₁, sh₁, rs, q₁⟩)
theorem callW0 {f : Value} {first : List MV} {us₀ : List Value} (hf : Plain z f) (h : CallV z f first ms Q) {s : Shared} (ok : Ok z s) (sh : SH z ms s.heap) (r₀ : VRs s.heap first us₀) :
    wpAny (model P z.w) z.A (callWith pos f us₀ [] []) (Post z VR s.heap Q) NoE s := by
  refine hf _ _ _ s (fun a s₁ => a = ⟨[], []⟩ ∧ s₁ = s) _ rfl ?_ (evalArgs_nil3 ⟨rfl, rfl⟩)
  rintro a s₁ ⟨rfl, rfl⟩
  exact ⟨sh.keepIn, h _ _ ok sh (by simpa using r₀)⟩
/-- f(e, ..) by a name -/
theorem e_call {x : Str} {p : Pos} {e : Expr} {rest : List Expr} {f : Value} (hn : WV z (eval (.Name x p) env) ms fun d ms₁ => d = .raw f ∧ ms₁ = ms) (hf : Plain z f)
    (he : starEach (e :: rest) env = (false, eval e env) :: starEach rest env) (hp : (backTo pos (starEach rest env)).any (·.1) = false)
    (h : WVs z (spliced (backTo pos (starEach (e :: rest) env))) ms fun ds ms₁ => CallV z f ds ms₁ Q) : WV z (eval (.Call (.Name x p) (e :: rest) [] pos) env) ms Q := by
  intro s ok sh
  refine wpAny_Call_NameR (hn.run (R' := VR) ok sh fun u d ms₁ s₁ ok₁ k₁ sh₁ ru ⟨hd, hm⟩ => ?_)
  subst hd hm
  obtain rfl := vr_raw.mp ru
  rw [he] at h ⊢
  exact wp_post (callW (first := []) hf hp h ok₁ sh₁ (vrs_nil.mpr rfl)) k₁ fun _ _ x => x
theorem e_call0 {x : Str} {p : Pos} {f : Value} (hn : WV z (eval (.Name x p) env) ms fun d ms₁ => d = .raw f ∧ ms₁ = ms) (hf : Plain z f)
    (h : CallV z f [] ms Q) : WV z (eval (.Call (.Name x p) [] [] pos) env) ms Q := by
  intro s ok sh
  refine wpAny_Call_NameR (hn.run (R' := VR) ok sh fun u d ms₁ s₁ ok₁ k₁ sh₁ ru ⟨hd, hm⟩ => ?_)
  subst hd hm
  obtain rfl := vr_raw.mp ru
  exact wp_post (callW0 (first := []) hf h ok₁ sh₁ (vrs_nil.mpr rfl)) k₁ fun _ _ x => x
/-- o.name(..) of a builtin type's method -/
theorem e_meth {o : Expr} {name : Str} {apos : Pos} {args : List Expr} {T id : String} {self : MV} (hbase : attributeBase o name env (eval o env) = eval o env)
    (hfew : ((backTo pos (starEach args env)).all (fun x => !x.1) && (backToKw pos (keywordEach [] env)).all (fun x => x.1.isSome) && decide (args.length + ([] : List Keyword).length + (if ([] : List Keyword).isEmpty then 0 else 1) < 30)) = true)
    (hline : (apos.endLine == pos.line) = true) (pa : PlainAttrs T) (slot : Slot T name id) (hty : typeOf (.builtin id) = pure (.type "method_descriptor"))
    (h : WV z (eval o env) ms fun d ms₁ => (∀ h u, SH z ms₁ h → VR h d u → ∃ a ob, u = .ref a ∧ h.get? a = some ob ∧ ob.cls = .type T ∧ ob.dict = none) ∧
      ∀ u s, Ok z s → SH z ms₁ s.heap → VR s.heap d u → wpAny (model P z.w) z.A (callWith pos (.builtin id) [u] (backTo pos (starEach args env)) []) (Post z VR s.heap Q) NoE s) :
    WV z (eval (.Call (.Attribute o name apos) args [] pos) env) ms Q := by
  intro s ok sh
  refine wpAny_Call_method hbase hfew hline pa slot hty (h.run (R' := VR) ok sh fun u d ms₁ s₁ ok₁ k₁ sh₁ ru ⟨q, q₁⟩ => ?_)
  obtain ⟨a, ob, rfl, e1, e2, e3⟩ := q _ _ sh₁ ru
  exact ⟨⟨ob, e1, e2⟩, fun b eb => by cases eb; exact ⟨ob, e1, e3⟩, wp_post (q₁ _ s₁ ok₁ sh₁ ru) k₁ fun _ _ x => x⟩
theorem e_meth1 {o e : Expr} {name : Str} {apos : Pos} {T id : String} (hbase : attributeBase o name env (eval o env) = eval o env)
    (hfew : ((backTo pos (starEach [e] env)).all (fun x => !x.1) && (backToKw pos (keywordEach [] env)).all (fun x => x.1.isSome) && decide ([e].length + ([] : List Keyword).length + (if ([] : List Keyword).isEmpty then 0 else 1) < 30)) = true)
    (hline : (apos.endLine == pos.line) = true) (pa : PlainAttrs T) (slot : Slot T name id) (hty : typeOf (.builtin id) = pure (.type "method_descriptor")) (he : starEach [e] env = (false, eval e env) :: starEach [] env)
    (h : WV z (eval o env) ms fun d ms₁ => (∀ h u, SH z ms₁ h → VR h d u → ∃ a ob, u = .ref a ∧ h.get? a = some ob ∧ ob.cls = .type T ∧ ob.dict = none) ∧
      WV z (eval e env) ms₁ fun d₁ ms₂ => CallV z (.builtin id) [d, d₁] ms₂ Q) : WV z (eval (.Call (.Attribute o name apos) [e] [] pos) env) ms Q := by
  refine e_meth (self := .none) hbase hfew hline pa slot hty (h.mono fun d ms₁ ⟨a, b⟩ => ⟨a, fun u s ok sh ru => ?_⟩)
  have h' : WVs z (spliced (backTo pos (starEach [e] env))) ms₁ fun ds ms₂ => CallV z (.builtin id) ([d] ++ ds) ms₂ Q := args_cons he (b.mono fun d₁ ms₂ q => args_nil q)
  rw [he] at h' ⊢
  exact callW (first := [d]) (plain_builtin id) rfl h' ok sh (VRs.one ru)
theorem e_meth0 {o : Expr} {name : Str} {apos : Pos} {T id : String} (hbase : attributeBase o name env (eval o env) = eval o env)
    (hline : (apos.endLine == pos.line) = true) (pa : PlainAttrs T) (slot : Slot T name id) (hty : typeOf (.builtin id) = pure (.type "method_descriptor"))
    (h : WV z (eval o env) ms fun d ms₁ => (∀ h u, SH z ms₁ h → VR h d u → ∃ a ob, u = .ref a ∧ h.get? a = some ob ∧ ob.cls = .type T ∧ ob.dict = none) ∧
      CallV z (.builtin id) [d] ms₁ Q) : WV z (eval (.Call (.Attribute o name apos) [] [] pos) env) ms Q := by
  refine e_meth (self := .none) hbase rfl hline pa slot hty (h.mono fun d ms₁ ⟨a, b⟩ => ⟨a, fun u s ok sh ru => ?_⟩)
  exact callW0 (first := [d]) (plain_builtin id) b ok sh (VRs.one ru)
theorem is_list {l : Addr} {vs : List MV} (hl : ms.sto l = some (.list vs)) : ∀ h u, SH z ms h → VR h (.obj l) u → ∃ a ob, u = .ref a ∧ h.get? a = some ob ∧ ob.cls = .type "list" ∧ ob.dict = none := fun h u sh ru => by
  obtain rfl := vr_obj.mp ru
  obtain ⟨items, n, el, _⟩ := (sh.sto l _ hl).2.2.2
  exact ⟨_, _, rfl, el, rfl, rfl⟩

/-! ## methods of lists -/
theorem c_append {l : Addr} {vs : List MV} {d : MV} (hl : ms.sto l = some (.list vs)) (hn : vs.length ≤ sizeLine) (q : Q .none ⟨ms.loc, upd ms.sto l (.list (vs ++ [d]))⟩) : CallV z (.builtin "list.append") [.obj l, d] ms Q := by
  intro us s ok sh rs
  obtain ⟨u, r, rfl, r1, r2⟩ := vrs_cons.mp rs
  obtain ⟨v, r', rfl, r3, r4⟩ := vrs_cons.mp r2
  obtain rfl := vr_obj.mp r1
  obtain rfl := vrs_nil.mp r4
  obtain ⟨items, n, el, vr⟩ := (sh.sto l _ hl).2.2.2
  refine append_at el (fun h' sb e' => ?_) (by rw [arr_len vr]; exact hn)
  have p := sh.put (mo' := .list (vs ++ [d])) hl sb fun k => ⟨items.push v, n + 1, e', by rw [Array.toList_push]; exact (vr.keep k).append (VRs.one (r3.keep k))⟩
  exact post_at ok p.2 p.1 (vr_none.mpr rfl) q
theorem VRs.dropLast {h : Heap} : ∀ {ds : List MV} {us : List Value}, VRs h ds us → VRs h ds.dropLast us.dropLast := fun {ds us} r => by
  rw [List.dropLast_eq_take, List.dropLast_eq_take, r.length]
  exact r.take _
theorem c_pop {l : Addr} {vs : List MV} {d : MV} (hl : ms.sto l = some (.list (vs ++ [d]))) (hn : vs.length < sizeLine) (q : Q d ⟨ms.loc, upd ms.sto l (.list vs)⟩) : CallV z (.builtin "list.pop") [.obj l] ms Q := by
  intro us s ok sh rs
  obtain ⟨u, r, rfl, r1, r2⟩ := vrs_cons.mp rs
  obtain rfl := vr_obj.mp r1
  obtain rfl := vrs_nil.mp r2
  obtain ⟨items, n, el, vr⟩ := (sh.sto l _ hl).2.2.2
  have hz : items.size = vs.length + 1 := by rw [arr_len vr]; simp
  obtain ⟨y, hy, ry⟩ := arr_get (i := items.size - 1) (d := d) vr (by rw [hz]; simp)
  refine PyProof.Rows.Copied.pop_at el hy (fun h' sb e' => ?_) (by omega)
  have p := sh.put (mo' := .list vs) hl sb fun k => ⟨items.pop, n + 1, e', by
    have := (vr.keep k).dropLast
    rw [List.dropLast_concat] at this
    rw [Array.toList_pop]; exact this⟩
  exact post_at ok p.2 p.1 (ry.keep p.2) q
theorem c_len {l : Addr} {vs : List MV} (hl : ms.sto l = some (.list vs)) (hn : vs.length ≤ 1000000) (q : Q (.int vs.length) ms) : CallV z (.builtin "len") [.obj l] ms Q := by
  intro us s ok sh rs
  obtain ⟨u, r, rfl, r1, r2⟩ := vrs_cons.mp rs
  obtain rfl := vr_obj.mp r1
  obtain rfl := vrs_nil.mp r2
  obtain ⟨items, n, el, vr⟩ := (sh.sto l _ hl).2.2.2
  have hz := arr_len vr
  refine len_list (IsL.lst el) (by omega) ?_
  rw [hz]
  exact post_tok ok sh (vr_int.mpr ⟨_, rfl⟩) q
end
end Mine
end

/-! Fw8 -/
section
open PySem PySem.W PyProof.Rows
set_option Elab.async false
set_option maxRecDepth 100000
set_option maxHeartbeats 1000000
set_option linter.unusedVariables false
namespace Mine
/-! ## a call of a function of the program -/
noncomputable def Rm (z : Z) (k : Nat) : Prop := z.A.depth + k ≤ 400 ∧ z.A.units + 3 * k ≤ 1000
noncomputable def zIn (z : Z) (env : Env) (h : Heap) (L' : Addr) : Z :=
  { z with A := z.A.deeper env, hd := z.hd, fs := let ⟨l, e⟩ := z.fs; ⟨env :: l, Around.frames_deeper e⟩, F := fun a => if a = z.L then h.get? z.L else z.F a, L := L' }
theorem rm_in {z : Z} {env : Env} {h : Heap} {L' : Addr} {k : Nat} (r : Rm z (k + 1)) : Rm (zIn z env h L') k := by
  obtain ⟨r1, r2⟩ := r
  exact ⟨show z.A.depth + 1 + k ≤ 400 by omega, show z.A.units + 3 + 3 * k ≤ 1000 by omega⟩
theorem Rm.less {z : Z} {k k' : Nat} (r : Rm z k) (l : k' ≤ k) : Rm z k' := ⟨by have := r.1; omega, by have := r.2; omega⟩
section
variable {z : Z} {ms ms' : MS} {h h' : Heap} {L' : Addr}
theorem SH.goIn {env : Env} {m : Str → Option Value} {loc : Str → Option MV} (x : SH z ms h) (k : Keep h h') (hn : h'.Ns L' m) (hL : z.F L' = none) (hs : ∀ mo, ms.sto L' ≠ some mo) (hLz : z.L ≠ L') (all : ∀ b o, h.get? b = some o → h'.get? b = some o)
    (hl : ∀ y d, loc y = some d → ∃ u, m y = some u ∧ VR h' d u) : SH (zIn z env h L') ⟨loc, ms.sto⟩ h' where
  base := fun a o e => by
    show (if a = z.L then h.get? z.L else z.F a) = some o
    have e' := x.base a o e
    by_cases q : a = z.L
    · rw [q, x.lF] at e'; cases e'
    · rw [if_neg q]; exact e'
  fr := fun a o e => by
    have e : (if a = z.L then h.get? z.L else z.F a) = some o := e
    by_cases q : a = z.L
    · rw [if_pos q] at e; rw [q]; exact all _ _ e
    · rw [if_neg q] at e; exact all _ _ (x.fr a o e)
  ns := ⟨m, hn, hl⟩
  lF := by
    show (if L' = z.L then h.get? z.L else z.F L') = none
    rw [if_neg (Ne.symm hLz)]; exact hL
  sto := fun a mo e => by
    obtain ⟨p1, p2, p3, p4⟩ := x.sto a mo e
    refine ⟨?_, p2, fun q => ?_, p4.same k fun o => all a o⟩
    · show (if a = z.L then h.get? z.L else z.F a) = none
      rw [if_neg p3]; exact p1
    · have q : a = L' := q
      subst q; exact hs mo e
theorem SH.goOut {env : Env} (x : SH z ms h) (k : Keep h h') (y : SH (zIn z env h L') ms' h') : SH z ⟨ms.loc, ms'.sto⟩ h' where
  base := x.base
  fr := fun a o e => by
    refine y.fr a o ?_
    show (if a = z.L then h.get? z.L else z.F a) = some o
    by_cases q : a = z.L
    · rw [q, x.lF] at e; cases e
    · rw [if_neg q]; exact e
  ns := by
    obtain ⟨m, n, r⟩ := x.ns
    refine ⟨m, n.at' fun o e => y.fr _ _ (show (if z.L = z.L then h.get? z.L else z.F z.L) = some o by rw [if_pos rfl]; exact e), fun b d q => ?_⟩
    obtain ⟨u, a, c⟩ := r b d q
    exact ⟨u, a, c.keep k⟩
  lF := x.lF
  sto := fun a mo e => by
    obtain ⟨p1, p2, p3, p4⟩ := y.sto a mo e
    have p1 : (if a = z.L then h.get? z.L else z.F a) = none := p1
    by_cases q : a = z.L
    · rw [if_pos q] at p1
      obtain ⟨m, n, _⟩ := x.ns
      obtain ⟨o, _, _, e', _⟩ := n
      rw [e'] at p1; cases p1
    · rw [if_neg q] at p1
      exact ⟨p1, p2, q, p4⟩
noncomputable def BR (h : Heap) : List (Str × MV) → List (Str × Value) → Prop
  | [], bs => bs = []
  | p :: l, bs => ∃ u r, bs = (p.1, u) :: r ∧ VR h p.2 u ∧ BR h l r
theorem BR.find {h : Heap} : ∀ {l : List (Str × MV)} {bs : List (Str × Value)}, BR h l bs → ∀ y d, l.lookup y = some d → ∃ u, bs.lookup y = some u ∧ VR h d u
  | [], _, _, y, d, e => by cases e
  | p :: l, _, ⟨u, r, rfl, r1, r2⟩, y, d, e => by
    rw [List.lookup_cons] at e ⊢
    by_cases q : (y == p.1) = true
    · rw [q] at e ⊢
      cases e
      exact ⟨u, rfl, r1⟩
    · rw [Bool.eq_false_iff.mpr q] at e ⊢
      exact BR.find r2 y d e
theorem BR.append {h : Heap} : ∀ {l l' : List (Str × MV)} {bs bs' : List (Str × Value)}, BR h l bs → BR h l' bs' → BR h (l ++ l') (bs ++ bs')
  | [], _, _, _, r, q => by subst r; exact q
  | p :: l, _, _, _, ⟨u, r, rfl, r1, r2⟩, q => ⟨u, _, rfl, r1, r2.append q⟩
theorem BR.rev {h : Heap} : ∀ {l : List (Str × MV)} {bs : List (Str × Value)}, BR h l bs → BR h l.reverse bs.reverse
  | [], _, r => by subst r; rfl
  | p :: l, _, ⟨u, r, rfl, r1, r2⟩ => by
    rw [List.reverse_cons, List.reverse_cons]
    exact r2.rev.append ⟨u, [], rfl, r1, rfl⟩
theorem BR.keep {h h' : Heap} (k : Keep h h') : ∀ {l : List (Str × MV)} {bs : List (Str × Value)}, BR h l bs → BR h' l bs
  | [], _, r => r
  | p :: l, _, ⟨u, r, e, r1, r2⟩ => ⟨u, r, e, r1.keep k, r2.keep k⟩
theorem BR.names {h : Heap} : ∀ {l : List (Str × MV)} {bs : List (Str × Value)}, BR h l bs → bs.map (·.1) = l.map (·.1)
  | [], _, r => by subst r; rfl
  | p :: l, _, ⟨u, r, rfl, r1, r2⟩ => by rw [List.map_cons, List.map_cons, r2.names]
/-- what the flow of a body gives back -/
noncomputable def RetQ (loc : Str → Option MV) (Q : MV → MS → Prop) : MF → MS → Prop
  | .ret d, ms' => Q d ⟨loc, ms'.sto⟩
  | _, ms' => Q .none ⟨loc, ms'.sto⟩
noncomputable def CallC (z : Z) (f : Value) (ds : List MV) (ms : MS) (Q : MV → MS → Prop) : Prop :=
  ∀ us s, Ok z s → SH z ms s.heap → VRs s.heap ds us → codeAny (model P z.w) z.A (.call f ⟨us, []⟩) (fun r s' => match r with | .ok (.ret v) => Post z VR s.heap Q v s' | .ok _ => False | .error e => NoE e s') s
theorem CallC.v {f : Value} {ds : List MV} {Q : MV → MS → Prop} (h : CallC z f ds ms Q) : CallV z f ds ms Q := fun us s ok sh rs => wpAny_call (h us s ok sh rs)
theorem c_defC {Q : MV → MS → Prop} {a c : Addr} {st : Stmt} {qual : Str} {dV doc pm : Value} {an : Option Addr} {ds : List MV} {k : Nat} (fd : FuncData) (env : Addr → Env) (binds : List (Str × MV)) (hr : Rm z (k + 1))
    (hK : ∀ q, (K q).lookup a = some (fnO st qual dV doc pm an c)) (hcd : ∀ q, codeIn (K q) (.ref c) qual = true) (hfd : (fnO st qual dV doc pm an c).data = .func fd) (henv : ∀ L, env L = callEnv fd L a)
    (hb : ∀ us (s : Shared), (K z.w.params).In s.heap → VRs s.heap ds us → ∃ bs, BindsTo s fd ⟨us, []⟩ bs ∧ BR s.heap binds bs)
    (hloc : (binds.all fun x => (scopeOf st).names.lookup x.1 == some .local) = true) (hcell : ((scopeOf st).names.all fun x => x.2 != .cell) = true)
    (hsc : ((scopeOf st).isCoroutine, (scopeOf st).isGenerator, (scopeOf st).kind) = (false, false, .function))
    (H : ∀ z' L', z'.w = z.w → EnvOk z' (env L') → Rm z' k → WS z' (execs (bodyOf st) (env L')) ⟨fun x => binds.reverse.lookup x, ms.sto⟩ (RetQ ms.loc Q)) : CallC z (.ref a) ds ms Q := by
  intro us s ok sh rs
  obtain ⟨bs, hbs, br⟩ := hb us s sh.keepIn rs
  have hfd' : fd = { name := nameOf st, qualname := qual, params := paramsOf st, body := .stmts (bodyOf st), scope := scopeOf st, globals := 3, closure := [], defaults := dV, kwdefaults := .none, doc := doc, pyModule := pm, annotations := an, code := .ref c, closureTuple := .none, builtins := 0 } := by
    simp only [fnO, Data.func.injEq] at hfd; exact hfd.symm
  have ho := sh.keepIn _ _ (hK z.w.params)
  have e1 : fd.code = .ref c := by rw [hfd']
  have e2 : fd.qualname = qual := by rw [hfd']
  have e3 : fd.scope = scopeOf st := by rw [hfd']
  simp only [Prod.mk.injEq] at hsc
  have nm := br.names
  refine codeAny_call_def (fd := fd) (body := bodyOf st) (binds := bs) (show z.A.depth < 1000 by have := hr.1; omega) ho hfd sh.top.nolimit (by rw [e1, e2]; exact codeRec_of sh.keepIn (hcd _)) (by rw [hfd']) hbs ?_ ?_ ?_ (by rw [e3]; exact hsc.1) (by rw [e3]; exact hsc.2.1) (by rw [e3]; exact hsc.2.2)
  · intro x hx
    rw [e3] at hx
    have := List.all_eq_true.mp hcell x hx
    simpa using this
  · intro x hx
    rw [e3]
    have : x.1 ∈ binds.map (·.1) := nm ▸ List.mem_map_of_mem hx
    obtain ⟨y, hy, e⟩ := List.mem_map.mp this
    have := List.all_eq_true.mp hloc y hy
    rw [← e]; exact beq_iff_eq.mp this
  · intro h₀ hn all
    have N := sh.new_none
    have k₀ : Keep s.heap h₀ := Keep.of_all all
    have hLz : z.L ≠ s.heap.objs.size := Ne.symm N.2.2.1
    have shI : SH (zIn z (env s.heap.objs.size) s.heap s.heap.objs.size) ⟨fun x => binds.reverse.lookup x, ms.sto⟩ h₀ := sh.goIn k₀ hn N.1 (fun mo e => by rw [N.2.1] at e; cases e) hLz all fun y d e => by
      obtain ⟨u, e', r⟩ := br.rev.find y d e
      exact ⟨u, e', r.keep k₀⟩
    have eo : EnvOk (zIn z (env s.heap.objs.size) s.heap s.heap.objs.size) (env s.heap.objs.size) := by
      obtain ⟨l, el⟩ := z.fs
      rw [henv]
      refine ⟨?_, rfl, ?_, ?_, ?_, ?_, l, Around.frames_deeper el⟩
      · show fd.scope.kind = _; rw [e3]; exact hsc.2.2
      · show fd.globals = _; rw [hfd']; rfl
      · show fd.builtins = _; rw [hfd']; rfl
      · show fd.scope.isGenerator = _; rw [e3]; exact hsc.2.1
      · show fd.scope.isCoroutine = _; rw [e3]; exact hsc.1
    have run := H (zIn z (env s.heap.objs.size) s.heap s.heap.objs.size) s.heap.objs.size rfl eo (rm_in hr) { s with heap := h₀, toks := s.toks + bs.length } ok shI
    have er : ∀ h1, wpAny (model P z.w) (z.A.deeper (env s.heap.objs.size)) (execs (bodyOf st) (env s.heap.objs.size)) h1 NoE { s with heap := h₀, toks := s.toks + bs.length } →
      wpAny (model P z.w) (z.A.deeper (callEnv fd s.heap.objs.size a)) (execs (bodyOf st) (callEnv fd s.heap.objs.size a)) h1 NoE { s with heap := h₀, toks := s.toks + bs.length } := fun h1 p => by rw [← henv]; exact p
    refine wpAny_mono (er _ run) (fun f s' p => ?_) fun _ _ x => x.elim
    obtain ⟨ok', k', d, ms', sh', rf, q⟩ := p
    have out := sh.goOut (k₀.trans k') sh'
    cases d with
    | next => obtain rfl := rf; exact post_at (d := MV.none) ok' (k₀.trans k') out (vr_none.mpr rfl) q
    | brk => obtain rfl := rf; exact post_at (d := MV.none) ok' (k₀.trans k') out (vr_none.mpr rfl) q
    | cont => obtain rfl := rf; exact post_at (d := MV.none) ok' (k₀.trans k') out (vr_none.mpr rfl) q
    | ret d => obtain ⟨u, rfl, r⟩ := rf; exact post_at ok' (k₀.trans k') out r q
/-- binding by place, with no default -/
theorem binds_plain {a c : Addr} {s : Shared} {fd : FuncData} {us : List Value} {bs : List (Str × Value)} (h : bindArgs fd ⟨us, []⟩ = pure bs) : BindsTo s fd ⟨us, []⟩ bs := BindsTo.of_eq h
end
end Mine
end

/-! Fw9 -/
section
open PySem PySem.W PyProof.Rows
set_option Elab.async false
set_option maxRecDepth 100000
set_option maxHeartbeats 1000000
set_option linter.unusedVariables false
namespace Mine
section
variable {z : Z} {ms ms' : MS} {env : Env} {Q : MV → MS → Prop} {pos : Pos}
/-! ## reading by an index -/
noncomputable def SubV (z : Z) (value slice : Expr) (a b : MV) (ms : MS) (Q : MV → MS → Prop) : Prop :=
  ∀ u v s, Ok z s → SH z ms s.heap → VR s.heap a u → VR s.heap b v → wpAny (model P z.w) z.A (subscriptTail value slice u v) (Post z VR s.heap Q) NoE s
theorem e_sub {value slice : Expr} (h : WV z (eval value env) ms fun a ms₁ => WV z (eval slice env) ms₁ fun b ms₂ => SubV z value slice a b ms₂ Q) : WV z (eval (.Subscript value slice pos) env) ms Q := by
  intro s ok sh
  refine Subscript_ (h.run (R' := VR) ok sh fun u a ms₁ s₁ ok₁ k₁ sh₁ ru q₁ => q₁.run (R' := VR) ok₁ sh₁ fun v b ms₂ s₂ ok₂ k₂ sh₂ rv q₂ => ?_)
  exact wp_post (q₂ u v s₂ ok₂ sh₂ (ru.keep k₂) rv) (k₁.trans k₂) fun _ _ x => x
noncomputable def SubOk (value slice : Expr) : Prop := (∀ l k u, subscripted slice false (.ref l) (.int k u) = operate [.ref l, .int k u] (getItem (.ref l) (.int k u))) ∧ ∀ (l : Addr) r, letTemporaryGo value (.ref l) r = pure ()
theorem sub_list {value slice : Expr} {l : Addr} {vs : List MV} {i : Int} {d : MV} (hl : ms.sto l = some (.list vs)) (h0 : 0 ≤ i) (hi : i < 1000000000) (hd : vs[i.toNat]? = some d) (hs : SubOk value slice) (q : Q d ms) : SubV z value slice (.obj l) (.int i) ms Q := by
  intro u v s ok sh ru rv
  obtain rfl := vr_obj.mp ru
  obtain ⟨t, rfl⟩ := vr_int.mp rv
  obtain ⟨items, n, el, vr⟩ := (sh.sto l _ hl).2.2.2
  obtain ⟨y, hy, ry⟩ := arr_get vr hd
  exact item_list (IsL.lst el) h0 (by omega) hy (post_here ok sh ry q) (hs.1 _ _ _) (hs.2 _)
theorem sub_tup {value slice : Expr} {ds : List MV} {i : Int} {d : MV} (h0 : 0 ≤ i) (hi : i < 1000000000) (hd : ds[i.toNat]? = some d) (hs : SubOk value slice) (q : Q d ms) : SubV z value slice (.tup false ds) (.int i) ms Q := by
  intro u v s ok sh ru rv
  obtain ⟨a, items, n, rfl, e, vr⟩ := vr_tup.mp ru
  obtain ⟨t, rfl⟩ := vr_int.mp rv
  obtain ⟨y, hy, ry⟩ := arr_get vr hd
  have hlt : i.toNat < items.size := by
    rcases Nat.lt_or_ge i.toNat items.size with h | h
    · exact h
    · rw [Array.getElem?_eq_none_iff.mpr h] at hy; cases hy
  refine item_tuple (j := i.toNat) ⟨_, e, rfl, _, rfl⟩ (by omega) (by omega) ?_ hy (post_here ok sh ry q) (hs.1 _ _ _) (hs.2 _)
  unfold seqIndex?
  have h1 : ¬ i < 0 := by omega
  simp [h1]
  omega
/-! ## stores by an index -/
theorem wpAny_setItem_L {l : Addr} {items : Array Value} {n : Nat} {k : Int} {t : Tok} {v : Value} {s : Shared} {A : Around} {E : Value → Shared → Prop} {Q : Unit → Shared → Prop} (hl : IsL s.heap l items n)
    (h0 : 0 ≤ k) (hfit : k < 2 ^ 63) (hn : k < items.size)
    (hQ : ∀ h' n', IsL h' l (items.setIfInBounds k.toNat v) n' → Heap.SameBut l s.heap h' → Q () { s with heap := h' }) :
    wpAny (model P z.w) A (setItem (.ref l) (.int k t) v) Q E s := by
  have hL := IsL.lst hl
  unfold setItem
  try with_reducible refine wpAny_holding ?_
  first | refine wpAny_bind (wpAny_pure ?_) | skip
  refine wpAny_bind (wpAny_sequenceKey hL.typeIs (by decide) ?_)
  refine wpAny_bind (wpAny_callSpecial?_slot (name := Str.ofString "__setitem__") hL.typeIs PySem.slot_list_setitem
    (wpAny_call_entry PySem.slot_list_setitem hL.typeIs PySem.entry_list_setitem ?_ (PySem.args_list_setitem _ _ _)))
  show wpAny _ _ (Builtin.List.listSubscript? (.int k t) >>= _) _ _ s
  refine wpAny_bind (wpAny_listSubscript_int (fitsIndex_of h0 hfit) ?_)
  clear hfit
  obtain ⟨j, rfl⟩ := Int.eq_ofNat_of_zero_le h0
  have hj : j < items.size := by omega
  have hx : items[j]? = some items[j] := Array.getElem?_eq_getElem hj
  show wpAny _ _ ((seqItemAt l j >>= fun r => pure (r.map (j, ·))) >>= _) _ _ s
  refine wpAny_bind (wpAny_bind (wpAny_seqItemAt hl rfl (wpAny_pure ?_)))
  rw [hx]
  show wpAny _ _ (setSeqItemAt l j v >>= _) _ _ s
  have hm : ∃ n', Obj.mapSeq (·.setIfInBounds j v) { cls := .type "list", data := .seq items n } = { cls := .type "list", data := .seq (items.setIfInBounds j v) n' } := by
    simp [Obj.mapSeq]
  obtain ⟨n', hm⟩ := hm
  have hfin : IsL (s.heap.update l (Obj.mapSeq (·.setIfInBounds j v))) l (items.setIfInBounds j v) n' := by
    show Heap.get? _ _ = _
    rw [Heap.get?_update_self _ hl (by rw [hm]; rfl), hm]
  refine wpAny_bind (wpAny_setSeqItemAt hl rfl ?_)
  first
    | exact wpAny_bind (wpAny_pure (wpAny_pure ⟨.none, rfl, wpAny_pure (hQ _ _ hfin (Heap.SameBut.update ..))⟩))
    | exact wpAny_pure ⟨.none, rfl, wpAny_pure (hQ _ _ hfin (Heap.SameBut.update ..))⟩
theorem st_sub_list {o i : Expr} {d : MV} {Q : MS → Prop} 
    (h : WV z (eval o env) ms fun a ms₁ => WV z (eval i env) ms₁ fun b ms₂ => ∃ l vs k, a = .obj l ∧ b = .int k ∧ ms₂.sto l = some (.list vs) ∧ 0 ≤ k ∧ k < vs.length ∧ vs.length < 1000000 ∧ Q ⟨ms₂.loc, upd ms₂.sto l (.list (vs.set k.toNat d))⟩) :
    StV z (assign (.Subscript o i pos) env) d ms Q := by
  intro u s ok sh ru
  rw [PySem.assign_Subscript]
  refine wpAny_bind (wpAny_holding (h.run (R' := VR) ok sh fun ov a ms₁ s₁ ok₁ k₁ sh₁ ro q₁ => wpAny_bind (wpAny_holding (q₁.run (R' := VR) ok₁ sh₁ fun iv b ms₂ s₂ ok₂ k₂ sh₂ ri q₂ => ?_))))
  obtain ⟨l, vs, k, rfl, rfl, hl, h0, hk, hz, q⟩ := q₂
  obtain rfl := vr_obj.mp ro
  obtain ⟨t, rfl⟩ := vr_int.mp ri
  obtain ⟨items, n, el, vr⟩ := (sh₂.sto l _ hl).2.2.2
  have hsz := arr_len vr
  refine wpAny_bind (wpAny_standAt (wpAny_bind (wpAny_holding (wpAny_setItem_L el h0 (by omega) (by omega) fun h' n' e' sb => ?_))))
  have ru2 := (ru.keep k₁).keep k₂
  have p := sh₂.put (mo' := .list (vs.set k.toNat d)) hl sb fun kk => ⟨_, n', e', by
    rw [Array.toList_setIfInBounds]; exact (vr.keep kk).set (ru2.keep kk)⟩
  refine wpAny_release ?_
  exact post_at (d := ()) ok₂ ((k₁.trans k₂).trans p.2) p.1 trivial q
end
end Mine
end

/-! Fw10 -/
section
open PySem PySem.W PyProof.Rows PySem.MeetsSeq PySem.SeqAt
set_option Elab.async false
set_option maxRecDepth 100000
set_option maxHeartbeats 1000000
set_option linter.unusedVariables false
namespace Mine
/-- a tuple of ints -/
noncomputable def ti (xs : List Int) : MV := .tup false (xs.map MV.int)
theorem vrs_ints {h : Heap} : ∀ {xs : List Int} {us : List Value}, VRs h (xs.map MV.int) us ↔ IntsAre us xs
  | [], us => by
    rw [List.map_nil, vrs_nil]
    constructor
    · rintro rfl; exact .nil
    · intro r; cases r; rfl
  | x :: xs, us => by
    rw [List.map_cons, vrs_cons]
    constructor
    · rintro ⟨u, r, rfl, r1, r2⟩
      obtain ⟨t, rfl⟩ := vr_int.mp r1
      exact .cons _ _ (vrs_ints.mp r2)
    · intro r
      cases r with
      | cons _ _ r2 => exact ⟨_, _, rfl, vr_int.mpr ⟨_, rfl⟩, vrs_ints.mpr r2⟩
theorem vr_ti {h : Heap} {xs : List Int} {u : Value} : VR h (ti xs) u ↔ ∃ a items n, u = .ref a ∧ h.get? a = some (tupO false items n) ∧ IntsAre items.toList xs := by
  unfold ti
  rw [vr_tup]
  simp only [vrs_ints]
theorem ints_get : ∀ {us : List Value} {xs : List Int} (_ : IntsAre us xs) (j : Nat), (∀ (h : j < us.length), ∃ t, us[j] = .int (xs.getD j 0) t) ∧ us.length = xs.length
  | [], [], _, j => ⟨fun h => absurd h (Nat.not_lt_zero _), rfl⟩
  | [], _ :: _, r, _ => nomatch r
  | _ :: _, [], r, _ => nomatch r
  | u :: us, x :: xs, r, j => by
    cases r with
    | cons _ _ r =>
    refine ⟨fun h => ?_, by simp [(ints_get r 0).2]⟩
    cases j with
    | zero => exact ⟨_, rfl⟩
    | succ j =>
      have := (ints_get r j).1 (by simpa using h)
      simpa using this
theorem all_eq_ints (xs ys : List Int) : ((List.range (min xs.length ys.length)).all (fun j => xs.getD j 0 == ys.getD j 0) && xs.length == ys.length) = (xs == ys) := by
  rw [Bool.eq_iff_iff]
  simp only [Bool.and_eq_true, List.all_eq_true, List.mem_range, beq_iff_eq]
  constructor
  · rintro ⟨h1, h2⟩
    refine List.ext_getElem h2 fun i a b => ?_
    have := h1 i (by omega)
    simpa [a, b] using this
  · rintro rfl
    simp
theorem eqAt_ti {A : Around} {s : Shared} {xs ys : List Int} {u v : Value} (ru : VR s.heap (ti xs) u) (rv : VR s.heap (ti ys) v) (hu : A.units < cLine) : EqAt A s u v (xs == ys) := by
  obtain ⟨a, items, n, rfl, e1, i1⟩ := vr_ti.mp ru
  obtain ⟨b, items2, n2, rfl, e2, i2⟩ := vr_ti.mp rv
  by_cases hab : a = b
  · subst hab
    rw [e1] at e2
    simp only [tupO, Option.some.injEq, Obj.mk.injEq, Data.seq.injEq] at e2
    obtain ⟨_, _, ⟨rfl, _⟩, _⟩ := e2
    have : xs = ys := by
      refine List.ext_getElem (by rw [← (ints_get i1 0).2, ← (ints_get i2 0).2]) fun j a b => ?_
      obtain ⟨t, e⟩ := (ints_get i1 j).1 (by rw [(ints_get i1 0).2]; exact a)
      obtain ⟨t', e'⟩ := (ints_get i2 j).1 (by rw [(ints_get i2 0).2]; exact b)
      rw [e] at e'
      have := (Value.int.injEq ..).mp e'
      simpa [a, b] using this.1
    subst this
    rw [show (xs == xs) = true by simp]
    exact EqAt.same _
  · refine EqAt.of_refs hab ?_
    have z1 : items.size = xs.length := by rw [← (ints_get i1 0).2]; simp
    have z2 : items2.size = ys.length := by rw [← (ints_get i2 0).2]; simp
    have := RcAt.tuples (A := A) (s := s) (e := fun j => xs.getD j 0 == ys.getD j 0) (items := items) (items2 := items2) ⟨_, e1, rfl, _, rfl⟩ ⟨_, e2, rfl, _, rfl⟩ hu fun j h1 h2 => by
      obtain ⟨t, e⟩ := (ints_get i1 j).1 (by simpa using h1)
      obtain ⟨t', e'⟩ := (ints_get i2 j).1 (by simpa using h2)
      have e : items[j] = .int (xs.getD j 0) t := by simpa using e
      have e' : items2[j] = .int (ys.getD j 0) t' := by simpa using e'
      rw [e, e']
      exact (PySem.MeetsSeq.EqGives.int _ _ _ _).at _ _
    rw [z1, z2, all_eq_ints] at this
    exact this
noncomputable def tl (xss : List (List Int)) : MO := .list (xss.map ti)
theorem all_eq_lists (xs ys : List (List Int)) (h : xs.length = ys.length) : (List.range xs.length).all (fun j => xs.getD j [] == ys.getD j []) = (xs == ys) := by
  rw [Bool.eq_iff_iff]
  simp only [List.all_eq_true, List.mem_range, beq_iff_eq]
  constructor
  · intro h1
    refine List.ext_getElem h fun i a b => ?_
    have := h1 i a
    simpa [a, b] using this
  · rintro rfl
    simp
theorem vrs_at {h : Heap} {f : List Int → MV} : ∀ {xss : List (List Int)} {us : List Value} (_ : VRs h (xss.map f) us) (j : Nat) (hj : j < us.length), VR h (f (xss.getD j [])) us[j]
  | [], us, r, j, hj => by rw [List.map_nil, vrs_nil] at r; subst r; exact absurd hj (Nat.not_lt_zero _)
  | x :: xss, us, r, j, hj => by
    rw [List.map_cons, vrs_cons] at r
    obtain ⟨u, rest, rfl, r1, r2⟩ := r
    cases j with
    | zero => exact r1
    | succ j => have := vrs_at r2 j (by simpa using hj); simpa using this
section
variable {z : Z} {ms ms' : MS} {env : Env} {Q : MV → MS → Prop} {pos : Pos}
theorem lists_eqs {s : Shared} {l b : Addr} {xss yss : List (List Int)} (hu : z.A.units + 1 < cLine) (sh : SH z ms s.heap) (hl : ms.sto l = some (tl xss)) (hb : ms.sto b = some (tl yss)) :
    RcAt z.A s (.ref l) (.ref b) (xss == yss) ∧ RcNeAt z.A s (.ref l) (.ref b) (!(xss == yss)) := by
  obtain ⟨items, n, e1, r1⟩ := (sh.sto l _ hl).2.2.2
  obtain ⟨items2, n2, e2, r2⟩ := (sh.sto b _ hb).2.2.2
  have z1 : items.size = xss.length := by rw [arr_len r1]; simp
  have z2 : items2.size = yss.length := by rw [arr_len r2]; simp
  by_cases hz : xss.length = yss.length
  · have he : ∀ j (h1 : j < items.size) (h2 : j < items2.size), EqAt z.A.in1 s items[j] items2[j] (xss.getD j [] == yss.getD j []) := fun j h1 h2 => by
      have a := vrs_at r1 j (by simpa using h1)
      have b := vrs_at r2 j (by simpa using h2)
      refine eqAt_ti (by simpa using a) (by simpa using b) hu
    have a := RcAt.lists (A := z.A) (s := s) (IsL.lst e1) (IsL.lst e2) (by rw [z1, z2, hz]) (Nat.lt_of_succ_lt hu) he
    have b := RcNeAt.lists (A := z.A) (s := s) (IsL.lst e1) (IsL.lst e2) (by rw [z1, z2, hz]) (Nat.lt_of_succ_lt hu) he
    rw [z1, all_eq_lists _ _ hz] at a b
    exact ⟨a, b⟩
  · have a := RcAt.lists_lengths (A := z.A) (s := s) (IsL.lst e1) (IsL.lst e2) (by rw [z1, z2]; simpa using hz) (Nat.lt_of_succ_lt hu)
    have b := RcNeAt.lists_lengths (A := z.A) (s := s) (IsL.lst e1) (IsL.lst e2) (by rw [z1, z2]; simpa using hz) (Nat.lt_of_succ_lt hu)
    have : (xss == yss) = false := by
      rw [Bool.eq_false_iff]; intro e; exact hz (by rw [eq_of_beq e])
    rw [this]
    exact ⟨a, b⟩
theorem op_eq_lists {l b : Addr} {xss yss : List (List Int)} (hu : z.A.units + 1 < cLine) (hl : ms.sto l = some (tl xss)) (hb : ms.sto b = some (tl yss)) (q : Q (.bool (xss == yss)) ms) : Op2 z (compareOp .Eq) (.obj l) (.obj b) ms Q := by
  intro u v s ok sh ru rv
  obtain rfl := vr_obj.mp ru
  obtain rfl := vr_obj.mp rv
  exact (lists_eqs hu sh hl hb).1 P z.w NoE _ (post_here ok sh (vr_bool.mpr rfl) q)
theorem op_ne_lists {l b : Addr} {xss yss : List (List Int)} (hu : z.A.units + 1 < cLine) (hl : ms.sto l = some (tl xss)) (hb : ms.sto b = some (tl yss)) (q : Q (.bool (!(xss == yss))) ms) : Op2 z (compareOp .NotEq) (.obj l) (.obj b) ms Q := by
  intro u v s ok sh ru rv
  obtain rfl := vr_obj.mp ru
  obtain rfl := vr_obj.mp rv
  exact (lists_eqs hu sh hl hb).2 P z.w NoE _ (post_here ok sh (vr_bool.mpr rfl) q)
theorem op_ne_ti {xs ys : List Int} (hu : z.A.units < cLine) (q : Q (.bool (!(xs == ys))) ms) : Op2 z (compareOp .NotEq) (ti xs) (ti ys) ms Q := by
  intro u v s ok sh ru rv
  obtain ⟨a, items, n, rfl, e1, i1⟩ := vr_ti.mp ru
  obtain ⟨b, items2, n2, rfl, e2, i2⟩ := vr_ti.mp rv
  have z1 : items.size = xs.length := by rw [← (ints_get i1 0).2]; simp
  have z2 : items2.size = ys.length := by rw [← (ints_get i2 0).2]; simp
  have := RcNeAt.tuples (A := z.A) (s := s) (e := fun j => xs.getD j 0 == ys.getD j 0) (items := items) (items2 := items2) ⟨_, e1, rfl, _, rfl⟩ ⟨_, e2, rfl, _, rfl⟩ hu fun j h1 h2 => by
    obtain ⟨t, e⟩ := (ints_get i1 j).1 (by simpa using h1)
    obtain ⟨t', e'⟩ := (ints_get i2 j).1 (by simpa using h2)
    have e : items[j] = .int (xs.getD j 0) t := by simpa using e
    have e' : items2[j] = .int (ys.getD j 0) t' := by simpa using e'
    rw [e, e']
    exact (PySem.MeetsSeq.EqGives.int _ _ _ _).at _ _
  rw [z1, z2, all_eq_ints] at this
  exact this P z.w NoE _ (post_here ok sh (vr_bool.mpr rfl) q)
end
end Mine
end

/-! Fw11 -/
section
open PySem PySem.W PyProof.Rows PySem.MeetsSeq PySem.SeqAt
set_option Elab.async false
set_option maxRecDepth 100000
set_option maxHeartbeats 1000000
set_option linter.unusedVariables false
namespace Mine
noncomputable def ltL : List Int → List Int → Bool
  | [], [] => false
  | [], _ :: _ => true
  | _ :: _, [] => false
  | x :: xs, y :: ys => if x == y then ltL xs ys else decide (x < y)
theorem tup_lt_body {w : World} {A : Around} {E : Value → Shared → Prop} {s : Shared} {l b : Addr} {ol ob : Obj} {items items2 : Array Value} {n n2 : Nat} {xs ys : List Int} {R : Value → Shared → Prop}
    (hl : s.heap.get? l = some ol) (dl : ol.data = .seq items n) (hb : s.heap.get? b = some ob) (db : ob.data = .seq items2 n2) (hi : Looks (model P w) s.heap (isInstance (.ref b) (.type "tuple")) true)
    (ix : IntsAre items.toList xs) (iy : IntsAre items2.toList ys) (h : R (.bool (ltL xs ys)) s) :
    wpAny (model P w) A (Builtin.«tuple.__lt__» ⟨[.ref l, .ref b], []⟩) (fun fin s' => ∃ v, fin = .done (.ret v) ∧ R v s') E s := by
  show wpAny _ _ (slotArgs "__lt__" 1 ⟨[.ref l, .ref b], []⟩ >>= _) _ _ s
  refine wpAny_bind (wpAny_of_eq (a := (.ref l, [.ref b])) (by rfl) ?_)
  refine wpAny_bind (hi.here ?_)
  show wpAny _ _ (Builtin.Tuple.tupleItemsOf (.ref l) >>= _) _ _ s
  refine wpAny_bind (wpAny_bind (wpAny_seqItems hl dl (wpAny_pure ?_)))
  refine wpAny_bind (wpAny_bind (wpAny_seqItems hb db (wpAny_pure ?_)))
  refine wpAny_bind (wpAny_forIn_list _ (fun rest b s' => b.1 = none ∧ s' = s ∧ ∃ xs' ys' us vs, rest = List.zip us vs ∧ IntsAre us xs' ∧ IntsAre vs ys' ∧ ltL xs' ys' = ltL xs ys ∧ decide (xs'.length < ys'.length) = decide (items.size < items2.size)) _ ?_ ?_ _ _ ?_)
  · rintro ⟨x, y⟩ rest c s' ⟨hc, rfl, xs', ys', us, vs, hz, i1, i2, e1, e2⟩
    cases i1 with
    | nil => simp at hz
    | cons a t i1 =>
      cases i2 with
      | nil => simp at hz
      | cons a' t' i2 =>
        rw [List.zip_cons_cons] at hz
        injection hz with hxy hrest
        injection hxy with hx hy
        subst hx hy
        dsimp only
        refine wpAny_bind (wpAny_eqBool_int ?_)
        by_cases q : (a == a') = true
        · rw [q]
          refine wpAny_pure ⟨rfl, rfl, _, _, _, _, hrest, i1, i2, ?_, ?_⟩
          · rw [← e1]; simp only [ltL, q, if_true]
          · rw [← e2]; simp
        · rw [Bool.eq_false_iff.mpr q]
          refine wpAny_bind (wpAny_rule (wpAny_bind ?_))
          show wpAny _ _ (compareOp .Lt _ _) _ _ _
          refine PySem.P.lt_int (wpAny_bind (wpAny_pure (wpAny_pure (wpAny_pure ⟨_, rfl, ?_⟩))))
          rw [← e1] at h
          simpa only [ltL, Bool.eq_false_iff.mpr q, Bool.false_eq_true, if_false] using h
  · rintro ⟨c, u⟩ s' ⟨hc, rfl, xs', ys', us, vs, hz, i1, i2, e1, e2⟩
    dsimp only at hc
    subst hc
    refine wpAny_pure ⟨_, rfl, ?_⟩
    show R (.bool (decide (items.size < items2.size))) _
    rw [← e2]
    rw [← e1] at h
    cases i1 with
    | nil => cases i2 with
      | nil => exact h
      | cons a' t' i2 => simpa [ltL] using h
    | cons a t i1 =>
      cases i2 with
      | nil => simpa [ltL] using h
      | cons a' t' i2 => simp at hz
  · have z1 : xs.length = items.size := by rw [← (ints_get ix 0).2]; simp
    have z2 : ys.length = items2.size := by rw [← (ints_get iy 0).2]; simp
    exact ⟨rfl, rfl, xs, ys, _, _, rfl, ix, iy, rfl, by rw [z1, z2]⟩
theorem fillsI_list : fillsInplaceSlot (.type "list") "add" (Operator.Add == .Add) = pure false := by
  unfold fillsInplaceSlot
  show (typeLookup (.type "list") (dunderI "add") >>= fun fi => pure (fi.isSome && !isSeqSlot fi)) = pure false
  rw [PySem.F.slot_list_iadd.lookup]
  show (pure (true && !isSeqSlot (some (.builtin "list.__iadd__"))) : Sem Bool) = pure false
  rw [show isSeqSlot (some (.builtin "list.__iadd__")) = true by decide +kernel]
  rfl
theorem seqI_list : seqSlot? (.type "list") (dunderI "add") = pure (some (.builtin "list.__iadd__")) := by
  exact PySem.seqSlot_of PySem.F.slot_list_iadd.lookup (by decide +kernel)
section
variable {z : Z} {ms ms' : MS} {env : Env} {Q : MV → MS → Prop} {pos : Pos}
theorem op_lt_ti {xs ys : List Int} (hu : z.A.units < cLine) (q : Q (.bool (ltL xs ys)) ms) : Op2 z (compareOp .Lt) (ti xs) (ti ys) ms Q := by
  intro u v s ok sh ru rv
  obtain ⟨a, items, n, rfl, e1, i1⟩ := vr_ti.mp ru
  obtain ⟨b, items2, n2, rfl, e2, i2⟩ := vr_ti.mp rv
  have hT : s.TypeIs (.ref b) "tuple" := ⟨_, e2, rfl⟩
  refine wpAny_richCompare_same_room (op := .Lt) ⟨_, e1, rfl⟩ hT PySem.F.slot_tuple_lt (wpAny_call_entry PySem.F.slot_tuple_lt ⟨_, e1, rfl⟩ PySem.F.entry_tuple_lt ?_ (PySem.F.args_tuple_lt_2 _ _)) hu
  refine tup_lt_body e1 rfl e2 rfl ?_ i1 i2 ⟨by simp, post_here ok sh (vr_bool.mpr rfl) q⟩
  exact (Looks.ld (part := none) e2).andThen (Looks.of_pure (by show isSubtype (.type "tuple") (.type "tuple") = _; rw [isSubtype_type]; kernel_rfl))
theorem op_add_list {l b : Addr} {xs ys : List MV} (hl : ms.sto l = some (.list xs)) (hb : ms.sto b = some (.list ys)) (hn : xs.length + ys.length ≤ 1000000)
    (q : ∀ c, ms.sto c = none → Q (.obj c) ⟨ms.loc, upd ms.sto c (.list (xs ++ ys))⟩) : Op2 z (binaryOp .Add) (.obj l) (.obj b) ms Q := by
  intro u v s ok sh ru rv
  obtain rfl := vr_obj.mp ru
  obtain rfl := vr_obj.mp rv
  obtain ⟨items, n, e1, r1⟩ := (sh.sto l _ hl).2.2.2
  obtain ⟨items2, n2, e2, r2⟩ := (sh.sto b _ hb).2.2.2
  refine PySem.P.add_list e1 e2 ?_ (by rw [arr_len r1, arr_len r2]; unfold sizeLine; omega)
  refine post_at (d := .obj s.heap.objs.size) ok (Keep.push _ _) (sh.alloc (mo := .list (xs ++ ys)) ⟨items ++ items2, 0, Heap.get?_push_size _ rfl, ?_⟩) (vr_obj.mpr rfl) (q _ sh.new_none.2.1)
  rw [Array.toList_append]
  exact (r1.append r2).keep (Keep.push _ _)
theorem op_iadd_list {l b : Addr} {xs ys : List MV} (hl : ms.sto l = some (.list xs)) (hb : ms.sto b = some (.list ys)) (hlb : l ≠ b) (hn : xs.length + ys.length ≤ 1000000)
    (q : Q (.obj l) ⟨ms.loc, upd ms.sto l (.list (xs ++ ys))⟩) : Op2 z (inplaceOp .Add) (.obj l) (.obj b) ms Q := by
  intro u v s ok sh ru rv
  obtain rfl := vr_obj.mp ru
  obtain rfl := vr_obj.mp rv
  obtain ⟨items, n, e1, r1⟩ := (sh.sto l _ hl).2.2.2
  obtain ⟨items2, n2, e2, r2⟩ := (sh.sto b _ hb).2.2.2
  have T1 : s.TypeIs (.ref l) "list" := ⟨_, e1, rfl⟩
  have T2 : s.TypeIs (.ref b) "list" := ⟨_, e2, rfl⟩
  have z1 := arr_len r1
  have z2 := arr_len r2
  unfold inplaceOp
  refine wpAny_holding (wpAny_bind (wpAny_typeOf T1 (wpAny_bind (wpAny_of_eq fillsI_list ?_))))
  show wpAny _ _ (if false = true then _ else _) _ _ s
  rw [if_neg Bool.false_ne_true]
  refine wpAny_bind (wpAny_binaryOp1_none (nm := "add") T1 T2 noFill_list_add ?_)
  refine wpAny_bind (wpAny_of_eq seqI_list ?_)
  refine wpAny_bind (wpAny_rule ?_)
  have hs : Heap.SameBut l s.heap (s.heap.update l (Obj.mapSeq fun xs => xs ++ items2)) := Heap.SameBut.update ..
  have hm : ∃ n', Obj.mapSeq (fun xs => xs ++ items2) { cls := .type "list", data := .seq items n } = { cls := .type "list", data := .seq (items ++ items2) n' } := by
    simp [Obj.mapSeq]
  obtain ⟨n', hm⟩ := hm
  have hg : IsL (s.heap.update l (Obj.mapSeq fun xs => xs ++ items2)) l (items ++ items2) n' := by
    show Heap.get? _ _ = _
    rw [Heap.get?_update_self _ e1 (by rw [hm]; rfl), hm]
  have p := sh.put (mo' := .list (xs ++ ys)) hl hs fun k => ⟨_, n', hg, by rw [Array.toList_append]; exact (r1.keep k).append (r2.keep k)⟩
  refine call_meets PySem.F.slot_list_iadd T1 PySem.F.entry_list_iadd (PySem.F.args_list_iadd_2 _ _) (AutoSeq1.list___iadd___list_list_0 l items n b items2 n2 ?_ (by unfold sizeLine; omega) (by unfold sizeLine; omega)) ⟨e1, e2, ?_⟩
  · simp [Builtin.List.listTooLong, sizeLine]
    intro _; omega
  · exact post_at (d := .obj l) ok p.2 p.1 (vr_obj.mpr rfl) q
end
end Mine
end

/-! Fw12 -/
section
open PySem PySem.W PyProof.Rows
set_option Elab.async false
set_option maxRecDepth 100000
set_option maxHeartbeats 1000000
set_option linter.unusedVariables false
namespace Mine
theorem VRs.reverse {h : Heap} : ∀ {ds : List MV} {us : List Value}, VRs h ds us → VRs h ds.reverse us.reverse
  | [], _, r => by rw [vrs_nil] at r; subst r; simp [vrs_nil]
  | d :: ds, us, r => by
    rw [vrs_cons] at r
    obtain ⟨u, x, rfl, r1, r2⟩ := r
    rw [List.reverse_cons, List.reverse_cons]
    exact r2.reverse.append (VRs.one r1)
section
variable {z : Z} {ms ms' : MS} {env : Env} {pos : Pos}
theorem SH.extNew {h h' : Heap} (x : SH z ms h) (e : Heap.ExtBut h.objs.size h h') : SH z ms h' ∧ Keep h h' := by
  have all : ∀ b o, h.get? b = some o → h'.get? b = some o := fun b o q => e b o (Nat.ne_of_lt (Heap.lt_size q)) q
  exact ⟨x.grow (Keep.of_all all) all, Keep.of_all all⟩
theorem st_bind {x : Str} {d : MV} {Q : MS → Prop} (he : EnvOk z env) (hx : env.kindOf x = some .local) (q : Q ⟨updL ms.loc x d, ms.sto⟩) : StV z (bindName env x) d ms Q := by
  intro u s ok sh ru
  obtain ⟨m, n, _⟩ := sh.ns
  refine wpAny_bindName (wpAny_storeName_local hx (he.locals ▸ n) (fun h' n' e => ?_) (by rw [he.kind]; rfl))
  rw [he.locals] at n' e
  have p := sh.setL (h' := h') (m' := m) (y := x) (d := d) (u := u) (fun m₂ n₂ => by
    obtain ⟨o, es, ep, a1, a2, a3, a4⟩ := n
    obtain ⟨o', es', ep', b1, b2, b3, b4⟩ := n₂
    rw [a1] at b1; cases b1
    rw [a2] at b2; cases b2
    have : m = m₂ := funext fun y => (a4 y).symm.trans (b4 y)
    rw [← this]; exact n') e ru
  exact ⟨ok, p.2, (), _, p.1, trivial, q⟩
/-- a, b = .. : a plain tuple is taken apart -/
theorem st_tuple {elts : List Expr} {k : Nat} {ds : List MV} {Q : MS → Prop} (hn : (assignEach elts env).length = ds.length) (hf : List.findIdx? (fun x => x.fst) (assignEach elts env) = none)
    (h : StAll z (List.map (fun x => x.snd) (assignEach elts env)) ds ms Q) : StV z (assign (.Tuple elts k pos) env) (.tup false ds) ms Q := by
  intro u s ok sh ru
  obtain ⟨a, items, n, rfl, e, rs⟩ := vr_tup.mp ru
  refine wpAny_assign_Tuple z.hd ⟨_, e, rfl, _, rfl⟩ (by rw [hn, arr_len rs]) hf fun h' ex => ?_
  obtain ⟨sh', k'⟩ := sh.extNew ex
  exact wp_post (stAll_run h ok sh' (rs.keep k')) k' fun _ _ x => x
/-- a, b = x, y with names of this function: stored from the last on -/
theorem s_swap {Q : MF → MS → Prop} {elts : List Expr} {k : Nat} {tpos : Pos} {value : Expr} {names : List Str} (hs : swapsWithSole [.Tuple elts k tpos] value pos.line env = pure false) (hw : swappedStores [.Tuple elts k tpos] value env = pure (some names))
    (h : WV z (eval value env) ms fun d ms₁ => ∃ ds, d = .tup false ds ∧ names.length = ds.length ∧ StAll z (names.reverse.map fun n => bindName env n) ds.reverse ms₁ (Q .next)) : WS z (exec (.Assign [.Tuple elts k tpos] value pos) env) ms Q := by
  intro s ok sh
  refine Assign_Tuple_swapped (names := names) (h.run (R' := FR) ok sh fun u d ms₁ s₁ ok₁ k₁ sh₁ ru ⟨ds, hd, hn, q₁⟩ => ?_) hs hw
  subst hd
  obtain ⟨a, items, n, rfl, e, rs⟩ := vr_tup.mp ru
  rw [hn, ← arr_len rs]
  refine unpackItems_tuple z.hd ⟨_, e, rfl, _, rfl⟩ fun h' ex => ?_
  obtain ⟨sh', k'⟩ := sh₁.extNew ex
  refine wpAny_mono (stAll_run q₁ ok₁ sh' (rs.keep k').reverse) (fun _ s₂ p => ?_) fun _ _ x => x
  obtain ⟨ok₂, k₂, _, ms₂, sh₂, _, q₂⟩ := p
  exact post_at ok₂ ((k₁.trans k').trans k₂) sh₂ frN q₂
/-- x += e -/
theorem s_aug {Q : MF → MS → Prop} {x : Str} {npos : Pos} {op : Operator} {value : Expr} {d₀ : MV} (he : EnvOk z env) (hx : env.kindOf x = some .local) (h₀ : ms.loc x = some d₀)
    (h : WV z (eval value env) ms fun d ms₁ => Op2 z (inplaceOp op) d₀ d ms₁ fun r ms₂ => Q .next ⟨updL ms₂.loc x r, ms₂.sto⟩) : WS z (exec (.AugAssign (.Name x npos) op value pos) env) ms Q := by
  intro s ok sh
  refine PySem.wpAny_AugAssign_Name ?_
  obtain ⟨m, n, r⟩ := sh.ns
  obtain ⟨u₀, e₀, r₀⟩ := r x d₀ h₀
  refine wpAny_loadName_local he.kind hx (he.locals ▸ n) e₀ ?_
  refine h.run (R' := FR) ok sh fun u d ms₁ s₁ ok₁ k₁ sh₁ ru q₁ => ?_
  refine wpAny_mono (q₁ u₀ u s₁ ok₁ sh₁ (r₀.keep k₁) ru) (fun v s₂ p => ?_) fun _ _ x => x
  obtain ⟨ok₂, k₂, d₂, ms₂, sh₂, rv, q₂⟩ := p
  obtain ⟨m', n', _⟩ := sh₂.ns
  refine wpAny_storeName_local hx (he.locals ▸ n') (fun h' n₃ e => ?_) (by rw [he.kind]; rfl)
  rw [he.locals] at n₃ e
  have p := sh₂.setL (h' := h') (m' := m') (y := x) (d := d₂) (u := v) (fun m₂ n₂ => by
    obtain ⟨o, es, ep, a1, a2, a3, a4⟩ := n'
    obtain ⟨o', es', ep', b1, b2, b3, b4⟩ := n₂
    rw [a1] at b1; cases b1
    rw [a2] at b2; cases b2
    have : m' = m₂ := funext fun y => (a4 y).symm.trans (b4 y)
    rw [← this]; exact n₃) e rv
  exact post_at (d := MF.next) ok₂ ((k₁.trans k₂).trans p.2) p.1 frN q₂
variable {Q : MV → MS → Prop}
theorem op_iadd {i j : Int} (q : Q (.int (i + j)) ms) : Op2 z (inplaceOp .Add) (.int i) (.int j) ms Q := by
  intro u v s ok sh ru rv
  obtain ⟨t, rfl⟩ := vr_int.mp ru
  obtain ⟨t', rfl⟩ := vr_int.mp rv
  exact PyProof.Rows.iadd_int (post_tok ok sh (vr_int.mpr ⟨_, rfl⟩) q)
theorem op_rshift1 {i : Int} (h0 : 0 ≤ i) (q : Q (.int (i / 2)) ms) : Op2 z (binaryOp .RShift) (.int i) (.int 1) ms Q := by
  intro u v s ok sh ru rv
  obtain ⟨t, rfl⟩ := vr_int.mp ru
  obtain ⟨t', rfl⟩ := vr_int.mp rv
  exact PySem.wpAny_rshift1_int h0 (post_tok ok sh (vr_int.mpr ⟨_, rfl⟩) q)
theorem op_mul {i j : Int} (hi : 0 ≤ i ∧ i ≤ 1000) (hj : 0 ≤ j ∧ j ≤ 100000) (q : Q (.int (i * j)) ms) : Op2 z (binaryOp .Mult) (.int i) (.int j) ms Q := by
  intro u v s ok sh ru rv
  obtain ⟨t, rfl⟩ := vr_int.mp ru
  obtain ⟨t', rfl⟩ := vr_int.mp rv
  obtain ⟨h1, h2⟩ := hi
  obtain ⟨h3, h4⟩ := hj
  exact PyProof.Rows.mul_int (post_tok ok sh (vr_int.mpr ⟨_, rfl⟩) q)
theorem op_floordiv {i j : Int} (he : EnvOk z env) (hj : j ≠ 0) (hr : z.A.depth ≤ 500) (q : Q (.int (i.fdiv j)) ms) : Op2 z (binaryOp .FloorDiv) (.int i) (.int j) ms Q := by
  intro u v s ok sh ru rv
  obtain ⟨t, rfl⟩ := vr_int.mp ru
  obtain ⟨t', rfl⟩ := vr_int.mp rv
  obtain ⟨l, hl⟩ := he.top
  refine PyProof.Rows.floordiv_int hj (post_tok ok sh (vr_int.mpr ⟨_, rfl⟩) q) (.inr (PylongRoom.of sh.top.nolimit ?_ (SeerAt.of (z.S.keeps sh.all) rfl hl he.gen he.co he.builtins he.globals)))
  have : Builtin.pylongFrames ≤ 200 := by decide
  show z.A.depth + _ < 1000
  omega
end
end Mine
end

/-! Fns -/
section
open PySem PySem.W PyProof.Rows
set_option Elab.async false
set_option maxRecDepth 100000
set_option maxHeartbeats 1000000
set_option linter.unusedVariables false
namespace Mine
theorem EnvOk.hi {z : Z} {env : Env} (he : EnvOk z env) : interactive env = false := by
  unfold interactive
  rw [he.kind]; rfl
theorem Rm.units {z : Z} {k : Nat} (r : Rm z k) : z.A.units + 1 < cLine := Nat.lt_of_le_of_lt (by have := r.2; omega : z.A.units + 1 ≤ 1001) (by decide)
variable {z : Z} {ms : MS} {Q : MV → MS → Prop}
noncomputable def F253 : FuncData := match (fnO (cell 7) "heappush" (.none) (.str (docAt (cell 7)) 584) (.str "cpy313.heapq" 575) none 252).data with | .func fd => fd | _ => default
noncomputable def E253 (L : Addr) : Env := callEnv F253 L 253
theorem c253 {k : Nat} {d0 d1 : MV} (hr : Rm z (k + 1)) (H : ∀ z' L', z'.w = z.w → EnvOk z' (E253 L') → Rm z' k → WS z' (execs (bodyOf (cell 7)) (E253 L')) ⟨fun x => ([("heap", d0), ("item", d1)] : List (Str × MV)).reverse.lookup x, ms.sto⟩ (RetQ ms.loc Q)) : CallV z (.ref 253) [d0, d1] ms Q := by
  refine CallC.v (c_defC (k := k) (c := 252) (st := cell 7) (qual := "heappush") (dV := .none) (doc := .str (docAt (cell 7)) 584) (pm := .str "cpy313.heapq" 575) (an := none) F253 E253 [("heap", d0), ("item", d1)] hr (fun q => by kernel_rfl) (fun q => by kernel_rfl) (by rfl) (fun L => rfl) ?_ (by kernel_rfl) (by kernel_rfl) (by kernel_rfl) H)
  intro us s X rs
  obtain ⟨u0, r0, rfl, v0, rs⟩ := vrs_cons.mp rs
  obtain ⟨u1, r1, rfl, v1, rs⟩ := vrs_cons.mp rs
  obtain rfl := vrs_nil.mp rs
  exact ⟨[("heap", u0), ("item", u1)], BindsTo.of_eq (by kernel_rfl), _, _, rfl, v0, _, _, rfl, v1, rfl⟩
noncomputable def F260 : FuncData := match (fnO (cell 8) "heappop" (.none) (.str (docAt (cell 8)) 594) (.str "cpy313.heapq" 575) none 259).data with | .func fd => fd | _ => default
noncomputable def E260 (L : Addr) : Env := callEnv F260 L 260
theorem c260 {k : Nat} {d0 : MV} (hr : Rm z (k + 1)) (H : ∀ z' L', z'.w = z.w → EnvOk z' (E260 L') → Rm z' k → WS z' (execs (bodyOf (cell 8)) (E260 L')) ⟨fun x => ([("heap", d0)] : List (Str × MV)).reverse.lookup x, ms.sto⟩ (RetQ ms.loc Q)) : CallV z (.ref 260) [d0] ms Q := by
  refine CallC.v (c_defC (k := k) (c := 259) (st := cell 8) (qual := "heappop") (dV := .none) (doc := .str (docAt (cell 8)) 594) (pm := .str "cpy313.heapq" 575) (an := none) F260 E260 [("heap", d0)] hr (fun q => by kernel_rfl) (fun q => by kernel_rfl) (by rfl) (fun L => rfl) ?_ (by kernel_rfl) (by kernel_rfl) (by kernel_rfl) H)
  intro us s X rs
  obtain ⟨u0, r0, rfl, v0, rs⟩ := vrs_cons.mp rs
  obtain rfl := vrs_nil.mp rs
  exact ⟨[("heap", u0)], BindsTo.of_eq (by kernel_rfl), _, _, rfl, v0, rfl⟩
noncomputable def F267 : FuncData := match (fnO (cell 9) "heapreplace" (.none) (.str (docAt (cell 9)) 604) (.str "cpy313.heapq" 575) none 266).data with | .func fd => fd | _ => default
noncomputable def E267 (L : Addr) : Env := callEnv F267 L 267
theorem c267 {k : Nat} {d0 d1 : MV} (hr : Rm z (k + 1)) (H : ∀ z' L', z'.w = z.w → EnvOk z' (E267 L') → Rm z' k → WS z' (execs (bodyOf (cell 9)) (E267 L')) ⟨fun x => ([("heap", d0), ("item", d1)] : List (Str × MV)).reverse.lookup x, ms.sto⟩ (RetQ ms.loc Q)) : CallV z (.ref 267) [d0, d1] ms Q := by
  refine CallC.v (c_defC (k := k) (c := 266) (st := cell 9) (qual := "heapreplace") (dV := .none) (doc := .str (docAt (cell 9)) 604) (pm := .str "cpy313.heapq" 575) (an := none) F267 E267 [("heap", d0), ("item", d1)] hr (fun q => by kernel_rfl) (fun q => by kernel_rfl) (by rfl) (fun L => rfl) ?_ (by kernel_rfl) (by kernel_rfl) (by kernel_rfl) H)
  intro us s X rs
  obtain ⟨u0, r0, rfl, v0, rs⟩ := vrs_cons.mp rs
  obtain ⟨u1, r1, rfl, v1, rs⟩ := vrs_cons.mp rs
  obtain rfl := vrs_nil.mp rs
  exact ⟨[("heap", u0), ("item", u1)], BindsTo.of_eq (by kernel_rfl), _, _, rfl, v0, _, _, rfl, v1, rfl⟩
noncomputable def F274 : FuncData := match (fnO (cell 10) "_siftdown" (.none) (.none) (.str "cpy313.heapq" 575) none 273).data with | .func fd => fd | _ => default
noncomputable def E274 (L : Addr) : Env := callEnv F274 L 274
theorem c274 {k : Nat} {d0 d1 d2 : MV} (hr : Rm z (k + 1)) (H : ∀ z' L', z'.w = z.w → EnvOk z' (E274 L') → Rm z' k → WS z' (execs (bodyOf (cell 10)) (E274 L')) ⟨fun x => ([("heap", d0), ("startpos", d1), ("pos", d2)] : List (Str × MV)).reverse.lookup x, ms.sto⟩ (RetQ ms.loc Q)) : CallV z (.ref 274) [d0, d1, d2] ms Q := by
  refine CallC.v (c_defC (k := k) (c := 273) (st := cell 10) (qual := "_siftdown") (dV := .none) (doc := .none) (pm := .str "cpy313.heapq" 575) (an := none) F274 E274 [("heap", d0), ("startpos", d1), ("pos", d2)] hr (fun q => by kernel_rfl) (fun q => by kernel_rfl) (by rfl) (fun L => rfl) ?_ (by kernel_rfl) (by kernel_rfl) (by kernel_rfl) H)
  intro us s X rs
  obtain ⟨u0, r0, rfl, v0, rs⟩ := vrs_cons.mp rs
  obtain ⟨u1, r1, rfl, v1, rs⟩ := vrs_cons.mp rs
  obtain ⟨u2, r2, rfl, v2, rs⟩ := vrs_cons.mp rs
  obtain rfl := vrs_nil.mp rs
  exact ⟨[("heap", u0), ("startpos", u1), ("pos", u2)], BindsTo.of_eq (by kernel_rfl), _, _, rfl, v0, _, _, rfl, v1, _, _, rfl, v2, rfl⟩
noncomputable def F281 : FuncData := match (fnO (cell 11) "_siftup" (.none) (.none) (.str "cpy313.heapq" 575) none 280).data with | .func fd => fd | _ => default
noncomputable def E281 (L : Addr) : Env := callEnv F281 L 281
theorem c281 {k : Nat} {d0 d1 : MV} (hr : Rm z (k + 1)) (H : ∀ z' L', z'.w = z.w → EnvOk z' (E281 L') → Rm z' k → WS z' (execs (bodyOf (cell 11)) (E281 L')) ⟨fun x => ([("heap", d0), ("pos", d1)] : List (Str × MV)).reverse.lookup x, ms.sto⟩ (RetQ ms.loc Q)) : CallV z (.ref 281) [d0, d1] ms Q := by
  refine CallC.v (c_defC (k := k) (c := 280) (st := cell 11) (qual := "_siftup") (dV := .none) (doc := .none) (pm := .str "cpy313.heapq" 575) (an := none) F281 E281 [("heap", d0), ("pos", d1)] hr (fun q => by kernel_rfl) (fun q => by kernel_rfl) (by rfl) (fun L => rfl) ?_ (by kernel_rfl) (by kernel_rfl) (by kernel_rfl) H)
  intro us s X rs
  obtain ⟨u0, r0, rfl, v0, rs⟩ := vrs_cons.mp rs
  obtain ⟨u1, r1, rfl, v1, rs⟩ := vrs_cons.mp rs
  obtain rfl := vrs_nil.mp rs
  exact ⟨[("heap", u0), ("pos", u1)], BindsTo.of_eq (by kernel_rfl), _, _, rfl, v0, _, _, rfl, v1, rfl⟩
noncomputable def F288 : FuncData := match (fnO (cell 13) "_law_lists" (.none) (.none) (.str "law_kl0397_01" 631) none 287).data with | .func fd => fd | _ => default
noncomputable def E288 (L : Addr) : Env := callEnv F288 L 288
theorem c288 {k : Nat} {d0 : MV} (hr : Rm z (k + 1)) (H : ∀ z' L', z'.w = z.w → EnvOk z' (E288 L') → Rm z' k → WS z' (execs (bodyOf (cell 13)) (E288 L')) ⟨fun x => ([("numbers", d0)] : List (Str × MV)).reverse.lookup x, ms.sto⟩ (RetQ ms.loc Q)) : CallV z (.ref 288) [d0] ms Q := by
  refine CallC.v (c_defC (k := k) (c := 287) (st := cell 13) (qual := "_law_lists") (dV := .none) (doc := .none) (pm := .str "law_kl0397_01" 631) (an := none) F288 E288 [("numbers", d0)] hr (fun q => by kernel_rfl) (fun q => by kernel_rfl) (by rfl) (fun L => rfl) ?_ (by kernel_rfl) (by kernel_rfl) (by kernel_rfl) H)
  intro us s X rs
  obtain ⟨u0, r0, rfl, v0, rs⟩ := vrs_cons.mp rs
  obtain rfl := vrs_nil.mp rs
  exact ⟨[("numbers", u0)], BindsTo.of_eq (by kernel_rfl), _, _, rfl, v0, rfl⟩
noncomputable def F295 : FuncData := match (fnO (cell 14) "_law_runs" (.none) (.none) (.str "law_kl0397_01" 631) none 294).data with | .func fd => fd | _ => default
noncomputable def E295 (L : Addr) : Env := callEnv F295 L 295
theorem c295 {k : Nat} {d0 d1 : MV} (hr : Rm z (k + 1)) (H : ∀ z' L', z'.w = z.w → EnvOk z' (E295 L') → Rm z' k → WS z' (execs (bodyOf (cell 14)) (E295 L')) ⟨fun x => ([("one", d0), ("two", d1)] : List (Str × MV)).reverse.lookup x, ms.sto⟩ (RetQ ms.loc Q)) : CallV z (.ref 295) [d0, d1] ms Q := by
  refine CallC.v (c_defC (k := k) (c := 294) (st := cell 14) (qual := "_law_runs") (dV := .none) (doc := .none) (pm := .str "law_kl0397_01" 631) (an := none) F295 E295 [("one", d0), ("two", d1)] hr (fun q => by kernel_rfl) (fun q => by kernel_rfl) (by rfl) (fun L => rfl) ?_ (by kernel_rfl) (by kernel_rfl) (by kernel_rfl) H)
  intro us s X rs
  obtain ⟨u0, r0, rfl, v0, rs⟩ := vrs_cons.mp rs
  obtain ⟨u1, r1, rfl, v1, rs⟩ := vrs_cons.mp rs
  obtain rfl := vrs_nil.mp rs
  exact ⟨[("one", u0), ("two", u1)], BindsTo.of_eq (by kernel_rfl), _, _, rfl, v0, _, _, rfl, v1, rfl⟩
noncomputable def F302 : FuncData := match (fnO (cell 15) "_law_due" (.none) (.none) (.str "law_kl0397_01" 631) none 301).data with | .func fd => fd | _ => default
noncomputable def E302 (L : Addr) : Env := callEnv F302 L 302
theorem c302 {k : Nat} {d0 d1 : MV} (hr : Rm z (k + 1)) (H : ∀ z' L', z'.w = z.w → EnvOk z' (E302 L') → Rm z' k → WS z' (execs (bodyOf (cell 15)) (E302 L')) ⟨fun x => ([("one", d0), ("two", d1)] : List (Str × MV)).reverse.lookup x, ms.sto⟩ (RetQ ms.loc Q)) : CallV z (.ref 302) [d0, d1] ms Q := by
  refine CallC.v (c_defC (k := k) (c := 301) (st := cell 15) (qual := "_law_due") (dV := .none) (doc := .none) (pm := .str "law_kl0397_01" 631) (an := none) F302 E302 [("one", d0), ("two", d1)] hr (fun q => by kernel_rfl) (fun q => by kernel_rfl) (by rfl) (fun L => rfl) ?_ (by kernel_rfl) (by kernel_rfl) (by kernel_rfl) H)
  intro us s X rs
  obtain ⟨u0, r0, rfl, v0, rs⟩ := vrs_cons.mp rs
  obtain ⟨u1, r1, rfl, v1, rs⟩ := vrs_cons.mp rs
  obtain rfl := vrs_nil.mp rs
  exact ⟨[("one", u0), ("two", u1)], BindsTo.of_eq (by kernel_rfl), _, _, rfl, v0, _, _, rfl, v1, rfl⟩
noncomputable def F309 : FuncData := match (fnO (cell 16) "_law_entry" (.none) (.none) (.str "law_kl0397_01" 631) none 308).data with | .func fd => fd | _ => default
noncomputable def E309 (L : Addr) : Env := callEnv F309 L 309
theorem c309 {k : Nat} {d0 d1 d2 d3 d4 : MV} (hr : Rm z (k + 1)) (H : ∀ z' L', z'.w = z.w → EnvOk z' (E309 L') → Rm z' k → WS z' (execs (bodyOf (cell 16)) (E309 L')) ⟨fun x => ([("matcher", d0), ("alo", d1), ("ahi", d2), ("blo", d3), ("bhi", d4)] : List (Str × MV)).reverse.lookup x, ms.sto⟩ (RetQ ms.loc Q)) : CallV z (.ref 309) [d0, d1, d2, d3, d4] ms Q := by
  refine CallC.v (c_defC (k := k) (c := 308) (st := cell 16) (qual := "_law_entry") (dV := .none) (doc := .none) (pm := .str "law_kl0397_01" 631) (an := none) F309 E309 [("matcher", d0), ("alo", d1), ("ahi", d2), ("blo", d3), ("bhi", d4)] hr (fun q => by kernel_rfl) (fun q => by kernel_rfl) (by rfl) (fun L => rfl) ?_ (by kernel_rfl) (by kernel_rfl) (by kernel_rfl) H)
  intro us s X rs
  obtain ⟨u0, r0, rfl, v0, rs⟩ := vrs_cons.mp rs
  obtain ⟨u1, r1, rfl, v1, rs⟩ := vrs_cons.mp rs
  obtain ⟨u2, r2, rfl, v2, rs⟩ := vrs_cons.mp rs
  obtain ⟨u3, r3, rfl, v3, rs⟩ := vrs_cons.mp rs
  obtain ⟨u4, r4, rfl, v4, rs⟩ := vrs_cons.mp rs
  obtain rfl := vrs_nil.mp rs
  exact ⟨[("matcher", u0), ("alo", u1), ("ahi", u2), ("blo", u3), ("bhi", u4)], BindsTo.of_eq (by kernel_rfl), _, _, rfl, v0, _, _, rfl, v1, _, _, rfl, v2, _, _, rfl, v3, _, _, rfl, v4, rfl⟩
noncomputable def F316 : FuncData := match (fnO (cell 17) "_law_told" (.none) (.none) (.str "law_kl0397_01" 631) none 315).data with | .func fd => fd | _ => default
noncomputable def E316 (L : Addr) : Env := callEnv F316 L 316
theorem c316 {k : Nat} {d0 d1 d2 : MV} (hr : Rm z (k + 1)) (H : ∀ z' L', z'.w = z.w → EnvOk z' (E316 L') → Rm z' k → WS z' (execs (bodyOf (cell 17)) (E316 L')) ⟨fun x => ([("matcher", d0), ("one", d1), ("two", d2)] : List (Str × MV)).reverse.lookup x, ms.sto⟩ (RetQ ms.loc Q)) : CallV z (.ref 316) [d0, d1, d2] ms Q := by
  refine CallC.v (c_defC (k := k) (c := 315) (st := cell 17) (qual := "_law_told") (dV := .none) (doc := .none) (pm := .str "law_kl0397_01" 631) (an := none) F316 E316 [("matcher", d0), ("one", d1), ("two", d2)] hr (fun q => by kernel_rfl) (fun q => by kernel_rfl) (by rfl) (fun L => rfl) ?_ (by kernel_rfl) (by kernel_rfl) (by kernel_rfl) H)
  intro us s X rs
  obtain ⟨u0, r0, rfl, v0, rs⟩ := vrs_cons.mp rs
  obtain ⟨u1, r1, rfl, v1, rs⟩ := vrs_cons.mp rs
  obtain ⟨u2, r2, rfl, v2, rs⟩ := vrs_cons.mp rs
  obtain rfl := vrs_nil.mp rs
  exact ⟨[("matcher", u0), ("one", u1), ("two", u2)], BindsTo.of_eq (by kernel_rfl), _, _, rfl, v0, _, _, rfl, v1, _, _, rfl, v2, rfl⟩
noncomputable def F321 : FuncData := match (fnO (cell 18) "law" (.none) (.none) (.str "law_kl0397_01" 631) none 320).data with | .func fd => fd | _ => default
noncomputable def E321 (L : Addr) : Env := callEnv F321 L 321
theorem c321 {k : Nat} {d0 : MV} (hr : Rm z (k + 1)) (H : ∀ z' L', z'.w = z.w → EnvOk z' (E321 L') → Rm z' k → WS z' (execs (bodyOf (cell 18)) (E321 L')) ⟨fun x => ([("script", d0)] : List (Str × MV)).reverse.lookup x, ms.sto⟩ (RetQ ms.loc Q)) : CallV z (.ref 321) [d0] ms Q := by
  refine CallC.v (c_defC (k := k) (c := 320) (st := cell 18) (qual := "law") (dV := .none) (doc := .none) (pm := .str "law_kl0397_01" 631) (an := none) F321 E321 [("script", d0)] hr (fun q => by kernel_rfl) (fun q => by kernel_rfl) (by rfl) (fun L => rfl) ?_ (by kernel_rfl) (by kernel_rfl) (by kernel_rfl) H)
  intro us s X rs
  obtain ⟨u0, r0, rfl, v0, rs⟩ := vrs_cons.mp rs
  obtain rfl := vrs_nil.mp rs
  exact ⟨[("script", u0)], BindsTo.of_eq (by kernel_rfl), _, _, rfl, v0, rfl⟩
noncomputable def F160 : FuncData := match (fnO (meth 5 1) "SequenceMatcher.__init__" (.ref 153) (.str (docAt (meth 5 1)) 416) (.str "cpy313.difflib" 194) none 159).data with | .func fd => fd | _ => default
noncomputable def E160 (L : Addr) : Env := callEnv F160 L 160
theorem c160 {k : Nat} {d0 d1 d2 d3 : MV} (hr : Rm z (k + 1)) (H : ∀ z' L', z'.w = z.w → EnvOk z' (E160 L') → Rm z' k → WS z' (execs (bodyOf (meth 5 1)) (E160 L')) ⟨fun x => ([("self", d0), ("isjunk", d1), ("a", d2), ("b", d3), ("autojunk", .bool true)] : List (Str × MV)).reverse.lookup x, ms.sto⟩ (RetQ ms.loc Q)) : CallC z (.ref 160) [d0, d1, d2, d3] ms Q := by
  refine c_defC (k := k) (c := 159) (st := meth 5 1) (qual := "SequenceMatcher.__init__") (dV := .ref 153) (doc := .str (docAt (meth 5 1)) 416) (pm := .str "cpy313.difflib" 194) (an := none) F160 E160 [("self", d0), ("isjunk", d1), ("a", d2), ("b", d3), ("autojunk", .bool true)] hr (fun q => by kernel_rfl) (fun q => by kernel_rfl) (by rfl) (fun L => rfl) ?_ (by kernel_rfl) (by kernel_rfl) (by kernel_rfl) H
  intro us s X rs
  obtain ⟨u0, r0, rfl, v0, rs⟩ := vrs_cons.mp rs
  obtain ⟨u1, r1, rfl, v1, rs⟩ := vrs_cons.mp rs
  obtain ⟨u2, r2, rfl, v2, rs⟩ := vrs_cons.mp rs
  obtain ⟨u3, r3, rfl, v3, rs⟩ := vrs_cons.mp rs
  obtain rfl := vrs_nil.mp rs
  exact ⟨[("self", u0), ("isjunk", u1), ("a", u2), ("b", u3), ("autojunk", .bool true)], BindsTo.of_defaults (T := 153) (n := 0) (k := _) (by rfl) (X _ _ (show (K z.w.params).lookup 153 = some { cls := .type "tuple", dict := none, data := .seq (Array.mk [.none, .str "" 404, .str "" 405, .bool true]) 0, slots := Array.mk [] } by kernel_rfl)) (by rfl) (by rfl) (by kernel_rfl), _, _, rfl, v0, _, _, rfl, v1, _, _, rfl, v2, _, _, rfl, v3, _, _, rfl, vr_bool.mpr rfl, rfl⟩
noncomputable def F167 : FuncData := match (fnO (meth 5 2) "SequenceMatcher.set_seqs" (.none) (.str (docAt (meth 5 2)) 426) (.str "cpy313.difflib" 194) none 166).data with | .func fd => fd | _ => default
noncomputable def E167 (L : Addr) : Env := callEnv F167 L 167
theorem c167 {k : Nat} {d0 d1 d2 : MV} (hr : Rm z (k + 1)) (H : ∀ z' L', z'.w = z.w → EnvOk z' (E167 L') → Rm z' k → WS z' (execs (bodyOf (meth 5 2)) (E167 L')) ⟨fun x => ([("self", d0), ("a", d1), ("b", d2)] : List (Str × MV)).reverse.lookup x, ms.sto⟩ (RetQ ms.loc Q)) : CallV z (.ref 167) [d0, d1, d2] ms Q := by
  refine CallC.v (c_defC (k := k) (c := 166) (st := meth 5 2) (qual := "SequenceMatcher.set_seqs") (dV := .none) (doc := .str (docAt (meth 5 2)) 426) (pm := .str "cpy313.difflib" 194) (an := none) F167 E167 [("self", d0), ("a", d1), ("b", d2)] hr (fun q => by kernel_rfl) (fun q => by kernel_rfl) (by rfl) (fun L => rfl) ?_ (by kernel_rfl) (by kernel_rfl) (by kernel_rfl) H)
  intro us s X rs
  obtain ⟨u0, r0, rfl, v0, rs⟩ := vrs_cons.mp rs
  obtain ⟨u1, r1, rfl, v1, rs⟩ := vrs_cons.mp rs
  obtain ⟨u2, r2, rfl, v2, rs⟩ := vrs_cons.mp rs
  obtain rfl := vrs_nil.mp rs
  exact ⟨[("self", u0), ("a", u1), ("b", u2)], BindsTo.of_eq (by kernel_rfl), _, _, rfl, v0, _, _, rfl, v1, _, _, rfl, v2, rfl⟩
noncomputable def F174 : FuncData := match (fnO (meth 5 3) "SequenceMatcher.set_seq1" (.none) (.str (docAt (meth 5 3)) 435) (.str "cpy313.difflib" 194) none 173).data with | .func fd => fd | _ => default
noncomputable def E174 (L : Addr) : Env := callEnv F174 L 174
theorem c174 {k : Nat} {d0 d1 : MV} (hr : Rm z (k + 1)) (H : ∀ z' L', z'.w = z.w → EnvOk z' (E174 L') → Rm z' k → WS z' (execs (bodyOf (meth 5 3)) (E174 L')) ⟨fun x => ([("self", d0), ("a", d1)] : List (Str × MV)).reverse.lookup x, ms.sto⟩ (RetQ ms.loc Q)) : CallV z (.ref 174) [d0, d1] ms Q := by
  refine CallC.v (c_defC (k := k) (c := 173) (st := meth 5 3) (qual := "SequenceMatcher.set_seq1") (dV := .none) (doc := .str (docAt (meth 5 3)) 435) (pm := .str "cpy313.difflib" 194) (an := none) F174 E174 [("self", d0), ("a", d1)] hr (fun q => by kernel_rfl) (fun q => by kernel_rfl) (by rfl) (fun L => rfl) ?_ (by kernel_rfl) (by kernel_rfl) (by kernel_rfl) H)
  intro us s X rs
  obtain ⟨u0, r0, rfl, v0, rs⟩ := vrs_cons.mp rs
  obtain ⟨u1, r1, rfl, v1, rs⟩ := vrs_cons.mp rs
  obtain rfl := vrs_nil.mp rs
  exact ⟨[("self", u0), ("a", u1)], BindsTo.of_eq (by kernel_rfl), _, _, rfl, v0, _, _, rfl, v1, rfl⟩
noncomputable def F181 : FuncData := match (fnO (meth 5 4) "SequenceMatcher.set_seq2" (.none) (.str (docAt (meth 5 4)) 444) (.str "cpy313.difflib" 194) none 180).data with | .func fd => fd | _ => default
noncomputable def E181 (L : Addr) : Env := callEnv F181 L 181
theorem c181 {k : Nat} {d0 d1 : MV} (hr : Rm z (k + 1)) (H : ∀ z' L', z'.w = z.w → EnvOk z' (E181 L') → Rm z' k → WS z' (execs (bodyOf (meth 5 4)) (E181 L')) ⟨fun x => ([("self", d0), ("b", d1)] : List (Str × MV)).reverse.lookup x, ms.sto⟩ (RetQ ms.loc Q)) : CallV z (.ref 181) [d0, d1] ms Q := by
  refine CallC.v (c_defC (k := k) (c := 180) (st := meth 5 4) (qual := "SequenceMatcher.set_seq2") (dV := .none) (doc := .str (docAt (meth 5 4)) 444) (pm := .str "cpy313.difflib" 194) (an := none) F181 E181 [("self", d0), ("b", d1)] hr (fun q => by kernel_rfl) (fun q => by kernel_rfl) (by rfl) (fun L => rfl) ?_ (by kernel_rfl) (by kernel_rfl) (by kernel_rfl) H)
  intro us s X rs
  obtain ⟨u0, r0, rfl, v0, rs⟩ := vrs_cons.mp rs
  obtain ⟨u1, r1, rfl, v1, rs⟩ := vrs_cons.mp rs
  obtain rfl := vrs_nil.mp rs
  exact ⟨[("self", u0), ("b", u1)], BindsTo.of_eq (by kernel_rfl), _, _, rfl, v0, _, _, rfl, v1, rfl⟩
noncomputable def F188 : FuncData := match (fnO (meth 5 5) "SequenceMatcher.__chain_b" (.none) (.none) (.str "cpy313.difflib" 194) none 187).data with | .func fd => fd | _ => default
noncomputable def E188 (L : Addr) : Env := callEnv F188 L 188
theorem c188 {k : Nat} {d0 : MV} (hr : Rm z (k + 1)) (H : ∀ z' L', z'.w = z.w → EnvOk z' (E188 L') → Rm z' k → WS z' (execs (bodyOf (meth 5 5)) (E188 L')) ⟨fun x => ([("self", d0)] : List (Str × MV)).reverse.lookup x, ms.sto⟩ (RetQ ms.loc Q)) : CallV z (.ref 188) [d0] ms Q := by
  refine CallC.v (c_defC (k := k) (c := 187) (st := meth 5 5) (qual := "SequenceMatcher.__chain_b") (dV := .none) (doc := .none) (pm := .str "cpy313.difflib" 194) (an := none) F188 E188 [("self", d0)] hr (fun q => by kernel_rfl) (fun q => by kernel_rfl) (by rfl) (fun L => rfl) ?_ (by kernel_rfl) (by kernel_rfl) (by kernel_rfl) H)
  intro us s X rs
  obtain ⟨u0, r0, rfl, v0, rs⟩ := vrs_cons.mp rs
  obtain rfl := vrs_nil.mp rs
  exact ⟨[("self", u0)], BindsTo.of_eq (by kernel_rfl), _, _, rfl, v0, rfl⟩
noncomputable def F196 : FuncData := match (fnO (meth 5 6) "SequenceMatcher.find_longest_match" (.ref 189) (.str (docAt (meth 5 6)) 490) (.str "cpy313.difflib" 194) none 195).data with | .func fd => fd | _ => default
noncomputable def E196 (L : Addr) : Env := callEnv F196 L 196
theorem c196 {k : Nat} {d0 d1 d2 d3 d4 : MV} (hr : Rm z (k + 1)) (H : ∀ z' L', z'.w = z.w → EnvOk z' (E196 L') → Rm z' k → WS z' (execs (bodyOf (meth 5 6)) (E196 L')) ⟨fun x => ([("self", d0), ("alo", d1), ("ahi", d2), ("blo", d3), ("bhi", d4)] : List (Str × MV)).reverse.lookup x, ms.sto⟩ (RetQ ms.loc Q)) : CallV z (.ref 196) [d0, d1, d2, d3, d4] ms Q := by
  refine CallC.v (c_defC (k := k) (c := 195) (st := meth 5 6) (qual := "SequenceMatcher.find_longest_match") (dV := .ref 189) (doc := .str (docAt (meth 5 6)) 490) (pm := .str "cpy313.difflib" 194) (an := none) F196 E196 [("self", d0), ("alo", d1), ("ahi", d2), ("blo", d3), ("bhi", d4)] hr (fun q => by kernel_rfl) (fun q => by kernel_rfl) (by rfl) (fun L => rfl) ?_ (by kernel_rfl) (by kernel_rfl) (by kernel_rfl) H)
  intro us s X rs
  obtain ⟨u0, r0, rfl, v0, rs⟩ := vrs_cons.mp rs
  obtain ⟨u1, r1, rfl, v1, rs⟩ := vrs_cons.mp rs
  obtain ⟨u2, r2, rfl, v2, rs⟩ := vrs_cons.mp rs
  obtain ⟨u3, r3, rfl, v3, rs⟩ := vrs_cons.mp rs
  obtain ⟨u4, r4, rfl, v4, rs⟩ := vrs_cons.mp rs
  obtain rfl := vrs_nil.mp rs
  exact ⟨[("self", u0), ("alo", u1), ("ahi", u2), ("blo", u3), ("bhi", u4)], BindsTo.of_defaults (T := 189) (n := 0) (k := _) (by rfl) (X _ _ (show (K z.w.params).lookup 189 = some { cls := .type "tuple", dict := none, data := .seq (Array.mk [.int 0 464, .none, .int 0 465, .none]) 0, slots := Array.mk [] } by kernel_rfl)) (by rfl) (by rfl) (by kernel_rfl), _, _, rfl, v0, _, _, rfl, v1, _, _, rfl, v2, _, _, rfl, v3, _, _, rfl, v4, rfl⟩
theorem c196d {k : Nat} {d0 : MV} (hr : Rm z (k + 1)) (H : ∀ z' L', z'.w = z.w → EnvOk z' (E196 L') → Rm z' k → WS z' (execs (bodyOf (meth 5 6)) (E196 L')) ⟨fun x => ([("self", d0), ("alo", .int 0), ("ahi", .none), ("blo", .int 0), ("bhi", .none)] : List (Str × MV)).reverse.lookup x, ms.sto⟩ (RetQ ms.loc Q)) : CallV z (.ref 196) [d0] ms Q := by
  refine CallC.v (c_defC (k := k) (c := 195) (st := meth 5 6) (qual := "SequenceMatcher.find_longest_match") (dV := .ref 189) (doc := .str (docAt (meth 5 6)) 490) (pm := .str "cpy313.difflib" 194) (an := none) F196 E196 [("self", d0), ("alo", .int 0), ("ahi", .none), ("blo", .int 0), ("bhi", .none)] hr (fun q => by kernel_rfl) (fun q => by kernel_rfl) (by rfl) (fun L => rfl) ?_ (by kernel_rfl) (by kernel_rfl) (by kernel_rfl) H)
  intro us s X rs
  obtain ⟨u0, r0, rfl, v0, rs⟩ := vrs_cons.mp rs
  obtain rfl := vrs_nil.mp rs
  exact ⟨[("self", u0), ("alo", .int 0 464), ("ahi", .none), ("blo", .int 0 465), ("bhi", .none)], BindsTo.of_defaults (T := 189) (n := 0) (k := _) (by rfl) (X _ _ (show (K z.w.params).lookup 189 = some { cls := .type "tuple", dict := none, data := .seq (Array.mk [.int 0 464, .none, .int 0 465, .none]) 0, slots := Array.mk [] } by kernel_rfl)) (by rfl) (by rfl) (by kernel_rfl), _, _, rfl, v0, _, _, rfl, vr_int.mpr ⟨_, rfl⟩, _, _, rfl, vr_none.mpr rfl, _, _, rfl, vr_int.mpr ⟨_, rfl⟩, _, _, rfl, vr_none.mpr rfl, rfl⟩
noncomputable def F203 : FuncData := match (fnO (meth 5 7) "SequenceMatcher.get_matching_blocks" (.none) (.str (docAt (meth 5 7)) 517) (.str "cpy313.difflib" 194) none 202).data with | .func fd => fd | _ => default
noncomputable def E203 (L : Addr) : Env := callEnv F203 L 203
theorem c203 {k : Nat} {d0 : MV} (hr : Rm z (k + 1)) (H : ∀ z' L', z'.w = z.w → EnvOk z' (E203 L') → Rm z' k → WS z' (execs (bodyOf (meth 5 7)) (E203 L')) ⟨fun x => ([("self", d0)] : List (Str × MV)).reverse.lookup x, ms.sto⟩ (RetQ ms.loc Q)) : CallV z (.ref 203) [d0] ms Q := by
  refine CallC.v (c_defC (k := k) (c := 202) (st := meth 5 7) (qual := "SequenceMatcher.get_matching_blocks") (dV := .none) (doc := .str (docAt (meth 5 7)) 517) (pm := .str "cpy313.difflib" 194) (an := none) F203 E203 [("self", d0)] hr (fun q => by kernel_rfl) (fun q => by kernel_rfl) (by rfl) (fun L => rfl) ?_ (by kernel_rfl) (by kernel_rfl) (by kernel_rfl) H)
  intro us s X rs
  obtain ⟨u0, r0, rfl, v0, rs⟩ := vrs_cons.mp rs
  obtain rfl := vrs_nil.mp rs
  exact ⟨[("self", u0)], BindsTo.of_eq (by kernel_rfl), _, _, rfl, v0, rfl⟩
noncomputable def F82 : FuncData := match (fnO (meth 3 4) "Match.__new__" (.none) (.str (docAt (meth 3 4)) 283) (.str "cpy313.difflib" 194) none 81).data with | .func fd => fd | _ => default
noncomputable def E82 (L : Addr) : Env := callEnv F82 L 82
theorem c82 {k : Nat} {d0 d1 d2 d3 : MV} (hr : Rm z (k + 1)) (H : ∀ z' L', z'.w = z.w → EnvOk z' (E82 L') → Rm z' k → WS z' (execs (bodyOf (meth 3 4)) (E82 L')) ⟨fun x => ([("_cls", d0), ("a", d1), ("b", d2), ("size", d3)] : List (Str × MV)).reverse.lookup x, ms.sto⟩ (RetQ ms.loc Q)) : CallV z (.ref 82) [d0, d1, d2, d3] ms Q := by
  refine CallC.v (c_defC (k := k) (c := 81) (st := meth 3 4) (qual := "Match.__new__") (dV := .none) (doc := .str (docAt (meth 3 4)) 283) (pm := .str "cpy313.difflib" 194) (an := none) F82 E82 [("_cls", d0), ("a", d1), ("b", d2), ("size", d3)] hr (fun q => by kernel_rfl) (fun q => by kernel_rfl) (by rfl) (fun L => rfl) ?_ (by kernel_rfl) (by kernel_rfl) (by kernel_rfl) H)
  intro us s X rs
  obtain ⟨u0, r0, rfl, v0, rs⟩ := vrs_cons.mp rs
  obtain ⟨u1, r1, rfl, v1, rs⟩ := vrs_cons.mp rs
  obtain ⟨u2, r2, rfl, v2, rs⟩ := vrs_cons.mp rs
  obtain ⟨u3, r3, rfl, v3, rs⟩ := vrs_cons.mp rs
  obtain rfl := vrs_nil.mp rs
  exact ⟨[("_cls", u0), ("a", u1), ("b", u2), ("size", u3)], BindsTo.of_eq (by kernel_rfl), _, _, rfl, v0, _, _, rfl, v1, _, _, rfl, v2, _, _, rfl, v3, rfl⟩
noncomputable def F89 : FuncData := match (fnO (meth 3 5) "Match._make" (.none) (.str (docAt (meth 3 5)) 293) (.str "cpy313.difflib" 194) (some 92) 88).data with | .func fd => fd | _ => default
noncomputable def E89 (L : Addr) : Env := callEnv F89 L 89
theorem c89 {k : Nat} {d0 d1 : MV} (hr : Rm z (k + 1)) (H : ∀ z' L', z'.w = z.w → EnvOk z' (E89 L') → Rm z' k → WS z' (execs (bodyOf (meth 3 5)) (E89 L')) ⟨fun x => ([("cls", d0), ("iterable", d1)] : List (Str × MV)).reverse.lookup x, ms.sto⟩ (RetQ ms.loc Q)) : CallV z (.ref 89) [d0, d1] ms Q := by
  refine CallC.v (c_defC (k := k) (c := 88) (st := meth 3 5) (qual := "Match._make") (dV := .none) (doc := .str (docAt (meth 3 5)) 293) (pm := .str "cpy313.difflib" 194) (an := (some 92)) F89 E89 [("cls", d0), ("iterable", d1)] hr (fun q => by kernel_rfl) (fun q => by kernel_rfl) (by rfl) (fun L => rfl) ?_ (by kernel_rfl) (by kernel_rfl) (by kernel_rfl) H)
  intro us s X rs
  obtain ⟨u0, r0, rfl, v0, rs⟩ := vrs_cons.mp rs
  obtain ⟨u1, r1, rfl, v1, rs⟩ := vrs_cons.mp rs
  obtain rfl := vrs_nil.mp rs
  exact ⟨[("cls", u0), ("iterable", u1)], BindsTo.of_eq (by kernel_rfl), _, _, rfl, v0, _, _, rfl, v1, rfl⟩
end Mine
end

/-! Sd -/
section
open PySem PySem.W PyProof.Rows
set_option Elab.async false
set_option maxRecDepth 100000
set_option maxHeartbeats 1000000
set_option linter.unusedVariables false
namespace Mine

theorem upd_upd {α : Type} (f : Nat → Option α) (a : Nat) (v w : α) : upd (upd f a v) a w = upd f a w := by
  funext b; simp only [upd]; split <;> rfl
theorem upd_self {α : Type} (f : Nat → Option α) (a : Nat) (v : α) : upd f a v a = some v := by simp [upd]
theorem upd_ne {α : Type} (f : Nat → Option α) {a b : Nat} (v : α) (h : b ≠ a) : upd f a v b = f b := by simp [upd, h]
theorem tl_len (xss : List (List Int)) : (xss.map ti).length = xss.length := by simp
theorem tl_get {xss : List (List Int)} {k : Nat} (h : k < xss.length) : (xss.map ti)[k]? = some (ti (xss.getD k [])) := by simp [h]
theorem tl_set (xss : List (List Int)) (k : Nat) (x : List Int) : (xss.map ti).set k (ti x) = (xss.set k x).map ti := by rw [List.map_set]
noncomputable def sdGo (item : List Int) (xs : List (List Int)) (pos : Nat) : List (List Int) :=
  if h : pos = 0 then xs.set pos item
  else if ltL item (xs.getD ((pos - 1) / 2) []) then sdGo item (xs.set pos (xs.getD ((pos - 1) / 2) [])) ((pos - 1) / 2) else xs.set pos item
termination_by pos
decreasing_by omega
noncomputable def siftdown (xs : List (List Int)) (pos : Nat) : List (List Int) := sdGo (xs.getD pos []) xs pos
noncomputable def sdTest : Expr := match (bodyOf (cell 10))[1]? with | some (Stmt.While t _ _ _) => t | _ => .Constant .none 0 ⟨0,0,0,0⟩
noncomputable def sdBody : List Stmt := match (bodyOf (cell 10))[1]? with | some (Stmt.While _ b _ _) => b | _ => []
variable {z : Z} {ms : MS} {Q : MV → MS → Prop}
theorem sd_loop {l : Addr} {item : List Int} {L : Addr} {sto : Addr → Option MO} (hu : z.A.units < cLine) (he : EnvOk z (E274 L)) :
    ∀ (n pos : Nat) (xs : List (List Int)) (ms : MS) (Q : MF → MS → Prop), pos < n → pos < xs.length → xs.length ≤ 1000 → ms.loc "heap" = some (.obj l) → ms.loc "startpos" = some (.int 0) → ms.loc "newitem" = some (ti item) → ms.loc "pos" = some (.int pos) →
      ms.sto = upd sto l (tl xs) → (∀ (ms' : MS) (pos' : Nat) (xs' : List (List Int)), xs'.length = xs.length → pos' < xs.length → ms'.loc "heap" = some (.obj l) → ms'.loc "newitem" = some (ti item) → ms'.loc "pos" = some (.int pos') → ms'.sto = upd sto l (tl xs') → xs'.set pos' item = sdGo item xs pos → Q .next ms') →
      WhileN z (E274 L) sdTest sdBody n ms Q
  | 0, pos, xs, ms, Q, h, _, _, _, _, _, _, _, _ => absurd h (Nat.not_lt_zero _)
  | n + 1, pos, xs, ms, Q, hn, hp, hz, l1, l2, l3, l4, hs, q => by
    have hsl : ms.sto l = some (tl xs) := by rw [hs, upd_self]
    refine test_cmp (by rfl) ?_
    refine name_l he (by rfl) (by rfl) (l4) ?_
    refine name_l he (by rfl) (by rfl) (l2) ?_
    refine op_gt ?_
    refine tr_bool ?_
    by_cases h0 : pos = 0
    · rw [if_neg (by simp; omega)]
      refine q ms pos xs rfl hp l1 l3 l4 hs ?_
      rw [sdGo, dif_pos h0]
    · rw [if_pos (by simp; omega)]
      have hpp : (pos - 1) / 2 < pos := by omega
      refine s_cons ?_
      refine s_assign (by rfl) (by rfl) (by rfl) ?_
      refine binop ?_
      refine binop ?_
      refine name_l he (by rfl) (by rfl) (l4) ?_
      refine const_int ?_
      refine op_sub ?_
      refine const_int ?_
      refine op_rshift1 (by omega) ?_
      rw [show ((pos : Int) - 1) / 2 = (((pos - 1) / 2 : Nat) : Int) by omega]
      refine st_name he (by rfl) ?_
      refine s_cons ?_
      refine s_assign (by rfl) (by rfl) (by rfl) ?_
      refine e_sub ?_
      refine name_l he (by rfl) (by rfl) (l1) ?_
      refine name_l he (by rfl) (by rfl) (rfl) ?_
      refine sub_list hsl (by omega) (by omega) (tl_get (by omega)) ⟨fun _ _ _ => rfl, fun _ _ => rfl⟩ ?_
      rw [Int.toNat_natCast]
      refine st_name he (by rfl) ?_
      refine s_cons ?_
      refine s_if ?_
      refine test_cmp (by rfl) ?_
      refine name_l he (by rfl) (by rfl) (l3) ?_
      refine name_l he (by rfl) (by rfl) (rfl) ?_
      refine op_lt_ti hu ?_
      refine tr_bool ?_
      by_cases hlt : ltL item (xs.getD ((pos - 1) / 2) []) = true
      · rw [if_pos hlt]
        refine s_cons ?_
        refine s_assign (by rfl) (by rfl) (by rfl) ?_
        refine name_l he (by rfl) (by rfl) (rfl) ?_
        refine st_sub_list (name_l he (by rfl) (by rfl) l1 (name_l he (by rfl) (by rfl) l4 ⟨l, _, _, rfl, rfl, hsl, by omega, ?_, ?_, ?_⟩))
        · simp; omega
        · simp; omega
        rw [Int.toNat_natCast, tl_set]
        refine s_cons ?_
        refine s_assign (by rfl) (by rfl) (by rfl) ?_
        refine name_l he (by rfl) (by rfl) (rfl) ?_
        refine st_name he (by rfl) ?_
        refine s_cons ?_
        refine s_continue ?_
        refine sd_loop (sto := sto) hu he n ((pos - 1) / 2) (xs.set pos (xs.getD ((pos - 1) / 2) [])) _ Q (by omega) (by simp; omega) (by simpa using hz) l1 l2 l3 rfl ?_ ?_
        · show upd ms.sto l _ = _
          rw [hs, upd_upd]; rfl
        · intro ms' pos' xs' e1 e2 a1 a2 a3 a4 a5
          refine q ms' pos' xs' (by simpa using e1) (by simpa using e2) a1 a2 a3 a4 ?_
          rw [a5]
          conv => rhs; rw [sdGo, dif_neg h0, if_pos hlt]
      · rw [if_neg hlt]
        refine s_nil ?_
        refine s_cons ?_
        refine s_break ?_
        refine q _ pos xs rfl hp l1 l3 l4 hs ?_
        rw [sdGo, dif_neg h0, if_neg hlt]
theorem siftdown_ok {l : Addr} {xss : List (List Int)} {pos : Nat} (hr : Rm z 1) (hl : ms.sto l = some (tl xss)) (hp : pos < xss.length) (hn : xss.length ≤ 1000)
    (q : Q .none ⟨ms.loc, upd ms.sto l (tl (siftdown xss pos))⟩) : CallV z (.ref 274) [.obj l, .int 0, .int pos] ms Q := by
  refine c274 (k := 0) hr ?_
  · intro z' L' hw he hr'
    have hu : z'.A.units < cLine := Nat.lt_of_le_of_lt (by have := hr'.2; omega : z'.A.units ≤ 1000) (by decide)
    refine s_cons ?_
    refine s_assign (by rfl) (by rfl) (by rfl) ?_
    refine e_sub ?_
    refine name_l he (by rfl) (by rfl) (rfl) ?_
    refine name_l he (by rfl) (by rfl) (rfl) ?_
    refine sub_list hl (by omega) (by omega) (tl_get (by omega)) ⟨fun _ _ _ => rfl, fun _ _ => rfl⟩ ?_
    rw [Int.toNat_natCast]
    refine st_name he (by rfl) ?_
    refine s_cons ?_
    refine s_while (xss.length + 1) ?_
    refine sd_loop (sto := ms.sto) (l := l) hu he _ pos xss _ _ (by omega) hp hn (by rfl) (by rfl) (by rfl) (by rfl) ?_ ?_
    · funext b
      simp only [upd]
      split
      · rename_i e; rw [e]; exact hl
      · rfl
    intro ms' pos' xs' e1 e2 a1 a2 a3 a4 a5
    refine s_cons ?_
    refine s_assign (by rfl) (by rfl) (by rfl) ?_
    refine name_l he (by rfl) (by rfl) (a2) ?_
    refine st_sub_list (name_l he (by rfl) (by rfl) a1 (name_l he (by rfl) (by rfl) a3 ⟨l, _, _, rfl, rfl, by rw [a4, upd_self]; rfl, by omega, ?_, ?_, ?_⟩))
    · simp; omega
    · simp; omega
    rw [Int.toNat_natCast, tl_set, a5, a4, upd_upd]
    exact s_nil q
end Mine
end

/-! Hp -/
section
open PySem PySem.W PyProof.Rows
set_option Elab.async false
set_option maxRecDepth 100000
set_option maxHeartbeats 1000000
set_option linter.unusedVariables false
namespace Mine

noncomputable def suPick (xs : List (List Int)) (c : Nat) : Nat := if c + 1 < xs.length ∧ ltL (xs.getD c []) (xs.getD (c + 1) []) = false then c + 1 else c
theorem suPick_le (xs : List (List Int)) {c : Nat} (h : c < xs.length) : c ≤ suPick xs c ∧ suPick xs c < xs.length := by
  unfold suPick; split <;> omega
noncomputable def suGo (xs : List (List Int)) (pos : Nat) : List (List Int) × Nat :=
  if h : 2 * pos + 1 < xs.length then suGo (xs.set pos (xs.getD (suPick xs (2 * pos + 1)) [])) (suPick xs (2 * pos + 1)) else (xs, pos)
termination_by xs.length - pos
decreasing_by
  have := suPick_le xs h
  simp only [List.length_set]
  omega
noncomputable def siftup (xs : List (List Int)) : List (List Int) := siftdown ((suGo xs 0).1.set (suGo xs 0).2 (xs.getD 0 [])) (suGo xs 0).2
theorem suGo_len (xs : List (List Int)) (pos : Nat) (hp : pos < xs.length) : (suGo xs pos).1.length = xs.length ∧ (suGo xs pos).2 < xs.length := by
  rw [suGo]
  split
  · rename_i h
    have hc := suPick_le xs h
    have := suGo_len (xs.set pos (xs.getD (suPick xs (2 * pos + 1)) [])) (suPick xs (2 * pos + 1)) (by simpa using hc.2)
    simpa using this
  · exact ⟨rfl, hp⟩
termination_by xs.length - pos
decreasing_by
  simp only [List.length_set]
  omega
noncomputable def suTest : Expr := match (bodyOf (cell 11))[4]? with | some (Stmt.While t _ _ _) => t | _ => .Constant .none 0 ⟨0,0,0,0⟩
noncomputable def suBody : List Stmt := match (bodyOf (cell 11))[4]? with | some (Stmt.While _ b _ _) => b | _ => []
variable {z : Z} {ms : MS} {Q : MV → MS → Prop}
theorem su_loop {l : Addr} {item : List Int} {L : Addr} {sto : Addr → Option MO} (hu : z.A.units + 1 < cLine) (he : EnvOk z (E281 L)) :
    ∀ (n pos : Nat) (xs : List (List Int)) (ms : MS) (Q : MF → MS → Prop), xs.length - pos < n → pos < xs.length → xs.length ≤ 1000 → ms.loc "heap" = some (.obj l) → ms.loc "startpos" = some (.int 0) → ms.loc "newitem" = some (ti item) → ms.loc "pos" = some (.int pos) →
      ms.loc "childpos" = some (.int (2 * pos + 1 : Nat)) → ms.loc "endpos" = some (.int xs.length) →
      ms.sto = upd sto l (tl xs) → (∀ (ms' : MS), ms'.loc "heap" = some (.obj l) → ms'.loc "startpos" = some (.int 0) → ms'.loc "newitem" = some (ti item) → ms'.loc "pos" = some (.int (suGo xs pos).2) → ms'.sto = upd sto l (tl (suGo xs pos).1) → Q .next ms') →
      WhileN z (E281 L) suTest suBody n ms Q
  | 0, pos, xs, ms, Q, h, _, _, _, _, _, _, _, _, _, _ => absurd h (Nat.not_lt_zero _)
  | n + 1, pos, xs, ms, Q, hn, hp, hz, l1, l2, l3, l4, l5, l6, hs, q => by
    have hsl : ms.sto l = some (tl xs) := by rw [hs, upd_self]
    refine test_cmp (by rfl) ?_
    refine name_l he (by rfl) (by rfl) (l5) ?_
    refine name_l he (by rfl) (by rfl) (l6) ?_
    refine op_lt ?_
    refine tr_bool ?_
    by_cases h0 : 2 * pos + 1 < xs.length
    · rw [if_pos (by simp; omega)]
      have hpk := suPick_le xs h0
      refine s_cons ?_
      refine s_assign (by rfl) (by rfl) (by rfl) ?_
      refine binop ?_
      refine name_l he (by rfl) (by rfl) (l5) ?_
      refine const_int ?_
      refine op_add ?_
      refine st_name he (by rfl) ?_
      refine s_cons ?_
      refine s_if ?_
      refine test_bool ?_
      refine and_cons ?_
      refine test_cmp (by rfl) ?_
      refine name_l he (by rfl) (by rfl) (rfl) ?_
      refine name_l he (by rfl) (by rfl) (l6) ?_
      refine op_lt ?_
      refine tr_bool ?_
      have key : ∀ (ms' : MS), ms'.loc "heap" = some (.obj l) → ms'.loc "startpos" = some (.int 0) → ms'.loc "newitem" = some (ti item) → ms'.loc "pos" = some (.int pos) → ms'.loc "childpos" = some (.int (suPick xs (2 * pos + 1) : Nat)) → ms'.loc "endpos" = some (.int xs.length) → ms'.sto = ms.sto →
          WS z (execs (suBody.drop 2) (E281 L)) ms' (AftW (fun ms₂ => WhileN z (E281 L) suTest suBody n ms₂ Q) Q) := by
        intro ms' m1 m2 m3 m4 m5 m6 m7
        have hsl' : ms'.sto l = some (tl xs) := by rw [m7, hsl]
        refine s_cons ?_
        refine s_assign (by rfl) (by rfl) (by rfl) ?_
        refine e_sub ?_
        refine name_l he (by rfl) (by rfl) (m1) ?_
        refine name_l he (by rfl) (by rfl) (m5) ?_
        refine sub_list hsl' (by omega) (by omega) (tl_get (by omega)) ⟨fun _ _ _ => rfl, fun _ _ => rfl⟩ ?_
        rw [Int.toNat_natCast]
        refine st_sub_list (name_l he (by rfl) (by rfl) m1 (name_l he (by rfl) (by rfl) m4 ⟨l, _, _, rfl, rfl, hsl', by omega, ?_, ?_, ?_⟩))
        · simp; omega
        · simp; omega
        rw [Int.toNat_natCast, tl_set]
        refine s_cons ?_
        refine s_assign (by rfl) (by rfl) (by rfl) ?_
        refine name_l he (by rfl) (by rfl) (m5) ?_
        refine st_name he (by rfl) ?_
        refine s_cons ?_
        refine s_assign (by rfl) (by rfl) (by rfl) ?_
        refine binop ?_
        refine binop ?_
        refine const_int ?_
        refine name_l he (by rfl) (by rfl) (rfl) ?_
        refine op_mul (by omega) (by omega) ?_
        refine const_int ?_
        refine op_add ?_
        refine st_name he (by rfl) ?_
        refine s_nil ?_
        refine su_loop (sto := sto) hu he n (suPick xs (2 * pos + 1)) (xs.set pos (xs.getD (suPick xs (2 * pos + 1)) [])) _ Q (by simp; omega) (by simpa using hpk.2) (by simpa using hz) m1 m2 m3 rfl ?_ (by rw [List.length_set]; exact m6) ?_ ?_
        · show some (MV.int _) = _
          congr 2
        · show upd ms'.sto l _ = _
          rw [m7, hs, upd_upd]; rfl
        · intro ms'' a1 a2 a3 a4 a5
          have e : suGo xs pos = suGo (xs.set pos (xs.getD (suPick xs (2 * pos + 1)) [])) (suPick xs (2 * pos + 1)) := by
            conv => lhs; rw [suGo, dif_pos h0]
          exact q ms'' a1 a2 a3 (by rw [e]; exact a4) (by rw [e]; exact a5)
      by_cases h1 : 2 * pos + 1 + 1 < xs.length
      · rw [if_pos (by simp; omega)]
        refine and_cons ?_
        refine test_not ?_
        refine test_cmp (by rfl) ?_
        refine e_sub ?_
        refine name_l he (by rfl) (by rfl) (l1) ?_
        refine name_l he (by rfl) (by rfl) (l5) ?_
        refine sub_list hsl (by omega) (by omega) (tl_get (by omega)) ⟨fun _ _ _ => rfl, fun _ _ => rfl⟩ ?_
        refine e_sub ?_
        refine name_l he (by rfl) (by rfl) (l1) ?_
        refine name_l he (by rfl) (by rfl) (rfl) ?_
        rw [show (((2 * pos + 1 : Nat) : Int) + 1) = ((2 * pos + 1 + 1 : Nat) : Int) by omega]
        refine sub_list hsl (by omega) (by omega) (tl_get (by omega)) ⟨fun _ _ _ => rfl, fun _ _ => rfl⟩ ?_
        rw [Int.toNat_natCast, Int.toNat_natCast]
        refine op_lt_ti (by omega) ?_
        refine tr_bool ?_
        by_cases h2 : ltL (xs.getD (2 * pos + 1) []) (xs.getD (2 * pos + 1 + 1) []) = false
        · rw [h2]
          refine (if_pos rfl).mpr ?_
          refine and_nil ?_
          refine (if_pos rfl).mpr ?_
          have e : suPick xs (2 * pos + 1) = 2 * pos + 1 + 1 := by rw [suPick, if_pos ⟨h1, h2⟩]
          refine s_cons ?_
          refine s_assign (by rfl) (by rfl) (by rfl) ?_
          refine name_l he (by rfl) (by rfl) (rfl) ?_
          refine st_name he (by rfl) ?_
          refine s_nil ?_
          refine key _ l1 l2 l3 l4 ?_ l6 rfl
          rw [e]; rfl
        · rw [Bool.not_eq_false] at h2
          rw [h2]
          refine (if_neg (by decide)).mpr ?_
          refine (if_neg (by decide)).mpr ?_
          have e : suPick xs (2 * pos + 1) = 2 * pos + 1 := by rw [suPick, if_neg (by rintro ⟨_, h⟩; rw [h2] at h; cases h)]
          refine s_nil ?_
          refine key _ l1 l2 l3 l4 ?_ l6 rfl
          rw [e]; exact l5
      · rw [if_neg (by simp; omega)]
        refine (if_neg (by decide)).mpr ?_
        have e : suPick xs (2 * pos + 1) = 2 * pos + 1 := by rw [suPick, if_neg (by omega)]
        refine s_nil ?_
        refine key _ l1 l2 l3 l4 ?_ l6 rfl
        rw [e]; exact l5
    · rw [if_neg (by simp; omega)]
      have e : suGo xs pos = (xs, pos) := by rw [suGo, dif_neg h0]
      exact q ms l1 l2 l3 (by rw [e]; exact l4) (by rw [e]; exact hs)
theorem siftup_ok {l : Addr} {xss : List (List Int)} (hr : Rm z 2) (hl : ms.sto l = some (tl xss)) (hp : 0 < xss.length) (hn : xss.length ≤ 1000)
    (q : Q .none ⟨ms.loc, upd ms.sto l (tl (siftup xss))⟩) : CallV z (.ref 281) [.obj l, .int 0] ms Q := by
  refine c281 hr fun z' L' hw he hr' => ?_
  have hu := hr'.units
  refine s_cons ?_
  refine s_assign (by rfl) (by rfl) (by rfl) ?_
  refine e_call (f := .builtin "len") (name_b he (by rfl) (by rfl) (by kernel_rfl) (by kernel_rfl) (by decide) ⟨rfl, rfl⟩) (plain_builtin _) (by rfl) (by rfl) ?_
  refine args_cons (by rfl) ?_
  refine name_l he (by rfl) (by rfl) (rfl) ?_
  refine args_nil ?_
  refine c_len hl (by simp; omega) ?_
  rw [tl_len]
  refine st_name he (by rfl) ?_
  refine s_cons ?_
  refine s_assign (by rfl) (by rfl) (by rfl) ?_
  refine name_l he (by rfl) (by rfl) (rfl) ?_
  refine st_name he (by rfl) ?_
  refine s_cons ?_
  refine s_assign (by rfl) (by rfl) (by rfl) ?_
  refine e_sub ?_
  refine name_l he (by rfl) (by rfl) (rfl) ?_
  refine name_l he (by rfl) (by rfl) (rfl) ?_
  refine sub_list hl (by omega) (by omega) (tl_get hp) ⟨fun _ _ _ => rfl, fun _ _ => rfl⟩ ?_
  refine st_name he (by rfl) ?_
  refine s_cons ?_
  refine s_assign (by rfl) (by rfl) (by rfl) ?_
  refine binop ?_
  refine binop ?_
  refine const_int ?_
  refine name_l he (by rfl) (by rfl) (rfl) ?_
  refine op_mul (by omega) (by omega) ?_
  refine const_int ?_
  refine op_add ?_
  refine st_name he (by rfl) ?_
  refine s_cons ?_
  refine s_while (xss.length + 1) ?_
  refine su_loop (sto := ms.sto) (l := l) hu he _ 0 xss _ _ (by omega) hp hn (by rfl) (by rfl) (by rfl) (by rfl) (by rfl) (by rfl) ?_ ?_
  · funext b
    simp only [upd]
    split
    · rename_i e; rw [e]; exact hl
    · rfl
  intro ms' a1 a2 a3 a4 a5
  have hlen := suGo_len xss 0 hp
  refine s_cons ?_
  refine s_assign (by rfl) (by rfl) (by rfl) ?_
  refine name_l he (by rfl) (by rfl) (a3) ?_
  refine st_sub_list (name_l he (by rfl) (by rfl) a1 (name_l he (by rfl) (by rfl) a4 ⟨l, _, _, rfl, rfl, by rw [a5, upd_self]; rfl, by omega, ?_, ?_, ?_⟩))
  · simp; omega
  · simp; omega
  rw [Int.toNat_natCast, tl_set]
  refine s_cons ?_
  refine s_expr he.hi (by rfl) ?_
  refine e_call (f := .ref 274) (name_g he (by rfl) (by rfl) (by kernel_rfl) ⟨rfl, rfl⟩) (plain_K (by kernel_rfl)) (by rfl) (by rfl) ?_
  refine args_cons (by rfl) ?_
  refine name_l he (by rfl) (by rfl) (a1) ?_
  refine args_cons (by rfl) ?_
  refine name_l he (by rfl) (by rfl) (a2) ?_
  refine args_cons (by rfl) ?_
  refine name_l he (by rfl) (by rfl) (a4) ?_
  refine args_nil ?_
  refine siftdown_ok (hr'.less (by omega)) (upd_self _ _ _) (by simp; omega) (by simp; omega) ⟨rfl, ?_⟩
  refine s_nil ?_
  dsimp only
  rw [a5, upd_upd, upd_upd]
  exact q
theorem heappush_ok {l : Addr} {xss : List (List Int)} {x : List Int} (hr : Rm z 2) (hl : ms.sto l = some (tl xss)) (hn : xss.length < 1000)
    (q : Q .none ⟨ms.loc, upd ms.sto l (tl (siftdown (xss ++ [x]) xss.length))⟩) : CallV z (.ref 253) [.obj l, ti x] ms Q := by
  refine c253 hr fun z' L' hw he hr' => ?_
  refine s_cons ?_
  refine s_doc he.hi ?_
  refine s_cons ?_
  refine s_expr he.hi (by rfl) ?_
  refine e_meth1 (by rfl) (by rfl) (by rfl) PySem.F.plainAttrs_list PySem.F.slot_list_append PySem.F.type_list_append (by rfl) ?_
  refine name_l he (by rfl) (by rfl) (rfl) ?_
  refine ⟨is_list hl, ?_⟩
  refine name_l he (by rfl) (by rfl) (rfl) ?_
  refine c_append hl (by simp [sizeLine]; omega) ⟨rfl, ?_⟩
  have e : (MO.list (xss.map ti ++ [ti x])) = tl (xss ++ [x]) := by simp [tl]
  rw [e]
  refine s_cons ?_
  refine s_expr he.hi (by rfl) ?_
  refine e_call (f := .ref 274) (name_g he (by rfl) (by rfl) (by kernel_rfl) ⟨rfl, rfl⟩) (plain_K (by kernel_rfl)) (by rfl) (by rfl) ?_
  refine args_cons (by rfl) ?_
  refine name_l he (by rfl) (by rfl) (rfl) ?_
  refine args_cons (by rfl) ?_
  refine const_int ?_
  refine args_cons (by rfl) ?_
  refine binop ?_
  refine e_call (f := .builtin "len") (name_b he (by rfl) (by rfl) (by kernel_rfl) (by kernel_rfl) (by decide) ⟨rfl, rfl⟩) (plain_builtin _) (by rfl) (by rfl) ?_
  refine args_cons (by rfl) ?_
  refine name_l he (by rfl) (by rfl) (rfl) ?_
  refine args_nil ?_
  refine c_len (upd_self _ _ _) (by simp; omega) ?_
  refine const_int ?_
  refine op_sub ?_
  rw [show (((xss ++ [x]).map ti).length : Int) - 1 = (xss.length : Int) by simp]
  refine args_nil ?_
  refine siftdown_ok hr' (upd_self _ _ _) (by simp) (by simp; omega) ⟨rfl, ?_⟩
  refine s_nil ?_
  dsimp only
  rw [upd_upd]
  exact q
theorem heapreplace_ok {l : Addr} {xss : List (List Int)} {x y : List Int} (hr : Rm z 3) (hl : ms.sto l = some (tl (y :: xss))) (hn : xss.length < 1000)
    (q : Q (ti y) ⟨ms.loc, upd ms.sto l (tl (siftup (x :: xss)))⟩) : CallV z (.ref 267) [.obj l, ti x] ms Q := by
  refine c267 hr fun z' L' hw he hr' => ?_
  refine s_cons ?_
  refine s_doc he.hi ?_
  refine s_cons ?_
  refine s_assign (by rfl) (by rfl) (by rfl) ?_
  refine e_sub ?_
  refine name_l he (by rfl) (by rfl) (rfl) ?_
  refine const_int ?_
  refine sub_list (d := ti y) hl (by omega) (by omega) rfl ⟨fun _ _ _ => rfl, fun _ _ => rfl⟩ ?_
  refine st_name he (by rfl) ?_
  refine s_cons ?_
  refine s_assign (by rfl) (by rfl) (by rfl) ?_
  refine name_l he (by rfl) (by rfl) (rfl) ?_
  refine st_sub_list (name_l he (by rfl) (by rfl) rfl (const_int ⟨l, _, _, rfl, rfl, hl, by omega, by simp, by simp; omega, ?_⟩))
  have e : (MO.list (((y :: xss).map ti).set (Int.toNat 0) (ti x))) = tl (x :: xss) := by simp [tl]
  rw [e]
  refine s_cons ?_
  refine s_expr he.hi (by rfl) ?_
  refine e_call (f := .ref 281) (name_g he (by rfl) (by rfl) (by kernel_rfl) ⟨rfl, rfl⟩) (plain_K (by kernel_rfl)) (by rfl) (by rfl) ?_
  refine args_cons (by rfl) ?_
  refine name_l he (by rfl) (by rfl) (rfl) ?_
  refine args_cons (by rfl) ?_
  refine const_int ?_
  refine args_nil ?_
  refine siftup_ok hr' (upd_self _ _ _) (by simp) (by simp; omega) ⟨rfl, ?_⟩
  refine s_cons ?_
  refine s_return ?_
  refine name_l he (by rfl) (by rfl) (rfl) ?_
  dsimp only
  rw [upd_upd]
  exact q
theorem tr_list {l : Addr} {vs : List MV} {Q : Bool → MS → Prop} (hl : ms.sto l = some (.list vs)) (hn : vs.length ≤ 100000) (q : Q (vs.length != 0) ms) : Tr z (.obj l) ms Q := by
  intro u s ok sh ru
  obtain rfl := vr_obj.mp ru
  obtain ⟨items, n, el, vr⟩ := (sh.sto l _ hl).2.2.2
  have hz := arr_len vr
  refine PySem.wpAny_truthy_list (IsL.lst el) (by omega) ?_
  rw [show (!items.isEmpty) = (vs.length != 0) by rw [← hz]; unfold Array.isEmpty; by_cases h : items.size = 0 <;> simp [h, bne]]
  exact post_tok ok sh rfl q
noncomputable def popHeap (xs : List (List Int)) : List (List Int) := match xs.dropLast with
  | [] => []
  | _ :: r => siftup (xs.getLastD [] :: r)
theorem heappop_ok {l : Addr} {xss : List (List Int)} (hr : Rm z 3) (hl : ms.sto l = some (tl xss)) (h0 : xss ≠ []) (hn : xss.length < 900)
    (q : Q (ti (xss.getD 0 [])) ⟨ms.loc, upd ms.sto l (tl (popHeap xss))⟩) : CallV z (.ref 260) [.obj l] ms Q := by
  obtain ⟨ys, w, rfl⟩ : ∃ ys w, xss = ys ++ [w] := ⟨xss.dropLast, xss.getLast h0, (List.dropLast_concat_getLast h0).symm⟩
  refine c260 hr fun z' L' hw he hr' => ?_
  have hn : ys.length < 900 := by simp at hn; omega
  refine s_cons ?_
  refine s_doc he.hi ?_
  refine s_cons ?_
  refine s_assign (by rfl) (by rfl) (by rfl) ?_
  refine e_meth0 (by rfl) (by rfl) PySem.F.plainAttrs_list PySem.F.slot_list_pop PySem.F.type_list_pop ?_
  refine name_l he (by rfl) (by rfl) (rfl) ?_
  refine ⟨is_list hl, ?_⟩
  refine c_pop (vs := ys.map ti) (d := ti w) (by rw [hl, tl, List.map_append]; rfl) (by simp [sizeLine]; omega) ?_
  refine st_name he (by rfl) ?_
  refine s_cons ?_
  refine s_if ?_
  refine test_val (by rfl) ?_
  refine name_l he (by rfl) (by rfl) (rfl) ?_
  refine tr_list (upd_self _ _ _) (by simp; omega) ?_
  cases ys with
  | nil =>
    refine (if_neg (by decide)).mpr ?_
    refine s_nil ?_
    refine s_cons ?_
    refine s_return ?_
    refine name_l he (by rfl) (by rfl) (rfl) ?_
    exact q
  | cons y ys =>
    refine (if_pos (by simp)).mpr ?_
    refine s_cons ?_
    refine s_assign (by rfl) (by rfl) (by rfl) ?_
    refine e_sub ?_
    refine name_l he (by rfl) (by rfl) (rfl) ?_
    refine const_int ?_
    refine sub_list (d := ti y) (upd_self _ _ _) (by omega) (by omega) rfl ⟨fun _ _ _ => rfl, fun _ _ => rfl⟩ ?_
    refine st_name he (by rfl) ?_
    refine s_cons ?_
    refine s_assign (by rfl) (by rfl) (by rfl) ?_
    refine name_l he (by rfl) (by rfl) (rfl) ?_
    refine st_sub_list (name_l he (by rfl) (by rfl) rfl (const_int ⟨l, _, _, rfl, rfl, upd_self _ _ _, by omega, by simp, by simp at hn ⊢; omega, ?_⟩))
    dsimp only
    rw [upd_upd, show (MO.list (((y :: ys).map ti).set (Int.toNat 0) (ti w))) = tl (w :: ys) by simp [tl]]
    refine s_cons ?_
    refine s_expr he.hi (by rfl) ?_
    refine e_call (f := .ref 281) (name_g he (by rfl) (by rfl) (by kernel_rfl) ⟨rfl, rfl⟩) (plain_K (by kernel_rfl)) (by rfl) (by rfl) ?_
    refine args_cons (by rfl) ?_
    refine name_l he (by rfl) (by rfl) (rfl) ?_
    refine args_cons (by rfl) ?_
    refine const_int ?_
    refine args_nil ?_
    refine siftup_ok hr' (upd_self _ _ _) (by simp) (by simp at hn ⊢; omega) ⟨rfl, ?_⟩
    refine s_cons ?_
    refine s_return ?_
    refine name_l he (by rfl) (by rfl) (rfl) ?_
    dsimp only
    rw [upd_upd]
    have e : popHeap (y :: ys ++ [w]) = siftup (w :: ys) := by
      unfold popHeap
      rw [show (y :: ys ++ [w]).dropLast = y :: ys by rw [List.dropLast_concat], show (y :: ys ++ [w]).getLastD [] = w by rw [List.getLastD_concat]]
    rw [e] at q
    exact q
end Mine
end

/-! Lists -/
section
open PySem PySem.W PyProof.Rows
set_option Elab.async false
set_option maxRecDepth 100000
set_option maxHeartbeats 1000000
set_option linter.unusedVariables false
namespace Mine

/-- the addresses that were there keep their objects -/
noncomputable def Ext (a b : Addr → Option MO) : Prop := ∀ x mo, a x = some mo → b x = some mo
theorem Ext.refl (a : Addr → Option MO) : Ext a a := fun _ _ h => h
theorem Ext.trans {a b c : Addr → Option MO} (x : Ext a b) (y : Ext b c) : Ext a c := fun _ _ h => y _ _ (x _ _ h)
theorem Ext.new {a : Addr → Option MO} {l : Addr} {mo : MO} (h : a l = none) : Ext a (upd a l mo) := fun x m e => by
  simp only [upd]; split
  · rename_i q; rw [q, h] at e; cases e
  · exact e
theorem Ext.upd {a b : Addr → Option MO} {l : Addr} {mo : MO} (x : Ext a b) (h : a l = none) : Ext a (upd b l mo) := fun y m e => by
  simp only [Mine.upd]; split
  · rename_i q; rw [q, h] at e; cases e
  · exact x _ _ e
theorem Ext.none {a b : Addr → Option MO} {l : Addr} (x : Ext a b) (h : b l = .none) : a l = .none := by
  cases q : a l with
  | none => rfl
  | some m => rw [x _ _ q] at h; cases h
theorem upd_fresh {f : Addr → Option MO} {a c : Addr} {v : MO} (h : upd f a v c = none) : c ≠ a ∧ f c = none := by
  simp only [upd] at h
  split at h
  · cases h
  · exact ⟨by assumption, h⟩
noncomputable def il (xs : List Int) : MO := .list (xs.map MV.int)
noncomputable def itemOf (x : Int) : Int := (x.fdiv 4).fmod 3
noncomputable def oneOf : List Int → List Int := fun ns => ns.flatMap fun x => if x.fmod 4 = 2 then [] else [itemOf x]
noncomputable def twoStep (t : List Int) (x : Int) : List Int := if x.fmod 4 = 3 then itemOf x :: t else if x.fmod 4 = 1 then t else t ++ [itemOf x]
noncomputable def twoOf (ns : List Int) : List Int := ns.foldl twoStep []
noncomputable def llBody : List Stmt := match (bodyOf (cell 13))[1]? with | some (Stmt.For _ _ b _ _) => b | _ => []
noncomputable def llTarget : Expr := match (bodyOf (cell 13))[1]? with | some (Stmt.For t _ _ _ _) => t | _ => .Constant .none 0 ⟨0,0,0,0⟩
theorem il_app (xs : List Int) (x : Int) : (MO.list (xs.map MV.int ++ [.int x])) = il (xs ++ [x]) := by simp [il]
variable {z : Z} {ms : MS} {Q : MV → MS → Prop}
theorem ll_loop {L l : Addr} {all : List Int} (s0 : Addr → Option MO) (he : EnvOk z (E288 L)) (hd : z.A.depth ≤ 500) (hs0 : s0 l = some (il all)) :
    ∀ (ns one two : List Int) (ms : MS) (Q : MF → MS → Prop) (a b : Addr), one.length + ns.length ≤ 1000 → two.length + ns.length ≤ 1000 → Ext s0 ms.sto → s0 a = none → s0 b = none → a ≠ b → ms.sto a = some (il one) → ms.sto b = some (il two) → ms.loc "one" = some (.obj a) → ms.loc "two" = some (.obj b) →
      (∀ (ms' : MS) (b' : Addr), Ext s0 ms'.sto → s0 b' = none → a ≠ b' → ms'.sto a = some (il (one ++ oneOf ns)) → ms'.sto b' = some (il (ns.foldl twoStep two)) → ms'.loc "one" = some (.obj a) → ms'.loc "two" = some (.obj b') → Q .next ms') →
      ForN z (E288 L) llTarget llBody (fun ms => ms.sto l = some (il all)) (ns.map MV.int) ms Q
  | [], one, two, ms, Q, a, b, _, _, hx, ha, hb, hab, h1, h2, l1, l2, q => ⟨hx _ _ hs0, q ms b hx hb hab (by simpa [oneOf] using h1) h2 l1 l2⟩
  | x :: ns, one, two, ms, Q, a, b, z1, z2, hx, ha, hb, hab, h1, h2, l1, l2, q => by
    refine ⟨hx _ _ hs0, fun F' => ?_⟩
    have he := he.fr F'
    have hd' : (z.fr F').A.depth ≤ 500 := hd
    simp only [List.length_cons] at z1 z2
    refine st_name he (by rfl) ?_
    refine s_cons ?_
    refine s_assign (by rfl) (by rfl) (by rfl) ?_
    refine binop ?_
    refine binop ?_
    refine name_l he (by rfl) (by rfl) (rfl) ?_
    refine const_int ?_
    refine op_floordiv he (by decide) hd' ?_
    refine const_int ?_
    refine op_mod (by decide) ?_
    refine st_name he (by rfl) ?_
    refine s_cons ?_
    refine s_if ?_
    refine test_cmp (by rfl) ?_
    refine binop ?_
    refine name_l he (by rfl) (by rfl) (rfl) ?_
    refine const_int ?_
    refine op_mod (by decide) ?_
    refine const_int ?_
    refine op_ne ?_
    refine tr_bool ?_
    have rest : ∀ (ms' : MS) (one' : List Int), one' = one ++ oneOf [x] → Ext s0 ms'.sto → ms'.sto a = some (il one') → ms'.sto b = some (il two) → ms'.loc "one" = some (.obj a) → ms'.loc "two" = some (.obj b) → ms'.loc "x" = some (.int x) → ms'.loc "item" = some (.int (itemOf x)) →
        WS (z.fr F') (execs (llBody.drop 2) (E288 L)) ms' (AftW (fun ms₂ => ForN z (E288 L) llTarget llBody (fun ms => ms.sto l = some (il all)) (ns.map MV.int) ms₂ Q) Q) := by
      intro ms' one' e1 hx' h1' h2' k1 k2 k3 k4
      have go : ∀ (ms'' : MS) (b' : Addr) (two' : List Int), two' = twoStep two x → Ext s0 ms''.sto → s0 b' = none → a ≠ b' → ms''.sto a = some (il one') → ms''.sto b' = some (il two') → ms''.loc "one" = some (.obj a) → ms''.loc "two" = some (.obj b') →
          ForN z (E288 L) llTarget llBody (fun ms => ms.sto l = some (il all)) (ns.map MV.int) ms'' Q := by
        intro ms'' b' two' e2 y1 y2 y3 y4 y5 y6 y7
        refine ll_loop s0 (he := ‹EnvOk z (E288 L)›) hd hs0 ns one' two' ms'' Q a b' ?_ ?_ y1 ha y2 y3 y4 y5 y6 y7 ?_
        · rw [e1]; unfold oneOf; simp only [List.flatMap_cons, List.flatMap_nil, List.append_nil, List.length_append]; split <;> simp only [List.length_nil, List.length_singleton] <;> omega
        · rw [e2]; unfold twoStep; split <;> (try split) <;> (try simp only [List.length_cons, List.length_append, List.length_nil]) <;> omega
        · intro ms3 b3 g1 g2 g3 g4 g5 g6 g7
          refine q ms3 b3 g1 g2 g3 ?_ ?_ g6 g7
          · rw [g4, e1]; simp [oneOf]
          · rw [g5, e2]; rfl
      refine s_cons ?_
      refine s_if ?_
      refine test_cmp (by rfl) ?_
      refine binop ?_
      refine name_l he (by rfl) (by rfl) (k3) ?_
      refine const_int ?_
      refine op_mod (by decide) ?_
      refine const_int ?_
      refine op_eq ?_
      refine tr_bool ?_
      by_cases c3 : x.fmod 4 = 3
      · refine (if_pos (by simpa using c3)).mpr ?_
        refine s_cons ?_
        refine s_assign (by rfl) (by rfl) (by rfl) ?_
        refine binop ?_
        refine e_list ?_
        refine args_cons (by rfl) ?_
        refine name_l he (by rfl) (by rfl) (k4) ?_
        refine args_nil ?_
        refine ⟨by simp [sizeLine], fun c hc => ?_⟩
        have hac : a ≠ c := fun e => by rw [e, hc] at h1'; cases h1'
        have hbc : b ≠ c := fun e => by rw [e, hc] at h2'; cases h2'
        refine name_l he (by rfl) (by rfl) (k2) ?_
        refine op_add_list (xs := [.int (itemOf x)]) (ys := two.map MV.int) (upd_self _ _ _) ((upd_ne _ _ hbc).trans h2') (by simp; omega) fun d hdn => ?_
        obtain ⟨hdc, hd2⟩ := upd_fresh (f := ms'.sto) hdn
        have had : a ≠ d := fun e => by rw [e, hd2] at h1'; cases h1'
        refine st_name he (by rfl) ?_
        refine s_nil (s_nil ?_)
        refine go _ d (itemOf x :: two) (by simp [twoStep, c3]) ?_ (hx'.none hd2) had ?_ ?_ k1 (by rfl)
        · exact (hx'.upd (hx'.none hc)).upd (hx'.none hd2)
        · exact (upd_ne _ _ had).trans ((upd_ne _ _ hac).trans h1')
        · exact (upd_self _ _ _).trans (by simp [il])
      · refine (if_neg (by simpa using c3)).mpr ?_
        refine s_cons ?_
        refine s_if ?_
        refine test_cmp (by rfl) ?_
        refine binop ?_
        refine name_l he (by rfl) (by rfl) (k3) ?_
        refine const_int ?_
        refine op_mod (by decide) ?_
        refine const_int ?_
        refine op_ne ?_
        refine tr_bool ?_
        by_cases c1 : x.fmod 4 = 1
        · refine (if_neg (by simpa using c1)).mpr ?_
          refine s_nil (s_nil (s_nil ?_))
          exact go _ b two (by simp [twoStep, c3, c1]) hx' hb hab h1' h2' k1 k2
        · refine (if_pos (by simpa using c1)).mpr ?_
          refine s_cons ?_
          refine s_expr he.hi (by rfl) ?_
          refine e_meth1 (by rfl) (by rfl) (by rfl) PySem.F.plainAttrs_list PySem.F.slot_list_append PySem.F.type_list_append (by rfl) ?_
          refine name_l he (by rfl) (by rfl) (k2) ?_
          refine ⟨is_list h2', ?_⟩
          refine name_l he (by rfl) (by rfl) (k4) ?_
          refine c_append h2' (by simp [sizeLine]; omega) ⟨rfl, ?_⟩
          rw [il_app]
          refine s_nil (s_nil (s_nil ?_))
          exact go _ b (two ++ [itemOf x]) (by simp [twoStep, c3, c1]) (hx'.upd hb) hb hab ((upd_ne _ _ hab).trans h1') (by exact upd_self _ _ _) k1 k2
    by_cases c2 : x.fmod 4 = 2
    · refine (if_neg (by simpa using c2)).mpr ?_
      refine s_nil ?_
      exact rest _ one (by simp [oneOf, c2]) hx h1 h2 l1 l2 (by rfl) (by rfl)
    · refine (if_pos (by simpa using c2)).mpr ?_
      refine s_cons ?_
      refine s_expr he.hi (by rfl) ?_
      refine e_meth1 (by rfl) (by rfl) (by rfl) PySem.F.plainAttrs_list PySem.F.slot_list_append PySem.F.type_list_append (by rfl) ?_
      refine name_l he (by rfl) (by rfl) (l1) ?_
      refine ⟨is_list h1, ?_⟩
      refine name_l he (by rfl) (by rfl) (rfl) ?_
      refine c_append h1 (by simp [sizeLine]; omega) ⟨rfl, ?_⟩
      show WS _ _ ⟨_, upd _ a (MO.list (one.map MV.int ++ [.int (itemOf x)]))⟩ _
      rw [il_app]
      refine s_nil ?_
      exact rest _ (one ++ [itemOf x]) (by simp [oneOf, c2]) (hx.upd ha) (by exact upd_self _ _ _) ((upd_ne _ _ (Ne.symm hab)).trans h2) l1 l2 (by rfl) (by rfl)
theorem lists_ok {l : Addr} {ns : List Int} (hr : Rm z 1) (hl : ms.sto l = some (il ns)) (hn : ns.length ≤ 900)
    (q : ∀ (sto : Addr → Option MO) (a b : Addr), Ext ms.sto sto → ms.sto a = none → ms.sto b = none → a ≠ b → sto a = some (il (oneOf ns)) → sto b = some (il (twoOf ns)) → Q (.tup false [.obj a, .obj b]) ⟨ms.loc, sto⟩) : CallV z (.ref 288) [.obj l] ms Q := by
  refine c288 hr fun z' L' hw he hr' => ?_
  refine s_cons ?_
  refine s_swap (names := ["one", "two"]) (by rfl) (by rfl) ?_
  refine e_tuple ?_
  refine args_cons (by rfl) ?_
  refine e_list ?_
  refine args_nil ?_
  refine ⟨by simp [sizeLine], fun a ha => ?_⟩
  refine args_cons (by rfl) ?_
  refine e_list ?_
  refine args_nil ?_
  refine ⟨by simp [sizeLine], fun b hb => ?_⟩
  obtain ⟨hab', hb'⟩ := upd_fresh (f := ms.sto) hb
  have hab := Ne.symm hab'
  refine args_nil ?_
  refine ⟨by simp [sizeLine], _, rfl, rfl, ?_⟩
  refine st_bind he (by rfl) ?_
  refine st_bind he (by rfl) ?_
  refine s_cons ?_
  refine s_for_list (.name _ _) (by intro _; rfl) ?_
  refine name_l he (by rfl) (by rfl) (rfl) ?_
  have hla : l ≠ a := fun e => by subst e; rw [ha] at hl; cases hl
  have hlb : l ≠ b := fun e => by subst e; rw [hb'] at hl; cases hl
  refine ⟨l, _, rfl, (upd_ne _ _ hlb).trans ((upd_ne _ _ hla).trans hl), ?_⟩
  refine ll_loop (all := ns) (l := l) ms.sto he (by have := hr'.1; omega) hl ns [] [] _ _ a b (by simp; omega) (by simp; omega) (((Ext.refl _).upd ha).upd hb') ha hb' hab ((upd_ne _ _ hab).trans (upd_self _ _ _)) (by exact upd_self _ _ _) (by rfl) (by rfl) ?_
  intro ms' b' g1 g2 g3 g4 g5 g6 g7
  refine s_cons ?_
  refine s_return ?_
  refine e_tuple ?_
  refine args_cons (by rfl) ?_
  refine name_l he (by rfl) (by rfl) (g6) ?_
  refine args_cons (by rfl) ?_
  refine name_l he (by rfl) (by rfl) (g7) ?_
  refine args_nil ?_
  exact ⟨by simp [sizeLine], q _ a b' g1 ha g2 g3 g4 g5⟩
end Mine
end

/-! Runs -/
section
open PySem PySem.W PyProof.Rows
set_option Elab.async false
set_option maxRecDepth 100000
set_option maxHeartbeats 1000000
set_option linter.unusedVariables false
namespace Mine

section
variable {z : Z} {ms : MS} {env : Env} {pos : Pos}
theorem range_args {args : List (Bool × Sem Value)} {x : Sem Value} {rest : List (Bool × Sem Value)} {Q : Int → Int → MS → Prop} (ha : args = (false, x) :: rest) (hp : args.any (·.1) = false)
    (h : WVs z (spliced args) ms fun ds ms₁ => ∃ a b, Q a b ms₁ ∧ ((a = 0 ∧ ds = [.int b]) ∨ ds = [.int a, .int b])) {s : Shared} (ok : Ok z s) (sh : SH z ms s.heap) :
    wpAny (model P z.w) z.A (callWith pos (.type "range") [] args []) (Post z (fun h (d : Int × Int) u => ∃ r x y v, u = .ref r ∧ IsRange h r d.1 d.2 1 x y v) s.heap fun d ms₁ => Q d.1 d.2 ms₁) NoE s := by
  refine plain_type "range" pos [] args s (fun a s₁ => a.kw = [] ∧ ∃ ds ms₁ c d, Ok z s₁ ∧ Keep s.heap s₁.heap ∧ SH z ms₁ s₁.heap ∧ VRs s₁.heap ds a.pos ∧ Q c d ms₁ ∧ ((c = 0 ∧ ds = [.int d]) ∨ ds = [.int c, .int d])) _ hp ?_ ?_
  · rintro ⟨vs, kw⟩ s₁ ⟨hk, ds, ms₁, c, d, ok₁, k₁, sh₁, rs, q, hd⟩
    dsimp only at hk rs
    subst hk
    refine ⟨sh₁.keepIn, ?_⟩
    rcases hd with ⟨rfl, rfl⟩ | rfl
    · obtain ⟨u, r, rfl, r1, r2⟩ := vrs_cons.mp rs
      obtain rfl := vrs_nil.mp r2
      obtain ⟨t, rfl⟩ := vr_int.mp r1
      refine call_range_1 ?_
      exact post_at (d := ((0 : Int), d)) ok₁ (k₁.trans (Keep.push _ _)) (sh₁.push _) ⟨_, _, _, _, rfl, Heap.get?_push_size _ rfl⟩ q
    · obtain ⟨u, r, rfl, r1, r2⟩ := vrs_cons.mp rs
      obtain ⟨v, r', rfl, r3, r4⟩ := vrs_cons.mp r2
      obtain rfl := vrs_nil.mp r4
      obtain ⟨t, rfl⟩ := vr_int.mp r1
      obtain ⟨t', rfl⟩ := vr_int.mp r3
      refine call_range_2 ?_
      exact post_at (d := (c, d)) ok₁ (k₁.trans (Keep.push _ _)) (sh₁.push _) ⟨_, _, _, _, rfl, Heap.get?_push_size _ rfl⟩ q
  · subst ha
    refine Calls.evalArgs_plain (h.run (R' := VR) ok sh fun us ds ms₁ s₁ ok₁ k₁ sh₁ rs ⟨a, b, q, hd⟩ => ⟨rfl, ds, ms₁, a, b, ok₁, k₁, sh₁, rs, q, hd⟩)
theorem e_range {x : Str} {p : Pos} {e : Expr} {rest : List Expr} {Q : Int → Int → MS → Prop} (hn : WV z (eval (.Name x p) env) ms fun d ms₁ => d = .raw (.type "range") ∧ ms₁ = ms)
    (he : starEach (e :: rest) env = (false, eval e env) :: starEach rest env) (hp : (backTo pos (starEach rest env)).any (·.1) = false)
    (h : WVs z (spliced (backTo pos (starEach (e :: rest) env))) ms fun ds ms₁ => ∃ a b, Q a b ms₁ ∧ ((a = 0 ∧ ds = [.int b]) ∨ ds = [.int a, .int b])) : RangeV z (eval (.Call (.Name x p) (e :: rest) [] pos) env) ms Q := by
  intro s ok sh
  refine wpAny_Call_NameR (hn.run (R' := fun h (d : Int × Int) (u : Value) => ∃ r x y v, u = Value.ref r ∧ IsRange h r d.1 d.2 1 x y v) ok sh fun u d ms₁ s₁ ok₁ k₁ sh₁ ru ⟨hd, hm⟩ => ?_)
  subst hd hm
  obtain rfl := vr_raw.mp ru
  rw [he] at h ⊢
  exact wp_post (range_args rfl hp h ok₁ sh₁) k₁ fun _ _ x => x
end
noncomputable def lcp : List Int → List Int → Nat
  | x :: xs, y :: ys => if x = y then lcp xs ys + 1 else 0
  | _, _ => 0
theorem lcp_le : ∀ (xs ys : List Int), lcp xs ys ≤ xs.length ∧ lcp xs ys ≤ ys.length
  | [], ys => by simp [lcp]
  | x :: xs, [] => by simp [lcp]
  | x :: xs, y :: ys => by
    have := lcp_le xs ys
    unfold lcp
    split <;> simp <;> omega
noncomputable def runAt (one two : List Int) (i j : Nat) : Nat := lcp (one.drop i) (two.drop j)
noncomputable def runsAt (one two : List Int) (i j : Nat) : List (List Int) := if 0 < runAt one two i j then [[-(runAt one two i j : Int), i, j]] else []
noncomputable def runsRow (one two : List Int) (i : Nat) (js : List Nat) : List (List Int) := js.flatMap (runsAt one two i)
noncomputable def runsL (one two : List Int) : List (List Int) := (List.range one.length).flatMap fun i => runsRow one two i (List.range two.length)
noncomputable def rFor1 : Stmt := ((bodyOf (cell 14))[1]?).getD (.Pass ⟨0,0,0,0⟩)
noncomputable def forBody : Stmt → List Stmt
  | .For _ _ b _ _ => b
  | .While _ b _ _ => b
  | .If _ b _ _ => b
  | _ => []
noncomputable def forTest : Stmt → Expr
  | .While t _ _ _ => t
  | .For t _ _ _ _ => t
  | _ => .Constant .none 0 ⟨0,0,0,0⟩
noncomputable def rFor2 : Stmt := ((forBody rFor1)[0]?).getD (.Pass ⟨0,0,0,0⟩)
noncomputable def rWh : Stmt := ((forBody rFor2)[1]?).getD (.Pass ⟨0,0,0,0⟩)
theorem lcp_step (one two : List Int) (i j k : Nat) (h1 : i + k < one.length) (h2 : j + k < two.length) :
    lcp (one.drop (i + k)) (two.drop (j + k)) = if one.getD (i + k) 0 = two.getD (j + k) 0 then lcp (one.drop (i + (k + 1))) (two.drop (j + (k + 1))) + 1 else 0 := by
  rw [List.drop_eq_getElem_cons h1, List.drop_eq_getElem_cons h2]
  simp [lcp, h1, h2, Nat.add_assoc]
theorem lcp_end (one two : List Int) (i j k : Nat) (h : ¬ (i + k < one.length ∧ j + k < two.length)) : lcp (one.drop (i + k)) (two.drop (j + k)) = 0 := by
  have := lcp_le (one.drop (i + k)) (two.drop (j + k))
  simp only [List.length_drop] at this
  omega
theorem il_get {xs : List Int} {k : Nat} (h : k < xs.length) : (xs.map MV.int)[k]? = some (.int (xs.getD k 0)) := by simp [h]
structure RunsIn (ms : MS) (a b r : Addr) (one two : List Int) : Prop where
  la : ms.sto a = some (il one)
  lb : ms.sto b = some (il two)
  vo : ms.loc "one" = some (.obj a)
  vt : ms.loc "two" = some (.obj b)
  vr : ms.loc "runs" = some (.obj r)
  n1 : one.length ≤ 100
  n2 : two.length ≤ 100
theorem runs_while {z : Z} {L a b r : Addr} {one two : List Int} {i j : Nat} {sto : Addr → Option MO} (he : EnvOk z (E295 L)) :
    ∀ (n k : Nat) (ms : MS) (Q : MF → MS → Prop), lcp (one.drop (i + k)) (two.drop (j + k)) < n → RunsIn ms a b r one two → ms.sto = sto → ms.loc "i" = some (.int i) → ms.loc "j" = some (.int j) → ms.loc "k" = some (.int k) →
      (∀ ms', RunsIn ms' a b r one two → ms'.sto = sto → ms'.loc "i" = some (.int i) → ms'.loc "j" = some (.int j) → ms'.loc "k" = some (.int (k + lcp (one.drop (i + k)) (two.drop (j + k)) : Nat)) → Q .next ms') →
      WhileN z (E295 L) (forTest rWh) (forBody rWh) n ms Q
  | 0, k, ms, Q, h, _, _, _, _, _, _ => absurd h (Nat.not_lt_zero _)
  | n + 1, k, ms, Q, h, R, hs, li, lj, lk, q => by
    have hn1 := R.n1
    have hn2 := R.n2
    refine test_bool ?_
    refine and_cons ?_
    refine test_cmp (by rfl) ?_
    refine binop ?_
    refine name_l he (by rfl) (by rfl) (li) ?_
    refine name_l he (by rfl) (by rfl) (lk) ?_
    refine op_add ?_
    refine e_call (f := .builtin "len") (name_b he (by rfl) (by rfl) (by kernel_rfl) (by kernel_rfl) (by decide) ⟨rfl, rfl⟩) (plain_builtin _) (by rfl) (by rfl) ?_
    refine args_cons (by rfl) ?_
    refine name_l he (by rfl) (by rfl) (R.vo) ?_
    refine args_nil ?_
    refine c_len R.la (by simp; omega) ?_
    refine op_lt ?_
    refine tr_bool ?_
    by_cases h1 : i + k < one.length
    · refine (if_pos (by simp; omega)).mpr ?_
      refine and_cons ?_
      refine test_cmp (by rfl) ?_
      refine binop ?_
      refine name_l he (by rfl) (by rfl) (lj) ?_
      refine name_l he (by rfl) (by rfl) (lk) ?_
      refine op_add ?_
      refine e_call (f := .builtin "len") (name_b he (by rfl) (by rfl) (by kernel_rfl) (by kernel_rfl) (by decide) ⟨rfl, rfl⟩) (plain_builtin _) (by rfl) (by rfl) ?_
      refine args_cons (by rfl) ?_
      refine name_l he (by rfl) (by rfl) (R.vt) ?_
      refine args_nil ?_
      refine c_len R.lb (by simp; omega) ?_
      refine op_lt ?_
      refine tr_bool ?_
      by_cases h2 : j + k < two.length
      · refine (if_pos (by simp; omega)).mpr ?_
        refine and_cons ?_
        refine test_cmp (by rfl) ?_
        refine e_sub ?_
        refine name_l he (by rfl) (by rfl) (R.vo) ?_
        refine binop ?_
        refine name_l he (by rfl) (by rfl) (li) ?_
        refine name_l he (by rfl) (by rfl) (lk) ?_
        refine op_add ?_
        rw [show (i : Int) + k = ((i + k : Nat) : Int) by omega]
        refine sub_list R.la (by omega) (by omega) (il_get (by omega)) ⟨fun _ _ _ => rfl, fun _ _ => rfl⟩ ?_
        refine e_sub ?_
        refine name_l he (by rfl) (by rfl) (R.vt) ?_
        refine binop ?_
        refine name_l he (by rfl) (by rfl) (lj) ?_
        refine name_l he (by rfl) (by rfl) (lk) ?_
        refine op_add ?_
        rw [show (j : Int) + k = ((j + k : Nat) : Int) by omega]
        refine sub_list R.lb (by omega) (by omega) (il_get (by omega)) ⟨fun _ _ _ => rfl, fun _ _ => rfl⟩ ?_
        rw [Int.toNat_natCast, Int.toNat_natCast]
        refine op_eq ?_
        refine tr_bool ?_
        have st := lcp_step one two i j k h1 h2
        by_cases h3 : one.getD (i + k) 0 = two.getD (j + k) 0
        · rw [if_pos h3] at st
          refine (if_pos (by simpa using h3)).mpr ?_
          refine and_nil ?_
          refine (if_pos rfl).mpr ?_
          refine s_cons ?_
          refine s_aug he (by rfl) lk ?_
          refine const_int ?_
          refine op_iadd ?_
          refine s_nil ?_
          refine runs_while (sto := sto) he n (k + 1) _ Q (by omega) ⟨R.la, R.lb, R.vo, R.vt, R.vr, hn1, hn2⟩ hs li lj (by rfl) ?_
          intro ms' R' e1 e2 e3 e4
          refine q ms' R' e1 e2 e3 ?_
          rw [e4, st]
          congr 3
          omega
        · rw [if_neg h3] at st
          refine (if_neg (by simpa using h3)).mpr ?_
          refine (if_neg (by decide)).mpr ?_
          exact q ms R hs li lj (by rw [lk, st]; rfl)
      · refine (if_neg (by simp; omega)).mpr ?_
        refine (if_neg (by decide)).mpr ?_
        have st := lcp_end one two i j k (by omega)
        exact q ms R hs li lj (by rw [lk, st]; rfl)
    · refine (if_neg (by simp; omega)).mpr ?_
      refine (if_neg (by decide)).mpr ?_
      have st := lcp_end one two i j k (by omega)
      exact q ms R hs li lj (by rw [lk, st]; rfl)
theorem runs_row {z : Z} {L a b r : Addr} {one two : List Int} {i : Nat} {sto : Addr → Option MO} (he : EnvOk z (E295 L)) (hr1 : a ≠ r) (hr2 : b ≠ r) :
    ∀ (js : List Nat) (acc : List (List Int)) (ms : MS) (Q : MF → MS → Prop), acc.length + js.length ≤ 20000 → RunsIn ms a b r one two → ms.sto = upd sto r (tl acc) → ms.loc "i" = some (.int i) →
      (∀ ms', RunsIn ms' a b r one two → ms'.sto = upd sto r (tl (acc ++ runsRow one two i js)) → ms'.loc "i" = some (.int i) → Q .next ms') →
      ForN z (E295 L) (forTest rFor2) (forBody rFor2) (fun _ => True) (js.map fun (j : Nat) => .int j) ms Q
  | [], acc, ms, Q, hz, R, hs, li, q => ⟨trivial, q ms R (by rw [hs]; simp [runsRow]) li⟩
  | j :: js, acc, ms, Q, hz, R, hs, li, q => by
    refine ⟨trivial, fun F' => ?_⟩
    have he' := he.fr F'
    simp only [List.length_cons] at hz
    refine st_name he' (by rfl) ?_
    have hn1 := R.n1
    have hn2 := R.n2
    have he0 := he
    have he := he'
    refine s_cons ?_
    refine s_assign (by rfl) (by rfl) (by rfl) ?_
    refine const_int ?_
    refine st_name he (by rfl) ?_
    refine s_cons ?_
    refine s_while (lcp (one.drop (i + 0)) (two.drop (j + 0)) + 1) ?_
    refine runs_while (sto := ms.sto) (i := i) (j := j) (r := r) (a := a) (b := b) (one := one) (two := two) he _ 0 _ _ (Nat.lt_succ_self _) ⟨R.la, R.lb, R.vo, R.vt, R.vr, hn1, hn2⟩ rfl li (by rfl) (by rfl) ?_
    intro ms' R' e1 e2 e3 e4
    have e4 : ms'.loc "k" = some (.int (runAt one two i j)) := by rw [e4]; simp [runAt]
    have fin : ∀ ms'', RunsIn ms'' a b r one two → ms''.sto = upd sto r (tl (acc ++ runsAt one two i j)) → ms''.loc "i" = some (.int i) → ForN z (E295 L) (forTest rFor2) (forBody rFor2) (fun _ => True) (js.map fun (j : Nat) => .int j) ms'' Q := by
      intro ms'' g1 g2 g3
      refine runs_row he0 hr1 hr2 js (acc ++ runsAt one two i j) ms'' Q ?_ g1 g2 g3 ?_
      · have : (runsAt one two i j).length ≤ 1 := by unfold runsAt; split <;> simp
        simp only [List.length_append]; omega
      · intro m3 f1 f2 f3
        refine q m3 f1 ?_ f3
        rw [f2]; simp [runsRow]
    refine s_cons ?_
    refine s_if ?_
    refine test_cmp (by rfl) ?_
    refine name_l he (by rfl) (by rfl) (e4) ?_
    refine const_int ?_
    refine op_gt ?_
    refine tr_bool ?_
    by_cases h0 : 0 < runAt one two i j
    · refine (if_pos (by simp; omega)).mpr ?_
      have hsr : ms'.sto r = some (tl acc) := by rw [e1, hs, upd_self]
      refine s_cons ?_
      refine s_expr he.hi (by rfl) ?_
      refine e_meth1 (by rfl) (by rfl) (by rfl) PySem.F.plainAttrs_list PySem.F.slot_list_append PySem.F.type_list_append (by rfl) ?_
      refine name_l he (by rfl) (by rfl) (R'.vr) ?_
      refine ⟨is_list hsr, ?_⟩
      refine e_tuple ?_
      refine args_cons (by rfl) ?_
      refine unop ?_
      refine name_l he (by rfl) (by rfl) (e4) ?_
      refine op_neg ?_
      refine args_cons (by rfl) ?_
      refine name_l he (by rfl) (by rfl) (e2) ?_
      refine args_cons (by rfl) ?_
      refine name_l he (by rfl) (by rfl) (e3) ?_
      refine args_nil ?_
      refine ⟨by simp [sizeLine], ?_⟩
      refine c_append hsr (by simp [sizeLine]; omega) ⟨rfl, ?_⟩
      refine s_nil (s_nil ?_)
      have hru : runsAt one two i j = [[-(runAt one two i j : Int), i, j]] := by rw [runsAt, if_pos h0]
      refine fin _ ⟨(upd_ne _ _ hr1).trans R'.la, (upd_ne _ _ hr2).trans R'.lb, R'.vo, R'.vt, R'.vr, hn1, hn2⟩ ?_ e2
      show upd ms'.sto r _ = _
      rw [e1, hs, upd_upd, hru]
      simp [tl, ti]
    · refine (if_neg (by simp; omega)).mpr ?_
      refine s_nil (s_nil ?_)
      have hru : runsAt one two i j = [] := by rw [runsAt, if_neg h0]
      exact fin _ R' (by rw [e1, hs, hru, List.append_nil]) e2
theorem runs_rows {z : Z} {L a b r : Addr} {one two : List Int} {sto : Addr → Option MO} (he : EnvOk z (E295 L)) (hr1 : a ≠ r) (hr2 : b ≠ r) :
    ∀ (is : List Nat) (acc : List (List Int)) (ms : MS) (Q : MF → MS → Prop), acc.length + is.length * 100 ≤ 20000 → RunsIn ms a b r one two → ms.sto = upd sto r (tl acc) →
      (∀ ms', RunsIn ms' a b r one two → ms'.sto = upd sto r (tl (acc ++ is.flatMap fun i => runsRow one two i (List.range two.length))) → Q .next ms') →
      ForN z (E295 L) (forTest rFor1) (forBody rFor1) (fun _ => True) (is.map fun (j : Nat) => .int j) ms Q
  | [], acc, ms, Q, hz, R, hs, q => ⟨trivial, q ms R (by rw [hs]; simp)⟩
  | i :: is, acc, ms, Q, hz, R, hs, q => by
    refine ⟨trivial, fun F' => ?_⟩
    have he' := he.fr F'
    simp only [List.length_cons] at hz
    refine st_name he' (by rfl) ?_
    have hn1 := R.n1
    have hn2 := R.n2
    have he0 := he
    have he := he'
    refine s_cons ?_
    refine s_for_range (by intro _; rfl) ?_
    refine e_range (name_b he (by rfl) (by rfl) (by kernel_rfl) (by kernel_rfl) (by decide) ⟨rfl, rfl⟩) (by rfl) (by rfl) ?_
    refine args_cons (by rfl) ?_
    refine e_call (f := .builtin "len") (name_b he (by rfl) (by rfl) (by kernel_rfl) (by kernel_rfl) (by decide) ⟨rfl, rfl⟩) (plain_builtin _) (by rfl) (by rfl) ?_
    refine args_cons (by rfl) ?_
    refine name_l he (by rfl) (by rfl) (R.vt) ?_
    refine args_nil ?_
    refine c_len R.lb (by simp; omega) ?_
    refine args_nil ?_
    refine ⟨0, _, ⟨⟨by omega, by omega, by first | omega | simp | (simp; omega), by first | omega | (simp; omega)⟩, ?_⟩, .inl ⟨rfl, rfl⟩⟩
    have e : upTo 0 ((two.map MV.int).length : Nat) = (List.range two.length).map fun (j : Nat) => MV.int j := by simp [upTo]
    rw [e]
    refine runs_row (i := i) (sto := sto) he hr1 hr2 _ acc _ _ (by simp; omega) ⟨R.la, R.lb, R.vo, R.vt, R.vr, hn1, hn2⟩ hs (by rfl) ?_
    intro ms' R' e1 e2
    refine s_nil ?_
    have lr : ∀ js : List Nat, (runsRow one two i js).length ≤ js.length := by
      intro js
      induction js with
      | nil => simp [runsRow]
      | cons j js ih =>
        have : (runsAt one two i j).length ≤ 1 := by unfold runsAt; split <;> simp
        simp only [runsRow, List.flatMap_cons, List.length_append, List.length_cons] at ih ⊢
        omega
    refine runs_rows (sto := sto) he0 hr1 hr2 is (acc ++ runsRow one two i (List.range two.length)) ms' Q ?_ R' e1 ?_
    · have := lr (List.range two.length)
      simp only [List.length_range] at this
      simp only [List.length_append]; omega
    · intro m3 f1 f2
      refine q m3 f1 ?_
      rw [f2]; simp
theorem runs_ok {z : Z} {ms : MS} {Q : MV → MS → Prop} {a b : Addr} {one two : List Int} (hr : Rm z 1) (ha : ms.sto a = some (il one)) (hb : ms.sto b = some (il two)) (n1 : one.length ≤ 100) (n2 : two.length ≤ 100)
    (q : ∀ r, ms.sto r = none → Q (.obj r) ⟨ms.loc, upd ms.sto r (tl (runsL one two))⟩) : CallV z (.ref 295) [.obj a, .obj b] ms Q := by
  refine c295 hr fun z' L' hw he hr' => ?_
  refine s_cons ?_
  refine s_assign (by rfl) (by rfl) (by rfl) ?_
  refine e_list ?_
  refine args_nil ?_
  refine ⟨by simp [sizeLine], fun r hrn => ?_⟩
  have har : a ≠ r := fun e => by subst e; rw [hrn] at ha; cases ha
  have hbr : b ≠ r := fun e => by subst e; rw [hrn] at hb; cases hb
  refine st_name he (by rfl) ?_
  refine s_cons ?_
  refine s_for_range (by intro _; rfl) ?_
  refine e_range (name_b he (by rfl) (by rfl) (by kernel_rfl) (by kernel_rfl) (by decide) ⟨rfl, rfl⟩) (by rfl) (by rfl) ?_
  refine args_cons (by rfl) ?_
  refine e_call (f := .builtin "len") (name_b he (by rfl) (by rfl) (by kernel_rfl) (by kernel_rfl) (by decide) ⟨rfl, rfl⟩) (plain_builtin _) (by rfl) (by rfl) ?_
  refine args_cons (by rfl) ?_
  refine name_l he (by rfl) (by rfl) (rfl) ?_
  refine args_nil ?_
  refine c_len ((upd_ne _ _ har).trans ha) (by simp; omega) ?_
  refine args_nil ?_
  refine ⟨0, _, ⟨⟨by omega, by omega, by first | omega | simp | (simp; omega), by first | omega | (simp; omega)⟩, ?_⟩, .inl ⟨rfl, rfl⟩⟩
  have e : upTo 0 ((one.map MV.int).length : Nat) = (List.range one.length).map fun (j : Nat) => MV.int j := by simp [upTo]
  rw [e]
  refine runs_rows (sto := ms.sto) (one := one) (two := two) (a := a) (b := b) (r := r) he har hbr _ [] _ _ (by simp; omega) ⟨(upd_ne _ _ har).trans ha, (upd_ne _ _ hbr).trans hb, by rfl, by rfl, by rfl, n1, n2⟩ (by rfl) ?_
  intro ms' R' e1
  refine s_cons ?_
  refine s_return ?_
  refine name_l he (by rfl) (by rfl) (R'.vr) ?_
  show Q _ ⟨_, ms'.sto⟩
  rw [e1]
  exact q r hrn
end Mine
end

/-! Min -/
section
open PySem PySem.W PyProof.Rows
set_option Elab.async false
set_option maxRecDepth 100000
set_option maxHeartbeats 1000000
set_option linter.unusedVariables false
namespace Mine

theorem rc_lt_ti {w : World} {A : Around} {E : Value → Shared → Prop} {s : Shared} {xs ys : List Int} {u v : Value} {Q : Value → Shared → Prop} (hu : A.units < cLine) (ru : VR s.heap (ti xs) u) (rv : VR s.heap (ti ys) v) (h : Q (.bool (ltL xs ys)) s) :
    wpAny (model P w) A (richCompare .Lt u v) Q E s := by
  obtain ⟨a, items, n, rfl, e1, i1⟩ := vr_ti.mp ru
  obtain ⟨b, items2, n2, rfl, e2, i2⟩ := vr_ti.mp rv
  have hT : s.TypeIs (.ref b) "tuple" := ⟨_, e2, rfl⟩
  refine wpAny_richCompare_same_room (op := .Lt) ⟨_, e1, rfl⟩ hT PySem.F.slot_tuple_lt (wpAny_call_entry PySem.F.slot_tuple_lt ⟨_, e1, rfl⟩ PySem.F.entry_tuple_lt ?_ (PySem.F.args_tuple_lt_2 _ _)) hu
  refine tup_lt_body e1 rfl e2 rfl ?_ i1 i2 ⟨by simp, h⟩
  exact (Looks.ld (part := none) e2).andThen (Looks.of_pure (by show isSubtype (.type "tuple") (.type "tuple") = _; rw [isSubtype_type]; kernel_rfl))
noncomputable def minStep (b x : List Int) : List Int := if ltL x b then x else b
noncomputable def minL : List (List Int) → List Int
  | [] => []
  | x :: xs => xs.foldl minStep x
noncomputable def MinEnd (h0 : Heap) (s : Shared) (best : List Int) (r : Result) (s' : Shared) : Prop :=
  ∃ v, r = .ok (.ret v) ∧ VR s'.heap (ti best) v ∧ (∀ b o, h0.get? b = some o → s'.heap.get? b = some o) ∧ s'.gens = s.gens ∧ s'.os = s.os
theorem min_loop {w : World} {A : Around} (hh : A.handled = none) (hu : A.units + 1 < cLine) {h0 : Heap} {l I S : Addr} {items : Array Value} {n : Nat} {xss : List (List Int)} (hl : IsL h0 l items n) (vr : VRs h0 (xss.map ti) items.toList)
    (hI : h0.get? I = none) (hS : h0.get? S = none) (hIS : I ≠ S) {s₀ : Shared} :
    ∀ (k i : Nat) (s : Shared) (vb : Value) (best : List Int) (c : Nat), xss.length - i = k → i ≤ xss.length → (∀ b o, h0.get? b = some o → s.heap.get? b = some o) → s.heap.IsListIter I l i → VR h0 (ti best) vb → s.gens = s₀.gens → s.os = s₀.os →
      s.heap.get? S = some { cls := .type "list", dict := none, data := .seq #[vb, vb] c, slots := #[] } → codeAny (model P w) A (.builtin "min.loop" ⟨[.ref I, .none, .ref S], []⟩) (MinEnd h0 s₀ ((xss.drop i).foldl minStep best)) s := by
  have hname : (toString "min" ++ toString ".loop" : String) = "min.loop" := by decide
  have nI : ∀ b o, h0.get? b = some o → b ≠ I := fun b o e q => by rw [q, hI] at e; cases e
  have nS : ∀ b o, h0.get? b = some o → b ≠ S := fun b o e q => by rw [q, hS] at e; cases e
  have hz : items.size = xss.length := by rw [arr_len vr]; simp
  intro k
  induction k with
  | zero =>
    intro i s vb best c hk hi all hit rb g1 g2 hSs
    have e : i = xss.length := by omega
    subst e
    refine codeAny_builtin PySem.F.entry_min_loop ?_
    rw [Around.under_plainId PySem.F.plain_min_loop _]
    show wpAny _ A.in1 (seqItems? (.ref S) >>= _) _ _ s
    refine wpAny_bind (wpAny_seqItems hSs rfl ?_)
    show wpAny _ A.in1 (tryCatch (pyNext (.ref I)) _ >>= _) _ _ s
    have hl' : s.heap.IsList l items := IsL.lst (all _ _ hl)
    refine wpAny_bind (wpAny_tryCatch (wpAny_pyNext_list_end hh hit hl' (by rw [Array.getElem?_eq_none_iff, hz]; exact Nat.le_refl _) fun h' ex => ?_))
    have hS' := ex S _ (Ne.symm hIS) hSs
    show wpAny _ A.in1 (updateSeq S (fun _ => #[]) >>= _) _ _ _
    refine wpAny_bind ?_
    refine wpAny_updateSeq hS' rfl (wpAny_bind (wpAny_letGo (wpAny_pure ?_)))
    have all' : ∀ b o, h0.get? b = some o → (h'.update S (Obj.mapSeq fun _ => #[])).get? b = some o := fun b o e => (Heap.get?_update_other _ _ (Ne.symm (nS b o e))).trans (ex b o (nI b o e) (all b o e))
    refine ⟨vb, rfl, ?_, all', g1, g2⟩
    rw [List.drop_length]
    exact rb.keep (Keep.of_all all')
  | succ k ih =>
    intro i s vb best c hk hi all hit rb g1 g2 hSs
    have hlt : i < xss.length := by omega
    refine codeAny_builtin PySem.F.entry_min_loop ?_
    rw [Around.under_plainId PySem.F.plain_min_loop _]
    show wpAny _ A.in1 (seqItems? (.ref S) >>= _) _ _ s
    refine wpAny_bind (wpAny_seqItems hSs rfl ?_)
    show wpAny _ A.in1 (tryCatch (pyNext (.ref I)) _ >>= _) _ _ s
    have hl' : s.heap.IsList l items := IsL.lst (all _ _ hl)
    obtain ⟨v, hv, rv⟩ := arr_get (i := i) (d := ti (xss.getD i [])) vr (by simp [hlt])
    refine wpAny_bind (wpAny_tryCatch (wpAny_pyNext_list_item hit hl' hv fun h' hit' sb => ?_))
    have ex := sb.extBut
    have hS' := ex S _ (Ne.symm hIS) hSs
    have all1 : ∀ b o, h0.get? b = some o → h'.get? b = some o := fun b o e => ex b o (nI b o e) (all b o e)
    have rb1 : VR h' (ti best) vb := rb.keep (Keep.of_all all1)
    have rv1 : VR h' (ti (xss.getD i [])) v := rv.keep (Keep.of_all all1)
    have hd : xss.drop i = xss.getD i [] :: xss.drop (i + 1) := by rw [List.drop_eq_getElem_cons hlt]; congr 1; simp [hlt]
    show wpAny _ A.in1 (tryCatch (holding [v, v] (richCompare .Lt v vb >>= _)) _ >>= _) _ _ _
    refine wpAny_bind (wpAny_tryCatch (wpAny_holding (wpAny_bind (rc_lt_ti hu rv1 rb1 ?_))))
    refine wpAny_bind (wpAny_holding (wpAny_truthy_bool ?_))
    refine wpAny_bind (wpAny_letGo (wpAny_pure ?_))
    cases hb : ltL (xss.getD i []) best with
    | true =>
      simp only [if_true]
      refine wpAny_bind ?_
      refine wpAny_updateSeq hS' rfl (wpAny_bind (wpAny_letGo ?_))
      rw [hname]
      have it' : (h'.update S (Obj.mapSeq fun _ => #[v, v])).IsListIter I l (i + 1) := by
        obtain ⟨o, a, b⟩ := hit'
        exact ⟨o, (Heap.get?_update_other _ _ (Ne.symm hIS)).trans a, b⟩
      have all2 : ∀ b o, h0.get? b = some o → (h'.update S (Obj.mapSeq fun _ => #[v, v])).get? b = some o := fun b o e => (Heap.get?_update_other _ _ (Ne.symm (nS b o e))).trans (all1 b o e)
      have := ih (i + 1) { s with heap := h'.update S (Obj.mapSeq fun _ => #[v, v]) } v (xss.getD i []) _ (by omega) hlt all2 it' rv g1 g2 (Heap.get?_update_self _ hS' rfl)
      rw [hd, List.foldl_cons, show minStep best (xss.getD i []) = xss.getD i [] by rw [minStep, hb]; rfl]
      exact wpAny_pure ⟨plainId_quiet PySem.F.plain_min_loop _, this⟩
    | false =>
      simp only [Bool.false_eq_true, if_false]
      refine wpAny_bind (wpAny_letGo ?_)
      rw [hname]
      have := ih (i + 1) { s with heap := h' } vb best c (by omega) hlt all1 hit' rb g1 g2 hS'
      rw [hd, List.foldl_cons, show minStep best (xss.getD i []) = best by rw [minStep, hb]; rfl]
      exact wpAny_pure ⟨plainId_quiet PySem.F.plain_min_loop _, this⟩
theorem min_first {w : World} {A : Around} (hh : A.handled = none) (hu : A.units + 1 < cLine) {h0 : Heap} {l I S : Addr} {items : Array Value} {n c : Nat} {x : List Int} {xss : List (List Int)} (hl : IsL h0 l items n) (vr : VRs h0 ((x :: xss).map ti) items.toList)
    (hI : h0.get? I = none) (hS : h0.get? S = none) (hIS : I ≠ S) {s : Shared} (all : ∀ b o, h0.get? b = some o → s.heap.get? b = some o) (hit : s.heap.IsListIter I l 0)
    (hSs : s.heap.get? S = some { cls := .type "list", dict := none, data := .seq #[] c, slots := #[] }) : codeAny (model P w) A (.builtin "min.loop" ⟨[.ref I, .none, .ref S], []⟩) (MinEnd h0 s (minL (x :: xss))) s := by
  have hname : (toString "min" ++ toString ".loop" : String) = "min.loop" := by decide
  have nI : ∀ b o, h0.get? b = some o → b ≠ I := fun b o e q => by rw [q, hI] at e; cases e
  have nS : ∀ b o, h0.get? b = some o → b ≠ S := fun b o e q => by rw [q, hS] at e; cases e
  refine codeAny_builtin PySem.F.entry_min_loop ?_
  rw [Around.under_plainId PySem.F.plain_min_loop _]
  show wpAny _ A.in1 (seqItems? (.ref S) >>= _) _ _ s
  refine wpAny_bind (wpAny_seqItems hSs rfl ?_)
  show wpAny _ A.in1 (tryCatch (pyNext (.ref I)) _ >>= _) _ _ s
  have hl' : s.heap.IsList l items := IsL.lst (all _ _ hl)
  obtain ⟨v, hv, rv⟩ := arr_get (i := 0) (d := ti x) vr (by simp)
  refine wpAny_bind (wpAny_tryCatch (wpAny_pyNext_list_item hit hl' hv fun h' hit' sb => ?_))
  have ex := sb.extBut
  have hS' := ex S _ (Ne.symm hIS) hSs
  have all1 : ∀ b o, h0.get? b = some o → h'.get? b = some o := fun b o e => ex b o (nI b o e) (all b o e)
  show wpAny _ A.in1 (updateSeq S (fun _ => #[v, v]) >>= _) _ _ _
  refine wpAny_bind ?_
  refine wpAny_updateSeq hS' rfl ?_
  rw [hname]
  have it' : (h'.update S (Obj.mapSeq fun _ => #[v, v])).IsListIter I l (0 + 1) := by
    obtain ⟨o, a, b⟩ := hit'
    exact ⟨o, (Heap.get?_update_other _ _ (Ne.symm hIS)).trans a, b⟩
  have all2 : ∀ b o, h0.get? b = some o → (h'.update S (Obj.mapSeq fun _ => #[v, v])).get? b = some o := fun b o e => (Heap.get?_update_other _ _ (Ne.symm (nS b o e))).trans (all1 b o e)
  exact wpAny_pure ⟨plainId_quiet PySem.F.plain_min_loop _, min_loop (s₀ := s) hh hu hl vr hI hS hIS _ 1 { s with heap := h'.update S (Obj.mapSeq fun _ => #[v, v]) } v x _ rfl (by simp) all2 it' rv rfl rfl (Heap.get?_update_self _ hS' rfl)⟩
theorem c_min {z : Z} {ms : MS} {Q : MV → MS → Prop} {l : Addr} {xss : List (List Int)} (hu : z.A.units + 5 < cLine) (hl : ms.sto l = some (tl xss)) (h0 : xss ≠ []) (q : Q (ti (minL xss)) ms) : CallV z (.builtin "min") [.obj l] ms Q := by
  intro us s ok sh rs
  obtain ⟨u, r, rfl, r1, r2⟩ := vrs_cons.mp rs
  obtain rfl := vr_obj.mp r1
  obtain rfl := vrs_nil.mp r2
  obtain ⟨items, n, el, vr⟩ := (sh.sto l _ hl).2.2.2
  obtain ⟨x, xss, rfl⟩ := List.exists_cons_of_ne_nil h0
  have hname : (toString "min" ++ toString ".loop" : String) = "min.loop" := by decide
  refine PySem.call_function_tree PySem.F.kind_min PySem.F.plain_min PySem.F.entry_min (PySem.F.args_min1 _) ?_
  show wpAny _ z.A.in1 (Builtin.Builtins.bindParams "min" ["key", "default"] 0 ⟨[], []⟩ >>= _) _ _ s
  refine wpAny_bind (wpAny_of_eq (show Builtin.Builtins.bindParams "min" ["key", "default"] 0 ⟨[], []⟩ = pure [none, none] from rfl) ?_)
  refine wpAny_bind (wpAny_pure ?_)
  refine wpAny_bind (wpAny_pyIter_list (IsL.lst el) ?_)
  refine wpAny_bind (wpAny_newObj_type ?_)
  rw [hname]
  have e1 : ∀ {o : Obj}, (s.heap.push o).objs.size = s.heap.objs.size + 1 := by intro o; simp [Heap.push]
  refine wpAny_pure ⟨plainId_quiet PySem.F.plain_min_loop _, ?_⟩
  have loop := min_first (w := z.w) (A := z.A) (h0 := s.heap) (l := l) (I := s.heap.objs.size) (S := (s.heap.push { cls := .type "list_iterator", data := .fields #[.ref l, .int 0 0] }).objs.size) (c := 0) (x := x) (xss := xss) z.hd (Nat.lt_of_le_of_lt (Nat.add_le_add_left (by decide) _) hu) el vr
    (by cases q : s.heap.get? s.heap.objs.size with | none => rfl | some o => exact absurd (Heap.lt_size q) (Nat.lt_irrefl _))
    (by rw [e1]; cases q : s.heap.get? (s.heap.objs.size + 1) with | none => rfl | some o => exact absurd (Heap.lt_size q) (Nat.not_lt.mpr (Nat.le_succ _)))
    (by rw [e1]; exact Nat.ne_of_lt (Nat.lt_succ_self _))
    (s := { s with heap := (s.heap.push { cls := .type "list_iterator", data := .fields #[.ref l, .int 0 0] }).push { cls := .type "list", data := .seq #[] } })
    (fun b o e => Heap.get?_push_of_some _ (Heap.get?_push_of_some _ e)) ⟨_, Heap.get?_push_of_some _ (Heap.get?_push_size _ rfl), rfl, rfl⟩ (Heap.get?_push_size _ rfl)
  refine codeAny_mono loop fun r s' ⟨v, e, rv, all, g1, g2⟩ => ?_
  subst e
  exact post_at (d := ti (minL (x :: xss))) ⟨g1.trans ok.1, g2.trans ok.2⟩ (Keep.of_all all) (sh.grow (Keep.of_all all) all) rv q
end Mine
end

/-! Due -/
section
open PySem PySem.W PyProof.Rows
set_option Elab.async false
set_option maxRecDepth 100000
set_option maxHeartbeats 1000000
set_option linter.unusedVariables false
namespace Mine

theorem c_max3 {z : Z} {ms : MS} {Q : MV → MS → Prop} {a b c : Int} (q : Q (.int (max (max a b) c)) ms) : CallV z (.builtin "max") [.int a, .int b, .int c] ms Q := by
  intro us s ok sh rs
  obtain ⟨u1, r1, rfl, v1, rs⟩ := vrs_cons.mp rs
  obtain ⟨u2, r2, rfl, v2, rs⟩ := vrs_cons.mp rs
  obtain ⟨u3, r3, rfl, v3, rs⟩ := vrs_cons.mp rs
  obtain rfl := vrs_nil.mp rs
  obtain ⟨t1, rfl⟩ := vr_int.mp v1
  obtain ⟨t2, rfl⟩ := vr_int.mp v2
  obtain ⟨t3, rfl⟩ := vr_int.mp v3
  refine PySem.max_three_ints z.hd fun h' tk all => ?_
  refine post_at (d := .int (max (max a b) c)) ok (Keep.of_all all) (sh.grow (Keep.of_all all) all) (vr_int.mpr ?_) q
  by_cases h1 : b > a
  · by_cases h2 : c > b
    · exact ⟨t3, by rw [if_pos h1, if_pos h2, show max (max a b) c = c by omega]⟩
    · exact ⟨t2, by rw [if_pos h1, if_neg h2, show max (max a b) c = b by omega]⟩
  · by_cases h2 : c > a
    · exact ⟨t3, by rw [if_neg h1, if_pos h2, show max (max a b) c = c by omega]⟩
    · exact ⟨t1, by rw [if_neg h1, if_neg h2, show max (max a b) c = a by omega]⟩
noncomputable abbrev T3 := Int × Int × Int
noncomputable def t3 (t : T3) : List Int := [t.1, t.2.1, t.2.2]
noncomputable def lt3 (a b : T3) : Bool := ltL (t3 a) (t3 b)
noncomputable def min3Step (b x : T3) : T3 := if lt3 x b then x else b
noncomputable def min3 : List T3 → T3
  | [] => (0, 0, 0)
  | x :: xs => xs.foldl min3Step x
theorem foldl_t3 : ∀ (xs : List T3) (b : T3), (xs.map t3).foldl minStep (t3 b) = t3 (xs.foldl min3Step b)
  | [], b => rfl
  | x :: xs, b => by
    rw [List.map_cons, List.foldl_cons, List.foldl_cons, ← foldl_t3 xs]
    congr 1
    unfold minStep min3Step lt3
    split <;> rfl
theorem minL_t3 {xs : List T3} (h : xs ≠ []) : minL (xs.map t3) = t3 (min3 xs) := by
  cases xs with
  | nil => exact absurd rfl h
  | cons x xs => exact foldl_t3 xs x
noncomputable def cut1 (m r : T3) : List T3 :=
  if r.2.1 < m.2.1 ∧ r.2.2 < m.2.2 then [(max (max r.1 (r.2.1 - m.2.1)) (r.2.2 - m.2.2), r.2.1, r.2.2)]
  else if r.2.1 ≥ m.2.1 - m.1 ∧ r.2.2 ≥ m.2.2 - m.1 then [r] else []
noncomputable def cut (m : T3) (rs : List T3) : List T3 := rs.flatMap (cut1 m)
theorem cut_len (m : T3) : ∀ rs : List T3, (cut m rs).length ≤ rs.length
  | [] => by simp [cut]
  | r :: rs => by
    have := cut_len m rs
    have h1 : (cut1 m r).length ≤ 1 := by unfold cut1; split <;> (try split) <;> simp
    simp only [cut, List.flatMap_cons, List.length_append, List.length_cons] at this ⊢
    omega
noncomputable def dueGo : Nat → List T3 → List T3
  | 0, _ => []
  | n + 1, rs => if rs = [] then [] else ((min3 rs).2.1, (min3 rs).2.2, -(min3 rs).1) :: dueGo n (cut (min3 rs) rs)
noncomputable def run3At (one two : List Int) (i j : Nat) : List T3 := if 0 < runAt one two i j then [(-(runAt one two i j : Int), i, j)] else []
noncomputable def runs3 (one two : List Int) : List T3 := (List.range one.length).flatMap fun i => (List.range two.length).flatMap fun j => run3At one two i j
theorem runsL_t3 (one two : List Int) : runsL one two = (runs3 one two).map t3 := by
  unfold runsL runs3 runsRow
  rw [List.map_flatMap]
  congr 1; funext i
  rw [List.map_flatMap]
  congr 1; funext j
  unfold runsAt run3At
  split <;> simp [t3]
noncomputable def t3l (xs : List T3) : MO := tl (xs.map t3)
theorem t3l_app (xs : List T3) (t : T3) : MO.list ((xs.map t3).map ti ++ [ti (t3 t)]) = t3l (xs ++ [t]) := by simp [t3l, tl]
noncomputable def dWh : Stmt := ((bodyOf (cell 15))[1]?).getD (.Pass ⟨0,0,0,0⟩)
noncomputable def dFor : Stmt := ((forBody dWh)[3]?).getD (.Pass ⟨0,0,0,0⟩)
theorem due_for {z : Z} {L r c : Addr} {all : List T3} {m : T3} (he : EnvOk z (E302 L)) (hrc : r ≠ c) {sto : Addr → Option MO} (hr : sto r = some (t3l all)) :
    ∀ (rs : List T3) (acc : List T3) (ms : MS) (Q : MF → MS → Prop), acc.length + rs.length ≤ 100000 → ms.sto = upd sto c (t3l acc) → ms.loc "left" = some (.obj c) → ms.loc "less" = some (.int m.1) → ms.loc "p" = some (.int m.2.1) → ms.loc "q" = some (.int m.2.2) → (∀ d, ms.loc "due" = some d → ms.loc "due" = some d) →
      (∀ ms', ms'.sto = upd sto c (t3l (acc ++ cut m rs)) → ms'.loc "left" = some (.obj c) → ms'.loc "due" = ms.loc "due" → Q .next ms') →
      ForN z (E302 L) (forTest dFor) (forBody dFor) (fun ms => ms.sto r = some (t3l all)) ((rs.map t3).map ti) ms Q
  | [], acc, ms, Q, hz, hs, l1, l2, l3, l4, _, q => ⟨show ms.sto r = _ by rw [hs, upd_ne _ _ hrc]; exact hr, q ms (by rw [hs]; simp [cut]) l1 rfl⟩
  | t :: rs, acc, ms, Q, hz, hs, l1, l2, l3, l4, _, q => by
    refine ⟨show ms.sto r = _ by rw [hs, upd_ne _ _ hrc]; exact hr, fun F' => ?_⟩
    have he0 := he
    have he := he.fr F'
    simp only [List.length_cons] at hz
    have hsc : ms.sto c = some (t3l acc) := by rw [hs, upd_self]
    refine st_tuple (by rfl) (by rfl) ?_
    refine st_name he (by rfl) ?_
    refine st_name he (by rfl) ?_
    refine st_name he (by rfl) ?_
    have fin : ∀ (ms' : MS), ms'.sto = upd sto c (t3l (acc ++ cut1 m t)) → ms'.loc "left" = some (.obj c) → ms'.loc "less" = some (.int m.1) → ms'.loc "p" = some (.int m.2.1) → ms'.loc "q" = some (.int m.2.2) → ms'.loc "due" = ms.loc "due" →
        ForN z (E302 L) (forTest dFor) (forBody dFor) (fun ms => ms.sto r = some (t3l all)) ((rs.map t3).map ti) ms' Q := by
      intro ms' g1 g2 g3 g4 g5 g6
      have h1 : (cut1 m t).length ≤ 1 := by unfold cut1; split <;> (try split) <;> simp
      refine due_for he0 hrc hr rs (acc ++ cut1 m t) ms' Q (by simp only [List.length_append]; omega) g1 g2 g3 g4 g5 (fun _ h => h) ?_
      intro m3 f1 f2 f3
      exact q m3 (by rw [f1]; simp [cut]) f2 (f3.trans g6)
    refine s_cons ?_
    refine s_if ?_
    refine test_bool ?_
    refine and_cons ?_
    refine test_cmp (by rfl) ?_
    refine name_l he (by rfl) (by rfl) (rfl) ?_
    refine name_l he (by rfl) (by rfl) (l3) ?_
    refine op_lt ?_
    refine tr_bool ?_
    have other : ¬ (t.2.1 < m.2.1 ∧ t.2.2 < m.2.2) → WS (z.fr F') (execs [((forBody dFor)[0]?.map fun s => match s with | .If _ _ e _ => (e[0]?).getD (.Pass ⟨0,0,0,0⟩) | _ => .Pass ⟨0,0,0,0⟩).getD (.Pass ⟨0,0,0,0⟩)] (E302 L)) ⟨updL (updL (updL ms.loc "k" (.int t.1)) "i" (.int t.2.1)) "j" (.int t.2.2), ms.sto⟩
        (Then (z.fr F') (execs [] (E302 L)) (AftW (fun ms₂ => ForN z (E302 L) (forTest dFor) (forBody dFor) (fun ms => ms.sto r = some (t3l all)) ((rs.map t3).map ti) ms₂ Q) Q)) := by
      intro hno
      refine s_cons ?_
      refine s_if ?_
      refine test_bool ?_
      refine and_cons ?_
      refine test_cmp (by rfl) ?_
      refine name_l he (by rfl) (by rfl) (rfl) ?_
      refine binop ?_
      refine name_l he (by rfl) (by rfl) (l3) ?_
      refine name_l he (by rfl) (by rfl) (l2) ?_
      refine op_sub ?_
      refine op_ge ?_
      refine tr_bool ?_
      by_cases h1 : t.2.1 ≥ m.2.1 - m.1
      · refine (if_pos (by simpa using h1)).mpr ?_
        refine and_cons ?_
        refine test_cmp (by rfl) ?_
        refine name_l he (by rfl) (by rfl) (rfl) ?_
        refine binop ?_
        refine name_l he (by rfl) (by rfl) (l4) ?_
        refine name_l he (by rfl) (by rfl) (l2) ?_
        refine op_sub ?_
        refine op_ge ?_
        refine tr_bool ?_
        by_cases h2 : t.2.2 ≥ m.2.2 - m.1
        · refine (if_pos (by simpa using h2)).mpr ?_
          refine and_nil ?_
          refine (if_pos rfl).mpr ?_
          refine s_cons ?_
          refine s_expr he.hi (by rfl) ?_
          refine e_meth1 (by rfl) (by rfl) (by rfl) PySem.F.plainAttrs_list PySem.F.slot_list_append PySem.F.type_list_append (by rfl) ?_
          refine name_l he (by rfl) (by rfl) (l1) ?_
          refine ⟨is_list hsc, ?_⟩
          refine e_tuple ?_
          refine args_cons (by rfl) ?_
          refine name_l he (by rfl) (by rfl) (rfl) ?_
          refine args_cons (by rfl) ?_
          refine name_l he (by rfl) (by rfl) (rfl) ?_
          refine args_cons (by rfl) ?_
          refine name_l he (by rfl) (by rfl) (rfl) ?_
          refine args_nil ?_
          refine ⟨by simp [sizeLine], ?_⟩
          refine c_append hsc (by simp [sizeLine]; omega) ⟨rfl, ?_⟩
          refine s_nil (s_nil (s_nil ?_))
          refine fin _ ?_ l1 l2 l3 l4 rfl
          show upd ms.sto c (MO.list ((acc.map t3).map ti ++ [ti (t3 t)])) = _
          rw [t3l_app, hs, upd_upd, cut1, if_neg hno, if_pos ⟨h1, h2⟩]
        · refine (if_neg (by simpa using h2)).mpr ?_
          refine (if_neg (by decide)).mpr ?_
          refine s_nil (s_nil (s_nil ?_))
          refine fin _ ?_ l1 l2 l3 l4 rfl
          rw [cut1, if_neg hno, if_neg (fun h => h2 h.2), List.append_nil]; exact hs
      · refine (if_neg (by simpa using h1)).mpr ?_
        refine (if_neg (by decide)).mpr ?_
        refine s_nil (s_nil (s_nil ?_))
        refine fin _ ?_ l1 l2 l3 l4 rfl
        rw [cut1, if_neg hno, if_neg (fun h => h1 h.1), List.append_nil]; exact hs
    by_cases h1 : t.2.1 < m.2.1
    · refine (if_pos (by simpa using h1)).mpr ?_
      refine and_cons ?_
      refine test_cmp (by rfl) ?_
      refine name_l he (by rfl) (by rfl) (rfl) ?_
      refine name_l he (by rfl) (by rfl) (l4) ?_
      refine op_lt ?_
      refine tr_bool ?_
      by_cases h2 : t.2.2 < m.2.2
      · refine (if_pos (by simpa using h2)).mpr ?_
        refine and_nil ?_
        refine (if_pos rfl).mpr ?_
        refine s_cons ?_
        refine s_expr he.hi (by rfl) ?_
        refine e_meth1 (by rfl) (by rfl) (by rfl) PySem.F.plainAttrs_list PySem.F.slot_list_append PySem.F.type_list_append (by rfl) ?_
        refine name_l he (by rfl) (by rfl) (l1) ?_
        refine ⟨is_list hsc, ?_⟩
        refine e_tuple ?_
        refine args_cons (by rfl) ?_
        refine e_call (f := .builtin "max") (name_b he (by rfl) (by rfl) (by kernel_rfl) (by kernel_rfl) (by decide) ⟨rfl, rfl⟩) (plain_builtin _) (by rfl) (by rfl) ?_
        refine args_cons (by rfl) ?_
        refine name_l he (by rfl) (by rfl) (rfl) ?_
        refine args_cons (by rfl) ?_
        refine binop ?_
        refine name_l he (by rfl) (by rfl) (rfl) ?_
        refine name_l he (by rfl) (by rfl) (l3) ?_
        refine op_sub ?_
        refine args_cons (by rfl) ?_
        refine binop ?_
        refine name_l he (by rfl) (by rfl) (rfl) ?_
        refine name_l he (by rfl) (by rfl) (l4) ?_
        refine op_sub ?_
        refine args_nil ?_
        refine c_max3 ?_
        refine args_cons (by rfl) ?_
        refine name_l he (by rfl) (by rfl) (rfl) ?_
        refine args_cons (by rfl) ?_
        refine name_l he (by rfl) (by rfl) (rfl) ?_
        refine args_nil ?_
        refine ⟨by simp [sizeLine], ?_⟩
        refine c_append hsc (by simp [sizeLine]; omega) ⟨rfl, ?_⟩
        refine s_nil (s_nil ?_)
        refine fin _ ?_ l1 l2 l3 l4 rfl
        show upd ms.sto c (MO.list ((acc.map t3).map ti ++ [ti (t3 (max (max t.1 (t.2.1 - m.2.1)) (t.2.2 - m.2.2), t.2.1, t.2.2))])) = _
        rw [t3l_app, hs, upd_upd, cut1, if_pos ⟨h1, h2⟩]
      · refine (if_neg (by simpa using h2)).mpr ?_
        refine (if_neg (by decide)).mpr ?_
        exact other (fun h => h2 h.2)
    · refine (if_neg (by simpa using h1)).mpr ?_
      refine (if_neg (by decide)).mpr ?_
      exact other (fun h => h1 h.1)
theorem due_while {z : Z} {L d : Addr} {s0 : Addr → Option MO} (hu : z.A.units + 5 < cLine) (he : EnvOk z (E302 L)) (hd : s0 d = none) :
    ∀ (n : Nat) (rs done : List T3) (r : Addr) (ms : MS) (Q : MF → MS → Prop), rs.length ≤ 10000 → done.length + n ≤ 100000 → Ext s0 ms.sto → ms.sto d = some (t3l done) → ms.sto r = some (t3l rs) → r ≠ d → ms.loc "runs" = some (.obj r) → ms.loc "due" = some (.obj d) → (dueGo n rs).length < n →
      (∀ ms', Ext s0 ms'.sto → ms'.sto d = some (t3l (done ++ dueGo n rs)) → ms'.loc "due" = some (.obj d) → Q .next ms') → WhileN z (E302 L) (forTest dWh) (forBody dWh) n ms Q
  | 0, rs, done, r, ms, Q, _, _, _, _, _, _, _, _, h, _ => absurd h (Nat.not_lt_zero _)
  | n + 1, rs, done, r, ms, Q, hz, hz2, hx, h1, h2, hrd, l1, l2, hlt, q => by
    refine test_cmp (by rfl) ?_
    refine name_l he (by rfl) (by rfl) (l1) ?_
    refine e_list ?_
    refine args_nil ?_
    refine ⟨by simp [sizeLine], fun e hen => ?_⟩
    have hre : r ≠ e := fun q => by subst q; rw [hen] at h2; cases h2
    have hde : d ≠ e := fun q => by subst q; rw [hen] at h1; cases h1
    refine op_ne_lists (xss := rs.map t3) (yss := []) (by omega) ((upd_ne _ _ hre).trans h2) (upd_self _ _ _) ?_
    refine tr_bool ?_
    have hx1 : Ext s0 (upd ms.sto e (.list [])) := hx.upd (hx.none hen)
    by_cases h0 : rs = []
    · subst h0
      refine (if_neg (by simp)).mpr ?_
      exact q _ hx1 ((upd_ne _ _ hde).trans (by rw [h1]; simp [dueGo])) l2
    · refine (if_pos (by simpa using h0)).mpr ?_
      have hmin := minL_t3 h0
      refine s_cons ?_
      refine s_assign (by rfl) (by rfl) (by rfl) ?_
      refine e_call (f := .builtin "min") (name_b he (by rfl) (by rfl) (by kernel_rfl) (by kernel_rfl) (by decide) ⟨rfl, rfl⟩) (plain_builtin _) (by rfl) (by rfl) ?_
      refine args_cons (by rfl) ?_
      refine name_l he (by rfl) (by rfl) (l1) ?_
      refine args_nil ?_
      refine c_min (xss := rs.map t3) hu ((upd_ne _ _ hre).trans h2) (by simpa using h0) ?_
      rw [hmin]
      refine st_tuple (by rfl) (by rfl) ?_
      refine st_name he (by rfl) ?_
      refine st_name he (by rfl) ?_
      refine st_name he (by rfl) ?_
      refine s_cons ?_
      refine s_expr he.hi (by rfl) ?_
      refine e_meth1 (by rfl) (by rfl) (by rfl) PySem.F.plainAttrs_list PySem.F.slot_list_append PySem.F.type_list_append (by rfl) ?_
      refine name_l he (by rfl) (by rfl) (l2) ?_
      refine ⟨is_list ((upd_ne _ _ hde).trans h1), ?_⟩
      refine e_tuple ?_
      refine args_cons (by rfl) ?_
      refine name_l he (by rfl) (by rfl) (rfl) ?_
      refine args_cons (by rfl) ?_
      refine name_l he (by rfl) (by rfl) (rfl) ?_
      refine args_cons (by rfl) ?_
      refine unop ?_
      refine name_l he (by rfl) (by rfl) (rfl) ?_
      refine op_neg ?_
      refine args_nil ?_
      refine ⟨by simp [sizeLine], ?_⟩
      refine c_append ((upd_ne _ _ hde).trans h1) (by simp [sizeLine]; omega) ⟨rfl, ?_⟩
      rw [show (MO.list ((done.map t3).map ti ++ [.tup false [.int (min3 rs).2.1, .int (min3 rs).2.2, .int (-(min3 rs).1)]])) = t3l (done ++ [((min3 rs).2.1, (min3 rs).2.2, -(min3 rs).1)]) by simp [t3l, tl, t3, ti]]
      refine s_cons ?_
      refine s_assign (by rfl) (by rfl) (by rfl) ?_
      refine e_list ?_
      refine args_nil ?_
      refine ⟨by simp [sizeLine], fun c hc => ?_⟩
      obtain ⟨hcd, hc⟩ := upd_fresh hc
      obtain ⟨hce, hc⟩ := upd_fresh (f := ms.sto) hc
      have hrc : r ≠ c := fun q => by subst q; rw [hc] at h2; cases h2
      refine st_name he (by rfl) ?_
      refine s_cons ?_
      refine s_for_list (.tup _ _ _) (by intro _; rfl) ?_
      refine name_l he (by rfl) (by rfl) (l1) ?_
      have hsr : upd (upd ms.sto e (.list [])) d (t3l (done ++ [((min3 rs).2.1, (min3 rs).2.2, -(min3 rs).1)])) r = some (t3l rs) := (upd_ne _ _ hrd).trans ((upd_ne _ _ hre).trans h2)
      refine ⟨r, _, rfl, (upd_ne _ _ hrc).trans hsr, ?_⟩
      refine due_for (r := r) (all := rs) (m := min3 rs) he hrc hsr rs [] _ _ (by simp; omega) (by rfl) (by rfl) (by rfl) (by rfl) (by rfl) (fun _ h => h) ?_
      intro ms' g1 g2 g3
      refine s_cons ?_
      refine s_assign (by rfl) (by rfl) (by rfl) ?_
      refine name_l he (by rfl) (by rfl) (g2) ?_
      refine st_name he (by rfl) ?_
      refine s_nil ?_
      have hdue : dueGo (n + 1) rs = ((min3 rs).2.1, (min3 rs).2.2, -(min3 rs).1) :: dueGo n (cut (min3 rs) rs) := by rw [dueGo, if_neg h0]
      rw [hdue] at hlt q
      simp only [List.length_cons] at hlt
      have hsc : ms'.sto c = some (t3l (cut (min3 rs) rs)) := by rw [g1, upd_self, List.nil_append]
      have hsd : ms'.sto d = some (t3l (done ++ [((min3 rs).2.1, (min3 rs).2.2, -(min3 rs).1)])) := by rw [g1, upd_ne _ _ (Ne.symm hcd), upd_self]
      refine due_while hu he hd n (cut (min3 rs) rs) (done ++ [((min3 rs).2.1, (min3 rs).2.2, -(min3 rs).1)]) c _ Q (Nat.le_trans (cut_len _ _) hz) (by simp; omega) ?_ hsd hsc hcd (by rfl) (g3.trans l2) (by omega) ?_
      · show Ext s0 ms'.sto
        rw [g1]
        exact (hx1.upd hd).upd (hx.none hc)
      · intro m3 f1 f2 f3
        exact q m3 f1 (by rw [f2]; simp) f3
theorem foldl_min_mem : ∀ (xs : List T3) (b : T3), xs.foldl min3Step b = b ∨ xs.foldl min3Step b ∈ xs
  | [], b => .inl rfl
  | x :: xs, b => by
    rw [List.foldl_cons]
    rcases foldl_min_mem xs (min3Step b x) with h | h
    · rw [h]; unfold min3Step; split
      · exact .inr (by simp)
      · exact .inl rfl
    · exact .inr (by simp [h])
theorem min3_mem {xs : List T3} (h : xs ≠ []) : min3 xs ∈ xs := by
  cases xs with
  | nil => exact absurd rfl h
  | cons x xs => rcases foldl_min_mem xs x with e | e <;> simp [min3, e]
theorem flatMap_len_lt {α β : Type} {f : α → List β} {l : List α} (h1 : ∀ x, (f x).length ≤ 1) {m : α} (hm : m ∈ l) (h0 : f m = []) : (l.flatMap f).length < l.length := by
  induction l with
  | nil => cases hm
  | cons x xs ih =>
    have le : ∀ ys : List α, (ys.flatMap f).length ≤ ys.length := by
      intro ys
      induction ys with
      | nil => simp
      | cons y ys ih => simp only [List.flatMap_cons, List.length_append, List.length_cons]; have := h1 y; omega
    simp only [List.flatMap_cons, List.length_append, List.length_cons]
    rcases List.mem_cons.mp hm with rfl | hm
    · rw [h0, List.length_nil]; have := le xs; omega
    · have := ih hm; have := h1 x; omega
noncomputable def Neg (rs : List T3) : Prop := ∀ r ∈ rs, r.1 < 0
theorem cut_lt {rs : List T3} (h : rs ≠ []) (hn : Neg rs) : (cut (min3 rs) rs).length < rs.length := by
  refine flatMap_len_lt (fun x => ?_) (min3_mem h) ?_
  · unfold cut1; split <;> (try split) <;> simp
  · have := hn _ (min3_mem h)
    unfold cut1
    rw [if_neg (by omega), if_neg (by omega)]
theorem cut_neg {m : T3} {rs : List T3} (hn : Neg rs) : Neg (cut m rs) := by
  intro x hx
  obtain ⟨r, hr, hx⟩ := List.mem_flatMap.mp hx
  have := hn r hr
  unfold cut1 at hx
  split at hx
  · rename_i h
    simp only [List.mem_singleton] at hx
    subst hx
    dsimp only
    omega
  · split at hx
    · simp only [List.mem_singleton] at hx; subst hx; exact this
    · cases hx
theorem dueGo_len : ∀ (n : Nat) (rs : List T3), rs.length < n → Neg rs → (dueGo n rs).length < n
  | 0, _, h, _ => absurd h (Nat.not_lt_zero _)
  | n + 1, rs, h, hn => by
    rw [dueGo]
    split
    · simp
    · rename_i h0
      have := cut_lt h0 hn
      have := dueGo_len n (cut (min3 rs) rs) (by omega) (cut_neg hn)
      simp only [List.length_cons]; omega
theorem runs3_neg (one two : List Int) : Neg (runs3 one two) := by
  intro x hx
  unfold runs3 at hx
  simp only [List.mem_flatMap] at hx
  obtain ⟨i, _, j, _, hx⟩ := hx
  unfold run3At at hx
  split at hx
  · simp only [List.mem_singleton] at hx; subst hx; dsimp only; omega
  · cases hx
noncomputable def due3 (one two : List Int) : List T3 := dueGo ((runs3 one two).length + 1) (runs3 one two)
theorem due_ok {z : Z} {ms : MS} {Q : MV → MS → Prop} {a b : Addr} {one two : List Int} (hr : Rm z 2) (ha : ms.sto a = some (il one)) (hb : ms.sto b = some (il two)) (n1 : one.length ≤ 100) (n2 : two.length ≤ 100) (n3 : (runs3 one two).length ≤ 10000)
    (q : ∀ sto d, Ext ms.sto sto → ms.sto d = none → sto d = some (t3l (due3 one two)) → Q (.obj d) ⟨ms.loc, sto⟩) : CallV z (.ref 302) [.obj a, .obj b] ms Q := by
  refine c302 hr fun z' L' hw he hr' => ?_
  have hu : z'.A.units + 5 < cLine := Nat.lt_of_le_of_lt (by have := hr'.2; omega : z'.A.units + 5 ≤ 1005) (by decide)
  refine s_cons ?_
  refine s_swap (names := ["runs", "due"]) (by rfl) (by rfl) ?_
  refine e_tuple ?_
  refine args_cons (by rfl) ?_
  refine e_call (f := .ref 295) (name_g he (by rfl) (by rfl) (by kernel_rfl) ⟨rfl, rfl⟩) (plain_K (by kernel_rfl)) (by rfl) (by rfl) ?_
  refine args_cons (by rfl) ?_
  refine name_l he (by rfl) (by rfl) (rfl) ?_
  refine args_cons (by rfl) ?_
  refine name_l he (by rfl) (by rfl) (rfl) ?_
  refine args_nil ?_
  refine runs_ok hr' ha hb n1 n2 fun r hrn => ?_
  refine args_cons (by rfl) ?_
  refine e_list ?_
  refine args_nil ?_
  refine ⟨by simp [sizeLine], fun d hd => ?_⟩
  obtain ⟨hdr, hd⟩ := upd_fresh (f := ms.sto) hd
  refine args_nil ?_
  refine ⟨by simp [sizeLine], _, rfl, rfl, ?_⟩
  refine st_bind he (by rfl) ?_
  refine st_bind he (by rfl) ?_
  refine s_cons ?_
  refine s_while ((runs3 one two).length + 1) ?_
  refine due_while (d := d) (s0 := ms.sto) hu he hd _ (runs3 one two) [] r _ _ n3 (by simp; omega) (((Ext.refl _).upd hrn).upd hd) (by exact upd_self _ _ _) ((upd_ne _ _ (Ne.symm hdr)).trans ((upd_self _ _ _).trans (by rw [runsL_t3]; rfl))) (Ne.symm hdr) (by rfl) (by rfl) (dueGo_len _ _ (Nat.lt_succ_self _) (runs3_neg _ _)) ?_
  intro ms' f1 f2 f3
  refine s_cons ?_
  refine s_return ?_
  refine name_l he (by rfl) (by rfl) (f3) ?_
  exact q ms'.sto d f1 hd (by rw [f2]; rfl)
end Mine
end

/-! Attr -/
section
open PySem PySem.W PyProof.Rows
set_option Elab.async false
set_option maxRecDepth 100000
set_option maxHeartbeats 1000000
set_option linter.unusedVariables false
namespace Mine

section
variable {z : Z} {ms : MS} {env : Env} {pos : Pos} {Q : MV → MS → Prop}
/-- a name that the class does not hold, in nobody's way -/
noncomputable def FreeName (name : Str) : Prop := ∀ q, (findIn (K q) (.ref 242) name, takerIn (K q) 242 name, copiedNames.contains name) = (some none, some none, false)
theorem ar_find {h : Heap} {name : Str} : ∀ {l : List (Str × MV)} {es : List DictEntry}, AR h l es → (∀ d, l.lookup name = some d → ∃ u, getL name es = some (some u) ∧ VR h d u) ∧ (l.lookup name = none → getL name es = some none) ∧ es.any (·.refKey) = false ∧ es.any (·.key.isStr name) = (l.lookup name).isSome
  | [], es, r => by
    have r : es = [] := r
    subst r
    exact ⟨(fun d e => nomatch e), fun _ => rfl, rfl, rfl⟩
  | p :: l, _, ⟨e, r, t, rfl, hk, hv, hr⟩ => by
    obtain ⟨x, d⟩ := p
    obtain ⟨i1, i2, i3, i4⟩ := ar_find (name := name) hr
    dsimp only at hk hv
    have nr : e.refKey = false := by unfold DictEntry.refKey; rw [hk]
    have is : e.key.isStr name = (name == x) := by
      rw [hk]
      show (x == name) = (name == x)
      rw [Bool.eq_iff_iff, beq_iff_eq, beq_iff_eq]; exact ⟨Eq.symm, Eq.symm⟩
    by_cases q : (name == x) = true
    · rw [q] at is
      have g : getL name (e :: r) = some (some e.val) := by unfold getL; rw [List.find?_cons, is]
      refine ⟨fun d' e' => ?_, fun e' => ?_, ?_, ?_⟩
      · rw [List.lookup_cons, q] at e'; cases e'; exact ⟨_, g, hv⟩
      · rw [List.lookup_cons, q] at e'; cases e'
      · rw [List.any_cons, nr, i3]; rfl
      · rw [List.any_cons, is, List.lookup_cons, q]; rfl
    · have q := Bool.eq_false_iff.mpr q
      rw [q] at is
      have g : getL name (e :: r) = getL name r := by unfold getL; rw [List.find?_cons, is, List.any_cons, nr, Bool.false_or]
      rw [g]
      refine ⟨fun d' e' => ?_, fun e' => ?_, ?_, ?_⟩
      · rw [List.lookup_cons, q] at e'; exact i1 d' e'
      · rw [List.lookup_cons, q] at e'; exact i2 e'
      · rw [List.any_cons, nr, i3]; rfl
      · rw [List.any_cons, is, List.lookup_cons, q, Bool.false_or]; exact i4
noncomputable def putA (x : Str) (d : MV) : List (Str × MV) → List (Str × MV)
  | [] => [(x, d)]
  | p :: l => if x == p.1 then (p.1, d) :: l else p :: putA x d l
theorem ar_put {h : Heap} {name : Str} {hsh : Int} {t : Tok} {d : MV} {u : Value} (ru : VR h d u) : ∀ {l : List (Str × MV)} {es : List DictEntry}, AR h l es → AR h (putA name d l) (putL name hsh (.str name t) u es)
  | [], es, r => by
    have r : es = [] := r
    subst r
    exact ⟨_, _, t, rfl, rfl, ru, rfl⟩
  | p :: l, _, ⟨e, r, t', rfl, hk, hv, hr⟩ => by
    have is : e.key.isStr name = (name == p.1) := by
      rw [hk]
      show (p.1 == name) = (name == p.1)
      rw [Bool.eq_iff_iff, beq_iff_eq, beq_iff_eq]; exact ⟨Eq.symm, Eq.symm⟩
    unfold putA putL
    rw [is]
    split
    · exact ⟨_, _, t', rfl, hk, ru, hr⟩
    · exact ⟨_, _, t', rfl, hk, hv, ar_put ru hr⟩
theorem ar_len {h : Heap} : ∀ {l : List (Str × MV)} {es : List DictEntry}, AR h l es → es.length = l.length
  | [], es, r => by
    have r : es = [] := r
    subst r
    rfl
  | p :: l, _, ⟨e, r, t', rfl, hk, hv, hr⟩ => by simp [ar_len hr]
theorem instAt {h : Heap} {x dx : Addr} {od : Obj} (e : h.get? x = some ⟨.ref 242, some dx, .plain, #[]⟩) (e' : h.get? dx = some od) : InstAt h x ⟨.ref 242, some dx, .plain, #[]⟩ 242 (some od) := ⟨e, rfl, rfl, e'⟩
theorem cls242 (q : Params) : clsIn (K q) 242 = some { name := "SequenceMatcher", bases := [.type "object"], mro := [.ref 242, .type "object"], ns := 241, qualname := "SequenceMatcher", hasDict := true } := by kernel_rfl
theorem ga242 (q : Params) : findIn (K q) (.ref 242) "__getattribute__" = some (some (.builtin "object.__getattribute__")) := by kernel_rfl
theorem gat242 (q : Params) : findIn (K q) (.ref 242) "__getattr__" = some none := by kernel_rfl
theorem sa242 (q : Params) : findIn (K q) (.ref 242) "__setattr__" = some (some (.builtin "object.__setattr__")) := by kernel_rfl
theorem findObj_free {q : Params} {name : Str} {o : Obj} {v : Value} (hf : FreeName name) (hl : lookIn name o = some (some v)) : findObj (K q) 242 (some o) name = some (.value v) := by
  have := hf q
  simp only [Prod.mk.injEq] at this
  unfold findObj
  rw [cls242, this.1]
  show (PySem.W.ownOf _ (some o) name).bind _ = _
  unfold PySem.W.ownOf
  rw [if_pos rfl]
  show (lookIn name o).bind _ = _
  rw [hl]; rfl
theorem getA {s : Shared} {x dx : Addr} {l : List (Str × MV)} {name : Str} {d : MV} {R : Value → Shared → Prop} (sh : SH z ms s.heap) (hx : ms.sto x = some (.inst dx)) (hd : ms.sto dx = some (.attrs l)) (hf : FreeName name) (hl : l.lookup name = some d)
    (hin : ∀ h u, VR h d u → handedIn u = true) (h : ∀ u, VR s.heap d u → R u { s with toks := s.toks + 1 }) : wpAny (model P z.w) z.A (getAttr (.ref x) name true) R NoE s := by
  obtain ⟨es, n, e, ar⟩ := (sh.sto dx _ hd).2.2.2
  obtain ⟨u, g, ru⟩ := (ar_find ar).1 d hl
  exact get_value sh.keepIn (instAt (sh.sto x _ hx).2.2.2 e) (ga242 _) (findObj_free hf g) (hin _ _ ru) (h u ru)
/-- e.name of an object's own dict -/
theorem e_attr {value : Expr} {name : Str} (he : eval (.Attribute value name pos) env = (do let o ← eval value env; standAt pos.atName; let r ← holding [o] (getAttr o name true); letTemporaryGo value o r; pure r)) (hf : FreeName name)
    (h : WV z (eval value env) ms fun d ms₁ => ∃ x dx l d', d = .obj x ∧ ms₁.sto x = some (.inst dx) ∧ ms₁.sto dx = some (.attrs l) ∧ l.lookup name = some d' ∧ (∀ h u, VR h d' u → handedIn u = true) ∧ Q d' ms₁) : WV z (eval (.Attribute value name pos) env) ms Q := by
  intro s ok sh
  refine Attribute_any_ (h.run (R' := VR) ok sh fun u d ms₁ s₁ ok₁ k₁ sh₁ ru ⟨x, dx, l, d', hd, hx, hdx, hl, hin, q⟩ => ?_) he
  subst hd
  obtain rfl := vr_obj.mp ru
  exact getA sh₁ hx hdx hf hl hin fun u ru => post_at (s := { s₁ with toks := s₁.toks + 1 }) ok₁ k₁ sh₁ ru q
theorem set_here {w : World} {A : Around} {E : Value → Shared → Prop} {s : Shared} {x dx : Addr} {es : List DictEntry} {n : Nat} {name : Str} {v : Value} {R : Unit → Shared → Prop} (X : (K w.params).In s.heap) (hx : s.heap.get? x = some ⟨.ref 242, some dx, .plain, #[]⟩) (hd : s.heap.get? dx = some (dictOf es n)) (hf : FreeName name)
    (hl : (getL name es).isSome = true) (hz : (putL name (PyData.keyHash w.params name) (.str name (s.toks + 1)) v es).length ≤ 1000)
    (h : ∀ h', Heap.SameBut dx s.heap h' → h'.get? dx = some (dictOf (putL name (PyData.keyHash w.params name) (.str name (s.toks + 1)) v es) (putN name es n)) → R () { s with heap := h', toks := s.toks + 2 }) :
    wpAny (model P w) A (setAttr (.ref x) name v) R E s := by
  have hf := hf w.params
  simp only [Prod.mk.injEq] at hf
  refine set_plain X (instAt hx hd) (sa242 _) (osa_open (s := { s with toks := s.toks + 1 }) X (instAt hx hd) (by kernel_rfl) hf.2.1 fun b => ?_)
  have hm : Obj.putName name (PyData.keyHash w.params name) (.str name (s.toks + 1)) v (dictOf es n) = dictOf (putL name (PyData.keyHash w.params name) (.str name (s.toks + 1)) v es) (putN name es n) := putName_dict ..
  have D' : (s.heap.update dx (Obj.putName name (PyData.keyHash w.params name) (.str name (s.toks + 1)) v)).get? dx = some (dictOf (putL name (PyData.keyHash w.params name) (.str name (s.toks + 1)) v es) (putN name es n)) := by
    rw [Heap.get?_update_self _ hd (by rw [hm]; rfl), hm]
  refine wpAny_bind (wpAny_pure (wpAny_bind (wpAny_bind (wpAny_loadPart hx (wpAny_bind (Looks.here (s := { s with toks := s.toks + 1 }) (looks_clsIn X (cls242 _)) ?_))))))
  refine wpAny_pure (a := some dx) (wpAny_bind (wpAny_pure (wpAny_bind ?_)))
  unfold nsSet
  refine wpAny_bind (wpAny_bind (wpAny_askSetting (wpAny_pure (wpAny_bind (wpAny_mkText (wpAny_bind (wpAny_loadPart hd ?_)))))))
  have c : (!es.toArray.any (·.key.isStr name) && es.toArray.any (·.refKey)) = false := by
    rw [List.any_toArray, List.any_toArray]
    unfold getL at hl
    split at hl
    · rename_i en he
      rw [List.any_eq_true.mpr ⟨en, List.mem_of_find?_eq_some he, List.find?_some he⟩]; rfl
    · split at hl
      · cases hl
      · rename_i z; rw [Bool.not_eq_true] at z; rw [z, Bool.and_false]
  dsimp only
  rw [aRefKeyMayBeTheName_at, c]
  refine wpAny_updatePart hd ?_
  refine wpAny_bind (wpAny_lookBehind D' (pastItsLine_dict (by rw [List.size_toArray, sizeLine_eq]; omega)) ?_)
  exact wpAny_pure (h _ (Heap.SameBut.update ..) D')
theorem putL_len (name : Str) (hsh : Int) (key v : Value) : ∀ es : List DictEntry, (putL name hsh key v es).length ≤ es.length + 1
  | [] => by simp [putL]
  | e :: r => by
    have := putL_len name hsh key v r
    unfold putL
    split <;> simp <;> omega
theorem st_attr {o : Expr} {name : Str} {d : MV} {Q : MS → Prop} (hf : FreeName name)
    (h : WV z (eval o env) ms fun a ms₁ => ∃ x dx l, a = .obj x ∧ ms₁.sto x = some (.inst dx) ∧ ms₁.sto dx = some (.attrs l) ∧ l.length ≤ 100 ∧ Q ⟨ms₁.loc, upd ms₁.sto dx (.attrs (putA name d l))⟩) : StV z (assign (.Attribute o name pos) env) d ms Q := by
  intro u s ok sh ru
  rw [assign_Attribute]
  refine wpAny_bind (wpAny_holding (h.run (R' := VR) ok sh fun ov a ms₁ s₁ ok₁ k₁ sh₁ ro ⟨x, dx, l, ha, hx, hd, hz, q⟩ => ?_))
  subst ha
  obtain rfl := vr_obj.mp ro
  refine wpAny_bind (wpAny_standAt (wpAny_bind (wpAny_holding ?_)))
  obtain ⟨es, n, e, ar⟩ := (sh₁.sto dx _ hd).2.2.2
  have hl : (getL name es).isSome = true := by
    cases q : l.lookup name with
    | none => rw [(ar_find ar).2.1 q]; rfl
    | some d' => obtain ⟨u, g, _⟩ := (ar_find ar).1 d' q; rw [g]; rfl
  refine set_here sh₁.keepIn (sh₁.sto x _ hx).2.2.2 e hf hl (Nat.le_trans (putL_len ..) (by rw [ar_len ar]; omega)) fun h' sb e' => ?_
  have p := sh₁.put (mo' := .attrs (putA name d l)) hd sb fun kk => ⟨_, _, e', ar_put ((ru.keep k₁).keep kk) (ar.keep kk)⟩
  refine PySem.wpAny_release ?_
  exact post_at (s := { s₁ with heap := h', toks := s₁.toks + 2 }) (d := ()) ok₁ (k₁.trans p.2) p.1 trivial q
end
end Mine
end

/-! Obj -/
section
open PySem PySem.W PyProof.Rows
set_option Elab.async false
set_option maxRecDepth 100000
set_option maxHeartbeats 1000000
set_option linter.unusedVariables false
namespace Mine

section
variable {z : Z} {ms : MS} {env : Env} {pos : Pos} {Q : MV → MS → Prop}
/-- the class's function of a name -/
noncomputable def MethIs (name : Str) (f : Addr) : Prop := ∀ q, (findIn (K q) (.ref 242) name, typeIn (K q) (.ref f), keepIn (K q) (.ref f)) = (some (some (.ref f)), some (.type "function"), true)
noncomputable def InstOf (ms : MS) (x dx : Addr) (l : List (Str × MV)) : Prop := ms.sto x = some (.inst dx) ∧ ms.sto dx = some (.attrs l)
theorem e_imeth {o : Expr} {name : Str} {apos : Pos} {args : List Expr} {f : Addr} (hbase : attributeBase o name env (eval o env) = eval o env)
    (hfew : ((backTo pos (starEach args env)).all (fun x => !x.1) && (backToKw pos (keywordEach [] env)).all (fun x => x.1.isSome) && decide (args.length + ([] : List Keyword).length + (if ([] : List Keyword).isEmpty then 0 else 1) < 30)) = true)
    (hline : (apos.endLine == pos.line) = true) (hm : MethIs name f)
    (h : WV z (eval o env) ms fun d ms₁ => ∃ x dx l, d = .obj x ∧ InstOf ms₁ x dx l ∧ l.lookup name = none ∧
      ∀ s, Ok z s → SH z ms₁ s.heap → wpAny (model P z.w) z.A (callWith pos (.ref f) [.ref x] (backTo pos (starEach args env)) []) (Post z VR s.heap Q) NoE s) :
    WV z (eval (.Call (.Attribute o name apos) args [] pos) env) ms Q := by
  intro s ok sh
  rw [arm_eval_Call, hbase]
  refine wpAny_bind (h.run (R' := VR) ok sh fun u d ms₁ s₁ ok₁ k₁ sh₁ ru ⟨x, dx, l, hd, ⟨hx, hdx⟩, hl, q₁⟩ => ?_)
  subst hd
  obtain rfl := vr_obj.mp ru
  obtain ⟨es, n, e, ar⟩ := (sh₁.sto dx _ hdx).2.2.2
  have hmm := hm z.w.params
  simp only [Prod.mk.injEq] at hmm
  refine wpAny_bind (wpAny_standAt ?_)
  have hform : methodCallForm (args.length + ([] : List Keyword).length) (backTo pos (starEach args env)) (backToKw pos (keywordEach [] env)) = true := hfew
  have hpos : methodCallPos true o env apos pos = pure pos := by unfold methodCallPos; simp [hline]
  unfold methodCall
  rw [hform]
  refine wpAny_bind (wpAny_holding (method_fn sh₁.keepIn (instAt (sh₁.sto x _ hx).2.2.2 e) (ga242 _) (gat242 _) hmm.1 hmm.2.1 (by show (getL name es).map (·.isSome) = _; rw [(ar_find ar).2.1 hl]; rfl) ?_))
  exact wpAny_bind (wpAny_of_eq hpos (wp_post (q₁ s₁ ok₁ sh₁) k₁ fun _ _ x => x))
theorem e_imeth0 {o : Expr} {name : Str} {apos : Pos} {f : Addr} (hbase : attributeBase o name env (eval o env) = eval o env)
    (hline : (apos.endLine == pos.line) = true) (hm : MethIs name f)
    (h : WV z (eval o env) ms fun d ms₁ => ∃ x dx l, d = .obj x ∧ InstOf ms₁ x dx l ∧ l.lookup name = none ∧ CallV z (.ref f) [.obj x] ms₁ Q) : WV z (eval (.Call (.Attribute o name apos) [] [] pos) env) ms Q := by
  have hk := hm z.w.params
  simp only [Prod.mk.injEq] at hk
  exact e_imeth hbase rfl hline hm (h.mono fun d ms₁ ⟨x, dx, l, a, b, c, q⟩ => ⟨x, dx, l, a, b, c, fun s ok sh => callW0 (first := [.obj x]) (plain_K hk.2.2) q ok sh (VRs.one (vr_obj.mpr rfl))⟩)
theorem e_imethN {o e : Expr} {rest : List Expr} {name : Str} {apos : Pos} {f : Addr} (hbase : attributeBase o name env (eval o env) = eval o env)
    (hfew : ((backTo pos (starEach (e :: rest) env)).all (fun x => !x.1) && (backToKw pos (keywordEach [] env)).all (fun x => x.1.isSome) && decide ((e :: rest).length + ([] : List Keyword).length + (if ([] : List Keyword).isEmpty then 0 else 1) < 30)) = true)
    (hline : (apos.endLine == pos.line) = true) (hm : MethIs name f) (he : starEach (e :: rest) env = (false, eval e env) :: starEach rest env) (hp : (backTo pos (starEach rest env)).any (·.1) = false)
    (h : WV z (eval o env) ms fun d ms₁ => ∃ x dx l, d = .obj x ∧ InstOf ms₁ x dx l ∧ l.lookup name = none ∧ WVs z (spliced (backTo pos (starEach (e :: rest) env))) ms₁ fun ds ms₂ => CallV z (.ref f) (.obj x :: ds) ms₂ Q) :
    WV z (eval (.Call (.Attribute o name apos) (e :: rest) [] pos) env) ms Q := by
  have hk := hm z.w.params
  simp only [Prod.mk.injEq] at hk
  refine e_imeth hbase hfew hline hm (h.mono fun d ms₁ ⟨x, dx, l, a, b, c, q⟩ => ⟨x, dx, l, a, b, c, fun s ok sh => ?_⟩)
  rw [he] at q ⊢
  exact callW (first := [.obj x]) (plain_K hk.2.2) hp q ok sh (VRs.one (vr_obj.mpr rfl))
noncomputable def zU (z : Z) (c : Code) (hf : ∃ l, (z.A.under c).frames = some l) : Z := { z with A := z.A.under c, hd := z.hd, fs := hf }
theorem sh_u {c : Code} {hf} {h : Heap} : SH (zU z c hf) ms h ↔ SH z ms h := ⟨fun x => ⟨x.base, x.fr, x.ns, x.lF, x.sto⟩, fun x => ⟨x.base, x.fr, x.ns, x.lF, x.sto⟩⟩
/-- an object is made -/
theorem c_make {ds : List MV} (h : ∀ z' x dx, z'.w = z.w → z'.A.depth ≤ z.A.depth + 1 → z'.A.units ≤ z.A.units + 10 → ms.sto x = none → ms.sto dx = none → x ≠ dx →
      CallC z' (.ref 160) (.obj x :: ds) ⟨ms.loc, upd (upd ms.sto dx (.attrs [])) x (.inst dx)⟩ fun d ms' => d = .none ∧ Q (.obj x) ms') : CallV z (.ref 242) ds ms Q := by
  intro us s ok sh rs
  have X := sh.keepIn
  obtain ⟨hh, g, dd, tk, os⟩ := s
  have N := sh.new_none
  have shd := sh.alloc (o := emptyDict) (mo := .attrs []) ⟨[], 0, Heap.get?_push_size _ rfl, rfl⟩
  have N' := shd.new_none
  have shx := shd.alloc (o := instObj 242 hh.objs.size) (mo := .inst hh.objs.size) (Heap.get?_push_size _ rfl)
  have sz : (hh.push emptyDict).objs.size = hh.objs.size + 1 := Heap.size_push ..
  rw [sz] at shx N'
  dsimp only at N N' shx shd
  obtain ⟨hne, hx0⟩ := upd_fresh (f := ms.sto) N'.2.1
  have hi : ∀ q, findIn (K q) (.ref 242) "__init__" = some (some (.ref 160)) := fun q => by kernel_rfl
  have ht : ∀ q, typeIn (K q) (.ref 160) = some (.type "function") := fun q => by kernel_rfl
  have hmk : ∀ q, makesIn (K q) 242 = true := fun q => by kernel_rfl
  have hf : ∃ l, (z.A.under (.builtin "type.__call__" ⟨.ref 242 :: us, []⟩)).frames = some l := by
    obtain ⟨l, e⟩ := z.fs
    exact ⟨l, by show pushEnvs [] z.A.frames = _; rw [e]; rfl⟩
  refine wpAny_call (make_core (makes_of X (hmk _)) (looks_findIn X (hi _)) (fun self => bind_fn X self (ht _)) (.inl rfl) ?_)
  have k2 : Keep hh ((hh.push emptyDict).push (instObj 242 hh.objs.size)) := (Keep.push _ _).trans (Keep.push _ _)
  have go := h (zU z (.builtin "type.__call__" ⟨.ref 242 :: us, []⟩) hf) (hh.objs.size + 1) hh.objs.size rfl (Nat.le_refl _) (Nat.add_le_add_left (Nat.le_of_ble_eq_true (show Nat.ble (Code.cUnits (.builtin "type.__call__" ⟨.ref 242 :: us, []⟩)) 10 = true by kernel_rfl)) _) hx0 N.2.1 hne
    (.ref (hh.objs.size + 1) :: us) ⟨(hh.push emptyDict).push (instObj 242 hh.objs.size), g, dd, tk, os⟩ ok (sh_u.mpr shx) (vrs_cons.mpr ⟨_, _, rfl, vr_obj.mpr rfl, rs.keep k2⟩)
  refine codeAny_mono go fun r s' p => ?_
  rcases r with e | (v | _ | _ | _) <;> first | exact p.elim | skip
  obtain ⟨ok', k', d, ms', sh', rv, rfl, q⟩ := p
  exact ⟨vr_none.mp rv, post_at (d := MV.obj (hh.objs.size + 1)) ok' (k2.trans k') (sh_u.mp sh') (vr_obj.mpr rfl) q⟩
end
end Mine
end

/-! Bd -/
section
open PySem PySem.W PyProof.Rows
set_option Elab.async false
set_option maxRecDepth 100000
set_option maxHeartbeats 1000000
set_option linter.unusedVariables false
namespace Mine
theorem t_dget : typeOf (.builtin "dict.get") = pure (.type "method_descriptor") := by show builtinType _ = _; rw [builtinType_eq_fast]; kernel_rfl
theorem l_mdget : typeLookup (.type "method_descriptor") "__get__" = pure (some (.builtin "method_descriptor.__get__")) := by rw [typeLookup_type, builtinLookup_eq_fast]; kernel_rfl
theorem l_mdset : typeLookup (.type "method_descriptor") "__set__" = pure none := by rw [typeLookup_type, builtinLookup_eq_fast]; kernel_rfl
theorem l_mddel : typeLookup (.type "method_descriptor") "__delete__" = pure none := by rw [typeLookup_type, builtinLookup_eq_fast]; kernel_rfl
theorem l_dget : typeLookup (.type "dict") "get" = pure (some (.builtin "dict.get")) := PySem.F.slot_dict_get.lookup
theorem mg_kind : builtinKind "method_descriptor.__get__" = some .slot := by decide +kernel
theorem mg_split : splitId "method_descriptor.__get__" = some ("method_descriptor", "__get__") := by decide +kernel
theorem mg_plain : plainId "method_descriptor.__get__" = true := by decide +kernel
theorem mg_entry : entryFor table "method_descriptor.__get__" = some Builtin.«method_descriptor.__get__» := entryFor_of_tree (by kernel_rfl)
theorem mg_args (a b c : Value) : argsOk "method_descriptor.__get__" ⟨[a, b, c], []⟩ := by unfold argsOk; kernel_rfl
theorem sub_md : isSubtype (.type "method_descriptor") (.type "method_descriptor") = pure true := by rw [isSubtype_type]; kernel_rfl
theorem sub_dd : isSubtype (.type "dict") (.type "dict") = pure true := by rw [isSubtype_type]; kernel_rfl
theorem told_dget : Manifest.toldItsClass.contains "dict.get" = false := by decide +kernel
theorem isi_dget : isInstance (.builtin "dict.get") (.type "method_descriptor") = pure true := by
  show (typeOf (.builtin "dict.get") >>= fun t => isSubtype t _) = _
  rw [t_dget]; exact sub_md
theorem md_body {w : World} {A : Around} {E : Value → Shared → Prop} {s : Shared} {a : Addr} {R : Value → Shared → Prop} (hT : s.TypeIs (.ref a) "dict")
    (h : R (.ref s.heap.objs.size) { s with heap := s.heap.push (bmO "dict.get" a) }) : wpAny (model P w) A (Builtin.«method_descriptor.__get__» ⟨[.builtin "dict.get", .ref a, .type "dict"], []⟩) (fun fin s' => ∃ v, fin = .done (.ret v) ∧ R v s') E s := by
  unfold Builtin.«method_descriptor.__get__»
  refine wpAny_bind (wpAny_of_eq (a := (.builtin "dict.get", some (.ref a), some (.type "dict"))) (by rfl) ?_)
  dsimp only
  rw [told_dget, if_neg Bool.false_ne_true]
  show wpAny _ _ (_ >>= fun _ => newFields "builtin_function_or_method" [.builtin "dict.get", .ref a] >>= fun r => ret r) _ _ s
  refine wpAny_bind ?_
  show wpAny _ _ (_ >>= _) _ _ s
  refine wpAny_bind (wpAny_of_eq (a := (Str.ofString "get", .type "dict")) (by kernel_rfl) ?_)
  refine wpAny_bind (wpAny_isInstance (T := "dict") (b := true) hT sub_dd ?_)
  refine wpAny_pure ?_
  refine wpAny_bind (wpAny_newObj_type ?_)
  exact wpAny_pure ⟨_, rfl, h⟩
theorem ga_dget {w : World} {A : Around} {E : Value → Shared → Prop} {s : Shared} {a : Addr} {es : Array DictEntry} {k : Nat} {u : Tok} {R : Value → Shared → Prop} (hx : s.heap.get? a = some { cls := .type "dict", dict := none, data := .dict es k, slots := #[] })
    (h : R (.ref s.heap.objs.size) { s with heap := s.heap.push (bmO "dict.get" a) }) : wpAny (model P w) A (Builtin.«object.__getattribute__» ⟨[.ref a, .str "get" u], []⟩) (fun fin s' => ∃ v, fin = .done (.ret v) ∧ R v s') E s := by
  obtain ⟨hp, g, d, tk, os⟩ := s
  have hT : (⟨hp, g, d, tk, os⟩ : Shared).TypeIs (.ref a) "dict" := ⟨_, hx, rfl⟩
  have f1 := l_dget
  have f2 := t_dget
  have f3 := l_mdget
  have f4 := l_mdset
  have f5 := l_mddel
  unfold Builtin.«object.__getattribute__»
  repeat (any_goals (first | assumption | wp_step))
  refine codeAny_call_builtin mg_plain mg_entry (@check_slot (model P w) A.in1 _ ⟨hp, g, d, tk, os⟩ "method_descriptor.__get__" "method_descriptor" "__get__" (.builtin "dict.get") [.ref a, .type "dict"] [] _ mg_kind mg_split (Looks.of_pure isi_dget) (mg_args (.builtin "dict.get") (.ref a) (.type "dict")) ?_)
  refine wpAny_mono (md_body (R := R) hT h) (fun fin s' ⟨v, e, hv⟩ => ?_) fun _ _ x => x
  subst e
  exact wpAny_pure ⟨v, rfl, hv⟩
theorem getAttr_dget {w : World} {A : Around} {E : Value → Shared → Prop} {s : Shared} {a : Addr} {es : Array DictEntry} {k : Nat} {R : Value → Shared → Prop} (hx : s.heap.get? a = some { cls := .type "dict", dict := none, data := .dict es k, slots := #[] })
    (h : ∀ tk, R (.ref s.heap.objs.size) { s with heap := s.heap.push (bmO "dict.get" a), toks := tk }) : wpAny (model P w) A (getAttr (.ref a) "get" true) R E s := by
  obtain ⟨hp, g, d, tk, os⟩ := s
  have hT : ∀ tk', (⟨hp, g, d, tk', os⟩ : Shared).TypeIs (.ref a) "dict" := fun _ => ⟨_, hx, rfl⟩
  have f3 := PySem.F.slot_dict_getattribute.lookup
  have f4 := PySem.F.slot_dict_getattribute.bind (.ref a)
  have f5 := am_dict_getattr_none
  unfold getAttr getAttrBy
  repeat (any_goals (first | assumption | exact hT _ | wp_step))
  refine codeAny_call_builtin PySem.F.slot_dict_getattribute.plain am_entry_dict_getattribute (PySem.F.slot_dict_getattribute.check _ _ _ _ (.ref a) [.str "get" tk] [] _ (hT _) (PySem.F.args_dict_getattribute_2 _ _) ?_)
  refine wpAny_mono (ga_dget (R := fun v s' => R v s' ∧ handedOut v = pure v) hx ⟨h _, rfl⟩) (fun fin s' ⟨v, e, hv, ho⟩ => ?_) fun _ _ x => x
  subst e
  show wpAny _ _ (handedOut v) R E s'
  rw [ho]; exact wpAny_pure hv
end Mine
end

/-! Bs -/
section
open PySem PySem.W PyProof.Rows
set_option Elab.async false
set_option maxRecDepth 100000
set_option maxHeartbeats 1000000
set_option linter.unusedVariables false
namespace Mine
theorem am_set_getattr_none : typeLookup (.type "set") "__getattr__" = pure none := by rw [typeLookup_type, builtinLookup_eq_fast]; kernel_rfl
theorem am_entry_set_getattribute : entryFor table "set.__getattribute__" = some Builtin.«object.__getattribute__» :=
  entryFor_alias (id' := "object.__getattribute__") (by kernel_rfl) (by decide +kernel) (by decide +kernel) (by kernel_rfl)
theorem t_dgetS : typeOf (.builtin "set.__contains__") = pure (.type "method_descriptor") := by show builtinType _ = _; rw [builtinType_eq_fast]; kernel_rfl
theorem l_dgetS : typeLookup (.type "set") "__contains__" = pure (some (.builtin "set.__contains__")) := PySem.F.slot_set_contains.lookup
theorem sub_ddS : isSubtype (.type "set") (.type "set") = pure true := by rw [isSubtype_type]; kernel_rfl
theorem told_dgetS : Manifest.toldItsClass.contains "set.__contains__" = false := by decide +kernel
theorem isi_dgetS : isInstance (.builtin "set.__contains__") (.type "method_descriptor") = pure true := by
  show (typeOf (.builtin "set.__contains__") >>= fun t => isSubtype t _) = _
  rw [t_dgetS]; exact sub_md
theorem md_bodyS {w : World} {A : Around} {E : Value → Shared → Prop} {s : Shared} {a : Addr} {R : Value → Shared → Prop} (hT : s.TypeIs (.ref a) "set")
    (h : R (.ref s.heap.objs.size) { s with heap := s.heap.push (bmO "set.__contains__" a) }) : wpAny (model P w) A (Builtin.«method_descriptor.__get__» ⟨[.builtin "set.__contains__", .ref a, .type "set"], []⟩) (fun fin s' => ∃ v, fin = .done (.ret v) ∧ R v s') E s := by
  unfold Builtin.«method_descriptor.__get__»
  refine wpAny_bind (wpAny_of_eq (a := (.builtin "set.__contains__", some (.ref a), some (.type "set"))) (by rfl) ?_)
  dsimp only
  rw [told_dgetS, if_neg Bool.false_ne_true]
  show wpAny _ _ (_ >>= fun _ => newFields "builtin_function_or_method" [.builtin "set.__contains__", .ref a] >>= fun r => ret r) _ _ s
  refine wpAny_bind ?_
  show wpAny _ _ (_ >>= _) _ _ s
  refine wpAny_bind (wpAny_of_eq (a := (Str.ofString "__contains__", .type "set")) (by kernel_rfl) ?_)
  refine wpAny_bind (wpAny_isInstance (T := "set") (b := true) hT sub_ddS ?_)
  refine wpAny_pure ?_
  refine wpAny_bind (wpAny_newObj_type ?_)
  exact wpAny_pure ⟨_, rfl, h⟩
theorem ga_dgetS {w : World} {A : Around} {E : Value → Shared → Prop} {s : Shared} {a : Addr} {ep : Nat} {tt : SetTable} {u : Tok} {R : Value → Shared → Prop} (hx : s.heap.get? a = some { cls := .type "set", dict := none, data := .set #[] ep tt, slots := #[] })
    (h : R (.ref s.heap.objs.size) { s with heap := s.heap.push (bmO "set.__contains__" a) }) : wpAny (model P w) A (Builtin.«object.__getattribute__» ⟨[.ref a, .str "__contains__" u], []⟩) (fun fin s' => ∃ v, fin = .done (.ret v) ∧ R v s') E s := by
  obtain ⟨hp, g, d, tk, os⟩ := s
  have hT : (⟨hp, g, d, tk, os⟩ : Shared).TypeIs (.ref a) "set" := ⟨_, hx, rfl⟩
  have f1 := l_dgetS
  have f2 := t_dgetS
  have f3 := l_mdget
  have f4 := l_mdset
  have f5 := l_mddel
  unfold Builtin.«object.__getattribute__»
  repeat (any_goals (first | assumption | wp_step))
  refine codeAny_call_builtin mg_plain mg_entry (@check_slot (model P w) A.in1 _ ⟨hp, g, d, tk, os⟩ "method_descriptor.__get__" "method_descriptor" "__get__" (.builtin "set.__contains__") [.ref a, .type "set"] [] _ mg_kind mg_split (Looks.of_pure isi_dgetS) (mg_args (.builtin "set.__contains__") (.ref a) (.type "set")) ?_)
  refine wpAny_mono (md_bodyS (R := R) hT h) (fun fin s' ⟨v, e, hv⟩ => ?_) fun _ _ x => x
  subst e
  exact wpAny_pure ⟨v, rfl, hv⟩
theorem getAttr_dgetS {w : World} {A : Around} {E : Value → Shared → Prop} {s : Shared} {a : Addr} {ep : Nat} {tt : SetTable} {R : Value → Shared → Prop} (hx : s.heap.get? a = some { cls := .type "set", dict := none, data := .set #[] ep tt, slots := #[] })
    (h : ∀ tk, R (.ref s.heap.objs.size) { s with heap := s.heap.push (bmO "set.__contains__" a), toks := tk }) : wpAny (model P w) A (getAttr (.ref a) "__contains__" true) R E s := by
  obtain ⟨hp, g, d, tk, os⟩ := s
  have hT : ∀ tk', (⟨hp, g, d, tk', os⟩ : Shared).TypeIs (.ref a) "set" := fun _ => ⟨_, hx, rfl⟩
  have f3 := PySem.F.slot_set_getattribute.lookup
  have f4 := PySem.F.slot_set_getattribute.bind (.ref a)
  have f5 := am_set_getattr_none
  unfold getAttr getAttrBy
  repeat (any_goals (first | assumption | exact hT _ | wp_step))
  refine codeAny_call_builtin PySem.F.slot_set_getattribute.plain am_entry_set_getattribute (PySem.F.slot_set_getattribute.check _ _ _ _ (.ref a) [.str "__contains__" tk] [] _ (hT _) (PySem.F.args_set_getattribute_2 _ _) ?_)
  refine wpAny_mono (ga_dgetS (R := fun v s' => R v s' ∧ handedOut v = pure v) hx ⟨h _, rfl⟩) (fun fin s' ⟨v, e, hv, ho⟩ => ?_) fun _ _ x => x
  subst e
  show wpAny _ _ (handedOut v) R E s'
  rw [ho]; exact wpAny_pure hv
end Mine
end

/-! Dict -/
section
open PySem PySem.W PyProof.Rows
set_option Elab.async false
set_option maxRecDepth 100000
set_option maxHeartbeats 1000000
set_option linter.unusedVariables false
namespace Mine

section
variable {z : Z} {ms : MS} {env : Env} {pos : Pos} {Q : MV → MS → Prop}
theorem dict_at {h : Heap} {a : Addr} {f : Int → Option MV} {n : Nat} (r : OR h a (.dict f n)) : ∃ g es ep, h.get? a = some { cls := .type "dict", dict := none, data := .dict es ep, slots := #[] } ∧ h.IntMap a g ∧ h.DictLe a n ∧ ∀ k, OV h (f k) (g k) := by
  obtain ⟨g, m, l, nd, rs⟩ := r
  obtain ⟨o, es, ep, e, hc, hd, _⟩ := id m
  obtain ⟨n1, n2⟩ := nd o e
  obtain ⟨oc, od, oda, osl⟩ := o
  dsimp only at hc hd n1 n2
  subst hc hd n1 n2
  exact ⟨g, es, ep, e, m, l, rs⟩
theorem is_dict {d : Addr} {f : Int → Option MV} {n : Nat} (hd : ms.sto d = some (.dict f n)) : ∀ h u, SH z ms h → VR h (.obj d) u → ∃ a ob, u = .ref a ∧ h.get? a = some ob ∧ ob.cls = .type "dict" ∧ ob.dict = none := fun h u sh ru => by
  obtain rfl := vr_obj.mp ru
  obtain ⟨g, es, ep, e, _⟩ := dict_at (sh.sto d _ hd).2.2.2
  exact ⟨_, _, rfl, e, rfl, rfl⟩
theorem e_dict0 (q : ∀ d, ms.sto d = none → 321 < d → Q (.obj d) ⟨ms.loc, upd ms.sto d (.dict (fun _ => none) 0)⟩) : WV z (eval (.Dict [] [] pos) env) ms Q := by
  intro s ok sh
  rw [eval_Dict_empty]
  refine wpAny_bind (wpAny_standAt ?_)
  refine wpAny_newObj_type ?_
  refine post_at (d := .obj s.heap.objs.size) ok (Keep.push _ _) (sh.alloc (mo := .dict (fun _ => none) 0) ?_) (vr_obj.mpr rfl) (q _ sh.new_none.2.1 sh.new_none.2.2.2)
  exact ⟨fun _ => none, Heap.IntMap.new _, Heap.DictLe.new _, (fun o e => by rw [Heap.get?_push_size _ rfl] at e; cases e; exact ⟨rfl, rfl⟩), fun _ => trivial⟩
theorem wpAny_missed_d {w : World} {A : Around} {E : Value → Shared → Prop} {s : Shared} {d : Addr} {k : Int} {t : Tok} {R : Option Value → Shared → Prop} (h : R none s) : wpAny (model P w) A (Builtin.Dict.missed d (.int k t)) R E s := wpAny_missed_int h
theorem ov_get {h : Heap} {f : Option MV} {g : Option Value} (r : OV h f g) : (f = none ∧ g = none) ∨ ∃ d u, f = some d ∧ g = some u ∧ VR h d u := by
  cases f <;> cases g
  · exact .inl ⟨rfl, rfl⟩
  · exact r.elim
  · exact r.elim
  · exact .inr ⟨_, _, rfl, rfl, r⟩
theorem dget_body {w : World} {A : Around} {E : Value → Shared → Prop} {s : Shared} {d : Addr} {f : Int → Option Value} {k : Int} {t : Tok} {dflt : Value} {R : Value → Shared → Prop} (hm : s.heap.IntMap d f)
    (h : ∀ tk, R ((f k).getD dflt) { s with toks := tk }) : wpAny (model P w) A (Builtin.«dict.get» ⟨[.ref d, .int k t, dflt], []⟩) (fun fin s' => ∃ v, fin = .done (.ret v) ∧ R v s') E s := by
  unfold Builtin.«dict.get»
  refine wpAny_bind ?_
  unfold Builtin.Dict.keyAndDefault
  refine wpAny_bind (wpAny_notOrdered_dict hm.typeIs ?_)
  show wpAny _ _ (pure (d, Value.int k t, some dflt) : Sem (Addr × Value × Option Value)) _ _ s
  refine wpAny_pure ?_
  show wpAny _ _ (dictGet d (.int k t) >>= _) _ _ s
  refine wpAny_bind (wpAny_dictGet_int hm ?_)
  have := h (s.toks + 1)
  cases q : f k with
  | some v => rw [q] at this; exact wpAny_pure ⟨v, rfl, this⟩
  | none =>
    rw [q] at this
    refine wpAny_bind (wpAny_missed_int ?_)
    exact wpAny_pure ⟨dflt, rfl, this⟩
theorem c_dget {d : Addr} {f : Int → Option MV} {n : Nat} {k : Int} {dv : MV} (hd : ms.sto d = some (.dict f n)) (q : Q ((f k).getD dv) ms) : CallV z (.builtin "dict.get") [.obj d, .int k, dv] ms Q := by
  intro us s ok sh rs
  obtain ⟨u1, r1, rfl, v1, rs⟩ := vrs_cons.mp rs
  obtain ⟨u2, r2, rfl, v2, rs⟩ := vrs_cons.mp rs
  obtain ⟨u3, r3, rfl, v3, rs⟩ := vrs_cons.mp rs
  obtain rfl := vrs_nil.mp rs
  obtain rfl := vr_obj.mp v1
  obtain ⟨t, rfl⟩ := vr_int.mp v2
  obtain ⟨g, es, ep, e, hm, hz, ov⟩ := dict_at (sh.sto d _ hd).2.2.2
  refine wpAny_call_entry PySem.F.slot_dict_get hm.typeIs PySem.F.entry_dict_get (dget_body hm fun tk => ?_) (PySem.F.args_dict_get_3 _ _ _)
  refine post_tok ok sh ?_ q
  rcases ov_get (ov k) with ⟨a, b⟩ | ⟨x, y, a, b, r⟩
  · rw [a, b]; exact v3
  · rw [a, b]; exact r
theorem setdefault_int {w : World} {A : Around} {E : Value → Shared → Prop} {s : Shared} {d : Addr} {f : Int → Option Value} {k : Int} {t : Tok} {n : Nat} {dflt : Value} {R : Value → Shared → Prop} (hm : s.heap.IntMap d f) (hz : s.heap.DictLe d n) (hn : n ≤ sizeLine)
    (nd : ∀ o, s.heap.get? d = some o → o.dict = none ∧ o.slots = #[])
    (hthere : ∀ v, f k = some v → R v { s with toks := s.toks + 1 })
    (hnew : f k = none → ∀ h', h'.IntMap d (fun x => if x = k then some dflt else f x) → h'.DictLe d (n + 1) → (∀ o, h'.get? d = some o → o.dict = none ∧ o.slots = #[]) → Heap.SameBut d s.heap h' → R dflt { s with heap := h', toks := s.toks + 1 }) :
    wpAny (model P w) A (dictSetDefault d (.int k t) dflt) R E s := by
  obtain ⟨o, es, ep, ho, hc, hd, hk, hf⟩ := hm
  have hes : es.size ≤ n := hz _ _ _ ho hd
  unfold dictSetDefault
  try with_reducible refine wpAny_holding ?_
  refine wpAny_bind (wpAny_pyHash_int ?_)
  refine wpAny_bind (wpAny_dictFind_int (s := { s with toks := s.toks + 1 }) ho hd hk ?_)
  cases hi : es.findIdx? fun e => Value.isInt k e.key with
  | some i =>
    have hfk : f k = (es[i]?).map (·.val) := by rw [← hf k, findBy_of_findIdx?, hi]
    refine wpAny_bind (wpAny_dictEntries (s := { s with toks := s.toks + 1 }) ho hd ?_)
    cases he : es[i]? with
    | none =>
      exfalso
      have := Array.findIdx?_eq_some_iff_findIdx_eq.mp hi
      have hlt : i < es.size := this.1
      rw [Array.getElem?_eq_getElem hlt] at he
      exact nomatch he
    | some e =>
      rw [he] at hfk
      exact wpAny_bind (wpAny_rule (wpAny_pure (hthere e.val hfk)))
  | none =>
    have hfk : f k = none := by rw [← hf k, findBy_of_findIdx?, hi]
    refine wpAny_bind (wpAny_rule (wpAny_bind (wpAny_updateDictKeys (hz := Nat.le_trans hes hn) (s := { s with toks := s.toks + 1 }) ho hd (wpAny_pure (hnew hfk _ ⟨_, _, ep + 1, Heap.get?_update_self _ ho (Obj.isFreed_of_dict (Obj.data_mapDictKeys hd _)),
      (Obj.cls_mapDictKeys ..).trans hc, Obj.data_mapDictKeys hd _, hk.push _ _ _, fun x => ?_⟩ (fun o' es' ep' ho' hd' => ?_) (fun o' ho' => ?_) (Heap.SameBut.update ..))))))
    · rw [findBy_push Value.isInt es k x _ _ dflt (fun y => by
        simp only [Value.isInt]
        by_cases h : y = k
        · subst h; simp
        · have : ¬ k = y := fun e => h e.symm
          simp [h, this]) hi, hf]
    · rw [Heap.get?_update_self _ ho (Obj.isFreed_of_dict (Obj.data_mapDictKeys hd _))] at ho'
      cases ho'
      rw [Obj.data_mapDictKeys hd _] at hd'
      cases hd'
      simp only [Array.size_push]; omega
    · rw [Heap.get?_update_self _ ho (Obj.isFreed_of_dict (Obj.data_mapDictKeys hd _))] at ho'
      cases ho'
      have := nd o ho
      obtain ⟨oc, od, oda, osl⟩ := o
      dsimp only at hd this
      subst hd
      exact this
theorem c_setdefault {d : Addr} {f : Int → Option MV} {n : Nat} {k : Int} {dv : MV} (hd : ms.sto d = some (.dict f n)) (hn : n ≤ 1000000) (hs : d ≠ sysModules)
    (q1 : ∀ v, f k = some v → Q v ms) (q2 : f k = none → Q dv ⟨ms.loc, upd ms.sto d (.dict (fun x => if x = k then some dv else f x) (n + 1))⟩) : CallV z (.builtin "dict.setdefault") [.obj d, .int k, dv] ms Q := by
  intro us s ok sh rs
  obtain ⟨u1, r1, rfl, v1, rs⟩ := vrs_cons.mp rs
  obtain ⟨u2, r2, rfl, v2, rs⟩ := vrs_cons.mp rs
  obtain ⟨u3, r3, rfl, v3, rs⟩ := vrs_cons.mp rs
  obtain rfl := vrs_nil.mp rs
  obtain rfl := vr_obj.mp v1
  obtain ⟨t, rfl⟩ := vr_int.mp v2
  obtain ⟨g, hm, hz, nd, ov⟩ := (sh.sto d _ hd).2.2.2
  refine wpAny_call_entry PySem.F.slot_dict_setdefault hm.typeIs PySem.F.entry_dict_setdefault ?_ (PySem.F.args_dict_setdefault_3 _ _ _)
  unfold Builtin.«dict.setdefault»
  refine wpAny_bind ?_
  unfold Builtin.Dict.keyAndDefault
  refine wpAny_bind (wpAny_notOrdered_dict hm.typeIs ?_)
  show wpAny _ _ (pure (d, Value.int k t, some u3) : Sem (Addr × Value × Option Value)) _ _ s
  refine wpAny_pure ?_
  show wpAny _ _ (if (d == sysModules) = true then _ else (dictSetDefault d (.int k t) u3 >>= _)) _ _ s
  rw [if_neg (by simpa using hs)]
  refine wpAny_bind (setdefault_int hm hz (by unfold sizeLine; omega) nd (fun v hv => ?_) fun hno h' hm' hz' nd' sb => ?_)
  · refine wpAny_pure ⟨v, rfl, ?_⟩
    rcases ov_get (ov k) with ⟨a, b⟩ | ⟨x, y, a, b, r⟩
    · rw [b] at hv; cases hv
    · rw [b] at hv; cases hv
      exact post_tok ok sh r (q1 x a)
  · refine wpAny_pure ⟨u3, rfl, ?_⟩
    have p := sh.put (mo' := .dict (fun x => if x = k then some dv else f x) (n + 1)) hd sb fun kk => ⟨_, hm', hz', nd', fun x => by
      by_cases q : x = k
      · dsimp only; rw [if_pos q, if_pos q]; exact v3.keep kk
      · dsimp only; rw [if_neg q, if_neg q]; exact (ov x).keep kk⟩
    refine post_at (s := { s with heap := h', toks := s.toks + 1 }) ok p.2 p.1 (v3.keep p.2) (q2 ?_)
    rcases ov_get (ov k) with ⟨a, b⟩ | ⟨x, y, a, b, r⟩
    · exact a
    · rw [b] at hno; cases hno
theorem dictset_int {w : World} {A : Around} {E : Value → Shared → Prop} {s : Shared} {d : Addr} {f : Int → Option Value} {k : Int} {t : Tok} {v : Value} {n : Nat} {R : Unit → Shared → Prop} (hm : s.heap.IntMap d f) (hz : s.heap.DictLe d n) (hn : n ≤ sizeLine)
    (nd : ∀ o, s.heap.get? d = some o → o.dict = none ∧ o.slots = #[])
    (hQ : ∀ h', h'.IntMap d (fun x => if x = k then some v else f x) → h'.DictLe d (n + 1) → (∀ o, h'.get? d = some o → o.dict = none ∧ o.slots = #[]) → Heap.SameBut d s.heap h' → R () { s with heap := h', toks := s.toks + 1 }) :
    wpAny (model P w) A (dictSet d (.int k t) v) R E s := by
  obtain ⟨o, es, ep, ho, hc, hd, hk, hf⟩ := hm
  have hes : es.size ≤ n := hz _ _ _ ho hd
  have ndo := nd o ho
  unfold dictSet
  try with_reducible refine wpAny_holding ?_
  refine wpAny_bind (wpAny_pyHash_int ?_)
  unfold dictSetHashed
  try with_reducible refine wpAny_holding ?_
  refine wpAny_bind (wpAny_dictFind_int (s := { s with toks := s.toks + 1 }) ho hd hk ?_)
  cases hi : es.findIdx? fun e => Value.isInt k e.key with
  | some i =>
    refine wpAny_bind (wpAny_rule (wpAny_bind (wpAny_updateDict (s := { s with toks := s.toks + 1 }) ho hd (wpAny_point (hQ _ ⟨_, _, ep, Heap.get?_update_self _ ho (Obj.isFreed_of_dict (Obj.data_mapDict hd _)),
      (Obj.cls_mapDict ..).trans hc, Obj.data_mapDict hd _, hk.modify _ _, fun x => ?_⟩ (fun o' es' ep' ho' hd' => ?_) (fun o' ho' => ?_) (Heap.SameBut.update ..))))))
    · rw [findBy_modify Value.isInt Value.isInt_inj es k x v i hi, hf]
    · rw [Heap.get?_update_self _ ho (Obj.isFreed_of_dict (Obj.data_mapDict hd _))] at ho'
      cases ho'
      rw [Obj.data_mapDict hd _] at hd'
      cases hd'
      simp only [Array.size_modify]; omega
    · rw [Heap.get?_update_self _ ho (Obj.isFreed_of_dict (Obj.data_mapDict hd _))] at ho'
      cases ho'
      obtain ⟨oc, od, oda, osl⟩ := o
      dsimp only at hd ndo
      subst hd
      exact ndo
  | none =>
    refine wpAny_bind (wpAny_rule (wpAny_updateDictKeys (hz := Nat.le_trans hes hn) (s := { s with toks := s.toks + 1 }) ho hd (hQ _ ⟨_, _, ep + 1, Heap.get?_update_self _ ho (Obj.isFreed_of_dict (Obj.data_mapDictKeys hd _)),
      (Obj.cls_mapDictKeys ..).trans hc, Obj.data_mapDictKeys hd _, hk.push _ _ _, fun x => ?_⟩ (fun o' es' ep' ho' hd' => ?_) (fun o' ho' => ?_) (Heap.SameBut.update ..))))
    · rw [findBy_push Value.isInt es k x _ _ v (fun y => by
        simp only [Value.isInt]
        by_cases h : y = k
        · subst h; simp
        · have : ¬ k = y := fun e => h e.symm
          simp [h, this]) hi, hf]
    · rw [Heap.get?_update_self _ ho (Obj.isFreed_of_dict (Obj.data_mapDictKeys hd _))] at ho'
      cases ho'
      rw [Obj.data_mapDictKeys hd _] at hd'
      cases hd'
      simp only [Array.size_push]; omega
    · rw [Heap.get?_update_self _ ho (Obj.isFreed_of_dict (Obj.data_mapDictKeys hd _))] at ho'
      cases ho'
      obtain ⟨oc, od, oda, osl⟩ := o
      dsimp only at hd ndo
      subst hd
      exact ndo
theorem st_sub_dict {o i : Expr} {dv : MV} {Q : MS → Prop}
    (h : WV z (eval o env) ms fun a ms₁ => WV z (eval i env) ms₁ fun b ms₂ => ∃ d f n k, a = .obj d ∧ b = .int k ∧ ms₂.sto d = some (.dict f n) ∧ n ≤ 1000000 ∧ Q ⟨ms₂.loc, upd ms₂.sto d (.dict (fun x => if x = k then some dv else f x) (n + 1))⟩) :
    StV z (assign (.Subscript o i pos) env) dv ms Q := by
  intro u s ok sh ru
  rw [PySem.assign_Subscript]
  refine wpAny_bind (wpAny_holding (h.run (R' := VR) ok sh fun ov a ms₁ s₁ ok₁ k₁ sh₁ ro q₁ => wpAny_bind (wpAny_holding (q₁.run (R' := VR) ok₁ sh₁ fun iv b ms₂ s₂ ok₂ k₂ sh₂ ri q₂ => ?_))))
  obtain ⟨d, f, n, k, rfl, rfl, hd, hn, q⟩ := q₂
  obtain rfl := vr_obj.mp ro
  obtain ⟨t, rfl⟩ := vr_int.mp ri
  obtain ⟨g, hm, hz, nd, ov⟩ := (sh₂.sto d _ hd).2.2.2
  have ru2 := (ru.keep k₁).keep k₂
  refine wpAny_bind (wpAny_standAt (wpAny_bind (wpAny_holding ?_)))
  unfold setItem
  try with_reducible refine wpAny_holding ?_
  first | refine wpAny_bind (wpAny_pure ?_) | skip
  refine wpAny_bind (wpAny_sequenceKey hm.typeIs (by decide) ?_)
  refine wpAny_bind (wpAny_callSpecial?_slot (name := Str.ofString "__setitem__") hm.typeIs PySem.slot_dict_setitem
    (wpAny_call_entry PySem.slot_dict_setitem hm.typeIs PySem.entry_dict_setitem ?_ (PySem.args_dict_setitem _ _ _)))
  show wpAny _ _ (Builtin.Dict.notOrdered "__setitem__" ⟨[.ref d, .int k t, u], []⟩ >>= _) _ _ s₂
  refine wpAny_bind (wpAny_notOrdered_dict hm.typeIs ?_)
  show wpAny _ _ (dictSet d (.int k t) u >>= _) _ _ s₂
  refine wpAny_bind (dictset_int hm hz (by unfold sizeLine; omega) nd fun h' hm' hz' nd' sb => wpAny_pure ⟨.none, rfl, wpAny_pure ?_⟩)
  have p := sh₂.put (mo' := .dict (fun x => if x = k then some dv else f x) (n + 1)) hd sb fun kk => ⟨_, hm', hz', nd', fun x => by
    by_cases q : x = k
    · dsimp only; rw [if_pos q, if_pos q]; exact ru2.keep kk
    · dsimp only; rw [if_neg q, if_neg q]; exact (ov x).keep kk⟩
  refine PySem.wpAny_release ?_
  exact post_at (s := { s₂ with heap := h', toks := s₂.toks + 1 }) (d := ()) ok₂ ((k₁.trans k₂).trans p.2) p.1 trivial q
end
end Mine
end

/-! Bm -/
section
open PySem PySem.W PyProof.Rows
set_option Elab.async false
set_option maxRecDepth 100000
set_option maxHeartbeats 1000000
set_option linter.unusedVariables false
namespace Mine

section
variable {z : Z} {ms : MS} {env : Env} {pos : Pos} {Q : MV → MS → Prop}
theorem call_bm {w : World} {A : Around} {E : Value → Shared → Prop} {s : Shared} {x a : Addr} {id : String} {B : Builtin} {args : List Value} {R : Value → Shared → Prop} (ho : s.heap.get? x = some (bmO id a))
    (hchk : ∀ (R' : Unit → Shared → Prop), R' () s → wpAny (model P w) A.in1 (checkBoundCall id ⟨.ref a :: args, []⟩) R' E s) (hq : plainId id = true) (hb : entryFor table id = some B)
    (tree : wpAny (model P w) A.in1 (B ⟨.ref a :: args, []⟩) (fun fin s' => ∃ v, fin = .done (.ret v) ∧ R v s') E s) : wpAny (model P w) A (call (.ref x) args) R E s := by
  refine wpAny_call (codeAny_of_tree ?_)
  show wpAny _ A.in1 (callAny (.ref x) ⟨args, []⟩) _ _ s
  simp only [callAny]
  refine wpAny_bind (wpAny_load ho ?_)
  simp only [bmO, show (Value.type "builtin_function_or_method" == Value.type "method" || Value.type "builtin_function_or_method" == Value.type "builtin_function_or_method" || Value.type "builtin_function_or_method" == Value.type "method-wrapper") = true by decide, if_true]
  show wpAny _ _ (if (Value.type "builtin_function_or_method" != Value.type "method") = true then _ else _) _ _ s
  rw [if_pos (by decide)]
  refine wpAny_bind (hchk _ ?_)
  refine wpAny_pure ⟨plainId_quiet hq _, codeAny_builtin hb ?_⟩
  rw [Around.under_plainId hq _]
  refine wpAny_mono tree (fun fin s' ⟨v, e, hv⟩ => ?_) fun _ _ x => x
  subst e
  exact hv
theorem keeper_bm {M : Model} {A : Around} {E : Value → Shared → Prop} {s : Shared} {pos : Pos} {u a : Addr} {id : String} {x : Sem Value} {rest : List (Bool × Sem Value)} {R : Value → Shared → Prop} (hp : rest.any (·.1) = false)
    (h : wpAny M A (spliced ((false, x) :: rest)) (fun vs s₁ => s₁.heap.get? u = some (bmO id a) ∧ wpAny M A (call (.ref u) vs) R E s₁) E s) : wpAny M A (callWith pos (.ref u) [] ((false, x) :: rest) []) R E s := by
  unfold callWith
  refine wpAny_bind (wpAny_holding (Calls.evalArgs_plain (wpAny_mono h (fun vs s₁ h₁ => wpAny_bind (wpAny_standAt ?_)) fun _ _ x => x)))
  obtain ⟨ho, hcall⟩ := h₁
  have hpl : (((false, x) :: rest).any (·.1)) = false := by rw [List.any_cons, hp]; rfl
  simp only [hpl, List.any_nil, Bool.or_false]
  refine wpAny_bind (m := keeperOf (.ref u)) ?_
  unfold keeperOf
  refine wpAny_bind (wpAny_load ho ?_)
  simp only [bmO, show (Value.type "builtin_function_or_method" != Value.type "method") = true by decide, show (Value.type "builtin_function_or_method" == Value.type "builtin_function_or_method" || Value.type "builtin_function_or_method" == Value.type "method-wrapper") = true by decide, if_true]
  refine wpAny_pure ?_
  exact wpAny_bind (wpAny_mono hcall (fun r s₂ hr => wpAny_bind (wpAny_holding (wpAny_point (wpAny_pure hr)))) fun _ _ x => x)
/-- what a bound built-in method does to its arguments -/
noncomputable def BmV (z : Z) (id : String) (a : Addr) (ds : List MV) (ms : MS) (Q : MV → MS → Prop) : Prop :=
  ∀ x us s, Ok z s → SH z ms s.heap → VRs s.heap ds us → s.heap.get? x = some (bmO id a) → wpAny (model P z.w) z.A (call (.ref x) us) (Post z VR s.heap Q) NoE s
/-- f(e, ..) where the name f holds a bound built-in method -/
theorem e_callbm {x : Str} {p : Pos} {e : Expr} {rest : List Expr} {id : String} {a : Addr} (hn : WV z (eval (.Name x p) env) ms fun d ms₁ => d = .bm id a ∧ ms₁ = ms)
    (he : starEach (e :: rest) env = (false, eval e env) :: starEach rest env) (hp : (backTo pos (starEach rest env)).any (·.1) = false)
    (h : WVs z (spliced (backTo pos (starEach (e :: rest) env))) ms fun ds ms₁ => BmV z id a ds ms₁ Q) : WV z (eval (.Call (.Name x p) (e :: rest) [] pos) env) ms Q := by
  intro s ok sh
  refine wpAny_Call_NameR (hn.run (R' := VR) ok sh fun u d ms₁ s₁ ok₁ k₁ sh₁ ru ⟨hd, hm⟩ => ?_)
  subst hd hm
  obtain ⟨b, rfl, hb⟩ := vr_bm.mp ru
  rw [he] at h ⊢
  refine keeper_bm (id := id) (a := a) hp (WG.run (R' := VR) h ok₁ sh₁ fun us ds ms₁ s₂ ok₂ k₂ sh₂ rs q₁ => ?_)
  have hb2 := k₂ _ _ hb (imm_bm id a)
  exact ⟨hb2, wp_post (q₁ b us s₂ ok₂ sh₂ rs hb2) (k₁.trans k₂) fun _ _ x => x⟩
theorem chk_of {w : World} {A : Around} {E : Value → Shared → Prop} {s : Shared} {id T : String} {sig : Manifest.Signature} {a : Addr} {D : Data} {rest : List Value} {R : Unit → Shared → Prop} (hs : Manifest.signature? id = some sig) (hk : builtinKind id = some .method) (hv : Manifest.varargsMethods.contains id = false)
    (ho : s.heap.get? a = some { cls := .type T, dict := none, data := D, slots := #[] }) (hD : ∀ c, D ≠ .cls c) (h1 : isSubtype (.type T) (.type "module") = pure false) 
    (hc : Bind.checkArgs id { sig with full := s!"{Bind.lastOf T}.{Bind.lastOf id}" } ⟨.ref a :: rest, []⟩ = pure ()) (h : R () s) : wpAny (model P w) A (checkBoundCall id ⟨.ref a :: rest, []⟩) R E s := by
  have hT : s.TypeIs (.ref a) T := ⟨_, ho, rfl⟩
  unfold checkBoundCall
  rw [hs]
  dsimp only
  rw [hk]
  dsimp only
  rw [if_neg (by decide)]
  refine wpAny_bind (wpAny_isInstance (T := T) (b := false) hT h1 ?_)
  rw [hv]
  rw [if_neg (show ¬ ((false || false) = true) by decide)]
  refine wpAny_bind (wpAny_bind (wpAny_loadPart ho (wpAny_pure ?_)))
  cases D with
  | cls c => exact (hD c rfl).elim
  | _ =>
    dsimp only
    rw [if_neg Bool.false_ne_true]
    refine wpAny_bind (wpAny_typeOf hT ?_)
    exact wpAny_of_eq hc h
noncomputable def sigDG : Manifest.Signature := (Manifest.signature? "dict.get").get (by decide +kernel)
noncomputable def sigSC : Manifest.Signature := (Manifest.signature? "set.__contains__").get (by decide +kernel)
theorem sub_dict_mod : isSubtype (.type "dict") (.type "module") = pure false := by rw [isSubtype_type]; kernel_rfl
theorem sub_set_mod : isSubtype (.type "set") (.type "module") = pure false := by rw [isSubtype_type]; kernel_rfl
theorem chk_dget {w : World} {A : Around} {E : Value → Shared → Prop} {s : Shared} {a : Addr} {es : Array DictEntry} {ep : Nat} {b c : Value} {R : Unit → Shared → Prop} (ho : s.heap.get? a = some { cls := .type "dict", dict := none, data := .dict es ep, slots := #[] }) (h : R () s) :
    wpAny (model P w) A (checkBoundCall "dict.get" ⟨[.ref a, b, c], []⟩) R E s :=
  chk_of (sig := sigDG) (Option.some_get _).symm (by decide +kernel) (by decide +kernel) ho (fun c h => nomatch h) sub_dict_mod (by kernel_rfl) h
theorem sigSC_eq : Manifest.signature? "set.__contains__" = some sigSC := (Option.some_get _).symm
theorem kSC : builtinKind "set.__contains__" = some .method := by decide +kernel
theorem vSC : Manifest.varargsMethods.contains "set.__contains__" = false := by decide +kernel
theorem cSC (a b : Value) : Bind.checkArgs "set.__contains__" { sigSC with full := s!"{Bind.lastOf "set"}.{Bind.lastOf "set.__contains__"}" } ⟨[a, b], []⟩ = pure () := by kernel_rfl
theorem chk_scon {w : World} {A : Around} {E : Value → Shared → Prop} {s : Shared} {a : Addr} {led : Bool} {b : Value} {R : Unit → Shared → Prop} (ho : s.heap.get? a = some { cls := .type "set", dict := none, data := .set #[] 0 (.fresh 0 0 led), slots := #[] }) (h : R () s) :
    wpAny (model P w) A (checkBoundCall "set.__contains__" ⟨[.ref a, b], []⟩) R E s :=
  chk_of (sig := sigSC) (T := "set") (id := "set.__contains__") (D := Data.set #[] 0 (.fresh 0 0 led)) sigSC_eq kSC vSC ho (fun c h => nomatch h) sub_set_mod (cSC _ _) h
theorem scon_body {w : World} {A : Around} {E : Value → Shared → Prop} {s : Shared} {a : Addr} {led : Bool} {k : Int} {t : Tok} {R : Value → Shared → Prop} (ho : s.heap.get? a = some { cls := .type "set", dict := none, data := .set #[] 0 (.fresh 0 0 led) })
    (h : ∀ tk, R (.bool false) { s with toks := tk }) : wpAny (model P w) A (Builtin.«frozenset.__contains__» ⟨[.ref a, .int k t], []⟩) (fun fin s' => ∃ v, fin = .done (.ret v) ∧ R v s') E s := by
  have hS : s.heap.SetOf (intKind P w) a (fun _ => false) 0 := ⟨_, #[], 0, _, ho, ⟨rfl, rfl, rfl⟩, rfl, fun e he => by simp at he, fun k => by simp, by decide, by rfl, rfl⟩
  have hkey : (intKind P w).is k (.int k t) = true := by simp [intKind, Value.isInt]
  unfold Builtin.«frozenset.__contains__» Builtin.Frozenset.oneOther
  simp only [List.isEmpty_nil, bind_assoc]
  unfold Builtin.Frozenset.addrOf Builtin.Frozenset.withSetAsKey setContains
  refine wpAny_bind (wpAny_pure ?_)
  try dsimp only
  refine wpAny_bind (wpAny_pure ?_)
  try dsimp only
  refine wpAny_bind (wpAny_tryCatch ?_)
  refine wpAny_holding ?_
  refine wpAny_bind ((intKind P w).pyHash hkey ?_)
  refine wpAny_bind (wpAny_setFind_of (s := { s with toks := s.toks + 1 }) hkey rfl hS fun r hr => ?_)
  refine wpAny_pure ?_
  show wpAny _ _ (ret (Value.bool r.isSome)) _ _ _
  rw [hr]
  exact wpAny_pure ⟨_, rfl, h _⟩
theorem bm_scon {a : Addr} {k : Int} (hd : ms.sto a = some .set0) (q : Q (.bool false) ms) : BmV z "set.__contains__" a [.int k] ms Q := by
  intro x us s ok sh rs hx
  obtain ⟨u2, r2, rfl, v2, rs⟩ := vrs_cons.mp rs
  obtain rfl := vrs_nil.mp rs
  obtain ⟨t, rfl⟩ := vr_int.mp v2
  obtain ⟨led, e⟩ := (sh.sto a _ hd).2.2.2
  refine call_bm hx (fun R' h => chk_scon e h) PySem.F.slot_set_contains.plain PySem.entry_set_contains (scon_body e fun tk => ?_)
  exact post_tok ok sh (vr_bool.mpr rfl) q
theorem bm_dget {d : Addr} {f : Int → Option MV} {n : Nat} {k : Int} {dv : MV} (hd : ms.sto d = some (.dict f n)) (q : Q ((f k).getD dv) ms) : BmV z "dict.get" d [.int k, dv] ms Q := by
  intro x us s ok sh rs hx
  obtain ⟨u2, r2, rfl, v2, rs⟩ := vrs_cons.mp rs
  obtain ⟨u3, r3, rfl, v3, rs⟩ := vrs_cons.mp rs
  obtain rfl := vrs_nil.mp rs
  obtain ⟨t, rfl⟩ := vr_int.mp v2
  obtain ⟨g, es, ep, e, hm, hz, ov⟩ := dict_at (sh.sto d _ hd).2.2.2
  refine call_bm hx (fun R' h => chk_dget e h) PySem.F.slot_dict_get.plain PySem.F.entry_dict_get (dget_body hm fun tk => ?_)
  refine post_tok ok sh ?_ q
  rcases ov_get (ov k) with ⟨a, b⟩ | ⟨x, y, a, b, r⟩
  · rw [a, b]; exact v3
  · rw [a, b]; exact r
theorem e_dget {value : Expr} (he : eval (.Attribute value "get" pos) env = (do let o ← eval value env; standAt pos.atName; let r ← holding [o] (getAttr o "get" true); letTemporaryGo value o r; pure r))
    (h : WV z (eval value env) ms fun d ms₁ => ∃ a f n, d = .obj a ∧ ms₁.sto a = some (.dict f n) ∧ Q (.bm "dict.get" a) ms₁) : WV z (eval (.Attribute value "get" pos) env) ms Q := by
  intro s ok sh
  refine Attribute_any_ (h.run (R' := VR) ok sh fun u d ms₁ s₁ ok₁ k₁ sh₁ ru ⟨a, f, n, hd, hdx, q⟩ => ?_) he
  subst hd
  obtain rfl := vr_obj.mp ru
  obtain ⟨g, es, ep, e, _⟩ := dict_at (sh₁.sto a _ hdx).2.2.2
  refine getAttr_dget e fun tk => ?_
  exact post_at (s := { s₁ with heap := s₁.heap.push (bmO "dict.get" a), toks := tk }) ok₁ (k₁.trans (Keep.push _ _)) (sh₁.push _) (vr_bm.mpr ⟨_, rfl, Heap.get?_push_size _ rfl⟩) q
theorem e_scon {value : Expr} (he : eval (.Attribute value "__contains__" pos) env = (do let o ← eval value env; standAt pos.atName; let r ← holding [o] (getAttr o "__contains__" true); letTemporaryGo value o r; pure r))
    (h : WV z (eval value env) ms fun d ms₁ => ∃ a, d = .obj a ∧ ms₁.sto a = some .set0 ∧ Q (.bm "set.__contains__" a) ms₁) : WV z (eval (.Attribute value "__contains__" pos) env) ms Q := by
  intro s ok sh
  refine Attribute_any_ (h.run (R' := VR) ok sh fun u d ms₁ s₁ ok₁ k₁ sh₁ ru ⟨a, hd, hdx, q⟩ => ?_) he
  subst hd
  obtain rfl := vr_obj.mp ru
  obtain ⟨led, e⟩ := (sh₁.sto a _ hdx).2.2.2
  refine getAttr_dgetS e fun tk => ?_
  exact post_at (s := { s₁ with heap := s₁.heap.push (bmO "set.__contains__" a), toks := tk }) ok₁ (k₁.trans (Keep.push _ _)) (sh₁.push _) (vr_bm.mpr ⟨_, rfl, Heap.get?_push_size _ rfl⟩) q
theorem c_set0 (q : ∀ a, ms.sto a = none → Q (.obj a) ⟨ms.loc, upd ms.sto a .set0⟩) : CallV z (.type "set") [] ms Q := by
  intro us s ok sh rs
  obtain rfl := vrs_nil.mp rs
  refine call_set_0 fun led => ?_
  exact post_at (d := .obj s.heap.objs.size) ok (Keep.push _ _) (sh.alloc (mo := .set0) ⟨led, Heap.get?_push_size _ rfl⟩) (vr_obj.mpr rfl) (q _ sh.new_none.2.1)
end
end Mine
end

/-! Setup -/
section
open PySem PySem.W PyProof.Rows
set_option Elab.async false
set_option maxRecDepth 100000
set_option maxHeartbeats 1000000
set_option linter.unusedVariables false
namespace Mine

theorem e_methN {z : Z} {ms : MS} {env : Env} {pos : Pos} {Q : MV → MS → Prop} {o e : Expr} {rest : List Expr} {name : Str} {apos : Pos} {T id : String} (hbase : attributeBase o name env (eval o env) = eval o env)
    (hfew : ((backTo pos (starEach (e :: rest) env)).all (fun x => !x.1) && (backToKw pos (keywordEach [] env)).all (fun x => x.1.isSome) && decide ((e :: rest).length + ([] : List Keyword).length + (if ([] : List Keyword).isEmpty then 0 else 1) < 30)) = true)
    (hline : (apos.endLine == pos.line) = true) (pa : PlainAttrs T) (slot : Slot T name id) (hty : typeOf (.builtin id) = pure (.type "method_descriptor")) (he : starEach (e :: rest) env = (false, eval e env) :: starEach rest env) (hp : (backTo pos (starEach rest env)).any (·.1) = false)
    (h : WV z (eval o env) ms fun d ms₁ => (∀ h u, SH z ms₁ h → VR h d u → ∃ a ob, u = .ref a ∧ h.get? a = some ob ∧ ob.cls = .type T ∧ ob.dict = none) ∧
      WVs z (spliced (backTo pos (starEach (e :: rest) env))) ms₁ fun ds ms₂ => CallV z (.builtin id) (d :: ds) ms₂ Q) : WV z (eval (.Call (.Attribute o name apos) (e :: rest) [] pos) env) ms Q := by
  refine e_meth (self := .none) hbase hfew hline pa slot hty (h.mono fun d ms₁ ⟨a, b⟩ => ⟨a, fun u s ok sh ru => ?_⟩)
  rw [he] at b ⊢
  exact callW (first := [d]) (plain_builtin id) hp b ok sh (VRs.one ru)
/-- where the values sit: the lists of places, one for each value -/
noncomputable def places (b : List Int) (x : Int) : List Int := (b.zipIdx.filter fun p => p.1 == x).map fun p => (p.2 : Int)
noncomputable def nm (x : Str) (h : FreeName x) : FreeName x := h
theorem fn_isjunk : FreeName "isjunk" := fun q => by kernel_rfl
theorem fn_a : FreeName "a" := fun q => by kernel_rfl
theorem fn_b : FreeName "b" := fun q => by kernel_rfl
theorem fn_autojunk : FreeName "autojunk" := fun q => by kernel_rfl
theorem fn_mb : FreeName "matching_blocks" := fun q => by kernel_rfl
theorem fn_op : FreeName "opcodes" := fun q => by kernel_rfl
theorem fn_fb : FreeName "fullbcount" := fun q => by kernel_rfl
theorem fn_b2j : FreeName "b2j" := fun q => by kernel_rfl
theorem fn_bjunk : FreeName "bjunk" := fun q => by kernel_rfl
theorem fn_bpop : FreeName "bpopular" := fun q => by kernel_rfl
theorem m_seqs : MethIs "set_seqs" 167 := fun q => by kernel_rfl
theorem m_seq1 : MethIs "set_seq1" 174 := fun q => by kernel_rfl
theorem m_seq2 : MethIs "set_seq2" 181 := fun q => by kernel_rfl
theorem m_chain : MethIs "_SequenceMatcher__chain_b" 188 := fun q => by kernel_rfl
theorem m_find : MethIs "find_longest_match" 196 := fun q => by kernel_rfl
theorem m_blocks : MethIs "get_matching_blocks" 203 := fun q => by kernel_rfl
theorem hin_none : ∀ (h : Heap) (u : Value), VR h .none u → handedIn u = true := fun h u r => by rw [vr_none] at r; subst r; rfl
theorem hin_bool (b : Bool) : ∀ (h : Heap) (u : Value), VR h (.bool b) u → handedIn u = true := fun h u r => by rw [vr_bool] at r; subst r; rfl
theorem hin_obj (a : Addr) : ∀ (h : Heap) (u : Value), VR h (.obj a) u → handedIn u = true := fun h u r => by rw [vr_obj] at r; subst r; rfl
/-- b2j: for every value, its list of places -/
structure B2J (sto : Addr → Option MO) (d : Addr) (b : List Int) : Prop where
  at_ : ∃ f n, n ≤ b.length ∧ sto d = some (.dict f n) ∧ ∀ x, (x ∈ b → ∃ l, f x = some (.obj l) ∧ sto l = some (il (places b x))) ∧ (x ∉ b → f x = none)
variable {z : Z} {ms : MS} {Q : MV → MS → Prop}
noncomputable def cFor : Stmt := ((bodyOf (meth 5 5))[2]?).getD (.Pass ⟨0,0,0,0⟩)
theorem places_app (b : List Int) (y x : Int) : places (b ++ [y]) x = places b x ++ if y = x then [(b.length : Int)] else [] := by
  unfold places
  rw [List.zipIdx_append, List.filter_append, List.map_append]
  congr 1
  by_cases h : y = x
  · subst h; simp
  · simp [h]
/-- what the loop keeps -/
structure ChIn (s0 sto : Addr → Option MO) (d : Addr) (b : List Int) : Prop where
  ext : Ext s0 sto
  at_ : ∃ f n, n ≤ b.length ∧ sto d = some (.dict f n) ∧ ∀ x, (x ∈ b → ∃ l, f x = some (.obj l) ∧ s0 l = none ∧ l ≠ d ∧ sto l = some (il (places b x))) ∧ (x ∉ b → f x = none)
  apart : ∀ f n, sto d = some (.dict f n) → ∀ x y l, f x = some (.obj l) → f y = some (.obj l) → x = y
theorem ch_for {L d bl : Addr} {all : List Int} {s0 : Addr → Option MO} (he : EnvOk z (E188 L)) (hd : s0 d = none) (hds : d ≠ sysModules) (hb : s0 bl = some (il all)) :
    ∀ (rest done : List Int) (ms : MS) (Q : MF → MS → Prop), all = done ++ rest → all.length ≤ 100 → ms.loc "b2j" = some (.obj d) → ChIn s0 ms.sto d done →
      (∀ ms', ms'.loc "b" = ms.loc "b" → ms'.loc "self" = ms.loc "self" → ms'.loc "b2j" = some (.obj d) → ChIn s0 ms'.sto d all → Q .next ms') →
      ForN z (E188 L) (forTest cFor) (forBody cFor) (fun ms => ms.sto bl = some (il all)) ((rest.mapIdx fun i x => MV.tup false [.int (done.length + i : Nat), .int x])) ms Q
  | [], done, ms, Q, e, hz, l1, C, q => ⟨C.ext _ _ hb, q ms rfl rfl l1 (by rw [e, List.append_nil]; exact C)⟩
  | x :: rest, done, ms, Q, e, hz, l1, C, q => by
    rw [List.mapIdx_cons]
    refine ⟨C.ext _ _ hb, fun F' => ?_⟩
    have he0 := he
    have he := he.fr F'
    obtain ⟨f, n, hn, hsd, hf⟩ := C.at_
    have hlen : done.length < all.length := by rw [e]; simp
    refine st_tuple (by rfl) (by rfl) ?_
    refine st_name he (by rfl) ?_
    refine st_name he (by rfl) ?_
    have fin : ∀ ms' : MS, ms'.loc "b" = ms.loc "b" → ms'.loc "self" = ms.loc "self" → ms'.loc "b2j" = some (.obj d) → ChIn s0 ms'.sto d (done ++ [x]) → ForN z (E188 L) (forTest cFor) (forBody cFor) (fun ms => ms.sto bl = some (il all)) (rest.mapIdx fun i x => MV.tup false [.int (done.length + (i + 1) : Nat), .int x]) ms' Q := by
      intro ms' g1 g2 g3 g4
      have := ch_for he0 hd hds hb rest (done ++ [x]) ms' Q (by rw [e]; simp) hz g3 g4 (fun m3 f1 f2 f3 f4 => q m3 (f1.trans g1) (f2.trans g2) f3 f4)
      have e2 : ∀ i : Nat, (done ++ [x]).length + i = done.length + (i + 1) := by intro i; simp; omega
      simp only [e2] at this
      exact this
    refine s_cons ?_
    refine s_assign (by rfl) (by rfl) (by rfl) ?_
    refine e_methN (by rfl) (by rfl) (by rfl) PySem.F.plainAttrs_dict PySem.F.slot_dict_setdefault PySem.F.type_dict_setdefault (by rfl) (by rfl) ?_
    refine name_l he (by rfl) (by rfl) (l1) ?_
    refine ⟨is_dict hsd, ?_⟩
    refine args_cons (by rfl) ?_
    refine name_l he (by rfl) (by rfl) (rfl) ?_
    refine args_cons (by rfl) ?_
    refine e_list ?_
    refine args_nil ?_
    refine ⟨by simp [sizeLine], fun c hc => ?_⟩
    have hc : ms.sto c = none := hc
    have hdc : d ≠ c := fun q => by subst q; rw [hc] at hsd; cases hsd
    refine args_nil ?_
    have hx2 : Ext s0 (upd ms.sto c (.list [])) := C.ext.upd (C.ext.none hc)
    have memx : ∀ y, y ∈ done ++ [x] ↔ y ∈ done ∨ y = x := fun y => by simp
    have pne : ∀ y, y ≠ x → places (done ++ [x]) y = places done y := fun y h => by rw [places_app, if_neg (fun q => h q.symm), List.append_nil]
    have peq : places (done ++ [x]) x = places done x ++ [(done.length : Int)] := by rw [places_app, if_pos rfl]
    refine c_setdefault (f := f) (n := n) ((upd_ne _ _ hdc).trans hsd) (by omega) hds (fun v hv => ?_) fun hno => ?_
    · by_cases hxd : x ∈ done
      · obtain ⟨l, h1, h2, h3, h4⟩ := (hf x).1 hxd
        rw [h1] at hv
        cases hv
        have hlc : l ≠ c := fun q => by subst q; rw [hc] at h4; cases h4
        refine st_name he (by rfl) ?_
        refine s_cons ?_
        refine s_expr he.hi (by rfl) ?_
        refine e_meth1 (by rfl) (by rfl) (by rfl) PySem.F.plainAttrs_list PySem.F.slot_list_append PySem.F.type_list_append (by rfl) ?_
        refine name_l he (by rfl) (by rfl) (rfl) ?_
        have hsl : upd ms.sto c (.list []) l = some (il (places done x)) := (upd_ne _ _ hlc).trans h4
        refine ⟨is_list hsl, ?_⟩
        refine name_l he (by rfl) (by rfl) (rfl) ?_
        have hpl : (places done x).length ≤ done.length := by
          unfold places
          rw [List.length_map]
          exact Nat.le_trans (List.length_filter_le _ _) (by simp)
        refine c_append hsl (by simp [sizeLine]; omega) ⟨rfl, ?_⟩
        refine s_nil ?_
        refine fin _ rfl rfl l1 ⟨hx2.upd h2, ⟨f, n, by simp; omega, ?_, fun y => ⟨fun hy => ?_, fun hy => ?_⟩⟩, ?_⟩
        · exact (upd_ne _ _ (Ne.symm h3)).trans ((upd_ne _ _ hdc).trans hsd)
        · by_cases hyx : y = x
          · subst hyx
            refine ⟨l, h1, h2, h3, (upd_self _ _ _).trans ?_⟩
            rw [peq]; simp [il]
          · have hyd : y ∈ done := ((memx y).mp hy).resolve_right hyx
            obtain ⟨l', g1, g2, g3, g4⟩ := (hf y).1 hyd
            have hll : l' ≠ l := fun q => hyx (C.apart f n hsd y x l (by rw [g1, q]) h1)
            have hlc' : l' ≠ c := fun q => by subst q; rw [hc] at g4; cases g4
            exact ⟨l', g1, g2, g3, (upd_ne _ _ hll).trans ((upd_ne _ _ hlc').trans (by rw [pne y hyx]; exact g4))⟩
        · exact (hf y).2 fun h => hy ((memx y).mpr (.inl h))
        · intro f1 n1 h5
          have h5 := ((upd_ne _ _ (Ne.symm h3)).trans (upd_ne _ _ hdc)).symm.trans h5
          exact C.apart f1 n1 h5
      · rw [(hf x).2 hxd] at hv; cases hv
    · have hxd : x ∉ done := fun h => by obtain ⟨l, h1, _⟩ := (hf x).1 h; rw [h1] at hno; cases hno
      have hpx : places done x = [] := by
        unfold places
        rw [List.map_eq_nil_iff, List.filter_eq_nil_iff]
        intro p hp
        have : p.1 ∈ done := by
          obtain ⟨i, hi, e⟩ := List.mem_zipIdx' hp |> fun h => (⟨p.2, h.1, h.2⟩ : ∃ i, ∃ h : i < done.length, p.1 = done[i])
          rw [e]; exact List.getElem_mem _
        intro q
        exact hxd ((beq_iff_eq.mp q) ▸ this)
      refine st_name he (by rfl) ?_
      refine s_cons ?_
      refine s_expr he.hi (by rfl) ?_
      refine e_meth1 (by rfl) (by rfl) (by rfl) PySem.F.plainAttrs_list PySem.F.slot_list_append PySem.F.type_list_append (by rfl) ?_
      refine name_l he (by rfl) (by rfl) (rfl) ?_
      have hsl : upd (upd ms.sto c (.list [])) d (.dict (fun y => if y = x then some (.obj c) else f y) (n + 1)) c = some (.list []) := (upd_ne _ _ (Ne.symm hdc)).trans (upd_self _ _ _)
      refine ⟨is_list hsl, ?_⟩
      refine name_l he (by rfl) (by rfl) (rfl) ?_
      refine c_append hsl (by simp [sizeLine]) ⟨rfl, ?_⟩
      refine s_nil ?_
      refine fin _ rfl rfl l1 ⟨(hx2.upd hd).upd (C.ext.none hc), ⟨_, n + 1, by simp; omega, (upd_ne _ _ hdc).trans (upd_self _ _ _), fun y => ⟨fun hy => ?_, fun hy => ?_⟩⟩, ?_⟩
      · by_cases hyx : y = x
        · subst hyx
          refine ⟨c, if_pos rfl, C.ext.none hc, Ne.symm hdc, (upd_self _ _ _).trans ?_⟩
          rw [peq, hpx]; simp [il]
        · have hyd : y ∈ done := ((memx y).mp hy).resolve_right hyx
          obtain ⟨l', g1, g2, g3, g4⟩ := (hf y).1 hyd
          have hlc' : l' ≠ c := fun q => by subst q; rw [hc] at g4; cases g4
          exact ⟨l', (if_neg hyx).trans g1, g2, g3, (upd_ne _ _ hlc').trans ((upd_ne _ _ g3).trans ((upd_ne _ _ hlc').trans (by rw [pne y hyx]; exact g4)))⟩
      · have h1 : y ≠ x := fun h => hy ((memx y).mpr (.inr h))
        exact (if_neg h1).trans ((hf y).2 fun h => hy ((memx y).mpr (.inl h)))
      · intro f1 n1 h5 y1 y2 l5 a1 a2
        have h5 := ((upd_ne _ _ hdc).trans (upd_self _ _ _)).symm.trans h5
        cases h5
        have fc : ∀ y, f y ≠ some (.obj c) := fun y h => by
          by_cases hy : y ∈ done
          · obtain ⟨l', g1, _, _, g4⟩ := (hf y).1 hy
            rw [g1] at h; cases h
            rw [hc] at g4; cases g4
          · rw [(hf y).2 hy] at h; cases h
        by_cases q1 : y1 = x <;> by_cases q2 : y2 = x
        · rw [q1, q2]
        · dsimp only at a1 a2
          rw [if_pos q1] at a1; rw [if_neg q2] at a2; cases a1; exact absurd a2 (fc y2)
        · dsimp only at a1 a2
          rw [if_neg q1] at a1; rw [if_pos q2] at a2; cases a2; exact absurd a1 (fc y1)
        · dsimp only at a1 a2
          rw [if_neg q1] at a1; rw [if_neg q2] at a2
          exact C.apart f n hsd y1 y2 l5 a1 a2
end Mine
end

/-! Chain -/
section
open PySem PySem.W PyProof.Rows
set_option Elab.async false
set_option maxRecDepth 100000
set_option maxHeartbeats 1000000
set_option linter.unusedVariables false
namespace Mine

section
variable {z : Z} {ms : MS} {env : Env} {pos : Pos} {Q : MV → MS → Prop}
theorem enum_of (b : List Int) : enumOf (b.map MV.int) = b.mapIdx fun i x => MV.tup false [.int (([] : List Int).length + i : Nat), .int x] := by
  unfold enumOf
  apply List.ext_getElem?
  intro i
  simp only [List.getElem?_mapIdx, List.getElem?_map, Option.map_map, List.length_nil, Nat.zero_add]
  rfl
theorem e_enum {x y : Str} {p p' : Pos} {l : Addr} {ds : List MV} (hn : ∀ s (R : Value → Shared → Prop), Ok z s → SH z ms s.heap → R (.type "enumerate") s → wpAny (model P z.w) z.A (eval (.Name x p) env) R NoE s) (he : EnvOk z env) (hy : env.kindOf y = some .local) (hyd : (y == ("__debug__" : Str)) = false) (hv : ms.loc y = some (.obj l)) (hl : ms.sto l = some (.list ds)) :
    ∀ s, Ok z s → SH z ms s.heap → wpAny (model P z.w) z.A (eval (.Call (.Name x p) [.Name y p'] [] pos) env) (fun u s' => u = .ref (s.heap.objs.size + 1) ∧ Ok z s' ∧ EI s'.heap (s.heap.objs.size + 1) s.heap.objs.size l 0 ∧ ∀ b o, s.heap.get? b = some o → s'.heap.get? b = some o) NoE s := by
  intro s ok sh
  refine wpAny_Call_NameR (hn s _ ok sh ?_)
  obtain ⟨m, n, r⟩ := sh.ns
  obtain ⟨u, e, ru⟩ := r y _ hv
  obtain rfl := vr_obj.mp ru
  obtain ⟨items, k, el, vr⟩ := (sh.sto l _ hl).2.2.2
  have hst : starEach [Expr.Name y p'] env = (false, eval (.Name y p') env) :: starEach [] env := rfl
  have hl' : wpAny (model P z.w) z.A (spliced (backTo pos (starEach [Expr.Name y p'] env))) (fun vs s₁ => vs = [.ref l] ∧ s₁ = s) NoE s :=
    wpAny_items_cons (wpAny_Name (wpAny_loadName_local he.kind hy (he.locals ▸ n) e (wpAny_items_nil ⟨rfl, rfl⟩)) hyd) hst
  rw [hst] at hl' ⊢
  refine plain_type "enumerate" pos [] (backTo pos ((false, eval (.Name y p') env) :: starEach [] env)) s (fun a s₁ => a = ⟨[.ref l], []⟩ ∧ s₁ = s) _ rfl ?_ (Calls.evalArgs_plain (wpAny_mono hl' (fun vs s₁ h => ⟨by rw [h.1], h.2⟩) fun _ _ x => x))
  rintro a s₁ ⟨rfl, rfl⟩
  refine ⟨sh.keepIn, call_enumerate_list (IsL.lst el) fun h' e1 e2 e3 e4 => ?_⟩
  exact ⟨rfl, ok, ⟨⟨_, e1⟩, e2⟩, e4⟩
end
section
variable {z : Z} {ms : MS} {env : Env} {pos : Pos} {Q : MV → MS → Prop}
theorem raw_b {x : Str} {p : Pos} {v : Value} (he : EnvOk z env) (hx : env.kindOf x = some .globalImplicit) (hd : (x == ("__debug__" : Str)) = false) (h : nsIn (K z.w.params) mainGlobals x = some none) (hb : bootBuiltins x = some v) (hn : x ≠ "__name__") :
    ∀ s (R : Value → Shared → Prop), Ok z s → SH z ms s.heap → R v s → wpAny (model P z.w) z.A (eval (.Name x p) env) R NoE s := fun s R ok sh r =>
  Calls.Name_function_global he.kind hx (Calls.loadGlobal_builtin (he.globals ▸ sh.top.g) (mg_none_of sh.keepIn sh.top.g h) (he.builtins ▸ sh.top.b) ((sh.top.builtins x hn).trans hb) r) hd
noncomputable def at7 (al bl : Addr) : List (Str × MV) := [("isjunk", .none), ("a", .obj al), ("b", .obj bl), ("autojunk", .bool true), ("matching_blocks", .none), ("opcodes", .none), ("fullbcount", .none)]
noncomputable def at10 (al bl d j p : Addr) (mb : MV) : List (Str × MV) := [("isjunk", .none), ("a", .obj al), ("b", .obj bl), ("autojunk", .bool true), ("matching_blocks", mb), ("opcodes", .none), ("fullbcount", .none), ("b2j", .obj d), ("bjunk", .obj j), ("bpopular", .obj p)]
noncomputable def at8 (al bl d : Addr) : List (Str × MV) := [("isjunk", .none), ("a", .obj al), ("b", .obj bl), ("autojunk", .bool true), ("matching_blocks", .none), ("opcodes", .none), ("fullbcount", .none), ("b2j", .obj d)]
noncomputable def at9 (al bl d j : Addr) : List (Str × MV) := [("isjunk", .none), ("a", .obj al), ("b", .obj bl), ("autojunk", .bool true), ("matching_blocks", .none), ("opcodes", .none), ("fullbcount", .none), ("b2j", .obj d), ("bjunk", .obj j)]
theorem at8_eq (al bl d : Addr) : putA "b2j" (.obj d) (at7 al bl) = at8 al bl d := by rfl
theorem at9_eq (al bl d j : Addr) : putA "bjunk" (.obj j) (at8 al bl d) = at9 al bl d j := by rfl
theorem at10_eq (al bl d j p : Addr) : putA "bpopular" (.obj p) (at9 al bl d j) = at10 al bl d j p .none := by rfl
theorem upd_old {α : Type} {f : Nat → Option α} {a y : Nat} {v m : α} (h : f y = some m) (hn : f a = none) : upd f a v y = some m := by
  simp only [upd]; split
  · rename_i e; rw [e, hn] at h; cases h
  · exact h
theorem upd_other {α : Type} {f : Nat → Option α} {a y : Nat} {v m m' : α} (h : f y = some m) (ha : f a = some m') (ne : m ≠ m') : upd f a v y = some m := by
  simp only [upd]; split
  · rename_i e; rw [e, ha] at h; cases h; exact absurd rfl ne
  · exact h
theorem B2J.ext {s s' : Addr → Option MO} {d : Addr} {b : List Int} (h : B2J s d b) (k : ∀ y mo, s y = some mo → (∀ l, mo ≠ .attrs l) → s' y = some mo) : B2J s' d b := by
  obtain ⟨f, n, h1, h2, h3⟩ := h.at_
  refine ⟨f, n, h1, k _ _ h2 (fun l e => nomatch e), fun x => ⟨fun hx => ?_, (h3 x).2⟩⟩
  obtain ⟨l, g1, g2⟩ := (h3 x).1 hx
  exact ⟨l, g1, k _ _ g2 (fun l e => nomatch e)⟩
theorem chain_ok {x dx al bl : Addr} {b : List Int} (hr : Rm z 1) (hx : ms.sto x = some (.inst dx)) (hdx : ms.sto dx = some (.attrs (at7 al bl))) (hb : ms.sto bl = some (il b)) (hn : b.length ≤ 100)
    (q : ∀ sto d j p, (∀ y mo, y ≠ dx → ms.sto y = some mo → sto y = some mo) → sto dx = some (.attrs (at10 al bl d j p .none)) → sto j = some .set0 → B2J sto d b → Q .none ⟨ms.loc, sto⟩) : CallV z (.ref 188) [.obj x] ms Q := by
  refine c188 hr fun z' L' hw he hr' => ?_
  refine s_cons ?_
  refine s_assign (by rfl) (by rfl) (by rfl) ?_
  refine e_attr (by rfl) fn_b ?_
  refine name_l he (by rfl) (by rfl) (rfl) ?_
  refine ⟨x, dx, _, _, rfl, hx, hdx, rfl, hin_obj _, ?_⟩
  refine st_name he (by rfl) ?_
  refine s_cons ?_
  refine s_assign2 (by rfl) (by rfl) ?_
  refine e_dict0 fun d hd hd3 => ?_
  have hd : ms.sto d = none := hd
  refine st_attr fn_b2j ?_
  refine name_l he (by rfl) (by rfl) (rfl) ?_
  refine ⟨x, dx, _, rfl, upd_old hx hd, upd_old hdx hd, by simp [at7], ?_⟩
  rw [at8_eq]
  refine st_name he (by rfl) ?_
  refine s_cons ?_
  let s0 : Addr → Option MO := upd ms.sto dx (.attrs (at8 al bl d))
  have hdd : d ≠ dx := fun e => by subst e; rw [hd] at hdx; cases hdx
  have s0d : s0 d = none := (upd_ne _ _ hdd).trans hd
  have s0b : s0 bl = some (il b) := upd_other hb hdx nofun
  have s0x : s0 x = some (.inst dx) := upd_other hx hdx nofun
  have s1b : upd (upd ms.sto d (MO.dict (fun _ => none) 0)) dx (.attrs (at8 al bl d)) bl = some (il b) := upd_other (upd_old hb hd) (upd_old hdx hd) nofun
  refine s_for_enum (l := bl) (ds := b.map MV.int) (by intro _; rfl) s1b (e_enum (l := bl) (ds := b.map MV.int) (raw_b he (by rfl) (by rfl) (by kernel_rfl) (by kernel_rfl) (by decide)) he (by rfl) (by rfl) (by rfl) s1b) ?_
  rw [enum_of]
  refine ch_for (s0 := s0) (all := b) (d := d) (bl := bl) he s0d (fun e => by subst e; revert hd3; decide) s0b b [] _ _ rfl hn (by rfl) ⟨?_, ⟨fun _ => none, 0, Nat.zero_le _, ?_, fun y => ⟨(fun h => absurd h (by simp)), fun _ => rfl⟩⟩, ?_⟩ ?_
  · intro y mo e
    show upd (upd ms.sto d (MO.dict (fun _ => none) 0)) dx (.attrs (at8 al bl d)) y = some mo
    simp only [s0, upd] at e ⊢
    by_cases q1 : y = dx
    · rw [if_pos q1] at e ⊢; exact e
    · rw [if_neg q1] at e ⊢
      by_cases q2 : y = d
      · rw [q2, hd] at e; cases e
      · rw [if_neg q2]; exact e
  · exact (upd_ne _ _ hdd).trans (upd_self _ _ _)
  · intro f n hf x1 x2 l e1 e2
    have hf := ((upd_ne _ _ hdd).trans (upd_self _ _ _)).symm.trans hf
    cases hf
    cases e1
  intro ms' g1 g2 g3 C
  have sx : ms'.sto x = some (.inst dx) := C.ext _ _ s0x
  have sdx : ms'.sto dx = some (.attrs (at8 al bl d)) := C.ext _ _ (upd_self _ _ _)
  have sbl : ms'.sto bl = some (il b) := C.ext _ _ s0b
  have lself : ms'.loc "self" = some (.obj x) := g2
  have lb : ms'.loc "b" = some (.obj bl) := g1
  refine s_cons ?_
  refine s_assign2 (by rfl) (by rfl) ?_
  refine e_call0 (f := .type "set") (name_b he (by rfl) (by rfl) (by kernel_rfl) (by kernel_rfl) (by decide) ⟨rfl, rfl⟩) (plain_type _) ?_
  refine c_set0 fun j hj => ?_
  refine st_attr fn_bjunk ?_
  refine name_l he (by rfl) (by rfl) (lself) ?_
  refine ⟨x, dx, _, rfl, upd_old sx hj, upd_old sdx hj, by simp [at8], ?_⟩
  rw [at9_eq]
  refine st_name he (by rfl) ?_
  refine s_cons ?_
  refine s_assign (by rfl) (by rfl) (by rfl) ?_
  refine e_attr (by rfl) fn_isjunk ?_
  refine name_l he (by rfl) (by rfl) (lself) ?_
  refine ⟨x, dx, _, _, rfl, upd_other (upd_old sx hj) (upd_old sdx hj) nofun, upd_self _ _ _, rfl, hin_none, ?_⟩
  refine st_name he (by rfl) ?_
  refine s_cons ?_
  refine s_if ?_
  refine test_val (by rfl) ?_
  refine name_l he (by rfl) (by rfl) (rfl) ?_
  refine tr_none ?_
  refine (if_neg (by decide)).mpr (s_nil ?_)
  refine s_cons ?_
  refine s_assign2 (by rfl) (by rfl) ?_
  refine e_call0 (f := .type "set") (name_b he (by rfl) (by rfl) (by kernel_rfl) (by kernel_rfl) (by decide) ⟨rfl, rfl⟩) (plain_type _) ?_
  refine c_set0 fun p hp => ?_
  have s2x : upd (upd ms'.sto j .set0) dx (.attrs (at9 al bl d j)) x = some (.inst dx) := upd_other (upd_old sx hj) (upd_old sdx hj) nofun
  have s2d : upd (upd ms'.sto j .set0) dx (.attrs (at9 al bl d j)) dx = some (.attrs (at9 al bl d j)) := upd_self _ _ _
  refine st_attr fn_bpop ?_
  refine name_l he (by rfl) (by rfl) (lself) ?_
  refine ⟨x, dx, _, rfl, upd_old s2x hp, upd_old s2d hp, by simp [at9], ?_⟩
  rw [at10_eq]
  have keep : ∀ y mo, y ≠ dx → ms'.sto y = some mo → upd (upd (upd (upd ms'.sto j .set0) dx (.attrs (at9 al bl d j))) p .set0) dx (.attrs (at10 al bl d j p .none)) y = some mo := fun y mo hy e =>
    (upd_ne _ _ hy).trans (upd_old ((upd_ne _ _ hy).trans (upd_old e hj)) hp)
  have hjd : j ≠ dx := fun e => by subst e; rw [hj] at sdx; cases sdx
  have keep0 : ∀ y mo, y ≠ dx → ms.sto y = some mo → ms'.sto y = some mo := fun y mo hy e => C.ext _ _ ((upd_ne _ _ hy).trans e)
  have bd : B2J ms'.sto d b := ⟨by
    obtain ⟨f, n, h1, h2, h3⟩ := C.at_
    exact ⟨f, n, h1, h2, fun y => ⟨fun hy => let ⟨l, a, _, _, e⟩ := (h3 y).1 hy; ⟨l, a, e⟩, (h3 y).2⟩⟩⟩
  have fin := q (upd (upd (upd (upd ms'.sto j .set0) dx (.attrs (at9 al bl d j))) p .set0) dx (.attrs (at10 al bl d j p .none))) d j p
    (fun y mo hy e => keep y mo hy (keep0 y mo hy e)) (upd_self _ _ _) ((upd_ne _ _ hjd).trans (upd_old ((upd_ne _ _ hjd).trans (upd_self _ _ _)) hp))
    (bd.ext fun y mo e na => keep y mo (fun q => by subst q; rw [sdx] at e; cases e; exact na _ rfl) e)
  refine st_name he (by rfl) ?_
  refine s_cons ?_
  refine s_assign (by rfl) (by rfl) (by rfl) ?_
  refine e_call (f := .builtin "len") (name_b he (by rfl) (by rfl) (by kernel_rfl) (by kernel_rfl) (by decide) ⟨rfl, rfl⟩) (plain_builtin _) (by rfl) (by rfl) ?_
  refine args_cons (by rfl) ?_
  refine name_l he (by rfl) (by rfl) (lb) ?_
  refine args_nil ?_
  refine c_len (vs := b.map MV.int) (keep bl _ (fun q => by subst q; rw [sdx] at sbl; cases sbl) sbl) (by simp; omega) ?_
  refine st_name he (by rfl) ?_
  refine s_cons ?_
  refine s_if ?_
  refine test_bool ?_
  refine and_cons ?_
  refine test_val (by rfl) ?_
  refine e_attr (by rfl) fn_autojunk ?_
  refine name_l he (by rfl) (by rfl) (lself) ?_
  refine ⟨x, dx, _, _, rfl, keep x _ (fun q => by subst q; rw [sdx] at sx; cases sx) sx, upd_self _ _ _, rfl, hin_bool _, ?_⟩
  refine tr_bool ?_
  refine (if_pos rfl).mpr ?_
  refine and_cons ?_
  refine test_cmp (by rfl) ?_
  refine name_l he (by rfl) (by rfl) (rfl) ?_
  refine const_int ?_
  refine op_ge ?_
  refine tr_bool ?_
  refine (if_neg (by simp; omega)).mpr ?_
  refine (if_neg (by decide)).mpr ?_
  exact s_nil (s_nil fin)
end
end Mine
end

/-! Make -/
section
open PySem PySem.W PyProof.Rows
set_option Elab.async false
set_option maxRecDepth 100000
set_option maxHeartbeats 1000000
set_option linter.unusedVariables false
namespace Mine

section
variable {z : Z} {ms : MS} {env : Env} {pos : Pos} {Q : MV → MS → Prop}
theorem putA_le {x : Str} {d : MV} {n : Nat} : ∀ {l : List (Str × MV)}, l.length ≤ n → (putA x d l).length ≤ n + 1
  | [], _ => by simp [putA]
  | p :: l, h => by
    unfold putA
    split
    · exact Nat.le_succ_of_le h
    · cases n with
      | zero => simp at h
      | succ n => simp only [List.length_cons] at h ⊢; exact Nat.succ_le_succ (putA_le (Nat.le_of_succ_le_succ h))
noncomputable def at4 : List (Str × MV) := [("isjunk", .none), ("a", .none), ("b", .none), ("autojunk", .bool true)]
noncomputable def at6 (al : Addr) : List (Str × MV) := [("isjunk", .none), ("a", .obj al), ("b", .none), ("autojunk", .bool true), ("matching_blocks", .none), ("opcodes", .none)]
theorem seq1_ok {x dx al : Addr} (hr : Rm z 1) (hx : ms.sto x = some (.inst dx)) (hdx : ms.sto dx = some (.attrs at4))
    (q : Q .none ⟨ms.loc, upd ms.sto dx (.attrs (at6 al))⟩) : CallV z (.ref 174) [.obj x, .obj al] ms Q := by
  refine c174 hr fun z' L' hw he hr' => ?_
  refine s_cons ?_
  refine s_doc he.hi ?_
  refine s_cons ?_
  refine s_if ?_
  refine test_cmp (by rfl) ?_
  refine name_l he (by rfl) (by rfl) (rfl) ?_
  refine e_attr (by rfl) fn_a ?_
  refine name_l he (by rfl) (by rfl) (rfl) ?_
  refine ⟨x, dx, _, _, rfl, hx, hdx, rfl, hin_none, ?_⟩
  refine op_is_none (isn_obj _) ?_
  refine tr_bool ?_
  refine (if_neg (by decide)).mpr (s_nil ?_)
  refine s_cons ?_
  refine s_assign (by rfl) (by rfl) (by rfl) ?_
  refine name_l he (by rfl) (by rfl) (rfl) ?_
  refine st_attr fn_a ?_
  refine name_l he (by rfl) (by rfl) (rfl) ?_
  refine ⟨x, dx, _, rfl, hx, hdx, by simp [at4], ?_⟩
  refine s_cons ?_
  refine s_assign2 (by rfl) (by rfl) ?_
  refine const_none ?_
  refine st_attr fn_mb ?_
  refine name_l he (by rfl) (by rfl) (rfl) ?_
  refine ⟨x, dx, _, rfl, upd_other hx hdx nofun, upd_self _ _ _, by (repeat refine putA_le ?_); simp [at4, at6], ?_⟩
  refine st_attr fn_op ?_
  refine name_l he (by rfl) (by rfl) (rfl) ?_
  refine ⟨x, dx, _, rfl, upd_other (upd_other hx hdx nofun) (upd_self _ _ _) nofun, upd_self _ _ _, by (repeat refine putA_le ?_); simp [at4, at6], ?_⟩
  refine s_nil ?_
  dsimp only
  rw [upd_upd, upd_upd]
  exact q
theorem seq2_ok {x dx al bl : Addr} {b : List Int} (hr : Rm z 2) (hx : ms.sto x = some (.inst dx)) (hdx : ms.sto dx = some (.attrs (at6 al))) (hb : ms.sto bl = some (il b)) (hn : b.length ≤ 100)
    (q : ∀ sto d j p, (∀ y mo, y ≠ dx → ms.sto y = some mo → sto y = some mo) → sto dx = some (.attrs (at10 al bl d j p .none)) → sto j = some .set0 → B2J sto d b → Q .none ⟨ms.loc, sto⟩) : CallV z (.ref 181) [.obj x, .obj bl] ms Q := by
  refine c181 hr fun z' L' hw he hr' => ?_
  refine s_cons ?_
  refine s_doc he.hi ?_
  refine s_cons ?_
  refine s_if ?_
  refine test_cmp (by rfl) ?_
  refine name_l he (by rfl) (by rfl) (rfl) ?_
  refine e_attr (by rfl) fn_b ?_
  refine name_l he (by rfl) (by rfl) (rfl) ?_
  refine ⟨x, dx, _, _, rfl, hx, hdx, rfl, hin_none, ?_⟩
  refine op_is_none (isn_obj _) ?_
  refine tr_bool ?_
  refine (if_neg (by decide)).mpr (s_nil ?_)
  have hx1 : ∀ l, upd ms.sto dx (.attrs l) x = some (.inst dx) := fun l => upd_other hx hdx nofun
  have hx2 : ∀ l l', upd (upd ms.sto dx (.attrs l)) dx (.attrs l') x = some (.inst dx) := fun l l' => upd_other (hx1 l) (upd_self _ _ _) nofun
  have hx3 : ∀ l l' l'', upd (upd (upd ms.sto dx (.attrs l)) dx (.attrs l')) dx (.attrs l'') x = some (.inst dx) := fun l l' l'' => upd_other (hx2 l l') (upd_self _ _ _) nofun
  refine s_cons ?_
  refine s_assign (by rfl) (by rfl) (by rfl) ?_
  refine name_l he (by rfl) (by rfl) (rfl) ?_
  refine st_attr fn_b ?_
  refine name_l he (by rfl) (by rfl) (rfl) ?_
  refine ⟨x, dx, _, rfl, hx, hdx, by simp [at6], ?_⟩
  refine s_cons ?_
  refine s_assign2 (by rfl) (by rfl) ?_
  refine const_none ?_
  refine st_attr fn_mb ?_
  refine name_l he (by rfl) (by rfl) (rfl) ?_
  refine ⟨x, dx, _, rfl, hx1 _, upd_self _ _ _, by (repeat refine putA_le ?_); simp [at4, at6], ?_⟩
  refine st_attr fn_op ?_
  refine name_l he (by rfl) (by rfl) (rfl) ?_
  refine ⟨x, dx, _, rfl, hx2 _ _, upd_self _ _ _, by (repeat refine putA_le ?_); simp [at4, at6], ?_⟩
  refine s_cons ?_
  refine s_assign (by rfl) (by rfl) (by rfl) ?_
  refine const_none ?_
  refine st_attr fn_fb ?_
  refine name_l he (by rfl) (by rfl) (rfl) ?_
  refine ⟨x, dx, _, rfl, hx3 _ _ _, upd_self _ _ _, by (repeat refine putA_le ?_); simp [at4, at6], ?_⟩
  dsimp only
  rw [upd_upd, upd_upd, upd_upd]
  refine s_cons ?_
  refine s_expr he.hi (by rfl) ?_
  refine e_imeth0 (by rfl) (by rfl) m_chain ?_
  refine name_l he (by rfl) (by rfl) (rfl) ?_
  refine ⟨x, dx, at7 al bl, rfl, ⟨hx1 _, ?_⟩, by rfl, ?_⟩
  · show upd ms.sto dx _ dx = _
    rw [upd_self]; rfl
  refine chain_ok (al := al) (bl := bl) (b := b) hr' (hx1 _) (by show upd ms.sto dx _ dx = _; rw [upd_self]; rfl) (upd_other hb hdx nofun) hn ?_
  intro sto d j p k1 k2 k3 k4
  refine ⟨rfl, s_nil ?_⟩
  exact q sto d j p (fun y mo hy e => k1 y mo hy ((upd_ne _ _ hy).trans e)) k2 k3 k4
theorem seqs_ok {x dx al bl : Addr} {b : List Int} (hr : Rm z 3) (hx : ms.sto x = some (.inst dx)) (hdx : ms.sto dx = some (.attrs at4)) (hb : ms.sto bl = some (il b)) (hn : b.length ≤ 100)
    (q : ∀ sto d j p, (∀ y mo, y ≠ dx → ms.sto y = some mo → sto y = some mo) → sto dx = some (.attrs (at10 al bl d j p .none)) → sto j = some .set0 → B2J sto d b → Q .none ⟨ms.loc, sto⟩) : CallV z (.ref 167) [.obj x, .obj al, .obj bl] ms Q := by
  refine c167 hr fun z' L' hw he hr' => ?_
  refine s_cons ?_
  refine s_doc he.hi ?_
  refine s_cons ?_
  refine s_expr he.hi (by rfl) ?_
  refine e_imethN (by rfl) (by rfl) (by rfl) m_seq1 (by rfl) (by rfl) ?_
  refine name_l he (by rfl) (by rfl) (rfl) ?_
  refine ⟨x, dx, _, rfl, ⟨hx, hdx⟩, by rfl, ?_⟩
  refine args_cons (by rfl) ?_
  refine name_l he (by rfl) (by rfl) (rfl) ?_
  refine args_nil ?_
  refine seq1_ok (hr'.less (by omega)) hx hdx ⟨rfl, ?_⟩
  have hx1 : upd ms.sto dx (.attrs (at6 al)) x = some (.inst dx) := upd_other hx hdx nofun
  refine s_cons ?_
  refine s_expr he.hi (by rfl) ?_
  refine e_imethN (by rfl) (by rfl) (by rfl) m_seq2 (by rfl) (by rfl) ?_
  refine name_l he (by rfl) (by rfl) (rfl) ?_
  refine ⟨x, dx, _, rfl, ⟨hx1, upd_self _ _ _⟩, by rfl, ?_⟩
  refine args_cons (by rfl) ?_
  refine name_l he (by rfl) (by rfl) (rfl) ?_
  refine args_nil ?_
  refine seq2_ok hr' hx1 (upd_self _ _ _) (upd_other hb hdx nofun) hn ?_
  intro sto d j p k1 k2 k3 k4
  refine ⟨rfl, s_nil ?_⟩
  exact q sto d j p (fun y mo hy e => k1 y mo hy ((upd_ne _ _ hy).trans e)) k2 k3 k4
/-- the matcher as it stands -/
structure Mat (sto : Addr → Option MO) (x al bl : Addr) (a b : List Int) (mb : MV) : Prop where
  ex : ∃ dx d j p, sto x = some (.inst dx) ∧ sto dx = some (.attrs (at10 al bl d j p mb)) ∧ sto j = some .set0 ∧ B2J sto d b
  ha : sto al = some (il a)
  hb : sto bl = some (il b)
theorem Mat.ext {s s' : Addr → Option MO} {x al bl : Addr} {a b : List Int} {mb : MV} (h : Mat s x al bl a b mb) (k : Ext s s') : Mat s' x al bl a b mb := by
  obtain ⟨dx, d, j, p, h1, h2, h3, h4⟩ := h.ex
  exact ⟨⟨dx, d, j, p, k _ _ h1, k _ _ h2, k _ _ h3, h4.ext fun y mo e _ => k _ _ e⟩, k _ _ h.ha, k _ _ h.hb⟩
theorem make_ok {al bl : Addr} {a b : List Int} (hr : Rm z 10) (ha : ms.sto al = some (il a)) (hb : ms.sto bl = some (il b)) (hn : b.length ≤ 100)
    (q : ∀ sto x, Ext ms.sto sto → ms.sto x = none → Mat sto x al bl a b .none → Q (.obj x) ⟨ms.loc, sto⟩) : CallV z (.ref 242) [.none, .obj al, .obj bl] ms Q := by
  refine c_make fun z₁ x dx hw hd hu hxn hdn hne => ?_
  have hr1 : Rm z₁ 5 := ⟨by have := hr.1; omega, by have := hr.2; omega⟩
  refine c160 hr1 fun z' L' hw he hr' => ?_
  have hx : upd (upd ms.sto dx (.attrs [])) x (.inst dx) x = some (.inst dx) := upd_self _ _ _
  have hdx : upd (upd ms.sto dx (.attrs [])) x (.inst dx) dx = some (.attrs []) := (upd_ne _ _ (Ne.symm hne)).trans (upd_self _ _ _)
  have hx1 : ∀ l, upd (upd (upd ms.sto dx (.attrs [])) x (.inst dx)) dx (.attrs l) x = some (.inst dx) := fun l => upd_other hx hdx nofun
  have hx2 : ∀ l l', upd (upd (upd (upd ms.sto dx (.attrs [])) x (.inst dx)) dx (.attrs l)) dx (.attrs l') x = some (.inst dx) := fun l l' => upd_other (hx1 l) (upd_self _ _ _) nofun
  have hx3 : ∀ l l' l'', upd (upd (upd (upd (upd ms.sto dx (.attrs [])) x (.inst dx)) dx (.attrs l)) dx (.attrs l')) dx (.attrs l'') x = some (.inst dx) := fun l l' l'' => upd_other (hx2 l l') (upd_self _ _ _) nofun
  refine s_cons ?_
  refine s_doc he.hi ?_
  refine s_cons ?_
  refine s_assign (by rfl) (by rfl) (by rfl) ?_
  refine name_l he (by rfl) (by rfl) (rfl) ?_
  refine st_attr fn_isjunk ?_
  refine name_l he (by rfl) (by rfl) (rfl) ?_
  refine ⟨x, dx, _, rfl, hx, hdx, by simp, ?_⟩
  refine s_cons ?_
  refine s_assign2 (by rfl) (by rfl) ?_
  refine const_none ?_
  refine st_attr fn_a ?_
  refine name_l he (by rfl) (by rfl) (rfl) ?_
  refine ⟨x, dx, _, rfl, hx1 _, upd_self _ _ _, by (repeat refine putA_le ?_); simp [at4, at6], ?_⟩
  refine st_attr fn_b ?_
  refine name_l he (by rfl) (by rfl) (rfl) ?_
  refine ⟨x, dx, _, rfl, hx2 _ _, upd_self _ _ _, by (repeat refine putA_le ?_); simp [at4, at6], ?_⟩
  refine s_cons ?_
  refine s_assign (by rfl) (by rfl) (by rfl) ?_
  refine name_l he (by rfl) (by rfl) (rfl) ?_
  refine st_attr fn_autojunk ?_
  refine name_l he (by rfl) (by rfl) (rfl) ?_
  refine ⟨x, dx, _, rfl, hx3 _ _ _, upd_self _ _ _, by (repeat refine putA_le ?_); simp [at4, at6], ?_⟩
  dsimp only
  rw [upd_upd, upd_upd, upd_upd]
  refine s_cons ?_
  refine s_expr he.hi (by rfl) ?_
  refine e_imethN (by rfl) (by rfl) (by rfl) m_seqs (by rfl) (by rfl) ?_
  refine name_l he (by rfl) (by rfl) (rfl) ?_
  refine ⟨x, dx, at4, rfl, ⟨hx1 _, ?_⟩, by rfl, ?_⟩
  · show upd _ dx _ dx = _
    rw [upd_self]; rfl
  refine args_cons (by rfl) ?_
  refine name_l he (by rfl) (by rfl) (rfl) ?_
  refine args_cons (by rfl) ?_
  refine name_l he (by rfl) (by rfl) (rfl) ?_
  refine args_nil ?_
  have keep : ∀ y mo, y ≠ dx → ms.sto y = some mo → upd (upd (upd ms.sto dx (.attrs [])) x (.inst dx)) dx (.attrs at4) y = some mo := fun y mo hy e =>
    (upd_ne _ _ hy).trans ((upd_ne _ _ (fun q => by subst q; rw [hxn] at e; cases e)).trans ((upd_ne _ _ hy).trans e))
  have hold : ∀ y mo, ms.sto y = some mo → y ≠ dx := fun y mo e q => by subst q; rw [hdn] at e; cases e
  refine seqs_ok (dx := dx) (b := b) (hr'.less (by omega)) (hx1 _) (by show upd _ dx _ dx = _; rw [upd_self]; rfl) (keep bl _ (hold _ _ hb) hb) hn ?_
  intro sto d j p k1 k2 k3 k4
  refine ⟨rfl, s_nil ⟨rfl, ?_⟩⟩
  have ex : Ext ms.sto sto := fun y mo e => k1 y mo (hold _ _ e) (keep y mo (hold _ _ e) e)
  exact q sto x ex hxn ⟨⟨dx, d, j, p, k1 x _ hne (hx1 _), k2, k3, k4⟩, ex _ _ ha, ex _ _ hb⟩
end
end Mine
end

/-! Flm -/
section
open PySem PySem.W PyProof.Rows
set_option Elab.async false
set_option maxRecDepth 100000
set_option maxHeartbeats 1000000
set_option linter.unusedVariables false
namespace Mine

noncomputable abbrev I3 := Int × Int × Int
noncomputable def setF (F : Int → Option Int) (j k : Int) : Int → Option Int := fun x => if x = j then some k else F x
noncomputable def FD (F : Int → Option Int) (n : Nat) : MO := .dict (fun x => (F x).map MV.int) n
theorem FD_set (F : Int → Option Int) (j k : Int) (n : Nat) : (MO.dict (fun x => if x = j then some (MV.int k) else (F x).map MV.int) n) = FD (setF F j k) n := by
  unfold FD setF
  congr 1
  funext x
  split <;> rfl
theorem FD_get (F : Int → Option Int) (j : Int) : ((F j).map MV.int).getD (.int 0) = .int ((F j).getD 0) := by cases F j <;> rfl
noncomputable def rowGo (blo bhi i : Int) (F : Int → Option Int) : List Int → (Int → Option Int) → I3 → (Int → Option Int) × I3
  | [], G, t => (G, t)
  | j :: js, G, t =>
    if j < blo then rowGo blo bhi i F js G t
    else if j ≥ bhi then (G, t)
    else rowGo blo bhi i F js (setF G j ((F (j - 1)).getD 0 + 1)) (if (F (j - 1)).getD 0 + 1 > t.2.2 then (i - ((F (j - 1)).getD 0 + 1) + 1, j - ((F (j - 1)).getD 0 + 1) + 1, (F (j - 1)).getD 0 + 1) else t)
noncomputable def rowsGo (a b : List Int) (blo bhi : Int) : List Int → (Int → Option Int) → I3 → I3
  | [], _, t => t
  | i :: is, F, t => rowsGo a b blo bhi is (rowGo blo bhi i F (places b (a.getD i.toNat 0)) (fun _ => none) t).1 (rowGo blo bhi i F (places b (a.getD i.toNat 0)) (fun _ => none) t).2
noncomputable def flmI (a b : List Int) (alo ahi blo bhi : Int) : I3 := rowsGo a b blo bhi ((List.range (ahi - alo).toNat).map fun (i : Nat) => alo + i) (fun _ => none) (alo, blo, 0)
noncomputable def fFor : Stmt := ((bodyOf (meth 5 6))[7]?).getD (.Pass ⟨0,0,0,0⟩)
noncomputable def fIn : Stmt := ((forBody fFor)[2]?).getD (.Pass ⟨0,0,0,0⟩)
variable {z : Z} {ms : MS} {Q : MV → MS → Prop}
structure FlL (ms : MS) (al bl d j nn : Addr) (alo ahi blo bhi : Int) : Prop where
  va : ms.loc "a" = some (.obj al)
  vb : ms.loc "b" = some (.obj bl)
  vd : ms.loc "b2j" = some (.obj d)
  vj : ms.loc "isbjunk" = some (.bm "set.__contains__" j)
  vn : ms.loc "nothing" = some (.obj nn)
  valo : ms.loc "alo" = some (.int alo)
  vahi : ms.loc "ahi" = some (.int ahi)
  vblo : ms.loc "blo" = some (.int blo)
  vbhi : ms.loc "bhi" = some (.int bhi)
structure FlT (ms : MS) (t : I3) : Prop where
  v1 : ms.loc "besti" = some (.int t.1)
  v2 : ms.loc "bestj" = some (.int t.2.1)
  v3 : ms.loc "bestsize" = some (.int t.2.2)
theorem fl_row {L al bl d j nn lst e1 e2 : Addr} {alo ahi blo bhi i : Int} {all : List Int} {F : Int → Option Int} {n0 : Nat} {s1 : Addr → Option MO} (he : EnvOk z (E196 L))
    (hl : s1 lst = some (il all)) (h1 : s1 e1 = some (FD F n0)) (h2 : s1 e2 = none) :
    ∀ (js : List Int) (G : Int → Option Int) (t : I3) (n : Nat) (ms : MS) (Q : MF → MS → Prop), n + js.length ≤ 1000 → FlL ms al bl d j nn alo ahi blo bhi → FlT ms t → ms.loc "i" = some (.int i) → ms.loc "j2lenget" = some (.bm "dict.get" e1) → ms.loc "newj2len" = some (.obj e2) → ms.sto = upd s1 e2 (FD G n) →
      (∀ ms' n', FlL ms' al bl d j nn alo ahi blo bhi → FlT ms' (rowGo blo bhi i F js G t).2 → ms'.loc "newj2len" = some (.obj e2) → ms'.sto = upd s1 e2 (FD (rowGo blo bhi i F js G t).1 n') → Q .next ms') →
      ForN z (E196 L) (forTest fIn) (forBody fIn) (fun ms => ms.sto lst = some (il all)) (js.map MV.int) ms Q
  | [], G, t, n, ms, Q, _, V, T, _, _, l3, hs, q => ⟨by show ms.sto lst = _; rw [hs]; exact upd_old hl h2, q ms n V T l3 hs⟩
  | jj :: js, G, t, n, ms, Q, hn, V, T, l1, l2, l3, hs, q => by
    refine ⟨by show ms.sto lst = _; rw [hs]; exact upd_old hl h2, fun F' => ?_⟩
    have he0 := he
    have he := he.fr F'
    simp only [List.length_cons] at hn
    refine st_name he (by rfl) ?_
    refine s_cons ?_
    refine s_if ?_
    refine test_cmp (by rfl) ?_
    refine name_l he (by rfl) (by rfl) (rfl) ?_
    refine name_l he (by rfl) (by rfl) (V.vblo) ?_
    refine op_lt ?_
    refine tr_bool ?_
    by_cases c1 : jj < blo
    · refine (if_pos (by simpa using c1)).mpr ?_
      refine s_cons ?_
      refine s_continue ?_
      refine fl_row he0 hl h1 h2 js G t n _ Q (by omega) ⟨V.va, V.vb, V.vd, V.vj, V.vn, V.valo, V.vahi, V.vblo, V.vbhi⟩ ⟨T.v1, T.v2, T.v3⟩ l1 l2 l3 hs ?_
      intro ms' n' g1 g2 g3 g4
      have e : rowGo blo bhi i F (jj :: js) G t = rowGo blo bhi i F js G t := by rw [rowGo, if_pos c1]
      exact q ms' n' g1 (by rw [e]; exact g2) g3 (by rw [e]; exact g4)
    · refine (if_neg (by simpa using c1)).mpr (s_nil ?_)
      refine s_cons ?_
      refine s_if ?_
      refine test_cmp (by rfl) ?_
      refine name_l he (by rfl) (by rfl) (rfl) ?_
      refine name_l he (by rfl) (by rfl) (V.vbhi) ?_
      refine op_ge ?_
      refine tr_bool ?_
      by_cases c2 : jj ≥ bhi
      · refine (if_pos (by simpa using c2)).mpr ?_
        refine s_cons ?_
        refine s_break ?_
        have e : rowGo blo bhi i F (jj :: js) G t = (G, t) := by rw [rowGo, if_neg c1, if_pos c2]
        exact q _ n ⟨V.va, V.vb, V.vd, V.vj, V.vn, V.valo, V.vahi, V.vblo, V.vbhi⟩ (by rw [e]; exact ⟨T.v1, T.v2, T.v3⟩) l3 (by rw [e]; exact hs)
      · refine (if_neg (by simpa using c2)).mpr (s_nil ?_)
        have hsf : ms.sto e1 = some (FD F n0) := by rw [hs]; exact upd_old h1 h2
        have hsg : ms.sto e2 = some (FD G n) := by rw [hs, upd_self]
        refine s_cons ?_
        refine s_assign2 (by rfl) (by rfl) ?_
        refine binop ?_
        refine e_callbm (id := "dict.get") (a := e1) (name_l he (by rfl) (by rfl) l2 ⟨rfl, rfl⟩) (by rfl) (by rfl) ?_
        refine args_cons (by rfl) ?_
        refine binop ?_
        refine name_l he (by rfl) (by rfl) (rfl) ?_
        refine const_int ?_
        refine op_sub ?_
        refine args_cons (by rfl) ?_
        refine const_int ?_
        refine args_nil ?_
        refine bm_dget hsf ?_
        rw [FD_get]
        refine const_int ?_
        refine op_add ?_
        refine st_name he (by rfl) ?_
        refine st_sub_dict (name_l he (by rfl) (by rfl) l3 (name_l he (by rfl) (by rfl) rfl ⟨e2, _, n, jj, rfl, rfl, hsg, by omega, ?_⟩))
        rw [FD_set]
        refine s_cons ?_
        refine s_if ?_
        refine test_cmp (by rfl) ?_
        refine name_l he (by rfl) (by rfl) (rfl) ?_
        refine name_l he (by rfl) (by rfl) (T.v3) ?_
        refine op_gt ?_
        refine tr_bool ?_
        have e : rowGo blo bhi i F (jj :: js) G t = rowGo blo bhi i F js (setF G jj ((F (jj - 1)).getD 0 + 1)) (if (F (jj - 1)).getD 0 + 1 > t.2.2 then (i - ((F (jj - 1)).getD 0 + 1) + 1, jj - ((F (jj - 1)).getD 0 + 1) + 1, (F (jj - 1)).getD 0 + 1) else t) := by
          conv => lhs; rw [rowGo, if_neg c1, if_neg c2]
        have hss : upd ms.sto e2 (FD (setF G jj ((F (jj - 1)).getD 0 + 1)) (n + 1)) = upd s1 e2 (FD (setF G jj ((F (jj - 1)).getD 0 + 1)) (n + 1)) := by rw [hs, upd_upd]
        by_cases c3 : (F (jj - 1)).getD 0 + 1 > t.2.2
        · refine (if_pos (by simpa using c3)).mpr ?_
          rw [if_pos c3] at e
          refine s_cons ?_
          refine s_swap (names := ["besti", "bestj", "bestsize"]) (by rfl) (by rfl) ?_
          refine e_tuple ?_
          refine args_cons (by rfl) ?_
          refine binop ?_
          refine binop ?_
          refine name_l he (by rfl) (by rfl) (l1) ?_
          refine name_l he (by rfl) (by rfl) (rfl) ?_
          refine op_sub ?_
          refine const_int ?_
          refine op_add ?_
          refine args_cons (by rfl) ?_
          refine binop ?_
          refine binop ?_
          refine name_l he (by rfl) (by rfl) (rfl) ?_
          refine name_l he (by rfl) (by rfl) (rfl) ?_
          refine op_sub ?_
          refine const_int ?_
          refine op_add ?_
          refine args_cons (by rfl) ?_
          refine name_l he (by rfl) (by rfl) (rfl) ?_
          refine args_nil ?_
          refine ⟨by simp [sizeLine], _, rfl, rfl, ?_⟩
          refine st_bind he (by rfl) ?_
          refine st_bind he (by rfl) ?_
          refine st_bind he (by rfl) ?_
          refine s_nil (s_nil ?_)
          refine fl_row he0 hl h1 h2 js (setF G jj ((F (jj - 1)).getD 0 + 1)) (i - ((F (jj - 1)).getD 0 + 1) + 1, jj - ((F (jj - 1)).getD 0 + 1) + 1, (F (jj - 1)).getD 0 + 1) (n + 1) _ Q (by omega) ⟨V.va, V.vb, V.vd, V.vj, V.vn, V.valo, V.vahi, V.vblo, V.vbhi⟩ ⟨by rfl, by rfl, by rfl⟩ l1 l2 l3 hss ?_
          intro ms' n' g1 g2 g3 g4
          exact q ms' n' g1 (by rw [e]; exact g2) g3 (by rw [e]; exact g4)
        · refine (if_neg (by simpa using c3)).mpr (s_nil (s_nil ?_))
          rw [if_neg c3] at e
          refine fl_row he0 hl h1 h2 js (setF G jj ((F (jj - 1)).getD 0 + 1)) t (n + 1) _ Q (by omega) ⟨V.va, V.vb, V.vd, V.vj, V.vn, V.valo, V.vahi, V.vblo, V.vbhi⟩ ⟨T.v1, T.v2, T.v3⟩ l1 l2 l3 hss ?_
          intro ms' n' g1 g2 g3 g4
          exact q ms' n' g1 (by rw [e]; exact g2) g3 (by rw [e]; exact g4)
theorem places_none {b : List Int} {x : Int} (h : x ∉ b) : places b x = [] := by
  unfold places
  rw [List.map_eq_nil_iff, List.filter_eq_nil_iff]
  intro p hp
  have : p.1 ∈ b := by
    obtain ⟨i, hi, e⟩ := List.mem_zipIdx' hp |> fun h => (⟨p.2, h.1, h.2⟩ : ∃ i, ∃ h : i < b.length, p.1 = b[i])
    rw [e]; exact List.getElem_mem _
  intro q
  exact h ((beq_iff_eq.mp q) ▸ this)
theorem places_len (b : List Int) (x : Int) : (places b x).length ≤ b.length := by
  unfold places
  rw [List.length_map]
  exact Nat.le_trans (List.length_filter_le _ _) (by simp)
structure FlS (s0 : Addr → Option MO) (al bl d j nn : Addr) (a b : List Int) : Prop where
  ha : s0 al = some (il a)
  hb : s0 bl = some (il b)
  hd : B2J s0 d b
  hj : s0 j = some .set0
  hn : s0 nn = some (.list [])
  na : a.length ≤ 100
  nb : b.length ≤ 100
theorem fl_rows {L al bl d j nn : Addr} {alo ahi blo bhi : Int} {a b : List Int} {s0 : Addr → Option MO} (he : EnvOk z (E196 L)) (S : FlS s0 al bl d j nn a b) :
    ∀ (is : List Int) (F : Int → Option Int) (t : I3) (n : Nat) (e1 : Addr) (ms : MS) (Q : MF → MS → Prop), (∀ i ∈ is, 0 ≤ i ∧ i < a.length) → Ext s0 ms.sto → ms.sto e1 = some (FD F n) → ms.loc "j2len" = some (.obj e1) → FlL ms al bl d j nn alo ahi blo bhi → FlT ms t →
      (∀ ms', Ext s0 ms'.sto → FlL ms' al bl d j nn alo ahi blo bhi → FlT ms' (rowsGo a b blo bhi is F t) → Q .next ms') →
      ForN z (E196 L) (forTest fFor) (forBody fFor) (fun _ => True) (is.map MV.int) ms Q
  | [], F, t, n, e1, ms, Q, _, hx, _, _, V, T, q => ⟨trivial, q ms hx V T⟩
  | i :: is, F, t, n, e1, ms, Q, hi, hx, h1, l1, V, T, q => by
    refine ⟨trivial, fun F' => ?_⟩
    have he0 := he
    have he := he.fr F'
    have hna := S.na
    obtain ⟨i0, i1⟩ := hi i (by simp)
    refine st_name he (by rfl) ?_
    refine s_cons ?_
    refine s_assign (by rfl) (by rfl) (by rfl) ?_
    refine e_dget (by rfl) ?_
    refine name_l he (by rfl) (by rfl) (l1) ?_
    refine ⟨e1, _, n, rfl, h1, ?_⟩
    refine st_name he (by rfl) ?_
    refine s_cons ?_
    refine s_assign (by rfl) (by rfl) (by rfl) ?_
    refine e_dict0 fun e2 h2 h3 => ?_
    have h2 : ms.sto e2 = none := h2
    refine st_name he (by rfl) ?_
    refine s_cons ?_
    refine s_for_list (.name _ _) (by intro _; rfl) ?_
    obtain ⟨f, nd, hnd, hsd, hf⟩ := S.hd.at_
    have hx2 : Ext s0 (upd ms.sto e2 (.dict (fun _ => none) 0)) := hx.upd (hx.none h2)
    refine e_methN (by rfl) (by rfl) (by rfl) PySem.F.plainAttrs_dict PySem.F.slot_dict_get PySem.F.type_dict_get (by rfl) (by rfl) ?_
    refine name_l he (by rfl) (by rfl) (V.vd) ?_
    refine ⟨is_dict (hx2 _ _ hsd), ?_⟩
    refine args_cons (by rfl) ?_
    refine e_sub ?_
    refine name_l he (by rfl) (by rfl) (V.va) ?_
    refine name_l he (by rfl) (by rfl) (rfl) ?_
    refine sub_list (hx2 _ _ S.ha) i0 (by omega) (il_get (by omega)) ⟨fun _ _ _ => rfl, fun _ _ => rfl⟩ ?_
    refine args_cons (by rfl) ?_
    refine name_l he (by rfl) (by rfl) (V.vn) ?_
    refine args_nil ?_
    refine c_dget (hx2 _ _ hsd) ?_
    have key : ∃ lst, (f (a.getD i.toNat 0)).getD (.obj nn) = .obj lst ∧ ms.sto lst = some (il (places b (a.getD i.toNat 0))) := by
      by_cases hm : a.getD i.toNat 0 ∈ b
      · obtain ⟨l, g1, g2⟩ := (hf _).1 hm
        exact ⟨l, by rw [g1]; rfl, hx _ _ g2⟩
      · exact ⟨nn, by rw [(hf _).2 hm]; rfl, by rw [places_none hm]; exact hx _ _ S.hn⟩
    obtain ⟨lst, k1, k2⟩ := key
    rw [k1]
    refine ⟨lst, _, rfl, upd_old k2 h2, ?_⟩
    refine fl_row (s1 := ms.sto) (lst := lst) (all := places b (a.getD i.toNat 0)) (F := F) (n0 := n) (e1 := e1) (e2 := e2) (i := i) (al := al) (bl := bl) (d := d) (j := j) (nn := nn) (alo := alo) (ahi := ahi) (blo := blo) (bhi := bhi) he k2 h1 h2 _ (fun _ => none) t 0 _ _ (by have := places_len b (a.getD i.toNat 0); have := S.nb; omega) ⟨V.va, V.vb, V.vd, V.vj, V.vn, V.valo, V.vahi, V.vblo, V.vbhi⟩ ⟨T.v1, T.v2, T.v3⟩ (by rfl) (by rfl) (by rfl) (by rfl) ?_
    intro ms' n' V' T' g3 g4
    refine s_cons ?_
    refine s_assign (by rfl) (by rfl) (by rfl) ?_
    refine name_l he (by rfl) (by rfl) (g3) ?_
    refine st_name he (by rfl) ?_
    refine s_nil ?_
    refine fl_rows he0 S is (rowGo blo bhi i F (places b (a.getD i.toNat 0)) (fun _ => none) t).1 (rowGo blo bhi i F (places b (a.getD i.toNat 0)) (fun _ => none) t).2 n' e2 _ Q (fun x hx => hi x (by simp [hx])) ?_ ?_ (by rfl) ⟨V'.va, V'.vb, V'.vd, V'.vj, V'.vn, V'.valo, V'.vahi, V'.vblo, V'.vbhi⟩ ⟨T'.v1, T'.v2, T'.v3⟩ ?_
    · show Ext s0 ms'.sto
      rw [g4]; exact hx.upd (hx.none h2)
    · show ms'.sto e2 = _
      rw [g4]; exact upd_self _ _ _
    · intro m3 f1 f2 f3
      exact q m3 f1 f2 f3
end Mine
end

/-! P1 -/
section
open PySem PySem.W PyProof.Rows
set_option Elab.async false
set_option maxRecDepth 100000
set_option maxHeartbeats 1000000
set_option linter.unusedVariables false
namespace Mine

/-! ## the order of int lists, and the heap's order -/
noncomputable def leL (a b : List Int) : Prop := ltL b a = false
theorem ltL_irrefl : ∀ a : List Int, ltL a a = false
  | [] => rfl
  | x :: xs => by simp [ltL, ltL_irrefl xs]
theorem ltL_trans : ∀ {a b c : List Int}, ltL a b = true → ltL b c = true → ltL a c = true
  | [], [], _, h, _ => by simp [ltL] at h
  | [], _ :: _, [], _, h => by simp [ltL] at h
  | [], _ :: _, _ :: _, _, _ => rfl
  | _ :: _, [], _, h, _ => by simp [ltL] at h
  | _ :: _, _ :: _, [], _, h => by simp [ltL] at h
  | x :: xs, y :: ys, w :: ws, h1, h2 => by
    simp only [ltL] at h1 h2 ⊢
    by_cases e1 : x = y
    · subst e1
      simp only [beq_self_eq_true, if_true] at h1
      by_cases e2 : x = w
      · subst e2
        simp only [beq_self_eq_true, if_true] at h2 ⊢
        exact ltL_trans h1 h2
      · rw [if_neg (by simpa using e2)] at h2 ⊢
        exact h2
    · rw [if_neg (by simpa using e1)] at h1
      have h1 := of_decide_eq_true h1
      by_cases e2 : y = w
      · subst e2
        rw [if_neg (by simpa using e1)]
        exact decide_eq_true h1
      · rw [if_neg (by simpa using e2)] at h2
        have h2 := of_decide_eq_true h2
        rw [if_neg (by simp; (first | lia | omega))]
        exact decide_eq_true (by (first | lia | omega))
theorem ltL_total : ∀ {a b : List Int}, ltL a b = false → ltL b a = false → a = b
  | [], [], _, _ => rfl
  | [], _ :: _, h, _ => by simp [ltL] at h
  | _ :: _, [], _, h => by simp [ltL] at h
  | x :: xs, y :: ys, h1, h2 => by
    simp only [ltL] at h1 h2
    by_cases e : x = y
    · subst e
      simp only [beq_self_eq_true, if_true] at h1 h2
      rw [ltL_total h1 h2]
    · rw [if_neg (by simpa using e)] at h1
      rw [if_neg (by simp; (first | lia | omega))] at h2
      have := of_decide_eq_false h1
      have := of_decide_eq_false h2
      (first | lia | omega)
theorem leL_refl (a : List Int) : leL a a := ltL_irrefl a
theorem leL_of_lt {a b : List Int} (h : ltL a b = true) : leL a b := by
  unfold leL
  cases q : ltL b a with
  | false => rfl
  | true => have := ltL_trans h q; rw [ltL_irrefl] at this; cases this
theorem leL_trans {a b c : List Int} (h1 : leL a b) (h2 : leL b c) : leL a c := by
  unfold leL at *
  cases q : ltL c a with
  | false => rfl
  | true =>
    by_cases e : ltL a b = true
    · rw [ltL_trans q e] at h2; cases h2
    · rw [Bool.not_eq_true] at e
      have := ltL_total e h1
      subst this
      rw [q] at h2; cases h2
theorem leL_antisymm {a b : List Int} (h1 : leL a b) (h2 : leL b a) : a = b := ltL_total h2 h1
theorem leL_total (a b : List Int) : leL a b ∨ leL b a := by
  by_cases h : ltL a b = true
  · exact .inl (leL_of_lt h)
  · exact .inr (by simpa [leL] using h)
theorem gset {xs : List (List Int)} {i j : Nat} {v : List Int} (hi : i < xs.length) : (xs.set i v).getD j [] = if i = j then v else xs.getD j [] := by
  rw [List.getD_eq_getElem?_getD, List.getD_eq_getElem?_getD, List.getElem?_set]
  by_cases h : i = j
  · subst h; simp [hi]
  · simp [h]
/-- heap order -/
noncomputable def HO (xs : List (List Int)) : Prop := ∀ k, 0 < k → k < xs.length → leL (xs.getD ((k - 1) / 2) []) (xs.getD k [])
theorem HO.top {xs : List (List Int)} (h : HO xs) : ∀ k, k < xs.length → leL (xs.getD 0 []) (xs.getD k [])
  | 0, _ => leL_refl _
  | k + 1, hk => leL_trans (h.top ((k + 1 - 1) / 2) (by (first | lia | omega))) (h (k + 1) (by (first | lia | omega)) hk)
theorem HO.min {xs : List (List Int)} (h : HO xs) {x : List Int} (hx : x ∈ xs) : leL (xs.getD 0 []) x := by
  obtain ⟨k, hk, rfl⟩ := List.mem_iff_getElem.mp hx
  have := h.top k hk
  rwa [show xs.getD k [] = xs[k] by simp [hk]] at this
theorem sd_ho (item : List Int) : ∀ (pos : Nat) (xs : List (List Int)), pos < xs.length →
    (∀ k, 0 < k → k < xs.length → k ≠ pos → (k - 1) / 2 ≠ pos → leL (xs.getD ((k - 1) / 2) []) (xs.getD k [])) →
    (∀ k, 0 < k → k < xs.length → (k - 1) / 2 = pos → leL item (xs.getD k []) ∧ (0 < pos → leL (xs.getD ((pos - 1) / 2) []) (xs.getD k []))) →
    HO (sdGo item xs pos) := by
  intro pos
  induction pos using Nat.strongRecOn with
  | _ pos ih =>
  intro xs hp ha hb
  have stop : (0 < pos → leL (xs.getD ((pos - 1) / 2) []) item) → HO (xs.set pos item) := by
    intro hs k k0 kl
    rw [List.length_set] at kl
    rw [gset hp, gset hp]
    by_cases e1 : pos = k
    · subst e1
      rw [if_pos rfl, if_neg (by (first | lia | omega))]
      exact hs k0
    · rw [if_neg e1]
      by_cases e2 : pos = (k - 1) / 2
      · rw [if_pos e2]; exact (hb k k0 kl e2.symm).1
      · rw [if_neg e2]; exact ha k k0 kl (Ne.symm e1) (Ne.symm e2)
  rw [sdGo]
  by_cases h0 : pos = 0
  · rw [dif_pos h0]
    exact stop (by (first | lia | omega))
  · rw [dif_neg h0]
    by_cases hlt : ltL item (xs.getD ((pos - 1) / 2) []) = true
    · rw [if_pos hlt]
      refine ih ((pos - 1) / 2) (by (first | lia | omega)) _ (by simp; (first | lia | omega)) ?_ ?_
      · intro k k0 kl k1 k2
        rw [List.length_set] at kl
        rw [gset hp, gset hp]
        by_cases e1 : pos = k
        · subst e1; exact absurd rfl k2
        · rw [if_neg e1]
          by_cases e2 : pos = (k - 1) / 2
          · rw [if_pos e2]; exact (hb k k0 kl e2.symm).2 (by (first | lia | omega))
          · rw [if_neg e2]; exact ha k k0 kl (Ne.symm e1) (Ne.symm e2)
      · intro k k0 kl k1
        rw [List.length_set] at kl
        have up : 0 < (pos - 1) / 2 → leL (xs.getD (((pos - 1) / 2 - 1) / 2) []) (xs.getD ((pos - 1) / 2) []) := fun h => ha _ h (by (first | lia | omega)) (by (first | lia | omega)) (by (first | lia | omega))
        rw [gset hp, gset hp]
        by_cases e1 : pos = k
        · rw [if_pos e1]
          refine ⟨leL_of_lt hlt, fun h => ?_⟩
          rw [if_neg (by (first | lia | omega))]
          exact up h
        · rw [if_neg e1]
          have hk := ha k k0 kl (Ne.symm e1) (by (first | lia | omega))
          rw [k1] at hk
          refine ⟨leL_trans (leL_of_lt hlt) hk, fun h => ?_⟩
          rw [if_neg (by (first | lia | omega))]
          exact leL_trans (up h) hk
    · rw [if_neg hlt]
      exact stop (fun _ => by simpa [leL] using hlt)
theorem sd_perm (item : List Int) : ∀ (pos : Nat) (xs : List (List Int)), pos < xs.length → (sdGo item xs pos).Perm (xs.set pos item) := by
  intro pos
  induction pos using Nat.strongRecOn with
  | _ pos ih =>
  intro xs hp
  rw [sdGo]
  by_cases h0 : pos = 0
  · rw [dif_pos h0]
  · rw [dif_neg h0]
    by_cases hlt : ltL item (xs.getD ((pos - 1) / 2) []) = true
    · rw [if_pos hlt]
      have hq : (pos - 1) / 2 < xs.length := by (first | lia | omega)
      refine (ih ((pos - 1) / 2) (by (first | lia | omega)) _ (by simp; (first | lia | omega))).trans ?_
      have := List.set_set_perm (as := xs.set pos item) (i := pos) (j := (pos - 1) / 2) (by simpa using hp) (by simpa using hq)
      refine List.Perm.trans (List.Perm.of_eq ?_) this
      have e1 : (xs.set pos item)[(pos - 1) / 2]'(by simpa using hq) = xs.getD ((pos - 1) / 2) [] := by
        rw [List.getElem_set_ne (by (first | lia | omega))]; simp [hq]
      have e2 : (xs.set pos item)[pos]'(by simpa using hp) = item := by simp
      rw [e1, e2, List.set_set]
    · rw [if_neg hlt]
theorem su_ho (pos : Nat) (xs : List (List Int)) (hp : pos < xs.length)
    (ha : ∀ k, 0 < k → k < xs.length → k ≠ pos → (k - 1) / 2 ≠ pos → leL (xs.getD ((k - 1) / 2) []) (xs.getD k []))
    (hb : ∀ k, 0 < k → k < xs.length → (k - 1) / 2 = pos → 0 < pos → leL (xs.getD ((pos - 1) / 2) []) (xs.getD k [])) :
    2 * (suGo xs pos).2 + 1 ≥ xs.length ∧ ∀ k, 0 < k → k < xs.length → k ≠ (suGo xs pos).2 → leL ((suGo xs pos).1.getD ((k - 1) / 2) []) ((suGo xs pos).1.getD k []) := by
  rw [suGo]
  by_cases h : 2 * pos + 1 < xs.length
  · rw [dif_pos h]
    have hc := suPick_le xs h
    have pick : ∀ k, 0 < k → k < xs.length → (k - 1) / 2 = pos → leL (xs.getD (suPick xs (2 * pos + 1)) []) (xs.getD k []) := by
      intro k k0 kl k1
      unfold suPick
      by_cases c : 2 * pos + 1 + 1 < xs.length ∧ ltL (xs.getD (2 * pos + 1) []) (xs.getD (2 * pos + 1 + 1) []) = false
      · rw [if_pos c]
        have : k = 2 * pos + 1 ∨ k = 2 * pos + 1 + 1 := by (first | lia | omega)
        rcases this with rfl | rfl
        · exact c.2
        · exact leL_refl _
      · rw [if_neg c]
        have : k = 2 * pos + 1 ∨ k = 2 * pos + 1 + 1 := by (first | lia | omega)
        rcases this with rfl | rfl
        · exact leL_refl _
        · by_cases q : ltL (xs.getD (2 * pos + 1) []) (xs.getD (2 * pos + 1 + 1) []) = false
          · exact absurd ⟨kl, q⟩ c
          · exact leL_of_lt (by simpa using q)
    have hcp : (suPick xs (2 * pos + 1) - 1) / 2 = pos := by unfold suPick; split <;> (first | lia | omega)
    generalize hcg : suPick xs (2 * pos + 1) = c at hc pick hcp
    have r := su_ho c (xs.set pos (xs.getD c [])) (by simpa using hc.2) (by
      intro k k0 kl k1 k2
      rw [List.length_set] at kl
      rw [gset hp, gset hp]
      by_cases e1 : pos = k
      · rw [if_pos e1, if_neg (by (first | lia | omega))]
        have := hb c (by (first | lia | omega)) hc.2 hcp (by (first | lia | omega))
        rw [← e1]; exact this
      · rw [if_neg e1]
        by_cases e2 : pos = (k - 1) / 2
        · rw [if_pos e2]; exact pick k k0 kl e2.symm
        · rw [if_neg e2]; exact ha k k0 kl (Ne.symm e1) (Ne.symm e2)) (by
      intro k k0 kl k1 _
      rw [List.length_set] at kl
      rw [gset hp, gset hp, if_pos hcp.symm, if_neg (by (first | lia | omega))]
      have := ha k k0 kl (by (first | lia | omega)) (by (first | lia | omega))
      rwa [k1] at this)
    simpa using r
  · rw [dif_neg h]
    refine ⟨by dsimp only; (first | lia | omega), fun k k0 kl k1 => ?_⟩
    exact ha k k0 kl k1 (by (first | lia | omega))
termination_by xs.length - pos
decreasing_by
  simp only [List.length_set]
  (first | lia | omega)
theorem su_perm (pos : Nat) (xs : List (List Int)) (item : List Int) (hp : pos < xs.length) : ((suGo xs pos).1.set (suGo xs pos).2 item).Perm (xs.set pos item) := by
  rw [suGo]
  by_cases h : 2 * pos + 1 < xs.length
  · rw [dif_pos h]
    have hc := suPick_le xs h
    generalize suPick xs (2 * pos + 1) = c at hc
    refine (su_perm c (xs.set pos (xs.getD c [])) item (by simpa using hc.2)).trans ?_
    have := List.set_set_perm (as := xs.set pos item) (i := pos) (j := c) (by simpa using hp) (by simpa using hc.2)
    refine List.Perm.trans (List.Perm.of_eq ?_) this
    have e1 : (xs.set pos item)[c]'(by simpa using hc.2) = xs.getD c [] := by
      rw [List.getElem_set_ne (by (first | lia | omega))]; simp [hc.2]
    have e2 : (xs.set pos item)[pos]'(by simpa using hp) = item := by simp
    rw [e1, e2, List.set_set]
  · rw [dif_neg h]
termination_by xs.length - pos
decreasing_by
  simp only [List.length_set]
  (first | lia | omega)
theorem siftup_good {x : List Int} {xs : List (List Int)} {y : List Int} (h : HO (y :: xs)) : HO (siftup (x :: xs)) ∧ (siftup (x :: xs)).Perm (x :: xs) := by
  have hl : (0 : Nat) < (x :: xs).length := by simp
  obtain ⟨q1, q2⟩ := su_ho 0 (x :: xs) hl (fun k k0 kl k1 k2 => by
    have := h k k0 (by simpa using kl)
    obtain ⟨a, ha⟩ : ∃ a, (k - 1) / 2 = a + 1 := ⟨(k - 1) / 2 - 1, by (first | lia | omega)⟩
    obtain ⟨b, rfl⟩ : ∃ b, k = b + 1 := ⟨k - 1, by (first | lia | omega)⟩
    rw [ha] at this ⊢
    exact this) (fun k k0 kl k1 k2 => absurd k2 (Nat.lt_irrefl _))
  obtain ⟨l1, l2⟩ := suGo_len (x :: xs) 0 hl
  have e : ((suGo (x :: xs) 0).1.set (suGo (x :: xs) 0).2 x).getD (suGo (x :: xs) 0).2 [] = x := by rw [gset (by (first | lia | omega)), if_pos rfl]
  have hu : siftup (x :: xs) = sdGo x ((suGo (x :: xs) 0).1.set (suGo (x :: xs) 0).2 x) (suGo (x :: xs) 0).2 := by
    unfold siftup siftdown
    rw [show (x :: xs).getD 0 [] = x from rfl, e]
  rw [hu]
  refine ⟨sd_ho x _ _ (by simp; (first | lia | omega)) ?_ ?_, ?_⟩
  · intro k k0 kl k1 k2
    rw [List.length_set] at kl
    rw [gset (by (first | lia | omega)), gset (by (first | lia | omega)), if_neg (Ne.symm k1), if_neg (Ne.symm k2)]
    exact q2 k k0 (by (first | lia | omega)) k1
  · intro k k0 kl k1
    rw [List.length_set] at kl
    (first | lia | omega)
  · refine (sd_perm x _ _ (by simp; (first | lia | omega))).trans ?_
    rw [List.set_set]
    exact su_perm 0 (x :: xs) x hl
theorem push_good {x : List Int} {xs : List (List Int)} (h : HO xs) : HO (siftdown (xs ++ [x]) xs.length) ∧ (siftdown (xs ++ [x]) xs.length).Perm (xs ++ [x]) := by
  have e : (xs ++ [x]).getD xs.length [] = x := by simp
  unfold siftdown
  rw [e]
  refine ⟨sd_ho x _ _ (by simp) ?_ ?_, ?_⟩
  · intro k k0 kl k1 k2
    simp only [List.length_append, List.length_singleton] at kl
    have := h k k0 (by (first | lia | omega))
    rwa [show (xs ++ [x]).getD k [] = xs.getD k [] by rw [List.getD_eq_getElem?_getD, List.getD_eq_getElem?_getD, List.getElem?_append_left (by (first | lia | omega))],
      show (xs ++ [x]).getD ((k - 1) / 2) [] = xs.getD ((k - 1) / 2) [] by rw [List.getD_eq_getElem?_getD, List.getD_eq_getElem?_getD, List.getElem?_append_left (by (first | lia | omega))]]
  · intro k k0 kl k1
    simp only [List.length_append, List.length_singleton] at kl
    (first | lia | omega)
  · refine (sd_perm x _ _ (by simp)).trans (List.Perm.of_eq ?_)
    simp
theorem pop_good {y : List Int} {xs : List (List Int)} (h : HO (y :: xs)) : HO (popHeap (y :: xs)) ∧ (popHeap (y :: xs)).Perm xs := by
  rcases List.eq_nil_or_concat xs with rfl | ⟨ys, w, hw⟩
  · exact ⟨fun k _ hk => absurd hk (by simp [popHeap]), .refl _⟩
  · rw [List.concat_eq_append] at hw
    subst hw
    have e : popHeap (y :: (ys ++ [w])) = siftup (w :: ys) := by
      unfold popHeap
      rw [← List.cons_append, List.dropLast_concat, List.getLastD_concat]
    rw [e]
    have hh : HO (y :: ys) := fun k k0 kl => by
      have := h k k0 (by simp at kl ⊢; (first | lia | omega))
      rw [← List.cons_append] at this
      rwa [show ((y :: ys) ++ [w]).getD k [] = (y :: ys).getD k [] by rw [List.getD_eq_getElem?_getD, List.getD_eq_getElem?_getD, List.getElem?_append_left (by (first | lia | omega))],
        show ((y :: ys) ++ [w]).getD ((k - 1) / 2) [] = (y :: ys).getD ((k - 1) / 2) [] by rw [List.getD_eq_getElem?_getD, List.getD_eq_getElem?_getD, List.getElem?_append_left (by (first | lia | omega))]] at this
    have := siftup_good (x := w) hh
    refine ⟨this.1, this.2.trans ?_⟩
    exact (List.perm_append_singleton w ys).symm
end Mine
end

/-! P2 -/
section
open PySem PySem.W PyProof.Rows
set_option Elab.async false
set_option maxRecDepth 100000
set_option maxHeartbeats 1000000
set_option linter.unusedVariables false
namespace Mine

/-! ## what find_longest_match tells -/
theorem run_step (a b : List Int) (i j : Nat) (h1 : i < a.length) (h2 : j < b.length) : runAt a b i j = if a.getD i 0 = b.getD j 0 then runAt a b (i + 1) (j + 1) + 1 else 0 := by
  have := lcp_step a b i j 0 (by (first | lia | omega)) (by (first | lia | omega))
  simpa [runAt] using this
theorem run_end (a b : List Int) (i j : Nat) (h : ¬ (i < a.length ∧ j < b.length)) : runAt a b i j = 0 := by
  have := lcp_end a b i j 0 (by (first | lia | omega))
  simpa [runAt] using this
theorem le_run (a b : List Int) : ∀ (k i j : Nat), k ≤ runAt a b i j ↔ (k = 0 ∨ (i + k ≤ a.length ∧ j + k ≤ b.length)) ∧ ∀ t, t < k → a.getD (i + t) 0 = b.getD (j + t) 0
  | 0, i, j => ⟨fun _ => ⟨.inl rfl, fun t h => absurd h (Nat.not_lt_zero _)⟩, fun _ => Nat.zero_le _⟩
  | k + 1, i, j => by
    by_cases h : i < a.length ∧ j < b.length
    · rw [run_step a b i j h.1 h.2]
      by_cases e : a.getD i 0 = b.getD j 0
      · rw [if_pos e, Nat.add_le_add_iff_right, le_run a b k (i + 1) (j + 1)]
        constructor
        · rintro ⟨q1, q2⟩
          refine ⟨.inr (by (first | lia | omega)), fun t ht => ?_⟩
          cases t with
          | zero => exact e
          | succ t => have := q2 t (by (first | lia | omega)); rwa [show i + (t + 1) = i + 1 + t by (first | lia | omega), show j + (t + 1) = j + 1 + t by (first | lia | omega)]
        · rintro ⟨q1, q2⟩
          refine ⟨.inr (by (first | lia | omega)), fun t ht => ?_⟩
          have := q2 (t + 1) (by (first | lia | omega))
          rwa [show i + (t + 1) = i + 1 + t by (first | lia | omega), show j + (t + 1) = j + 1 + t by (first | lia | omega)] at this
      · rw [if_neg e]
        constructor
        · intro q; (first | lia | omega)
        · rintro ⟨_, q⟩; exact absurd (q 0 (by (first | lia | omega))) e
    · rw [run_end a b i j h]
      constructor
      · intro q; (first | lia | omega)
      · rintro ⟨q, _⟩; (first | lia | omega)
noncomputable def glen (a b : List Int) (ahi bhi i j : Nat) : Nat := min (min (runAt a b i j) (ahi - i)) (bhi - j)
theorem le_glen {a b : List Int} {ahi bhi i j k : Nat} (ha : ahi ≤ a.length) (hb : bhi ≤ b.length) (hk : 0 < k) : k ≤ glen a b ahi bhi i j ↔ i + k ≤ ahi ∧ j + k ≤ bhi ∧ ∀ t, t < k → a.getD (i + t) 0 = b.getD (j + t) 0 := by
  unfold glen
  rw [Nat.le_min, Nat.le_min, le_run]
  constructor
  · rintro ⟨⟨⟨h1, h2⟩, h3⟩, h4⟩; exact ⟨by (first | lia | omega), by (first | lia | omega), h2⟩
  · rintro ⟨h1, h2, h3⟩; exact ⟨⟨⟨.inr (by (first | lia | omega)), h3⟩, by (first | lia | omega)⟩, by (first | lia | omega)⟩
/-- a run of a gap, cut off at its ends -/
noncomputable def InG (a b : List Int) (alo ahi blo bhi : Nat) (t : T3) : Prop :=
  ∃ i j k : Nat, t = (-(k : Int), (i : Int), (j : Int)) ∧ alo ≤ i ∧ i < ahi ∧ blo ≤ j ∧ j < bhi ∧ 0 < k ∧ k = glen a b ahi bhi i j
/-- the run that ends here, within the gap -/
noncomputable def bk (a b : List Int) (alo blo : Nat) : Nat → Nat → Nat
  | 0, j => if a.getD 0 0 = b.getD j 0 then 1 else 0
  | i + 1, j => if a.getD (i + 1) 0 = b.getD j 0 then (if alo < i + 1 ∧ blo < j then bk a b alo blo i (j - 1) else 0) + 1 else 0
theorem bk_eq (a b : List Int) (alo blo i j : Nat) : bk a b alo blo i j = if a.getD i 0 = b.getD j 0 then (if alo < i ∧ blo < j then bk a b alo blo (i - 1) (j - 1) else 0) + 1 else 0 := by
  cases i with
  | zero => rw [bk]; simp
  | succ i => rw [bk]; rfl
theorem bk_run (a b : List Int) (alo blo : Nat) : ∀ (i j : Nat), alo ≤ i → blo ≤ j → alo + bk a b alo blo i j ≤ i + 1 ∧ blo + bk a b alo blo i j ≤ j + 1 ∧ ∀ t, t < bk a b alo blo i j → a.getD (i - t) 0 = b.getD (j - t) 0
  | i, j, hi, hj => by
    rw [bk_eq]
    by_cases e : a.getD i 0 = b.getD j 0
    · rw [if_pos e]
      by_cases c : alo < i ∧ blo < j
      · rw [if_pos c]
        obtain ⟨h1, h2, h3⟩ := bk_run a b alo blo (i - 1) (j - 1) (by (first | lia | omega)) (by (first | lia | omega))
        refine ⟨by (first | lia | omega), by (first | lia | omega), fun t ht => ?_⟩
        cases t with
        | zero => exact e
        | succ t => have := h3 t (by (first | lia | omega)); rwa [show i - (t + 1) = i - 1 - t by (first | lia | omega), show j - (t + 1) = j - 1 - t by (first | lia | omega)]
      · rw [if_neg c]
        refine ⟨by (first | lia | omega), by (first | lia | omega), fun t ht => ?_⟩
        obtain rfl : t = 0 := by (first | lia | omega)
        exact e
    · rw [if_neg e]
      exact ⟨by (first | lia | omega), by (first | lia | omega), fun t ht => absurd ht (Nat.not_lt_zero _)⟩
termination_by i => i
decreasing_by (first | lia | omega)
theorem bk_ge (a b : List Int) (alo blo : Nat) : ∀ (m i j : Nat), alo + m ≤ i + 1 → blo + m ≤ j + 1 → (∀ t, t < m → a.getD (i - t) 0 = b.getD (j - t) 0) → m ≤ bk a b alo blo i j
  | 0, _, _, _, _, _ => Nat.zero_le _
  | m + 1, i, j, h1, h2, h3 => by
    rw [bk_eq, if_pos (by simpa using h3 0 (by (first | lia | omega)))]
    by_cases c : alo < i ∧ blo < j
    · rw [if_pos c]
      have := bk_ge a b alo blo m (i - 1) (j - 1) (by (first | lia | omega)) (by (first | lia | omega)) (fun t ht => by
        have := h3 (t + 1) (by (first | lia | omega))
        rwa [show i - (t + 1) = i - 1 - t by (first | lia | omega), show j - (t + 1) = j - 1 - t by (first | lia | omega)] at this)
      (first | lia | omega)
    · rw [if_neg c]; (first | lia | omega)
section
variable (a b : List Int) (alo blo bhi : Nat)
noncomputable def Bef (i J i' j' : Nat) : Prop := alo ≤ i' ∧ blo ≤ j' ∧ j' < bhi ∧ (i' < i ∨ (i' = i ∧ j' < J))
structure BI (t : I3) (i J : Nat) : Prop where
  nn : 0 ≤ t.2.2
  mx : ∀ i' j', Bef alo blo bhi i J i' j' → (bk a b alo blo i' j' : Int) ≤ t.2.2
  at_ : t = ((alo : Int), (blo : Int), 0) ∨ ∃ i' j', Bef alo blo bhi i J i' j' ∧ 0 < bk a b alo blo i' j' ∧ t = ((i' : Int) - bk a b alo blo i' j' + 1, (j' : Int) - bk a b alo blo i' j' + 1, (bk a b alo blo i' j' : Int)) ∧
    ∀ i2 j2, Bef alo blo bhi i J i2 j2 → bk a b alo blo i2 j2 = bk a b alo blo i' j' → i' < i2 ∨ (i' = i2 ∧ j' ≤ j2)
structure RG (G : Int → Option Int) (i J : Nat) : Prop where
  yes : ∀ j : Nat, blo ≤ j → j < bhi → j < J → a.getD i 0 = b.getD j 0 → G j = some ((bk a b alo blo i j : Nat) : Int)
  no : ∀ x : Int, (¬ ∃ j : Nat, x = j ∧ blo ≤ j ∧ j < bhi ∧ j < J ∧ a.getD i 0 = b.getD j 0) → G x = none
/-- what the row ahead left -/
noncomputable def PF (F : Int → Option Int) (i : Nat) : Prop := ∀ j : Nat, blo ≤ j → j < bhi → (F ((j : Int) - 1)).getD 0 = ((if alo < i ∧ blo < j then bk a b alo blo (i - 1) (j - 1) else 0 : Nat) : Int)
variable {a b alo blo bhi}
theorem bk_ne {i j : Nat} (h : a.getD i 0 ≠ b.getD j 0) : bk a b alo blo i j = 0 := by rw [bk_eq, if_neg h]
theorem BI.move {t : I3} {i J J' : Nat} (h : BI a b alo blo bhi t i J) (le : J ≤ J') (q : ∀ j', J ≤ j' → j' < J' → blo ≤ j' → j' < bhi → a.getD i 0 ≠ b.getD j' 0) : BI a b alo blo bhi t i J' := by
  have key : ∀ i' j', Bef alo blo bhi i J' i' j' → Bef alo blo bhi i J i' j' ∨ bk a b alo blo i' j' = 0 := by
    rintro i' j' ⟨h1, h2, h3, h4⟩
    rcases h4 with h4 | ⟨rfl, h4⟩
    · exact .inl ⟨h1, h2, h3, .inl h4⟩
    · by_cases c : j' < J
      · exact .inl ⟨h1, h2, h3, .inr ⟨rfl, c⟩⟩
      · exact .inr (bk_ne (q j' (by (first | lia | omega)) h4 h2 h3))
  refine ⟨h.nn, fun i' j' hb => ?_, ?_⟩
  · rcases key i' j' hb with hb | e
    · exact h.mx i' j' hb
    · rw [e]; exact h.nn
  · rcases h.at_ with e | ⟨i', j', hb, h0, e, hm⟩
    · exact .inl e
    · obtain ⟨x1, x2, x3, x4⟩ := hb
      refine .inr ⟨i', j', ⟨x1, x2, x3, by (first | lia | omega)⟩, h0, e, fun i2 j2 hb2 e2 => ?_⟩
      rcases key i2 j2 hb2 with hb2 | e3
      · exact hm i2 j2 hb2 e2
      · (first | lia | omega)
theorem RG.move {G : Int → Option Int} {i J J' : Nat} (h : RG a b alo blo bhi G i J) (le : J ≤ J') (q : ∀ j', J ≤ j' → j' < J' → blo ≤ j' → j' < bhi → a.getD i 0 ≠ b.getD j' 0) : RG a b alo blo bhi G i J' := by
  refine ⟨fun j h1 h2 h3 h4 => ?_, fun x hx => h.no x fun ⟨j, h0, h1, h2, h3, h4⟩ => hx ⟨j, h0, h1, h2, by (first | lia | omega), h4⟩⟩
  by_cases c : j < J
  · exact h.yes j h1 h2 c h4
  · exact absurd h4 (q j (by (first | lia | omega)) h3 h1 h2)
theorem BI.step {t : I3} {i j : Nat} (h : BI a b alo blo bhi t i j) (hi : alo ≤ i) (h1 : blo ≤ j) (h2 : j < bhi) (he : a.getD i 0 = b.getD j 0) (k : Int) (hk : k = bk a b alo blo i j) :
    BI a b alo blo bhi (if k > t.2.2 then ((i : Int) - k + 1, (j : Int) - k + 1, k) else t) i (j + 1) := by
  have hpos : 0 < bk a b alo blo i j := by rw [bk_eq, if_pos he]; (first | lia | omega)
  have key : ∀ i' j', Bef alo blo bhi i (j + 1) i' j' → Bef alo blo bhi i j i' j' ∨ (i' = i ∧ j' = j) := by
    rintro i' j' ⟨x1, x2, x3, x4⟩
    rcases x4 with x4 | ⟨rfl, x4⟩
    · exact .inl ⟨x1, x2, x3, .inl x4⟩
    · by_cases c : j' < j
      · exact .inl ⟨x1, x2, x3, .inr ⟨rfl, c⟩⟩
      · exact .inr ⟨rfl, by (first | lia | omega)⟩
  by_cases c : k > t.2.2
  · rw [if_pos c]
    subst hk
    refine ⟨by dsimp only; (first | lia | omega), fun i' j' hb => ?_, .inr ⟨i, j, ⟨hi, h1, h2, .inr ⟨rfl, by (first | lia | omega)⟩⟩, hpos, rfl, fun i2 j2 hb e => ?_⟩⟩
    · rcases key i' j' hb with hb | ⟨rfl, rfl⟩
      · have := h.mx i' j' hb; dsimp only; (first | lia | omega)
      · exact Int.le_refl _
    · rcases key i2 j2 hb with hb | ⟨rfl, rfl⟩
      · have := h.mx i2 j2 hb; (first | lia | omega)
      · exact .inr ⟨rfl, Nat.le_refl _⟩
  · rw [if_neg c]
    refine ⟨h.nn, fun i' j' hb => ?_, ?_⟩
    · rcases key i' j' hb with hb | ⟨rfl, rfl⟩
      · exact h.mx i' j' hb
      · (first | lia | omega)
    · rcases h.at_ with e | ⟨i', j', hb, h0, e, hm⟩
      · exact .inl e
      · obtain ⟨x1, x2, x3, x4⟩ := hb
        refine .inr ⟨i', j', ⟨x1, x2, x3, by (first | lia | omega)⟩, h0, e, fun i2 j2 hb2 e2 => ?_⟩
        rcases key i2 j2 hb2 with hb2 | ⟨rfl, rfl⟩
        · exact hm i2 j2 hb2 e2
        · (first | lia | omega)
theorem RG.step {G : Int → Option Int} {i j : Nat} (h : RG a b alo blo bhi G i j) (h1 : blo ≤ j) (h2 : j < bhi) (he : a.getD i 0 = b.getD j 0) (k : Int) (hk : k = bk a b alo blo i j) : RG a b alo blo bhi (setF G j k) i (j + 1) := by
  refine ⟨fun j' q1 q2 q3 q4 => ?_, fun x hx => ?_⟩
  · unfold setF
    by_cases c : j' = j
    · subst c; rw [if_pos rfl, hk]
    · rw [if_neg (by (first | lia | omega))]; exact h.yes j' q1 q2 (by (first | lia | omega)) q4
  · unfold setF
    by_cases c : x = j
    · exact absurd ⟨j, c, h1, h2, by (first | lia | omega), he⟩ hx
    · rw [if_neg c]
      exact h.no x fun ⟨j', q0, q1, q2, q3, q4⟩ => hx ⟨j', q0, q1, q2, by (first | lia | omega), q4⟩
theorem row_spec {F : Int → Option Int} {i : Nat} (hi : alo ≤ i) (hF : PF a b alo blo bhi F i) : ∀ (js : List Int) (J : Nat) (G : Int → Option Int) (t : I3), RG a b alo blo bhi G i J → BI a b alo blo bhi t i J → js.Pairwise (· < ·) →
    (∀ x ∈ js, ∃ j : Nat, x = j ∧ J ≤ j ∧ a.getD i 0 = b.getD j 0) → (∀ j' : Nat, J ≤ j' → blo ≤ j' → j' < bhi → a.getD i 0 = b.getD j' 0 → (j' : Int) ∈ js) →
    RG a b alo blo bhi (rowGo blo bhi i F js G t).1 i (max J bhi) ∧ BI a b alo blo bhi (rowGo blo bhi i F js G t).2 i (max J bhi)
  | [], J, G, t, hG, hB, _, _, hc => by
    rw [rowGo]
    exact ⟨hG.move (by (first | lia | omega)) fun j' q1 _ q3 q4 e => (by simpa using hc j' q1 q3 q4 e), hB.move (by (first | lia | omega)) fun j' q1 _ q3 q4 e => (by simpa using hc j' q1 q3 q4 e)⟩
  | x :: js, J, G, t, hG, hB, hs, hx, hc => by
    obtain ⟨j, rfl, hJ, he⟩ := hx x (by simp)
    rw [List.pairwise_cons] at hs
    have hx' : ∀ x ∈ js, ∃ j' : Nat, x = j' ∧ j + 1 ≤ j' ∧ a.getD i 0 = b.getD j' 0 := fun x hm => by
      obtain ⟨j', e, _, e'⟩ := hx x (by simp [hm])
      have := hs.1 x hm
      exact ⟨j', e, by (first | lia | omega), e'⟩
    have hc' : ∀ j' : Nat, j + 1 ≤ j' → blo ≤ j' → j' < bhi → a.getD i 0 = b.getD j' 0 → (j' : Int) ∈ js := fun j' q1 q2 q3 q4 => by
      rcases List.mem_cons.mp (hc j' (by (first | lia | omega)) q2 q3 q4) with e | e
      · (first | lia | omega)
      · exact e
    have gap : ∀ j', J ≤ j' → j' < j → blo ≤ j' → j' < bhi → a.getD i 0 ≠ b.getD j' 0 := fun j' q1 q2 q3 q4 e => by
      rcases List.mem_cons.mp (hc j' q1 q3 q4 e) with e | e
      · (first | lia | omega)
      · have := hs.1 _ e; (first | lia | omega)
    rw [rowGo]
    by_cases c1 : (j : Int) < blo
    · rw [if_pos c1]
      have gap' : ∀ j', J ≤ j' → j' < j + 1 → blo ≤ j' → j' < bhi → a.getD i 0 ≠ b.getD j' 0 := fun j' q1 q2 q3 q4 => by (first | lia | omega)
      have := row_spec hi hF js (j + 1) G t (hG.move (by (first | lia | omega)) gap') (hB.move (by (first | lia | omega)) gap') hs.2 hx' hc'
      by_cases cb : j + 1 ≤ bhi
      · rwa [show max (j + 1) bhi = max J bhi by (first | lia | omega)] at this
      · refine ⟨⟨fun j' q1 q2 q3 q4 => this.1.yes j' q1 q2 (by (first | lia | omega)) q4, fun y hy => this.1.no y fun ⟨j', q0, q1, q2, q3, q4⟩ => hy ⟨j', q0, q1, q2, by (first | lia | omega), q4⟩⟩, ?_⟩
        have hq : ∀ i' j', Bef alo blo bhi i (max (j + 1) bhi) i' j' ↔ Bef alo blo bhi i (max J bhi) i' j' := fun i' j' => by unfold Bef; (first | lia | omega)
        refine ⟨this.2.nn, fun i' j' hb => this.2.mx i' j' ((hq i' j').mpr hb), ?_⟩
        rcases this.2.at_ with e | ⟨i', j', hb, h0, e, hm⟩
        · exact .inl e
        · exact .inr ⟨i', j', (hq i' j').mp hb, h0, e, fun i2 j2 hb2 => hm i2 j2 ((hq i2 j2).mpr hb2)⟩
    · rw [if_neg c1]
      by_cases c2 : (j : Int) ≥ bhi
      · rw [if_pos c2]
        exact ⟨hG.move (by (first | lia | omega)) fun j' q1 q2 q3 q4 => gap j' q1 (by (first | lia | omega)) q3 q4, hB.move (by (first | lia | omega)) fun j' q1 q2 q3 q4 => gap j' q1 (by (first | lia | omega)) q3 q4⟩
      · rw [if_neg c2]
        have hk : (F ((j : Int) - 1)).getD 0 + 1 = (bk a b alo blo i j : Int) := by
          rw [hF j (by (first | lia | omega)) (by (first | lia | omega)), bk_eq a b alo blo i j, if_pos he]; rfl
        have := row_spec hi hF js (j + 1) (setF G j ((F ((j : Int) - 1)).getD 0 + 1)) _ ((hG.move hJ gap).step (by (first | lia | omega)) (by (first | lia | omega)) he _ hk) ((hB.move hJ gap).step hi (by (first | lia | omega)) (by (first | lia | omega)) he _ hk) hs.2 hx' hc'
        rw [show max (j + 1) bhi = max J bhi by (first | lia | omega)] at this
        exact this
theorem places_spec (b : List Int) (x : Int) : (places b x).Pairwise (· < ·) ∧ (∀ y ∈ places b x, ∃ j : Nat, y = j ∧ j < b.length ∧ x = b.getD j 0) ∧ ∀ j : Nat, j < b.length → x = b.getD j 0 → (j : Int) ∈ places b x := by
  have hz : b.zipIdx = (List.range b.length).map fun j => (b.getD j 0, j) := by
    refine List.ext_getElem (by simp) fun i h1 h2 => ?_
    simp at h1
    simp [h1]
  have hp : places b x = ((List.range b.length).filter fun j => b.getD j 0 == x).map fun (j : Nat) => (j : Int) := by
    unfold places
    rw [hz, List.filter_map, List.map_map]
    rfl
  rw [hp]
  refine ⟨?_, fun y hy => ?_, fun j h1 h2 => ?_⟩
  · rw [List.pairwise_map]
    exact (List.pairwise_lt_range.sublist List.filter_sublist).imp fun h => by (first | lia | omega)
  · obtain ⟨j, hj, rfl⟩ := List.mem_map.mp hy
    rw [List.mem_filter, List.mem_range, beq_iff_eq] at hj
    exact ⟨j, rfl, hj.1, hj.2.symm⟩
  · refine List.mem_map.mpr ⟨j, ?_, rfl⟩
    rw [List.mem_filter, List.mem_range, beq_iff_eq]
    exact ⟨h1, h2.symm⟩
theorem rows_spec (hb : bhi ≤ b.length) : ∀ (n i : Nat) (F : Int → Option Int) (t : I3), alo ≤ i → PF a b alo blo bhi F i → BI a b alo blo bhi t i 0 →
    BI a b alo blo bhi (rowsGo a b blo bhi ((List.range n).map fun (m : Nat) => (i : Int) + m) F t) (i + n) 0
  | 0, i, F, t, hi, hF, hB => by simpa [rowsGo] using hB
  | n + 1, i, F, t, hi, hF, hB => by
    have e : ((List.range (n + 1)).map fun (m : Nat) => (i : Int) + m) = (i : Int) :: (List.range n).map fun (m : Nat) => ((i + 1 : Nat) : Int) + m := by
      rw [List.range_succ_eq_map, List.map_cons, List.map_map]
      refine congr (congrArg List.cons (by simp)) (List.map_congr_left fun m _ => ?_)
      show (i : Int) + ((m + 1 : Nat) : Int) = ((i + 1 : Nat) : Int) + m
      (first | lia | omega)
    rw [e, rowsGo]
    obtain ⟨p1, p2, p3⟩ := places_spec b (a.getD i 0)
    rw [Int.toNat_natCast]
    obtain ⟨r1, r2⟩ := row_spec (a := a) (b := b) (alo := alo) (blo := blo) (bhi := bhi) hi hF (places b (a.getD i 0)) 0 (fun _ => none) t ⟨fun j _ _ h => absurd h (Nat.not_lt_zero _), fun _ _ => rfl⟩ hB p1
      (fun x hx => by obtain ⟨j, e, _, e'⟩ := p2 x hx; exact ⟨j, e, Nat.zero_le _, e'⟩) (fun j _ _ h1 h2 => p3 j (by (first | lia | omega)) h2)
    rw [show i + (n + 1) = i + 1 + n by (first | lia | omega)]
    refine rows_spec hb n (i + 1) _ _ (by (first | lia | omega)) ?_ ?_
    · intro j h1 h2
      by_cases c : blo < j
      · rw [if_pos ⟨by (first | lia | omega), c⟩, show i + 1 - 1 = i by (first | lia | omega)]
        by_cases e : a.getD i 0 = b.getD (j - 1) 0
        · rw [show (j : Int) - 1 = ((j - 1 : Nat) : Int) by (first | lia | omega), r1.yes (j - 1) (by (first | lia | omega)) (by (first | lia | omega)) (by (first | lia | omega)) e]; rfl
        · rw [r1.no _ fun ⟨j', q0, q1, q2, q3, q4⟩ => e (by rw [show j - 1 = j' by (first | lia | omega)]; exact q4), bk_ne e]; rfl
      · rw [if_neg (fun h => c h.2), r1.no _ fun ⟨j', q0, q1, q2, q3, q4⟩ => by (first | lia | omega)]; rfl
    · have hq : ∀ i' j', Bef alo blo bhi (i + 1) 0 i' j' ↔ Bef alo blo bhi i (max 0 bhi) i' j' := fun i' j' => by unfold Bef; (first | lia | omega)
      refine ⟨r2.nn, fun i' j' hb => r2.mx i' j' ((hq i' j').mp hb), ?_⟩
      rcases r2.at_ with e | ⟨i', j', hb, h0, e, hm⟩
      · exact .inl e
      · exact .inr ⟨i', j', (hq i' j').mpr hb, h0, e, fun i2 j2 hb2 => hm i2 j2 ((hq i2 j2).mp hb2)⟩
end
noncomputable def FSpec (a b : List Int) (alo ahi blo bhi : Nat) (r : I3) : Prop :=
  (r = ((alo : Int), (blo : Int), 0) ∧ ∀ t, ¬ InG a b alo ahi blo bhi t) ∨
  ∃ i j k : Nat, r = ((i : Int), (j : Int), (k : Int)) ∧ 0 < k ∧ InG a b alo ahi blo bhi (-(k : Int), (i : Int), (j : Int)) ∧ ∀ t, InG a b alo ahi blo bhi t → leL (t3 (-(k : Int), (i : Int), (j : Int))) (t3 t)
theorem start_le {m k i j i0 j0 : Nat} (h : m ≤ k) (hh : m = k → i0 ≤ i ∧ (i = i0 → j0 ≤ j)) : ltL [-(m : Int), (i : Int), (j : Int)] [-(k : Int), (i0 : Int), (j0 : Int)] = false := by
  simp only [ltL]
  by_cases c : m = k
  · obtain ⟨g1, g2⟩ := hh c
    subst c
    clear hh h
    rw [if_pos (beq_self_eq_true _)]
    by_cases c2 : i = i0
    · subst c2
      have g2 := g2 rfl
      clear g1
      rw [if_pos (beq_self_eq_true _)]
      by_cases c3 : j = j0
      · subst c3; rw [if_pos (beq_self_eq_true _)]
      · rw [if_neg (by rw [beq_iff_eq]; (first | lia | omega))]; exact decide_eq_false (by (first | lia | omega))
    · clear g2
      rw [if_neg (by rw [beq_iff_eq]; (first | lia | omega))]; exact decide_eq_false (by (first | lia | omega))
  · clear hh
    rw [if_neg (by rw [beq_iff_eq]; (first | lia | omega))]; exact decide_eq_false (by (first | lia | omega))
theorem start_of {i j i' j' m : Nat} (h0 : 0 < m) (h1 : m ≤ i' + 1) (h : i' < i + m - 1 ∨ (i' = i + m - 1 ∧ j' ≤ j + m - 1)) : i' + 1 - m ≤ i ∧ (i = i' + 1 - m → j' + 1 - m ≤ j) := by
  rcases h with h | ⟨h, h2⟩
  · exact ⟨by (first | lia | omega), fun e => by (first | lia | omega)⟩
  · exact ⟨by (first | lia | omega), fun _ => by (first | lia | omega)⟩
theorem flm_spec {a b : List Int} {alo ahi blo bhi : Nat} (h1 : alo ≤ ahi) (h2 : ahi ≤ a.length) (h4 : bhi ≤ b.length) : FSpec a b alo ahi blo bhi (flmI a b alo ahi blo bhi) := by
  have B := rows_spec (a := a) (b := b) (alo := alo) (blo := blo) (bhi := bhi) h4 (ahi - alo) alo (fun _ => none) ((alo : Int), (blo : Int), 0) (Nat.le_refl _)
    (fun j _ _ => by rw [if_neg (fun h => absurd h.1 (Nat.lt_irrefl _))]; rfl)
    ⟨Int.le_refl _, fun i' j' hb => by unfold Bef at hb; (first | lia | omega), .inl rfl⟩
  rw [show alo + (ahi - alo) = ahi by (first | lia | omega)] at B
  have e : flmI a b alo ahi blo bhi = rowsGo a b blo bhi ((List.range (ahi - alo)).map fun (m : Nat) => (alo : Int) + m) (fun _ => none) ((alo : Int), (blo : Int), 0) := by
    unfold flmI
    rw [show ((ahi : Int) - alo).toNat = ahi - alo by (first | lia | omega)]
  rw [← e] at B
  generalize flmI a b alo ahi blo bhi = r at B ⊢
  -- a start of a run and its end
  have ends : ∀ i j k : Nat, alo ≤ i → blo ≤ j → 0 < k → k ≤ glen a b ahi bhi i j → Bef alo blo bhi ahi 0 (i + k - 1) (j + k - 1) ∧ k ≤ bk a b alo blo (i + k - 1) (j + k - 1) := by
    intro i j k q1 q2 q3 q4
    obtain ⟨g1, g2, g3⟩ := (le_glen h2 h4 q3).mp q4
    refine ⟨⟨by (first | lia | omega), by (first | lia | omega), by (first | lia | omega), .inl (by (first | lia | omega))⟩, bk_ge _ _ _ _ _ _ _ (by (first | lia | omega)) (by (first | lia | omega)) fun t ht => ?_⟩
    have := g3 (k - 1 - t) (by (first | lia | omega))
    rwa [show i + (k - 1 - t) = i + k - 1 - t by (first | lia | omega), show j + (k - 1 - t) = j + k - 1 - t by (first | lia | omega)] at this
  rcases B.at_ with e0 | ⟨i', j', hb, h0, e0, hm⟩
  · refine .inl ⟨e0, ?_⟩
    rintro t ⟨i, j, k, rfl, q1, q2, q3, q4, q5, q6⟩
    obtain ⟨g1, g2⟩ := ends i j k q1 q3 q5 (Nat.le_of_eq q6)
    have := B.mx _ _ g1
    rw [e0] at this
    dsimp only at this
    (first | lia | omega)
  · refine .inr ?_
    obtain ⟨x1, x2, x3, x4⟩ := hb
    obtain ⟨y1, y2, y3⟩ := bk_run a b alo blo i' j' x1 x2
    have hmx : ∀ i2 j2, Bef alo blo bhi ahi 0 i2 j2 → bk a b alo blo i2 j2 ≤ bk a b alo blo i' j' := fun i2 j2 h => by
      have := B.mx i2 j2 h
      rw [e0] at this
      dsimp only at this
      (first | lia | omega)
    generalize bk a b alo blo i' j' = k at h0 e0 hm y1 y2 y3 hmx
    have hstart : k ≤ glen a b ahi bhi (i' + 1 - k) (j' + 1 - k) := by
      rw [le_glen h2 h4 h0]
      refine ⟨by (first | lia | omega), by (first | lia | omega), fun t ht => ?_⟩
      have := y3 (k - 1 - t) (by (first | lia | omega))
      rwa [show i' - (k - 1 - t) = i' + 1 - k + t by (first | lia | omega), show j' - (k - 1 - t) = j' + 1 - k + t by (first | lia | omega)] at this
    have hle : ∀ i j m : Nat, alo ≤ i → blo ≤ j → 0 < m → m ≤ glen a b ahi bhi i j → m ≤ k := fun i j m q1 q2 q3 q4 => by
      obtain ⟨g1, g2⟩ := ends i j m q1 q2 q3 q4
      have := hmx _ _ g1
      (first | lia | omega)
    have hk1 : k ≤ i' + 1 := by clear hmx hm hle hstart y3; (first | lia | omega)
    have hg : glen a b ahi bhi (i' + 1 - k) (j' + 1 - k) = k := Nat.le_antisymm (hle _ _ _ (by (first | lia | omega)) (by (first | lia | omega)) (by (first | lia | omega)) (Nat.le_refl _)) hstart
    refine ⟨i' + 1 - k, j' + 1 - k, k, ?_, h0, ⟨_, _, _, rfl, by (first | lia | omega), by (first | lia | omega), by (first | lia | omega), by (first | lia | omega), h0, hg.symm⟩, ?_⟩
    · rw [e0]
      refine Prod.ext ?_ (Prod.ext ?_ rfl)
      · show (i' : Int) - k + 1 = ((i' + 1 - k : Nat) : Int); (first | lia | omega)
      · show (j' : Int) - k + 1 = ((j' + 1 - k : Nat) : Int); (first | lia | omega)
    · rintro t ⟨i, j, m, rfl, q1, q2, q3, q4, q5, q6⟩
      have hmk := hle i j m q1 q3 q5 (Nat.le_of_eq q6)
      show ltL [-(m : Int), (i : Int), (j : Int)] [-(k : Int), ((i' + 1 - k : Nat) : Int), ((j' + 1 - k : Nat) : Int)] = false
      refine start_le hmk fun c => ?_
      subst c
      obtain ⟨g1, g2⟩ := ends i j m q1 q3 q5 (Nat.le_of_eq q6)
      exact start_of q5 hk1 (hm _ _ g1 (Nat.le_antisymm (hmx _ _ g1) g2))
end Mine
end

/-! P3 -/
section
open PySem PySem.W PyProof.Rows
set_option Elab.async false
set_option maxRecDepth 100000
set_option maxHeartbeats 1000000
set_option linter.unusedVariables false
namespace Mine

/-! ## the heap of gaps and the runs that are due -/
noncomputable abbrev Gap := Nat × Nat × Nat × Nat
noncomputable def gOk (a b : List Int) (g : Gap) : Prop := g.1 ≤ g.2.1 ∧ g.2.1 ≤ a.length ∧ g.2.2.1 ≤ g.2.2.2 ∧ g.2.2.2 ≤ b.length
noncomputable def InGap (a b : List Int) (g : Gap) (t : T3) : Prop := InG a b g.1 g.2.1 g.2.2.1 g.2.2.2 t
noncomputable def entI (a b : List Int) (alo ahi blo bhi : Int) : List (List Int) :=
  if (flmI a b alo ahi blo bhi).2.2 > 0 then [[-(flmI a b alo ahi blo bhi).2.2, (flmI a b alo ahi blo bhi).1, (flmI a b alo ahi blo bhi).2.1, alo, ahi, blo, bhi]] else []
noncomputable def entG (a b : List Int) (g : Gap) : List (List Int) := entI a b g.1 g.2.1 g.2.2.1 g.2.2.2
noncomputable def Sep (g h : Gap) : Prop := (g.2.1 ≤ h.1 ∧ g.2.2.2 ≤ h.2.2.1) ∨ (h.2.1 ≤ g.1 ∧ h.2.2.2 ≤ g.2.2.1)
theorem Sep.symm {g h : Gap} (s : Sep g h) : Sep h g := Or.symm s
/-- the blocks of a gap, in order -/
noncomputable def blk (a b : List Int) (alo ahi blo bhi : Nat) : List I3 :=
  if h : 0 < (flmI a b alo ahi blo bhi).2.2.toNat ∧ alo ≤ (flmI a b alo ahi blo bhi).1.toNat ∧ (flmI a b alo ahi blo bhi).1.toNat + (flmI a b alo ahi blo bhi).2.2.toNat ≤ ahi then
    blk a b alo (flmI a b alo ahi blo bhi).1.toNat blo (flmI a b alo ahi blo bhi).2.1.toNat ++ flmI a b alo ahi blo bhi ::
      blk a b ((flmI a b alo ahi blo bhi).1.toNat + (flmI a b alo ahi blo bhi).2.2.toNat) ahi ((flmI a b alo ahi blo bhi).2.1.toNat + (flmI a b alo ahi blo bhi).2.2.toNat) bhi
  else []
termination_by ahi - alo
decreasing_by
  · (first | lia | omega)
  · (first | lia | omega)
noncomputable def blkG (a b : List Int) (g : Gap) : List I3 := blk a b g.1 g.2.1 g.2.2.1 g.2.2.2
/-- a gap's two cases -/
theorem gap_cases {a b : List Int} {alo ahi blo bhi : Nat} (ok : gOk a b (alo, ahi, blo, bhi)) :
    (flmI a b alo ahi blo bhi = ((alo : Int), (blo : Int), 0) ∧ entG a b (alo, ahi, blo, bhi) = [] ∧ blk a b alo ahi blo bhi = [] ∧ ∀ t, ¬ InGap a b (alo, ahi, blo, bhi) t) ∨
    ∃ i j k : Nat, flmI a b alo ahi blo bhi = ((i : Int), (j : Int), (k : Int)) ∧ 0 < k ∧ alo ≤ i ∧ i + k ≤ ahi ∧ blo ≤ j ∧ j + k ≤ bhi ∧ k = glen a b ahi bhi i j ∧
      entG a b (alo, ahi, blo, bhi) = [[-(k : Int), (i : Int), (j : Int), (alo : Int), (ahi : Int), (blo : Int), (bhi : Int)]] ∧
      blk a b alo ahi blo bhi = blk a b alo i blo j ++ ((i : Int), (j : Int), (k : Int)) :: blk a b (i + k) ahi (j + k) bhi ∧
      InGap a b (alo, ahi, blo, bhi) (-(k : Int), (i : Int), (j : Int)) ∧ ∀ t, InGap a b (alo, ahi, blo, bhi) t → leL (t3 (-(k : Int), (i : Int), (j : Int))) (t3 t) := by
  obtain ⟨o1, o2, o3, o4⟩ := ok
  rcases flm_spec o1 o2 o4 with ⟨e, h⟩ | ⟨i, j, k, e, h0, hi, hm⟩
  · refine .inl ⟨e, ?_, ?_, h⟩
    · unfold entG entI
      dsimp only
      rw [e, if_neg (by simp)]
    · rw [blk, e, dif_neg (by simp)]
  · have hi' := hi
    obtain ⟨i', j', k', q0, q1, q2, q3, q4, q5, q6⟩ := hi'
    simp only [Prod.mk.injEq] at q0
    obtain ⟨c1, c2, c3⟩ := q0
    obtain rfl : k = k' := by (first | lia | omega)
    obtain rfl : i = i' := by (first | lia | omega)
    obtain rfl : j = j' := by (first | lia | omega)
    obtain ⟨g1, g2, g3⟩ := (le_glen o2 o4 h0).mp (Nat.le_of_eq q6)
    refine .inr ⟨i, j, k, e, h0, q1, g1, q3, g2, q6, ?_, ?_, hi, hm⟩
    · unfold entG entI
      dsimp only
      rw [e, if_pos (by dsimp only; (first | lia | omega))]
    · rw [blk]
      simp only [e, Int.toNat_natCast]
      rw [dif_pos ⟨h0, q1, g1⟩]
theorem t3_inj {s t : T3} (h : t3 s = t3 t) : s = t := by
  obtain ⟨a, b, c⟩ := s
  obtain ⟨a', b', c'⟩ := t
  simp only [t3, List.cons.injEq, and_true] at h
  obtain ⟨rfl, rfl, rfl⟩ := h
  rfl
theorem foldl_min_le : ∀ (xs : List T3) (b : T3), leL (t3 (xs.foldl min3Step b)) (t3 b) ∧ ∀ x ∈ xs, leL (t3 (xs.foldl min3Step b)) (t3 x)
  | [], b => ⟨leL_refl _, fun x h => by cases h⟩
  | x :: xs, b => by
    rw [List.foldl_cons]
    obtain ⟨h1, h2⟩ := foldl_min_le xs (min3Step b x)
    have s : leL (t3 (min3Step b x)) (t3 b) ∧ leL (t3 (min3Step b x)) (t3 x) := by
      unfold min3Step lt3
      split
      · rename_i h; exact ⟨leL_of_lt h, leL_refl _⟩
      · rename_i h; exact ⟨leL_refl _, by simpa [leL] using h⟩
    refine ⟨leL_trans h1 s.1, fun y hy => ?_⟩
    rcases List.mem_cons.mp hy with rfl | hy
    · exact leL_trans h1 s.2
    · exact h2 y hy
theorem min3_le {xs : List T3} {x : T3} (h : x ∈ xs) : leL (t3 (min3 xs)) (t3 x) := by
  cases xs with
  | nil => cases h
  | cons y ys =>
    obtain ⟨h1, h2⟩ := foldl_min_le ys y
    rcases List.mem_cons.mp h with rfl | h
    · exact h1
    · exact h2 x h
theorem min3_eq {xs : List T3} {m : T3} (h : m ∈ xs) (hm : ∀ x ∈ xs, leL (t3 m) (t3 x)) : min3 xs = m :=
  t3_inj (leL_antisymm (min3_le h) (hm _ (min3_mem (fun e => by rw [e] at h; cases h))))
theorem leL_prefix {x y : T3} {xs ys : List Int} (h : leL (x.1 :: x.2.1 :: x.2.2 :: xs) (y.1 :: y.2.1 :: y.2.2 :: ys)) : leL (t3 x) (t3 y) := by
  unfold leL at *
  cases q : ltL (t3 y) (t3 x) with
  | false => rfl
  | true =>
    rw [← h]
    simp only [t3, ltL] at q ⊢
    split
    · rename_i c
      rw [if_pos c] at q
      split
      · rename_i c; rw [if_pos c] at q
        split
        · rename_i c; rw [if_pos c] at q; simp at q
        · rename_i c; rw [if_neg c] at q; exact q.symm
      · rename_i c; rw [if_neg c] at q; exact q.symm
    · rename_i c; rw [if_neg c] at q; exact q.symm
section
variable {a b : List Int} {alo ahi blo bhi i j k : Nat}
theorem glen_cut {ir jr : Nat} (hi : i ≤ ahi) (hj : j ≤ bhi) : glen a b i j ir jr = min (min (glen a b ahi bhi ir jr) (i - ir)) (j - jr) := by
  unfold glen
  generalize runAt a b ir jr = R
  rw [show i - ir = min (ahi - ir) (i - ir) from (Nat.min_eq_right (Nat.sub_le_sub_right hi ir)).symm, show j - jr = min (bhi - jr) (j - jr) from (Nat.min_eq_right (Nat.sub_le_sub_right hj jr)).symm]
  generalize ahi - ir = x, i - ir = y, bhi - jr = z, j - jr = u
  ac_rfl
theorem glen_a {ir jr : Nat} : glen a b ahi bhi ir jr ≤ ahi - ir := Nat.le_trans (Nat.min_le_left _ _) (Nat.min_le_right _ _)
theorem glen_b {ir jr : Nat} : glen a b ahi bhi ir jr ≤ bhi - jr := Nat.min_le_right _ _
theorem cut_val {K ir jr : Nat} (h1 : ir ≤ i) (h2 : jr ≤ j) : max (max (-(K : Int)) ((ir : Int) - i)) ((jr : Int) - j) = -((min (min K (i - ir)) (j - jr) : Nat) : Int) := by
  rw [show (ir : Int) - i = -((i - ir : Nat) : Int) by (first | lia | omega), show (jr : Int) - j = -((j - jr : Nat) : Int) by (first | lia | omega)]
  generalize i - ir = x, j - jr = y
  rw [show max (-(K : Int)) (-(x : Int)) = -((min K x : Nat) : Int) by (first | lia | omega)]
  generalize min K x = w
  (first | lia | omega)
/-- the cut leaves the runs of the gaps to the sides -/
theorem cut_sep {h : Gap} {r : T3} (s : Sep (alo, ahi, blo, bhi) h) (q1 : alo ≤ i) (q2 : i + k ≤ ahi) (q3 : blo ≤ j) (q4 : j + k ≤ bhi) (q0 : 0 < k) (hr : InGap a b h r) : cut1 (-(k : Int), (i : Int), (j : Int)) r = [r] := by
  obtain ⟨ir, jr, kr, rfl, p1, p2, p3, p4, p5, p6⟩ := hr
  unfold Sep at s
  have g1 : kr ≤ h.2.1 - ir := p6 ▸ glen_a
  have g2 : kr ≤ h.2.2.2 - jr := p6 ▸ glen_b
  clear p6
  dsimp only at s
  unfold cut1
  dsimp only
  rcases s with ⟨s1, s2⟩ | ⟨s1, s2⟩
  · have c1 : i + k ≤ ir := Nat.le_trans q2 (Nat.le_trans s1 p1)
    have c2 : j + k ≤ jr := Nat.le_trans q4 (Nat.le_trans s2 p3)
    clear p1 p2 p3 p4 p5 g1 g2 s1 s2 q1 q2 q3 q4
    rw [if_neg (by (first | lia | omega)), if_pos (by (first | lia | omega))]
  · have c1 : ir < i := Nat.lt_of_lt_of_le p2 (Nat.le_trans s1 q1)
    have c2 : jr < j := Nat.lt_of_lt_of_le p4 (Nat.le_trans s2 q3)
    have c3 : kr ≤ i - ir := Nat.le_trans g1 (Nat.sub_le_sub_right (Nat.le_trans s1 q1) ir)
    have c4 : kr ≤ j - jr := Nat.le_trans g2 (Nat.sub_le_sub_right (Nat.le_trans s2 q3) jr)
    rw [if_pos ⟨Int.ofNat_lt.mpr c1, Int.ofNat_lt.mpr c2⟩, cut_val (Nat.le_of_lt c1) (Nat.le_of_lt c2), Nat.min_eq_left c3, Nat.min_eq_left c4]
theorem cut_gap {t : T3} (q1 : alo ≤ i) (q2 : i + k ≤ ahi) (q3 : blo ≤ j) (q4 : j + k ≤ bhi) (q0 : 0 < k) :
    (∃ r, InGap a b (alo, ahi, blo, bhi) r ∧ t ∈ cut1 (-(k : Int), (i : Int), (j : Int)) r) ↔ InGap a b (alo, i, blo, j) t ∨ InGap a b (i + k, ahi, j + k, bhi) t := by
  have hi : i ≤ ahi := Nat.le_trans (Nat.le_add_right _ _) q2
  have hj : j ≤ bhi := Nat.le_trans (Nat.le_add_right _ _) q4
  constructor
  · rintro ⟨r, ⟨ir, jr, kr, rfl, p1, p2, p3, p4, p5, p6⟩, ht⟩
    dsimp only at p1 p2 p3 p4 p6
    unfold cut1 at ht
    dsimp only at ht
    by_cases c : (ir : Int) < i ∧ (jr : Int) < j
    · rw [if_pos c, List.mem_singleton] at ht
      subst ht
      have c1 : ir < i := Int.ofNat_lt.mp c.1
      have c2 : jr < j := Int.ofNat_lt.mp c.2
      refine .inl ⟨ir, jr, min (min kr (i - ir)) (j - jr), ?_, p1, c1, p3, c2, ?_, ?_⟩
      · exact Prod.ext (cut_val (Nat.le_of_lt c1) (Nat.le_of_lt c2)) rfl
      · exact Nat.lt_min.mpr ⟨Nat.lt_min.mpr ⟨p5, Nat.sub_pos_of_lt c1⟩, Nat.sub_pos_of_lt c2⟩
      · show _ = glen a b i j ir jr
        rw [glen_cut hi hj, ← p6]
    · rw [if_neg c] at ht
      split at ht
      · rename_i c2
        rw [List.mem_singleton] at ht
        subst ht
        obtain ⟨d1, d2⟩ := c2
        clear p1 p3 c
        exact .inr ⟨ir, jr, kr, rfl, by dsimp only; (first | lia | omega), p2, by dsimp only; (first | lia | omega), p4, p5, p6⟩
      · cases ht
  · rintro (⟨it, jt, kt, rfl, p1, p2, p3, p4, p5, p6⟩ | ⟨it, jt, kt, rfl, p1, p2, p3, p4, p5, p6⟩)
    · dsimp only at p1 p2 p3 p4 p6
      rw [glen_cut hi hj] at p6
      refine ⟨(-((glen a b ahi bhi it jt : Nat) : Int), (it : Int), (jt : Int)), ⟨it, jt, _, rfl, p1, Nat.lt_of_lt_of_le p2 hi, p3, Nat.lt_of_lt_of_le p4 hj, ?_, rfl⟩, ?_⟩
      · rw [p6] at p5
        exact (Nat.lt_min.mp (Nat.lt_min.mp p5).1).1
      · unfold cut1
        dsimp only
        rw [if_pos ⟨Int.ofNat_lt.mpr p2, Int.ofNat_lt.mpr p4⟩, List.mem_singleton, cut_val (Nat.le_of_lt p2) (Nat.le_of_lt p4), ← p6]
    · dsimp only at p1 p2 p3 p4 p6
      refine ⟨_, ⟨it, jt, kt, rfl, Nat.le_trans q1 (Nat.le_trans (Nat.le_add_right _ _) p1), p2, Nat.le_trans q3 (Nat.le_trans (Nat.le_add_right _ _) p3), p4, p5, p6⟩, ?_⟩
      unfold cut1
      dsimp only
      clear p2 p4 p5 p6 q1 q2 q3 q4 hi hj
      rw [if_neg (by (first | lia | omega)), if_pos (by (first | lia | omega)), List.mem_singleton]
end
structure TS (a b : List Int) (hs : List (List Int)) (rs : List T3) (gs : List Gap) (told : List I3) : Prop where
  ho : HO hs
  perm : hs.Perm (gs.flatMap (entG a b))
  mem : ∀ t, t ∈ rs ↔ ∃ g ∈ gs, InGap a b g t
  sep : gs.Pairwise Sep
  ok : ∀ g ∈ gs, gOk a b g
  blks : (told ++ gs.flatMap (blkG a b)).Perm (blk a b 0 a.length 0 b.length)
variable {a b : List Int} {hs : List (List Int)} {rs : List T3} {gs : List Gap} {told : List I3}
theorem TS.reorder {gs' : List Gap} (T : TS a b hs rs gs told) (p : gs.Perm gs') : TS a b hs rs gs' told where
  ho := T.ho
  perm := T.perm.trans (p.flatMap_right _)
  mem := fun t => (T.mem t).trans ⟨fun ⟨g, h, i⟩ => ⟨g, p.mem_iff.mp h, i⟩, fun ⟨g, h, i⟩ => ⟨g, p.mem_iff.mpr h, i⟩⟩
  sep := (p.pairwise_iff Sep.symm).mp T.sep
  ok := fun g h => T.ok g (p.mem_iff.mpr h)
  blks := ((p.flatMap_right (blkG a b)).append_left told).symm.trans T.blks
theorem TS.empty (T : TS a b [] rs gs told) : rs = [] ∧ told.Perm (blk a b 0 a.length 0 b.length) := by
  have no : ∀ g ∈ gs, entG a b g = [] := fun g hg => by
    have := T.perm.symm.eq_nil
    exact List.flatMap_eq_nil_iff.mp this g hg
  have cs : ∀ g ∈ gs, blkG a b g = [] ∧ ∀ t, ¬ InGap a b g t := fun g hg => by
    obtain ⟨alo, ahi, blo, bhi⟩ := g
    rcases gap_cases (T.ok _ hg) with ⟨_, _, e, h⟩ | ⟨i, j, k, _, _, _, _, _, _, _, e, _⟩
    · exact ⟨e, h⟩
    · rw [no _ hg] at e; cases e
  refine ⟨List.eq_nil_iff_forall_not_mem.mpr fun t ht => ?_, ?_⟩
  · obtain ⟨g, hg, h⟩ := (T.mem t).mp ht
    exact (cs g hg).2 t h
  · have := T.blks
    rwa [List.flatMap_eq_nil_iff.mpr fun g hg => (cs g hg).1, List.append_nil] at this
theorem TS.step {top : List Int} {tl : List (List Int)} (T : TS a b (top :: tl) rs gs told) :
    ∃ i j k alo ahi blo bhi : Nat, top = [-(k : Int), (i : Int), (j : Int), (alo : Int), (ahi : Int), (blo : Int), (bhi : Int)] ∧ 0 < k ∧ alo ≤ i ∧ i + k ≤ ahi ∧ ahi ≤ a.length ∧ blo ≤ j ∧ j + k ≤ bhi ∧ bhi ≤ b.length ∧
      rs ≠ [] ∧ min3 rs = (-(k : Int), (i : Int), (j : Int)) ∧
      ∀ hs', HO hs' → hs'.Perm (tl ++ (entI a b alo i blo j ++ entI a b (i + k : Nat) ahi (j + k : Nat) bhi)) → ∃ gs', TS a b hs' (cut (min3 rs) rs) gs' (told ++ [((i : Int), (j : Int), (k : Int))]) := by
  have hm : top ∈ gs.flatMap (entG a b) := T.perm.mem_iff.mp (by simp)
  obtain ⟨g, hg, htop⟩ := List.mem_flatMap.mp hm
  obtain ⟨u, v, rfl⟩ := List.append_of_mem hg
  have T := T.reorder (List.perm_middle (a := g) (l₁ := u) (l₂ := v))
  generalize u ++ v = gs1 at T
  obtain ⟨alo, ahi, blo, bhi⟩ := g
  have ok := T.ok _ (List.mem_cons_self ..)
  rcases gap_cases ok with ⟨_, e, _⟩ | ⟨i, j, k, hf, h0, q1, q2, q3, q4, q5, e, hb, hin, hmin⟩
  · rw [e] at htop; cases htop
  rw [e, List.mem_singleton] at htop
  subst htop
  have ok' : alo ≤ ahi ∧ ahi ≤ a.length ∧ blo ≤ bhi ∧ bhi ≤ b.length := ok
  obtain ⟨o1, o2, o3, o4⟩ := ok'
  have hmem : (-(k : Int), (i : Int), (j : Int)) ∈ rs := (T.mem _).mpr ⟨_, List.mem_cons_self .., hin⟩
  have hmin3 : min3 rs = (-(k : Int), (i : Int), (j : Int)) := by
    refine min3_eq hmem fun t ht => ?_
    obtain ⟨g2, hg2, h2⟩ := (T.mem t).mp ht
    obtain ⟨alo2, ahi2, blo2, bhi2⟩ := g2
    rcases gap_cases (T.ok _ hg2) with ⟨_, _, _, no⟩ | ⟨i2, j2, k2, _, _, _, _, _, _, _, e2, _, _, hmin2⟩
    · exact absurd h2 (no t)
    · have hent : [-(k2 : Int), (i2 : Int), (j2 : Int), (alo2 : Int), (ahi2 : Int), (blo2 : Int), (bhi2 : Int)] ∈ [-(k : Int), (i : Int), (j : Int), (alo : Int), (ahi : Int), (blo : Int), (bhi : Int)] :: tl :=
        T.perm.mem_iff.mpr (List.mem_flatMap.mpr ⟨_, hg2, by rw [e2]; exact List.mem_singleton.mpr rfl⟩)
      have := T.ho.min hent
      have := leL_prefix (x := (-(k : Int), (i : Int), (j : Int))) (y := (-(k2 : Int), (i2 : Int), (j2 : Int))) this
      exact leL_trans this (hmin2 t h2)
  refine ⟨i, j, k, alo, ahi, blo, bhi, rfl, h0, q1, q2, o2, q3, q4, o4, (fun e => by rw [e] at hmem; cases hmem), hmin3, ?_⟩
  intro hs' ho hp
  refine ⟨(alo, i, blo, j) :: (i + k, ahi, j + k, bhi) :: gs1, ho, ?_, ?_, ?_, ?_, ?_⟩
  · have p1 : tl.Perm (gs1.flatMap (entG a b)) := by
      have := T.perm
      rw [List.flatMap_cons, e] at this
      exact List.Perm.cons_inv this
    refine hp.trans ?_
    have e2 : entG a b (alo, i, blo, j) = entI a b alo i blo j := rfl
    have e3 : entG a b (i + k, ahi, j + k, bhi) = entI a b (i + k : Nat) ahi (j + k : Nat) bhi := rfl
    rw [List.flatMap_cons, List.flatMap_cons, e2, e3, List.perm_iff_count]
    intro x
    have := List.perm_iff_count.mp p1 x
    simp only [List.count_append]
    (first | lia | omega)
  · intro t
    rw [hmin3]
    unfold cut
    rw [List.mem_flatMap]
    have sepg : ∀ h ∈ gs1, Sep (alo, ahi, blo, bhi) h := (List.pairwise_cons.mp T.sep).1
    constructor
    · rintro ⟨r, hr, ht⟩
      obtain ⟨h, hh, hi⟩ := (T.mem r).mp hr
      rcases List.mem_cons.mp hh with rfl | hh
      · rcases (cut_gap q1 q2 q3 q4 h0).mp ⟨r, hi, ht⟩ with x | x
        · exact ⟨_, List.mem_cons_self .., x⟩
        · exact ⟨_, List.mem_cons_of_mem _ (List.mem_cons_self ..), x⟩
      · rw [cut_sep (sepg h hh) q1 q2 q3 q4 h0 hi, List.mem_singleton] at ht
        subst ht
        exact ⟨h, List.mem_cons_of_mem _ (List.mem_cons_of_mem _ hh), hi⟩
    · rintro ⟨h, hh, hi⟩
      have side : (InGap a b (alo, i, blo, j) t ∨ InGap a b (i + k, ahi, j + k, bhi) t) → ∃ r ∈ rs, t ∈ cut1 (-(k : Int), (i : Int), (j : Int)) r := fun x => by
        obtain ⟨r, h1, h2⟩ := (cut_gap q1 q2 q3 q4 h0).mpr x
        exact ⟨r, (T.mem r).mpr ⟨_, List.mem_cons_self .., h1⟩, h2⟩
      rcases List.mem_cons.mp hh with rfl | hh
      · exact side (.inl hi)
      · rcases List.mem_cons.mp hh with rfl | hh
        · exact side (.inr hi)
        · refine ⟨t, (T.mem t).mpr ⟨h, List.mem_cons_of_mem _ hh, hi⟩, ?_⟩
          rw [cut_sep (sepg h hh) q1 q2 q3 q4 h0 hi]
          exact List.mem_singleton.mpr rfl
  · obtain ⟨s1, s2⟩ := List.pairwise_cons.mp T.sep
    refine List.pairwise_cons.mpr ⟨fun h hh => ?_, List.pairwise_cons.mpr ⟨fun h hh => ?_, s2⟩⟩
    · rcases List.mem_cons.mp hh with rfl | hh
      · unfold Sep; dsimp only; (first | lia | omega)
      · have := s1 h hh
        unfold Sep at this ⊢; dsimp only at this ⊢; (first | lia | omega)
    · have := s1 h hh
      unfold Sep at this ⊢; dsimp only at this ⊢; (first | lia | omega)
  · intro h hh
    rcases List.mem_cons.mp hh with rfl | hh
    · unfold gOk; dsimp only; (first | lia | omega)
    · rcases List.mem_cons.mp hh with rfl | hh
      · unfold gOk; dsimp only; (first | lia | omega)
      · exact T.ok h (List.mem_cons_of_mem _ hh)
  · refine List.Perm.trans ?_ T.blks
    have e1 : blkG a b (alo, ahi, blo, bhi) = blkG a b (alo, i, blo, j) ++ ((i : Int), (j : Int), (k : Int)) :: blkG a b (i + k, ahi, j + k, bhi) := hb
    rw [List.flatMap_cons, List.flatMap_cons, List.flatMap_cons, e1, List.perm_iff_count]
    intro x
    simp only [List.count_append, List.count_cons, List.count_nil]
    (first | lia | omega)
theorem TS.init : TS a b (entI a b 0 a.length 0 b.length) (runs3 a b) [(0, a.length, 0, b.length)] [] := by
  refine ⟨?_, ?_, ?_, List.pairwise_singleton _ _, ?_, ?_⟩
  · intro k k0 kl
    have : (entI a b 0 a.length 0 b.length).length ≤ 1 := by unfold entI; split <;> simp
    (first | lia | omega)
  · exact .of_eq (by rw [List.flatMap_singleton]; rfl)
  · intro t
    have : InGap a b (0, a.length, 0, b.length) t ↔ t ∈ runs3 a b := by
      unfold runs3 run3At
      simp only [List.mem_flatMap, List.mem_range]
      constructor
      · rintro ⟨i, j, k, rfl, p1, p2, p3, p4, p5, p6⟩
        dsimp only at p2 p4 p6
        have hle := (le_run a b (runAt a b i j) i j).mp (Nat.le_refl _)
        refine ⟨i, p2, j, p4, ?_⟩
        have : k = runAt a b i j := by unfold glen at p6; (first | lia | omega)
        rw [if_pos (by (first | lia | omega)), this]
        exact List.mem_singleton.mpr rfl
      · rintro ⟨i, hi, j, hj, ht⟩
        split at ht
        · rename_i h0
          rw [List.mem_singleton] at ht
          subst ht
          have hle := (le_run a b (runAt a b i j) i j).mp (Nat.le_refl _)
          refine ⟨i, j, runAt a b i j, rfl, by dsimp only; (first | lia | omega), hi, by dsimp only; (first | lia | omega), hj, h0, ?_⟩
          unfold glen
          dsimp only
          (first | lia | omega)
        · cases ht
    simp only [List.mem_singleton, exists_eq_left, this]
  · intro g hg
    rw [List.mem_singleton] at hg
    subst hg
    exact ⟨Nat.zero_le _, Nat.le_refl _, Nat.zero_le _, Nat.le_refl _⟩
  · exact .of_eq (by rw [List.flatMap_singleton]; rfl)
end Mine
end

/-! P4 -/
section
open PySem PySem.W PyProof.Rows
set_option Elab.async false
set_option maxRecDepth 100000
set_option maxHeartbeats 1000000
set_option linter.unusedVariables false
namespace Mine

/-! ## the blocks -/
noncomputable def RB (c d : I3) : Prop := c.1 + c.2.2 ≤ d.1 ∧ c.2.1 + c.2.2 ≤ d.2.1 ∧ ¬ (c.1 + c.2.2 = d.1 ∧ c.2.1 + c.2.2 = d.2.1)
noncomputable def BIn (a b : List Int) (alo ahi blo bhi : Nat) (c : I3) : Prop :=
  ∃ i j k : Nat, c = ((i : Int), (j : Int), (k : Int)) ∧ 0 < k ∧ alo ≤ i ∧ i + k ≤ ahi ∧ blo ≤ j ∧ j + k ≤ bhi ∧ ∀ t, t < k → a.getD (i + t) 0 = b.getD (j + t) 0
theorem BIn.wide {a b : List Int} {alo ahi blo bhi alo' ahi' blo' bhi' : Nat} {c : I3} (h : BIn a b alo ahi blo bhi c) (h1 : alo' ≤ alo) (h2 : ahi ≤ ahi') (h3 : blo' ≤ blo) (h4 : bhi ≤ bhi') : BIn a b alo' ahi' blo' bhi' c := by
  obtain ⟨i, j, k, e, q0, q1, q2, q3, q4, q5⟩ := h
  exact ⟨i, j, k, e, q0, by (first | lia | omega), by (first | lia | omega), by (first | lia | omega), by (first | lia | omega), q5⟩
/-- the gaps that are left at the end are empty -/
noncomputable def Leaf (a b : List Int) (ahi bhi : Nat) : Nat → Nat → List I3 → Prop
  | alo, blo, [] => ∀ t, ¬ InG a b alo ahi blo bhi t
  | alo, blo, c :: r => ∃ i j k : Nat, c = ((i : Int), (j : Int), (k : Int)) ∧ alo ≤ i ∧ blo ≤ j ∧ i + k ≤ ahi ∧ j + k ≤ bhi ∧ (∀ t, ¬ InG a b alo i blo j t) ∧ Leaf a b ahi bhi (i + k) (j + k) r
theorem Leaf.append {a b : List Int} {ahi bhi i j k : Nat} {ys : List I3} (h2 : Leaf a b ahi bhi (i + k) (j + k) ys) (hk : i + k ≤ ahi) (hl : j + k ≤ bhi) :
    ∀ (xs : List I3) (alo blo : Nat), alo ≤ i → blo ≤ j → Leaf a b i j alo blo xs → Leaf a b ahi bhi alo blo (xs ++ ((i : Int), (j : Int), (k : Int)) :: ys)
  | [], alo, blo, q1, q2, h => ⟨i, j, k, rfl, q1, q2, hk, hl, h, h2⟩
  | c :: xs, alo, blo, q1, q2, h => by
    obtain ⟨i1, j1, k1, rfl, p1, p2, p3, p4, p5, p6⟩ := h
    refine ⟨i1, j1, k1, rfl, p1, p2, by (first | lia | omega), by (first | lia | omega), p5, Leaf.append h2 hk hl xs (i1 + k1) (j1 + k1) p3 p4 p6⟩
section
variable {a b : List Int}
theorem blk_all (n : Nat) : ∀ (alo ahi blo bhi : Nat), ahi - alo ≤ n → gOk a b (alo, ahi, blo, bhi) →
    (∀ c ∈ blk a b alo ahi blo bhi, BIn a b alo ahi blo bhi c) ∧ (blk a b alo ahi blo bhi).Pairwise RB ∧ Leaf a b ahi bhi alo blo (blk a b alo ahi blo bhi) ∧ (blk a b alo ahi blo bhi).length ≤ ahi - alo := by
  induction n with
  | zero =>
    intro alo ahi blo bhi hn ok
    rcases gap_cases ok with ⟨_, _, e, no⟩ | ⟨i, j, k, _, h0, q1, q2, _⟩
    · rw [e]
      exact ⟨fun c h => (by cases h), .nil, no, Nat.zero_le _⟩
    · clear ok
      (first | lia | omega)
  | succ n ih =>
    intro alo ahi blo bhi hn ok
    rcases gap_cases ok with ⟨_, _, e, no⟩ | ⟨i, j, k, _, h0, q1, q2, q3, q4, q5, _, e, hin, hmin⟩
    · rw [e]
      exact ⟨fun c h => (by cases h), .nil, no, Nat.zero_le _⟩
    · have ok' : alo ≤ ahi ∧ ahi ≤ a.length ∧ blo ≤ bhi ∧ bhi ≤ b.length := ok
      obtain ⟨o1, o2, o3, o4⟩ := ok'
      obtain ⟨l1, l2, l3, l4⟩ := ih alo i blo j (by clear ih; (first | lia | omega)) (by clear ih hmin hin; unfold gOk; dsimp only; (first | lia | omega))
      obtain ⟨r1, r2, r3, r4⟩ := ih (i + k) ahi (j + k) bhi (by clear ih; (first | lia | omega)) (by clear ih hmin hin; unfold gOk; dsimp only; (first | lia | omega))
      clear ih
      obtain ⟨m1, m2, m3⟩ := (le_glen o2 o4 h0).mp (Nat.le_of_eq q5)
      -- a longer run at another start is not there
      have hmax : ∀ i' j' m : Nat, alo ≤ i' → blo ≤ j' → 0 < m → i' + m ≤ ahi → j' + m ≤ bhi → (∀ t, t < m → a.getD (i' + t) 0 = b.getD (j' + t) 0) → m ≤ k := by
        intro i' j' m p1 p2 p3 p4 p5 p6
        have g := (le_glen (a := a) (b := b) (i := i') (j := j') o2 o4 p3).mpr ⟨p4, p5, p6⟩
        have := hmin (-((glen a b ahi bhi i' j' : Nat) : Int), (i' : Int), (j' : Int)) ⟨i', j', _, rfl, p1, by dsimp only; (first | lia | omega), p2, by dsimp only; (first | lia | omega), by (first | lia | omega), rfl⟩
        unfold leL at this
        simp only [t3, ltL] at this
        split at this
        · rename_i c; rw [beq_iff_eq] at c; (first | lia | omega)
        · have := of_decide_eq_false this; (first | lia | omega)
      clear hmin hin
      rw [e]
      refine ⟨fun c hc => ?_, ?_, ?_, ?_⟩
      · rcases List.mem_append.mp hc with hc | hc
        · exact (l1 c hc).wide (Nat.le_refl _) (by (first | lia | omega)) (Nat.le_refl _) (by (first | lia | omega))
        · rcases List.mem_cons.mp hc with rfl | hc
          · exact ⟨i, j, k, rfl, h0, q1, q2, q3, q4, m3⟩
          · exact (r1 c hc).wide (by (first | lia | omega)) (Nat.le_refl _) (by (first | lia | omega)) (Nat.le_refl _)
      · rw [List.pairwise_append, List.pairwise_cons]
        refine ⟨l2, ⟨fun d hd => ?_, r2⟩, fun c hc d hd => ?_⟩
        · obtain ⟨i2, j2, k2, rfl, p0, p1, p2, p3, p4, p5⟩ := r1 d hd
          refine ⟨by dsimp only; (first | lia | omega), by dsimp only; (first | lia | omega), fun h => ?_⟩
          dsimp only at h
          have := hmax i j (k + k2) q1 q3 (by (first | lia | omega)) (by (first | lia | omega)) (by (first | lia | omega)) fun t ht => by
            by_cases c : t < k
            · exact m3 t c
            · have := p5 (t - k) (by (first | lia | omega))
              rwa [show i2 + (t - k) = i + t by (first | lia | omega), show j2 + (t - k) = j + t by (first | lia | omega)] at this
          (first | lia | omega)
        · obtain ⟨i1, j1, k1, rfl, p0, p1, p2, p3, p4, p5⟩ := l1 c hc
          rcases List.mem_cons.mp hd with rfl | hd
          · refine ⟨by dsimp only; (first | lia | omega), by dsimp only; (first | lia | omega), fun h => ?_⟩
            dsimp only at h
            have := hmax i1 j1 (k1 + k) p1 p3 (by (first | lia | omega)) (by (first | lia | omega)) (by (first | lia | omega)) fun t ht => by
              by_cases c : t < k1
              · exact p5 t c
              · have := m3 (t - k1) (by (first | lia | omega))
                rwa [show i + (t - k1) = i1 + t by (first | lia | omega), show j + (t - k1) = j1 + t by (first | lia | omega)] at this
            (first | lia | omega)
          · obtain ⟨i2, j2, k2, rfl, s0, s1, s2, s3, s4, s5⟩ := r1 d hd
            refine ⟨by dsimp only; (first | lia | omega), by dsimp only; (first | lia | omega), fun h => ?_⟩
            dsimp only at h
            (first | lia | omega)
      · exact r3.append q2 q4 _ _ _ q1 q3 l3
      · simp only [List.length_append, List.length_cons]
        (first | lia | omega)
theorem whole_ok (a b : List Int) : gOk a b (0, a.length, 0, b.length) := ⟨Nat.zero_le _, Nat.le_refl _, Nat.zero_le _, Nat.le_refl _⟩
/-- the blocks of the two lists -/
noncomputable def blocks (a b : List Int) : List I3 := blk a b 0 a.length 0 b.length
theorem blocks_in {c : I3} (h : c ∈ blocks a b) : BIn a b 0 a.length 0 b.length c := (blk_all _ _ _ _ _ (Nat.le_refl _) (whole_ok a b)).1 c h
theorem blocks_pw : (blocks a b).Pairwise RB := (blk_all _ _ _ _ _ (Nat.le_refl _) (whole_ok a b)).2.1
theorem blocks_leaf : Leaf a b a.length b.length 0 0 (blocks a b) := (blk_all _ _ _ _ _ (Nat.le_refl _) (whole_ok a b)).2.2.1
theorem blocks_len : (blocks a b).length ≤ a.length := (blk_all _ _ _ _ _ (Nat.le_refl _) (whole_ok a b)).2.2.2
theorem blocks_sorted : ((blocks a b).map t3).Pairwise fun x y => ltL x y = true := by
  rw [List.pairwise_map]
  refine blocks_pw.imp_of_mem fun {c d} hc _ h => ?_
  obtain ⟨i, j, k, rfl, h0, _⟩ := blocks_in hc
  obtain ⟨h1, _, _⟩ := h
  dsimp only at h1
  simp only [t3, ltL]
  rw [if_neg (by simp; (first | lia | omega))]
  exact decide_eq_true (by (first | lia | omega))
/-- the queue of get_matching_blocks -/
structure GS (a b : List Int) (qs : List Gap) (acc : List I3) : Prop where
  ok : ∀ g ∈ qs, gOk a b g
  perm : (acc ++ qs.flatMap (blkG a b)).Perm (blocks a b)
theorem GS.init : GS a b [(0, a.length, 0, b.length)] [] := ⟨fun g h => by rw [List.mem_singleton] at h; subst h; exact whole_ok a b, .of_eq (by rw [List.flatMap_singleton]; rfl)⟩
theorem GS.last {acc : List I3} (h : GS a b [] acc) : acc.Perm (blocks a b) := by simpa using h.perm
noncomputable def gM (qs : List Gap) : Nat := (qs.map fun g => 2 * (g.2.1 - g.1) + 1).sum
theorem gM_app (x y : List Gap) : gM (x ++ y) = gM x + gM y := by simp [gM]
noncomputable def gpush (alo ahi blo bhi i j k : Nat) : List Gap := (if alo < i ∧ blo < j then [(alo, i, blo, j)] else []) ++ if i + k < ahi ∧ j + k < bhi then [(i + k, ahi, j + k, bhi)] else []
theorem blk_none {alo ahi blo bhi : Nat} (ok : gOk a b (alo, ahi, blo, bhi)) (h : ¬ (alo < ahi ∧ blo < bhi)) : blk a b alo ahi blo bhi = [] := by
  rcases gap_cases ok with ⟨_, _, e, _⟩ | ⟨i, j, k, _, h0, q1, q2, q3, q4, _⟩
  · exact e
  · (first | lia | omega)
theorem GS.step {qs : List Gap} {acc : List I3} {alo ahi blo bhi : Nat} (h : GS a b (qs ++ [(alo, ahi, blo, bhi)]) acc) :
    (flmI a b alo ahi blo bhi = ((alo : Int), (blo : Int), 0) ∧ GS a b qs acc) ∨
    ∃ i j k : Nat, flmI a b alo ahi blo bhi = ((i : Int), (j : Int), (k : Int)) ∧ 0 < k ∧ alo ≤ i ∧ i + k ≤ ahi ∧ blo ≤ j ∧ j + k ≤ bhi ∧
      GS a b (qs ++ gpush alo ahi blo bhi i j k) (acc ++ [((i : Int), (j : Int), (k : Int))]) ∧ gM (gpush alo ahi blo bhi i j k) < gM [(alo, ahi, blo, bhi)] := by
  have ok := h.ok _ (List.mem_append_right _ (List.mem_singleton.mpr rfl))
  have okq : ∀ g ∈ qs, gOk a b g := fun g hg => h.ok g (List.mem_append_left _ hg)
  rcases gap_cases ok with ⟨e, _, eb, _⟩ | ⟨i, j, k, e, h0, q1, q2, q3, q4, _, _, eb, _⟩
  · refine .inl ⟨e, okq, ?_⟩
    have := h.perm
    rw [List.flatMap_append, List.flatMap_singleton] at this
    rw [show blkG a b (alo, ahi, blo, bhi) = [] from eb, List.append_nil] at this
    exact this
  · have ok' : alo ≤ ahi ∧ ahi ≤ a.length ∧ blo ≤ bhi ∧ bhi ≤ b.length := ok
    obtain ⟨o1, o2, o3, o4⟩ := ok'
    have okl : gOk a b (alo, i, blo, j) := by unfold gOk; dsimp only; (first | lia | omega)
    have okr : gOk a b (i + k, ahi, j + k, bhi) := by unfold gOk; dsimp only; (first | lia | omega)
    refine .inr ⟨i, j, k, e, h0, q1, q2, q3, q4, ⟨fun g hg => ?_, ?_⟩, ?_⟩
    · rcases List.mem_append.mp hg with hg | hg
      · exact okq g hg
      · unfold gpush at hg
        rcases List.mem_append.mp hg with hg | hg
        · split at hg
          · rw [List.mem_singleton] at hg; subst hg; exact okl
          · cases hg
        · split at hg
          · rw [List.mem_singleton] at hg; subst hg; exact okr
          · cases hg
    · refine List.Perm.trans ?_ h.perm
      have e1 : blkG a b (alo, ahi, blo, bhi) = blkG a b (alo, i, blo, j) ++ ((i : Int), (j : Int), (k : Int)) :: blkG a b (i + k, ahi, j + k, bhi) := eb
      have e2 : (gpush alo ahi blo bhi i j k).flatMap (blkG a b) = blkG a b (alo, i, blo, j) ++ blkG a b (i + k, ahi, j + k, bhi) := by
        unfold gpush
        rw [List.flatMap_append]
        congr 1
        · split
          · rw [List.flatMap_singleton]
          · rename_i c; exact (blk_none okl c).symm
        · split
          · rw [List.flatMap_singleton]
          · rename_i c; exact (blk_none okr c).symm
      rw [List.flatMap_append, List.flatMap_append, e2, List.flatMap_singleton, e1, List.perm_iff_count]
      intro x
      simp only [List.count_append, List.count_cons, List.count_nil]
      (first | lia | omega)
    · unfold gpush
      rw [gM_app]
      split <;> split <;> simp [gM] <;> (first | lia | omega)
theorem leaf_spec {alo ahi blo bhi : Nat} (h1 : alo ≤ ahi) (h2 : ahi ≤ a.length) (h4 : bhi ≤ b.length) (h : ∀ t, ¬ InG a b alo ahi blo bhi t) : flmI a b alo ahi blo bhi = ((alo : Int), (blo : Int), 0) := by
  rcases flm_spec h1 h2 h4 with ⟨e, _⟩ | ⟨i, j, k, _, _, hi, _⟩
  · exact e
  · exact absurd hi (h _)
/-- what find_longest_match's last loops ask -/
theorem flm_stop {alo ahi blo bhi : Nat} (h1 : alo ≤ ahi) (h2 : ahi ≤ a.length) (h3 : blo ≤ bhi) (h4 : bhi ≤ b.length) : ∃ i j k : Nat, flmI a b alo ahi blo bhi = ((i : Int), (j : Int), (k : Int)) ∧ alo ≤ i ∧ i + k ≤ ahi ∧ blo ≤ j ∧ j + k ≤ bhi ∧
    (alo < i → blo < j → a.getD (i - 1) 0 ≠ b.getD (j - 1) 0) ∧ (i + k < ahi → j + k < bhi → a.getD (i + k) 0 ≠ b.getD (j + k) 0) := by
  rcases gap_cases (a := a) (b := b) (alo := alo) (ahi := ahi) (blo := blo) (bhi := bhi) ⟨h1, h2, h3, h4⟩ with ⟨e, _, _, no⟩ | ⟨i, j, k, e, h0, q1, q2, q3, q4, q5, _, _, hin, hmin⟩
  · refine ⟨alo, blo, 0, e, Nat.le_refl _, by (first | lia | omega), Nat.le_refl _, by (first | lia | omega), by (first | lia | omega), fun p1 p2 p3 => ?_⟩
    have g := (le_glen (a := a) (b := b) (i := alo) (j := blo) (k := 1) h2 h4 (by (first | lia | omega))).mpr ⟨by (first | lia | omega), by (first | lia | omega), fun t ht => by obtain rfl : t = 0 := (by (first | lia | omega)); exact p3⟩
    exact no (-((glen a b ahi bhi alo blo : Nat) : Int), (alo : Int), (blo : Int)) ⟨alo, blo, glen a b ahi bhi alo blo, rfl, Nat.le_refl _, (by dsimp only; (first | lia | omega)), Nat.le_refl _, (by dsimp only; (first | lia | omega)), (by (first | lia | omega)), rfl⟩
  · obtain ⟨m1, m2, m3⟩ := (le_glen h2 h4 h0).mp (Nat.le_of_eq q5)
    have hmax : ∀ i' j' m : Nat, alo ≤ i' → blo ≤ j' → 0 < m → i' + m ≤ ahi → j' + m ≤ bhi → (∀ t, t < m → a.getD (i' + t) 0 = b.getD (j' + t) 0) → m ≤ k := by
      intro i' j' m p1 p2 p3 p4 p5 p6
      have g := (le_glen (a := a) (b := b) (i := i') (j := j') h2 h4 p3).mpr ⟨p4, p5, p6⟩
      have := hmin (-((glen a b ahi bhi i' j' : Nat) : Int), (i' : Int), (j' : Int)) ⟨i', j', _, rfl, p1, by dsimp only; (first | lia | omega), p2, by dsimp only; (first | lia | omega), by (first | lia | omega), rfl⟩
      unfold leL at this
      simp only [t3, ltL] at this
      split at this
      · rename_i c; rw [beq_iff_eq] at c; (first | lia | omega)
      · have := of_decide_eq_false this; (first | lia | omega)
    refine ⟨i, j, k, e, q1, q2, q3, q4, fun p1 p2 p3 => ?_, fun p1 p2 p3 => ?_⟩
    · have := hmax (i - 1) (j - 1) (k + 1) (by (first | lia | omega)) (by (first | lia | omega)) (by (first | lia | omega)) (by (first | lia | omega)) (by (first | lia | omega)) fun t ht => by
        cases t with
        | zero => exact p3
        | succ t => have := m3 t (by (first | lia | omega)); rwa [show i - 1 + (t + 1) = i + t by (first | lia | omega), show j - 1 + (t + 1) = j + t by (first | lia | omega)]
      (first | lia | omega)
    · have := hmax i j (k + 1) (by (first | lia | omega)) (by (first | lia | omega)) (by (first | lia | omega)) (by (first | lia | omega)) (by (first | lia | omega)) fun t ht => by
        by_cases c : t < k
        · exact m3 t c
        · obtain rfl : t = k := by (first | lia | omega)
          exact p3
      (first | lia | omega)
/-- the runs that are due, and the first of them -/
theorem due_first (h : runs3 a b ≠ []) : ∃ r, due3 a b = flmI a b 0 a.length 0 b.length :: r := by
  have T := TS.init (a := a) (b := b)
  cases e : entI a b 0 a.length 0 b.length with
  | nil => rw [e] at T; exact absurd T.empty.1 h
  | cons top tl =>
    rw [e] at T
    obtain ⟨i, j, k, alo, ahi, blo, bhi, ht, h0, _, _, _, _, _, _, _, hm, _⟩ := T.step
    refine ⟨dueGo (runs3 a b).length (cut (min3 (runs3 a b)) (runs3 a b)), ?_⟩
    unfold due3
    rw [dueGo, if_neg h, hm]
    congr 1
    unfold entI at e
    split at e
    · rename_i c
      rw [ht] at e
      simp only [List.cons.injEq] at e
      obtain ⟨⟨e1, e2, e3, _⟩, _⟩ := e
      generalize flmI a b 0 a.length 0 b.length = r at *
      obtain ⟨r1, r2, r3⟩ := r
      dsimp only at *
      refine Prod.ext ?_ (Prod.ext ?_ ?_) <;> dsimp only <;> (first | lia | omega)
    · cases e
end
/-! ## the law's two lists -/
theorem twoStep_len (t : List Int) (x : Int) : (twoStep t x).length ≤ t.length + 1 := by
  unfold twoStep; split
  · simp
  · split <;> simp
theorem twoStep_mem {t : List Int} {x y : Int} (h : y ∈ t) : y ∈ twoStep t x := by
  unfold twoStep; split
  · exact List.mem_cons_of_mem _ h
  · split
    · exact h
    · exact List.mem_append_left _ h
theorem two_fold (ns : List Int) : ∀ t : List Int, (ns.foldl twoStep t).length ≤ t.length + ns.length ∧ ∀ y ∈ t, y ∈ ns.foldl twoStep t := by
  induction ns with
  | nil => intro t; exact ⟨by simp, fun y h => h⟩
  | cons n ns ih =>
    intro t
    rw [List.foldl_cons]
    obtain ⟨h1, h2⟩ := ih (twoStep t n)
    refine ⟨?_, fun y h => h2 y (twoStep_mem h)⟩
    have := twoStep_len t n
    simp only [List.length_cons]
    (first | lia | omega)
theorem one_len (ns : List Int) : (oneOf ns).length ≤ ns.length := by
  induction ns with
  | nil => simp [oneOf]
  | cons n ns ih =>
    unfold oneOf at ih ⊢
    simp only [List.flatMap_cons, List.length_append, List.length_cons]
    have : (if n.fmod 4 = 2 then [] else [itemOf n]).length ≤ 1 := by split <;> simp
    (first | lia | omega)
theorem law_lists (ns : List Int) : (oneOf (1 :: 4 :: 8 :: 2 :: ns)).length ≤ ns.length + 4 ∧ (twoOf (1 :: 4 :: 8 :: 2 :: ns)).length ≤ ns.length + 4 ∧ runs3 (oneOf (1 :: 4 :: 8 :: 2 :: ns)) (twoOf (1 :: 4 :: 8 :: 2 :: ns)) ≠ [] := by
  refine ⟨by simpa using one_len (1 :: 4 :: 8 :: 2 :: ns), by simpa [twoOf] using (two_fold (1 :: 4 :: 8 :: 2 :: ns) []).1, ?_⟩
  have e1 : oneOf (1 :: 4 :: 8 :: 2 :: ns) = 0 :: 1 :: 2 :: oneOf ns := by rfl
  have e2 : (1 : Int) ∈ twoOf (1 :: 4 :: 8 :: 2 :: ns) := by
    have e3 : twoOf (1 :: 4 :: 8 :: 2 :: ns) = ns.foldl twoStep [1, 2, 0] := by rfl
    rw [e3]
    exact (two_fold ns [1, 2, 0]).2 1 (by simp)
  generalize twoOf (1 :: 4 :: 8 :: 2 :: ns) = two at e2
  rw [e1]
  generalize oneOf ns = rest
  obtain ⟨j, hj, hv⟩ := List.mem_iff_getElem.mp e2
  intro hno
  have hr : 0 < runAt (0 :: 1 :: 2 :: rest) two 1 j := by
    rw [run_step _ _ _ _ (by simp) hj, if_pos (by simp [hj, hv])]
    (first | lia | omega)
  have : (-((runAt (0 :: 1 :: 2 :: rest) two 1 j : Nat) : Int), ((1 : Nat) : Int), (j : Int)) ∈ runs3 (0 :: 1 :: 2 :: rest) two := by
    unfold runs3 run3At
    rw [List.mem_flatMap]
    refine ⟨1, by simp, ?_⟩
    rw [List.mem_flatMap]
    refine ⟨j, by simpa using hj, ?_⟩
    rw [if_pos hr]
    exact List.mem_singleton.mpr rfl
  rw [hno] at this
  cases this
theorem runs3_len (a b : List Int) : (runs3 a b).length ≤ a.length * b.length := by
  unfold runs3
  have row : ∀ (i : Nat) (js : List Nat), (js.flatMap fun j => run3At a b i j).length ≤ js.length := by
    intro i js
    induction js with
    | nil => simp
    | cons j js ih =>
      have : (run3At a b i j).length ≤ 1 := by unfold run3At; split <;> simp
      simp only [List.flatMap_cons, List.length_append, List.length_cons]
      (first | lia | omega)
  have rows : ∀ is : List Nat, (is.flatMap fun i => (List.range b.length).flatMap fun j => run3At a b i j).length ≤ is.length * b.length := by
    intro is
    induction is with
    | nil => simp
    | cons i is ih =>
      have := row i (List.range b.length)
      rw [List.length_range] at this
      simp only [List.flatMap_cons, List.length_append, List.length_cons, Nat.succ_mul]
      (first | lia | omega)
  simpa using rows (List.range a.length)
end Mine
end

/-! Tup -/
section
open PySem PySem.W PyProof.Rows
set_option Elab.async false
set_option maxRecDepth 100000
set_option maxHeartbeats 1000000
set_option linter.unusedVariables false
namespace Mine

open PySem.Calls PySem.Builtin PySem.Builtin.ObjectAttr PySem.Builtin.Getset_descriptor
/-! ## the class Match: its making, its facts -/
noncomputable def cd135 : ClassData := { name := "Match", bases := [.type "tuple"], mro := [.ref 135, .type "tuple", .type "object"], ns := 134, qualname := "Match", hasDict := false }
noncomputable def o135 : Obj := { cls := .type "type", dict := none, data := .cls cd135, slots := Array.mk [some (.ref 65), none, some (.str "Match" 253), some (.str "Match" 261), some (.none), some (.bool false)] }
theorem k135 (q : Params) : (K q).lookup 135 = some o135 := by kernel_rfl
theorem cls135 (q : Params) : clsIn (K q) 135 = some cd135 := by kernel_rfl
section
variable {w : World} {h : Heap} (X : (K w.params).In h)
include X
theorem mro135 : Looks (model P w) h (mroOf (.ref 135)) [.ref 135, .type "tuple", .type "object"] := (looks_clsIn X (cls135 _)).andThen .now
theorem made135 : Looks (model P w) h (Bind.madeBy (.ref 135)) none := by
  intro A Q E s k q
  unfold Bind.madeBy
  refine wpAny_bind (mro135 X A _ E s k ?_)
  rw [List.forIn_cons]
  refine wpAny_bind (wpAny_bind (wpAny_bind (wpAny_bind (wpAny_loadPart (k _ _ (X _ _ (k135 _))) (wpAny_pure ?_)))))
  dsimp only [o135]
  exact wpAny_pure (wpAny_pure (wpAny_pure q))
theorem base135 : Looks (model P w) h (Bind.staticBase (.ref 135)) (.type "tuple") := by
  intro A Q E s k q
  unfold Bind.staticBase
  refine wpAny_bind (mro135 X A _ E s k ?_)
  rw [List.forIn_cons]
  refine wpAny_bind (wpAny_bind (wpAny_bind (made135 X A _ E s k ?_)))
  refine wpAny_bind (looks_clsIn X (cls135 _) A _ E s k ?_)
  have e : Slots.bestBase cd135.bases = pure (.type "tuple") := by kernel_rfl
  refine wpAny_bind (wpAny_of_eq e (wpAny_pure ?_))
  dsimp only
  rw [List.forIn_cons]
  have e2 : Bind.madeBy (.type "tuple") = pure (some "tuple.__new__") := F.called_tuple.made
  refine wpAny_bind (wpAny_bind (wpAny_of_eq e2 ?_))
  exact wpAny_pure (wpAny_pure (wpAny_pure q))
theorem here135 : Looks (model P w) h (Bind.madeHere "tuple.__new__" (.ref 135)) () := by
  unfold Bind.madeHere
  refine (base135 X).andThen ?_
  have e2 : Bind.madeBy (.type "tuple") = pure (some "tuple.__new__") := F.called_tuple.made
  rw [e2]
  refine Looks.of_pure ?_
  kernel_rfl
theorem sub135t : Looks (model P w) h (isSubtype (.ref 135) (.type "tuple")) true := looks_mroIn X (by kernel_rfl)
theorem sub135 : Looks (model P w) h (isSubtype (.ref 135) (.ref 135)) true := looks_mroIn X (by kernel_rfl)
theorem sub135o : Looks (model P w) h (isSubtype (.ref 135) (.type "object")) true := looks_mroIn X (by kernel_rfl)
theorem type135 : Looks (model P w) h (isType (.ref 135)) true := by
  intro A Q E s k q
  show wpAny _ _ (loadHead 135 >>= fun o => pure (match o.data with | .cls _ => true | _ => false)) _ _ _
  exact wpAny_bind (wpAny_bind (wpAny_loadPart (k _ _ (X _ _ (k135 _))) (wpAny_pure (wpAny_pure q))))
theorem init135 : Looks (model P w) h (typeLookup (.ref 135) "__init__") (some (.builtin "object.__init__")) := looks_findIn X (by kernel_rfl)
end
section
variable {w : World} {A : Around} {E : Value → Shared → Prop} {s : Shared}
/-- collect of a plain tuple, of a list -/
theorem collect_seq {l : Addr} {o : Obj} {vs : Array Value} {n : Nat} {Q : List Value → Shared → Prop} (ho : s.heap.get? l = some o) (hc : o.cls = .type "list" ∨ o.cls = .type "tuple") (hd : o.data = .seq vs n) (hsz : vs.size ≤ 1000000)
    (h : Q vs.toList { s with heap := (s.heap.push (seqObj "list" #[] 0)).update s.heap.objs.size (Obj.mapSeq (· ++ vs)) }) : wpAny (model P w) A (collect (.ref l)) Q E s := by
  unfold collect
  refine wpAny_bind (wpAny_runValue (codeAny_builtin entry_proto_collect' ?_))
  show wpAny _ _ (do again (.builtin "list.__iadd__" ⟨[← newList [], .ref l], []⟩)) _ _ s
  refine wpAny_bind (wpAny_newList (wpAny_pure ⟨Code.quiet_builtin _ (by decide +kernel), codeAny_builtin entry_list_iadd' ?_⟩))
  show wpAny _ _ (Builtin.List.listExtendWith (.ref s.heap.objs.size) (.ref l) (.ref s.heap.objs.size)) _ _ { s with heap := s.heap.push (seqObj "list" #[] 0) }
  unfold Builtin.List.listExtendWith
  have ho' : (s.heap.push (seqObj "list" #[] 0)).get? l = some o := Heap.get?_push_of_some _ ho
  have fin : wpAny (model P w) A (do
      let o ← load s.heap.objs.size
      match o.data with
      | .seq xs _ => pure xs.toList
      | _ => unsupported "internal:collect") Q E { s with heap := (s.heap.push (seqObj "list" #[] 0)).update s.heap.objs.size (Obj.mapSeq (· ++ vs)) } := by
    refine wpAny_bind (wpAny_load (get?_update_seq (Heap.get?_push_size _ rfl) _) ?_)
    show wpAny _ _ (pure ((#[] : Array Value) ++ vs).toList) Q E _
    rw [show ((#[] : Array Value) ++ vs).toList = vs.toList by simp]
    exact wpAny_pure h
  have go : ∀ (A : Around) (P' : PySem.Fin → Shared → Prop) (E' : Value → Shared → Prop), P' (.done (.ret (.ref s.heap.objs.size))) { s with heap := (s.heap.push (seqObj "list" #[] 0)).update s.heap.objs.size (Obj.mapSeq (· ++ vs)) } →
      wpAny (model P w) A (do
        let xs ← Builtin.List.listItems (.ref l)
        let mine ← Builtin.List.listItems (.ref s.heap.objs.size)
        if !mine.isEmpty && Builtin.List.listTooLong (mine.size + xs.size) then unsupported "list.extend:memory"
        Builtin.List.listUpdate (.ref s.heap.objs.size) (· ++ xs)
        return ← ret (.ref s.heap.objs.size)) P' E' { s with heap := s.heap.push (seqObj "list" #[] 0) } := by
    intro A P' E' hp
    refine wpAny_bind (listItems_at ho' hd ?_)
    refine wpAny_bind (listItems_at (xs := #[]) (n := 0) (Heap.get?_push_size _ rfl) rfl ?_)
    rw [if_neg (by simp)]
    refine wpAny_bind (listUpdate_at (xs := #[]) (n := 0) (Heap.get?_push_size _ rfl) rfl ?_ (Nat.zero_le _) (by show (#[] ++ vs).size ≤ sizeLine + 1; simp only [Array.size_append, List.size_toArray, List.length_nil]; unfold sizeLine; omega))
    exact wpAny_pure hp
  rcases hc with hc | hc
  · refine wpAny_bind (wpAny_typeOf (T := "list") ⟨o, ho', hc⟩ ?_)
    rw [if_pos (by rw [show (Value.type "list" == Value.type "list") = true by rfl]; simp)]
    exact go _ _ _ fin
  · refine wpAny_bind (wpAny_typeOf (T := "tuple") ⟨o, ho', hc⟩ ?_)
    rw [if_pos (by rw [show (Value.type "tuple" == Value.type "tuple") = true by rfl]; simp)]
    exact go _ _ _ fin
theorem newMatch {d : Option Addr} {vs : Array Value} {Q : Value → Shared → Prop} (X : (K w.params).In s.heap) (hsz : vs.size ≤ 1000000) (h : Q (.ref s.heap.objs.size) { s with heap := s.heap.push (tupO true vs (0, d)) }) :
    wpAny (model P w) A (newObj (.ref 135) (.seq vs) d) Q E s := by
  unfold newObj
  dsimp only
  rw [if_neg (by unfold sizeLine; omega)]
  try refine wpAny_bind (wpAny_pure ?_)
  unfold newObjAsIs classHasDel
  refine wpAny_bind (wpAny_alloc (wpAny_bind (wpAny_bind (wpAny_load (Heap.get?_push_of_some _ (X _ _ (k135 _))) (wpAny_pure ?_)))))
  exact wpAny_pure h
theorem tnew_body {t : Addr} {o : Obj} {vs : Array Value} {n : Nat} {R : Value → Shared → Prop} (X : (K w.params).In s.heap) (ho : s.heap.get? t = some o) (hc : o.cls = .type "list" ∨ o.cls = .type "tuple") (hd : o.data = .seq vs n) (hsz : vs.size ≤ 1000000)
    (h : ∀ (h' : Heap) d, (∀ b x, s.heap.get? b = some x → h'.get? b = some x) → s.heap.objs.size ≤ h'.objs.size → R (.ref h'.objs.size) { s with heap := h'.push (tupO true vs (0, d)) }) :
    wpAny (model P w) A (Builtin.«tuple.__new__» ⟨[.ref 135, .ref t], []⟩) (fun fin s' => ∃ v, fin = .done (.ret v) ∧ R v s') E s := by
  have l1 := type135 X
  have l2 := sub135t X
  have l3 := here135 X
  have l4 := init135 X
  obtain ⟨hh, g, dd, tk, os⟩ := s
  unfold Builtin.«tuple.__new__»
  refine wpAny_bind (l1.at ?_)
  refine wpAny_bind (l2.at ?_)
  refine wpAny_bind (l3.at ?_)
  refine wpAny_bind (l4.at ?_)
  refine wpAny_bind (wpAny_pure ?_)
  dsimp only at ho X h ⊢
  refine wpAny_bind (m := PySem.checkCount "tuple" 0 1 1) (wpAny_pure ?_)
  rw [if_neg (by decide)]
  have keep : ∀ b x, hh.get? b = some x → ((hh.push (seqObj "list" #[] 0)).update hh.objs.size (Obj.mapSeq (· ++ vs))).get? b = some x := fun b x e =>
    (Heap.get?_update_ne _ _ _ _ (Nat.ne_of_lt (Heap.lt_size e))).trans (Heap.get?_push_of_some _ e)
  have keep2 : ∀ b x, hh.get? b = some x → (((hh.push (seqObj "list" #[] 0)).update hh.objs.size (Obj.mapSeq (· ++ vs))).push { cls := .type "dict", data := .dict #[] }).get? b = some x := fun b x e => Heap.get?_push_of_some _ (keep b x e)
  refine wpAny_bind (collect_seq ho hc hd hsz ?_)
  refine wpAny_bind (wpAny_pure ?_)
  refine wpAny_bind (wpAny_alloc ?_)
  refine wpAny_bind (newMatch (fun a o e => keep2 a o (X a o e)) (by simpa using hsz) ?_)
  refine wpAny_pure ⟨_, rfl, ?_⟩
  have := h (((hh.push (seqObj "list" #[] 0)).update hh.objs.size (Obj.mapSeq (· ++ vs))).push { cls := .type "dict", data := .dict #[] }) (some ((hh.push (seqObj "list" #[] 0)).update hh.objs.size (Obj.mapSeq (· ++ vs))).objs.size) keep2 (by rw [Heap.size_push, Heap.size_update, Heap.size_push]; omega)
  simpa using this
end
theorem kTN : builtinKind "tuple.__new__" = some .builtinFn := by decide +kernel
theorem spTN : splitId "tuple.__new__" = some ("tuple", "__new__") := by decide +kernel
noncomputable def sgTN : Option Manifest.Signature := Manifest.signature? "tuple.__new__"
theorem call_tnew {w : World} {A : Around} {s : Shared} {t : Addr} {o : Obj} {vs : Array Value} {n : Nat} {R : Result → Shared → Prop} (X : (K w.params).In s.heap) (ho : s.heap.get? t = some o) (hc : o.cls = .type "list" ∨ o.cls = .type "tuple") (hd : o.data = .seq vs n) (hsz : vs.size ≤ 1000000)
    (h : ∀ (h' : Heap) d, (∀ b x, s.heap.get? b = some x → h'.get? b = some x) → s.heap.objs.size ≤ h'.objs.size → R (.ok (.ret (.ref h'.objs.size))) { s with heap := h'.push (tupO true vs (0, d)) }) :
    codeAny (model P w) A (.call (.builtin "tuple.__new__") ⟨[.ref 135, .ref t], []⟩) R s := by
  refine codeAny_call_builtin_code (Code.quiet_builtin _ (by decide +kernel)) ?_
  have body : codeAny (model P w) A (.builtin "tuple.__new__" ⟨[.ref 135, .ref t], []⟩) R s := by
    refine codeAny_builtin F.entry_tuple_new (wpAny_mono (tnew_body (R := fun v s' => R (.ok (.ret v)) s') (E := fun _ _ => False) X ho hc hd hsz h) (fun fin s' hh => ?_) fun _ _ x => x.elim)
    obtain ⟨v, rfl, hv⟩ := hh
    exact hv
  have l1 := type135 X
  have l2 := sub135t X
  have l3 := base135 X
  have e2 : Bind.madeBy (.type "tuple") = pure (some "tuple.__new__") := F.called_tuple.made
  obtain ⟨hh, g, dd, tk, os⟩ := s
  simp only [checkBuiltinCall, kTN, spTN]
  rw [if_pos (by decide)]
  refine wpAny_bind (l1.at ?_)
  simp only [Bool.not_true, Bool.false_eq_true, if_false]
  refine wpAny_bind (l2.at ?_)
  simp only [Bool.not_true, Bool.false_eq_true, if_false]
  refine wpAny_bind (l3.at ?_)
  rw [e2]
  refine wpAny_bind (wpAny_pure ?_)
  simp only [bne_self_eq_false, Bool.false_eq_true, if_false]
  have args : (match Manifest.signature? "tuple.__new__" with
    | some sig => Bind.checkArgs "tuple.__new__" sig { pos := [Value.ref 135, Value.ref t] }
    | _ => pure ()) = pure () := by kernel_rfl
  exact wpAny_of_eq args body
end Mine
end

/-! Mat -/
section
open PySem PySem.W PyProof.Rows
set_option Elab.async false
set_option maxRecDepth 100000
set_option maxHeartbeats 1000000
set_option linter.unusedVariables false
namespace Mine

open PySem.Calls PySem.Builtin PySem.Builtin.ObjectAttr PySem.Builtin.Getset_descriptor
section
variable {z : Z} {ms : MS} {env : Env} {pos : Pos} {Q : MV → MS → Prop}
theorem c_tnew {ds : List MV} (hn : ds.length ≤ 1000) (q : Q (.tup true ds) ms) : CallV z (.builtin "tuple.__new__") [.obj 135, .tup false ds] ms Q := by
  intro us s ok sh rs
  obtain ⟨u1, r1, rfl, v1, rs⟩ := vrs_cons.mp rs
  obtain ⟨u2, r2, rfl, v2, rs⟩ := vrs_cons.mp rs
  obtain rfl := vrs_nil.mp rs
  obtain rfl := vr_obj.mp v1
  obtain ⟨t, items, n, rfl, e, vr⟩ := vr_tup.mp v2
  refine wpAny_call (call_tnew sh.keepIn e (.inr rfl) rfl (by rw [arr_len vr]; omega) fun h' d keep le => ?_)
  have k1 : Keep s.heap (h'.push (tupO true items (0, d))) := (Keep.of_all keep).trans (Keep.push _ _)
  have sh1 : SH z ms (h'.push (tupO true items (0, d))) := sh.grow k1 fun a o x => Heap.get?_push_of_some _ (keep a o x)
  exact post_at (s := { s with heap := h'.push (tupO true items (0, d)) }) ok k1 sh1 (vr_tup.mpr ⟨_, items, (0, d), rfl, Heap.get?_push_size _ rfl, vr.keep k1⟩) q
theorem opaque_tuple {w : World} {h : Heap} : Looks (model P w) h (opaqueClassAbove (.type "tuple")) none := Looks.of_pure (by kernel_rfl)
theorem get_tnew {w : World} {A : Around} {E : Value → Shared → Prop} {s : Shared} {pl : Sem Bool} {R : Value × List Value → Shared → Prop} (X : (K w.params).In s.heap) (h : R (.builtin "tuple.__new__", []) { s with toks := s.toks + 1 }) :
    wpAny (model P w) A (getMethod (.type "tuple") "__new__" pl) R E s := by
  unfold getMethod
  have e1 : specialOf (.type "tuple") "__getattribute__" = pure (some (.builtin "type.__getattribute__")) := by kernel_rfl
  refine wpAny_bind (wpAny_of_eq e1 ?_)
  dsimp only
  rw [if_pos canon_tga]
  refine wpAny_bind (wpAny_mono (Q := fun v s' => R (v, []) s') ?_ (fun _ _ z => wpAny_pure z) fun _ _ z => z)
  refine cls_open (r := .val (.builtin "tuple.__new__")) (mc := .type "type") (hook := none) X opaque_tuple (Looks.of_pure (by kernel_rfl)) (by kernel_rfl) (looks_hook X (by kernel_rfl)) (by kernel_rfl) (by kernel_rfl) ?_
  refine wpAny_pure ?_
  show wpAny _ _ (handedOut _) _ _ _
  rw [handedOut_of (by kernel_rfl)]
  exact wpAny_pure h
theorem e_tnew {p apos : Pos} {e : Expr} {rest : List Expr} (hn : WV z (eval (.Name "tuple" p) env) ms fun d ms₁ => d = .raw (.type "tuple") ∧ ms₁ = ms) (hbase : attributeBase (.Name "tuple" p) "__new__" env (eval (.Name "tuple" p) env) = eval (.Name "tuple" p) env)
    (hfew : ((backTo pos (starEach (e :: rest) env)).all (fun x => !x.1) && (backToKw pos (keywordEach [] env)).all (fun x => x.1.isSome) && decide ((e :: rest).length + ([] : List Keyword).length + (if ([] : List Keyword).isEmpty then 0 else 1) < 30)) = true)
    (hline : (apos.endLine == pos.line) = true) (he : starEach (e :: rest) env = (false, eval e env) :: starEach rest env) (hp : (backTo pos (starEach rest env)).any (·.1) = false)
    (h : WVs z (spliced (backTo pos (starEach (e :: rest) env))) ms fun ds ms₁ => CallV z (.builtin "tuple.__new__") ds ms₁ Q) : WV z (eval (.Call (.Attribute (.Name "tuple" p) "__new__" apos) (e :: rest) [] pos) env) ms Q := by
  intro s ok sh
  rw [arm_eval_Call, hbase]
  refine wpAny_bind (hn.run (R' := VR) ok sh fun u d ms₁ s₁ ok₁ k₁ sh₁ ru ⟨hd, hm⟩ => ?_)
  subst hd hm
  obtain rfl := vr_raw.mp ru
  refine wpAny_bind (wpAny_standAt ?_)
  have hform : methodCallForm ((e :: rest).length + ([] : List Keyword).length) (backTo pos (starEach (e :: rest) env)) (backToKw pos (keywordEach [] env)) = true := hfew
  have hpos : methodCallPos true (.Name "tuple" p) env apos pos = pure pos := by unfold methodCallPos; simp [hline]
  unfold methodCall
  rw [hform]
  refine wpAny_bind (wpAny_holding (get_tnew sh₁.keepIn ?_))
  refine wpAny_bind (wpAny_of_eq hpos ?_)
  have ok2 : Ok z { s₁ with toks := s₁.toks + 1 } := ok₁
  have hk : keywordEach [] env = [] := rfl
  rw [he] at h ⊢
  exact wp_post (callW (s := { s₁ with toks := s₁.toks + 1 }) (first := []) (plain_builtin _) hp h ok2 sh₁ (vrs_nil.mpr rfl)) k₁ fun _ _ x => x
theorem new82_ok {d1 d2 d3 : MV} (hr : Rm z 1) (q : Q (.tup true [d1, d2, d3]) ms) : CallV z (.ref 82) [.obj 135, d1, d2, d3] ms Q := by
  refine c82 hr fun z' L' hw he hr' => ?_
  refine s_cons ?_
  refine s_doc he.hi ?_
  refine s_cons ?_
  refine s_return ?_
  refine e_tnew (name_b he (by rfl) (by rfl) (by kernel_rfl) (by kernel_rfl) (by decide) ⟨rfl, rfl⟩) (by rfl) (by rfl) (by rfl) (by rfl) (by rfl) ?_
  refine args_cons (by rfl) ?_
  refine name_l he (by rfl) (by rfl) (rfl) ?_
  refine args_cons (by rfl) ?_
  refine e_tuple ?_
  refine args_cons (by rfl) ?_
  refine name_l he (by rfl) (by rfl) (rfl) ?_
  refine args_cons (by rfl) ?_
  refine name_l he (by rfl) (by rfl) (rfl) ?_
  refine args_cons (by rfl) ?_
  refine name_l he (by rfl) (by rfl) (rfl) ?_
  refine args_nil ?_
  refine ⟨by simp [sizeLine], ?_⟩
  refine args_nil ?_
  exact c_tnew (by simp) q
end
theorem rm_u {z : Z} {c : Code} {hf} {k : Nat} (r : Rm z (k + 5)) (hd : (zU z c hf).A.depth ≤ z.A.depth + 1) (hu : (zU z c hf).A.units ≤ z.A.units + 10) : Rm (zU z c hf) k := by
  obtain ⟨r1, r2⟩ := r
  exact ⟨by omega, by omega⟩
theorem oi_kind : builtinKind "object.__init__" = some .slot := by decide +kernel
theorem oi_split : splitId "object.__init__" = some ("object", "__init__") := by decide +kernel
theorem oi_plain : plainId "object.__init__" = true := by decide +kernel
theorem oi_args (a b c d : Value) : argsOk "object.__init__" ⟨[a, b, c, d], []⟩ := by
  unfold argsOk; rw [signature?_of (id := "object.__init__") (n := ['_', '_', 't', 'i', 'n', 'i', '_', '_']) (o := ['t', 'c', 'e', 'j', 'b', 'o']) (by kernel_rfl) PySem.F.owner_object]; kernel_rfl
theorem oinit {w : World} {A : Around} {E : Value → Shared → Prop} {s : Shared} {a : Addr} {o : Obj} {u1 u2 u3 : Value} {R : Value → Shared → Prop} (X : (K w.params).In s.heap) (ho : s.heap.get? a = some o) (hc : o.cls = .ref 135) (h : R .none s) :
    wpAny (model P w) A (call (.builtin "object.__init__") [.ref a, u1, u2, u3]) R E s := by
  have lt : Looks (model P w) s.heap (typeOf (.ref a)) (.ref 135) := by
    have := (Looks.ld (M := model P w) (part := some headPart) ho).andThen (f := fun o => pure o.cls) .now
    rwa [hc] at this
  have li : Looks (model P w) s.heap (isInstance (.ref a) (.type "object")) true := lt.andThen (sub135o X)
  have ini := init135 X
  have made := made135 X
  refine wpAny_call (codeAny_call_builtin oi_plain F.entry_object_init (check_slot (i := "object.__init__") (owner := "object") (n := "__init__") (self := .ref a) (rest := [u1, u2, u3]) (kw := []) oi_kind oi_split li (oi_args _ _ _ _) ?_))
  obtain ⟨hh, g, dd, tk, os⟩ := s
  unfold Builtin.«object.__init__»
  dsimp only
  rw [if_pos (by rfl)]
  refine wpAny_bind (lt.at ?_)
  refine wpAny_bind (ini.at ?_)
  dsimp only
  refine wpAny_bind (made.at ?_)
  rw [if_neg (by simp), if_neg (by simp)]
  exact wpAny_pure h
section
variable {z : Z} {ms : MS} {env : Env} {pos : Pos} {Q : MV → MS → Prop}
theorem c_match {d1 d2 d3 : MV} (hr : Rm z 8) (q : Q (.tup true [d1, d2, d3]) ms) : CallV z (.ref 135) [d1, d2, d3] ms Q := by
  intro us s ok sh rs
  have X := sh.keepIn
  have Lcall : Looks (model P z.w) s.heap (specialOf (.ref 135) "__call__") (some (.builtin "type.__call__")) := looks_specialIn X (by kernel_rfl)
  have typ : Looks (model P z.w) s.heap (isInstance (.ref 135) (.type "type")) true := looks_instIn X (by kernel_rfl)
  have hm := mro135 X
  have made := made135 X
  have hC := X 135 _ (k135 _)
  have hf : ∃ l, (z.A.under (.builtin "type.__call__" ⟨.ref 135 :: us, []⟩)).frames = some l := by
    obtain ⟨l, e⟩ := z.fs
    exact ⟨l, by show pushEnvs [] z.A.frames = _; rw [e]; rfl⟩
  have inner := new82_ok (z := zU z (.builtin "type.__call__" ⟨.ref 135 :: us, []⟩) hf) (d1 := d1) (d2 := d2) (d3 := d3) (ms := ms) (Q := fun d ms' => (∃ ds, d = .tup true ds) ∧ Q d ms') (rm_u (k := 1) (hr.less (by omega)) (Nat.le_refl _) (Nat.add_le_add_left (Nat.le_of_ble_eq_true (show Nat.ble (Code.cUnits (.builtin "type.__call__" ⟨.ref 135 :: us, []⟩)) 10 = true by kernel_rfl)) _)) ⟨⟨_, rfl⟩, q⟩
  obtain ⟨hh, g, dd, tk, os⟩ := s
  refine wpAny_call (codeAny_of_tree ?_)
  show wpAny _ _ (callAny (.ref 135) _) _ _ _
  refine nd_load hC ?_
  show wpAny _ _ (callAny.viaDunder (.ref 135) _) _ _ _
  unfold callAny.viaDunder
  refine wpAny_bind (Lcall.at ?_)
  dsimp only
  rw [tc_bind]
  refine wpAny_bind (wpAny_pure (wpAny_bind (wpAny_pure ?_)))
  refine wpAny_pure (a := Fin.again (.call (.builtin "type.__call__") ⟨.ref 135 :: us, []⟩)) (And.intro rfl ?_)
  refine codeAny_call_builtin_at (Code.quiet_builtin _ (by decide +kernel)) entry_typeCall (check_slot (i := "type.__call__") (owner := "type") (n := "__call__") (self := .ref 135) (rest := us) (kw := []) tc_kind tc_split typ (tc_args _ _ _) ?_)
  unfold Builtin.«type.__call__»
  dsimp only
  show wpAny _ _ (if false = true then _ else _) _ _ _
  rw [if_neg Bool.false_ne_true]
  refine wpAny_bind (hm.at ?_)
  show wpAny _ _ (if false = true then _ else _) _ _ _
  rw [if_neg Bool.false_ne_true]
  refine wpAny_bind (made.at ?_)
  dsimp only
  refine wpAny_bind (cls_bind (g := .builtin "staticmethod.__get__") (a := .ref 136) (obj := .none) (tp := .ref 135) (mc := .type "type") X (by kernel_rfl) (by kernel_rfl) ?_)
  refine wpAny_call (sm_get (f := .ref 82) (rest := []) X (by kernel_rfl) ?_)
  show wpAny _ _ (handedOut (.ref 82)) _ _ _
  rw [handedOut_of (by kernel_rfl)]
  refine wpAny_pure ?_
  have sh' : SH (zU z (.builtin "type.__call__" ⟨.ref 135 :: us, []⟩) hf) ms hh := sh_u.mpr sh
  refine wpAny_bind (wpAny_holding (wpAny_mono (inner (.ref 135 :: us) ⟨hh, g, dd, tk + 1, os⟩ ok sh' (vrs_cons.mpr ⟨_, _, rfl, vr_obj.mpr rfl, rs⟩)) (fun v s₂ p => ?_) fun _ _ x => x.elim))
  obtain ⟨ok₂, k₂, d, ms₂, sh₂, rv, ⟨ds, rfl⟩, q₂⟩ := p
  obtain ⟨a, items, n, rfl, ea, vr⟩ := vr_tup.mp rv
  have X₂ := sh₂.keepIn
  have lt : Looks (model P z.w) s₂.heap (typeOf (.ref a)) (.ref 135) := (Looks.ld ea).andThen .now
  have li : Looks (model P z.w) s₂.heap (isInstance (.ref a) (.ref 135)) true := lt.andThen (sub135 X₂)
  have fin : Post z VR hh Q (.ref a) s₂ := post_at (d := MV.tup true ds) ok₂ k₂ (sh_u.mp sh₂) rv q₂
  have ini := init135 X₂
  obtain ⟨u1, r1, rfl, v1, rs⟩ := vrs_cons.mp rs
  obtain ⟨u2, r2, rfl, v2, rs⟩ := vrs_cons.mp rs
  obtain ⟨u3, r3, rfl, v3, rs⟩ := vrs_cons.mp rs
  obtain rfl := vrs_nil.mp rs
  have oi := oinit (A := z.A.under (.builtin "type.__call__" ⟨[.ref 135, u1, u2, u3], []⟩)) (E := fun _ _ => False) (u1 := u1) (u2 := u2) (u3 := u3) (R := fun v s' => v = .none ∧ s' = s₂) X₂ ea rfl ⟨rfl, rfl⟩
  obtain ⟨hh2, g2, dd2, tk2, os2⟩ := s₂
  refine wpAny_bind (li.at ?_)
  show wpAny _ _ (if false = true then _ else _) _ _ _
  rw [if_neg Bool.false_ne_true]
  refine wpAny_bind (wpAny_holding ?_)
  unfold callSpecial? specialOf
  refine wpAny_bind (wpAny_bind (lt.at (ini.at ?_)))
  dsimp only
  refine wpAny_holding (wpAny_bind (wpAny_of_eq (oi_bind (.ref a)) (wpAny_bind ?_)))
  refine wpAny_mono oi (fun v s' hh' => ?_) fun _ _ x => x.elim
  obtain ⟨rfl, rfl⟩ := hh'
  refine wpAny_pure ?_
  dsimp only
  show wpAny _ _ (if false = true then _ else _) _ _ _
  rw [if_neg Bool.false_ne_true]
  exact wpAny_pure fin
end
end Mine
end

/-! FlmB -/
section
open PySem PySem.W PyProof.Rows
set_option Elab.async false
set_option maxRecDepth 100000
set_option maxHeartbeats 1000000
set_option linter.unusedVariables false
namespace Mine

noncomputable def fW (n : Nat) : Stmt := ((bodyOf (meth 5 6))[n]?).getD (.Pass ⟨0,0,0,0⟩)
structure FlE (ms : MS) (al bl jj : Addr) (a b : List Int) (alo ahi blo bhi i j k : Nat) : Prop where
  va : ms.loc "a" = some (.obj al)
  vb : ms.loc "b" = some (.obj bl)
  vj : ms.loc "isbjunk" = some (.bm "set.__contains__" jj)
  valo : ms.loc "alo" = some (.int alo)
  vahi : ms.loc "ahi" = some (.int ahi)
  vblo : ms.loc "blo" = some (.int blo)
  vbhi : ms.loc "bhi" = some (.int bhi)
  v1 : ms.loc "besti" = some (.int i)
  v2 : ms.loc "bestj" = some (.int j)
  v3 : ms.loc "bestsize" = some (.int k)
  ha : ms.sto al = some (il a)
  hb : ms.sto bl = some (il b)
  hj : ms.sto jj = some .set0
  na : a.length ≤ 100
  nb : b.length ≤ 100
  o2 : ahi ≤ a.length
  o4 : bhi ≤ b.length
  p1 : alo ≤ i
  p2 : i + k ≤ ahi
  p3 : blo ≤ j
  p4 : j + k ≤ bhi
  sl : alo < i → blo < j → a.getD (i - 1) 0 ≠ b.getD (j - 1) 0
  sr : i + k < ahi → j + k < bhi → a.getD (i + k) 0 ≠ b.getD (j + k) 0
section
variable {z : Z} {ms : MS} {L al bl jj : Addr} {a b : List Int} {alo ahi blo bhi i j k : Nat} {Q : MF → MS → Prop}
theorem fl_w1 (he : EnvOk z (E196 L)) (S : FlE ms al bl jj a b alo ahi blo bhi i j k) (q : Q .next ms) : WhileN z (E196 L) (forTest (fW 8)) (forBody (fW 8)) (0 + 1) ms Q := by
  have o2 := S.o2; have o4 := S.o4; have p2 := S.p2; have p4 := S.p4; have na := S.na; have nb := S.nb
  refine test_bool ?_
  refine and_cons ?_
  refine test_cmp (by rfl) ?_
  refine name_l he (by rfl) (by rfl) (S.v1) ?_
  refine name_l he (by rfl) (by rfl) (S.valo) ?_
  refine op_gt ?_
  refine tr_bool ?_
  by_cases c1 : alo < i
  · refine (if_pos (by simp; omega)).mpr ?_
    refine and_cons ?_
    refine test_cmp (by rfl) ?_
    refine name_l he (by rfl) (by rfl) (S.v2) ?_
    refine name_l he (by rfl) (by rfl) (S.vblo) ?_
    refine op_gt ?_
    refine tr_bool ?_
    by_cases c2 : blo < j
    · refine (if_pos (by simp; omega)).mpr ?_
      refine and_cons ?_
      refine test_not ?_
      refine test_val (by rfl) ?_
      refine e_callbm (id := "set.__contains__") (a := jj) (name_l he (by rfl) (by rfl) S.vj ⟨rfl, rfl⟩) (by rfl) (by rfl) ?_
      refine args_cons (by rfl) ?_
      refine e_sub ?_
      refine name_l he (by rfl) (by rfl) (S.vb) ?_
      refine binop ?_
      refine name_l he (by rfl) (by rfl) (S.v2) ?_
      refine const_int ?_
      refine op_sub ?_
      rw [show (j : Int) - 1 = ((j - 1 : Nat) : Int) by omega]
      refine sub_list S.hb (by omega) (by omega) (il_get (by omega)) ⟨fun _ _ _ => rfl, fun _ _ => rfl⟩ ?_
      refine args_nil ?_
      refine bm_scon S.hj ?_
      refine tr_bool ?_
      refine (if_pos (by rfl)).mpr ?_
      refine and_cons ?_
      refine test_cmp (by rfl) ?_
      refine e_sub ?_
      refine name_l he (by rfl) (by rfl) (S.va) ?_
      refine binop ?_
      refine name_l he (by rfl) (by rfl) (S.v1) ?_
      refine const_int ?_
      refine op_sub ?_
      rw [show (i : Int) - 1 = ((i - 1 : Nat) : Int) by omega]
      refine sub_list S.ha (by omega) (by omega) (il_get (by omega)) ⟨fun _ _ _ => rfl, fun _ _ => rfl⟩ ?_
      refine e_sub ?_
      refine name_l he (by rfl) (by rfl) (S.vb) ?_
      refine binop ?_
      refine name_l he (by rfl) (by rfl) (S.v2) ?_
      refine const_int ?_
      refine op_sub ?_
      rw [show (j : Int) - 1 = ((j - 1 : Nat) : Int) by omega]
      refine sub_list S.hb (by omega) (by omega) (il_get (by omega)) ⟨fun _ _ _ => rfl, fun _ _ => rfl⟩ ?_
      rw [Int.toNat_natCast, Int.toNat_natCast]
      refine op_eq ?_
      refine tr_bool ?_
      refine (if_neg (by simpa using S.sl c1 c2)).mpr ?_
      exact (if_neg (by decide)).mpr q
    · refine (if_neg (by simp; omega)).mpr ?_
      exact (if_neg (by decide)).mpr q
  · refine (if_neg (by simp; omega)).mpr ?_
    exact (if_neg (by decide)).mpr q
theorem fl_w2 (he : EnvOk z (E196 L)) (S : FlE ms al bl jj a b alo ahi blo bhi i j k) (q : Q .next ms) : WhileN z (E196 L) (forTest (fW 9)) (forBody (fW 9)) (0 + 1) ms Q := by
  have o2 := S.o2; have o4 := S.o4; have p2 := S.p2; have p4 := S.p4; have na := S.na; have nb := S.nb
  refine test_bool ?_
  refine and_cons ?_
  refine test_cmp (by rfl) ?_
  refine binop ?_
  refine name_l he (by rfl) (by rfl) (S.v1) ?_
  refine name_l he (by rfl) (by rfl) (S.v3) ?_
  refine op_add ?_
  refine name_l he (by rfl) (by rfl) (S.vahi) ?_
  refine op_lt ?_
  refine tr_bool ?_
  by_cases c1 : i + k < ahi
  · refine (if_pos (by simp; omega)).mpr ?_
    refine and_cons ?_
    refine test_cmp (by rfl) ?_
    refine binop ?_
    refine name_l he (by rfl) (by rfl) (S.v2) ?_
    refine name_l he (by rfl) (by rfl) (S.v3) ?_
    refine op_add ?_
    refine name_l he (by rfl) (by rfl) (S.vbhi) ?_
    refine op_lt ?_
    refine tr_bool ?_
    by_cases c2 : j + k < bhi
    · refine (if_pos (by simp; omega)).mpr ?_
      refine and_cons ?_
      refine test_not ?_
      refine test_val (by rfl) ?_
      refine e_callbm (id := "set.__contains__") (a := jj) (name_l he (by rfl) (by rfl) S.vj ⟨rfl, rfl⟩) (by rfl) (by rfl) ?_
      refine args_cons (by rfl) ?_
      refine e_sub ?_
      refine name_l he (by rfl) (by rfl) (S.vb) ?_
      refine binop ?_
      refine name_l he (by rfl) (by rfl) (S.v2) ?_
      refine name_l he (by rfl) (by rfl) (S.v3) ?_
      refine op_add ?_
      rw [show (j : Int) + k = ((j + k : Nat) : Int) by omega]
      refine sub_list S.hb (by omega) (by omega) (il_get (by omega)) ⟨fun _ _ _ => rfl, fun _ _ => rfl⟩ ?_
      refine args_nil ?_
      refine bm_scon S.hj ?_
      refine tr_bool ?_
      refine (if_pos (by rfl)).mpr ?_
      refine and_cons ?_
      refine test_cmp (by rfl) ?_
      refine e_sub ?_
      refine name_l he (by rfl) (by rfl) (S.va) ?_
      refine binop ?_
      refine name_l he (by rfl) (by rfl) (S.v1) ?_
      refine name_l he (by rfl) (by rfl) (S.v3) ?_
      refine op_add ?_
      rw [show (i : Int) + k = ((i + k : Nat) : Int) by omega]
      refine sub_list S.ha (by omega) (by omega) (il_get (by omega)) ⟨fun _ _ _ => rfl, fun _ _ => rfl⟩ ?_
      refine e_sub ?_
      refine name_l he (by rfl) (by rfl) (S.vb) ?_
      refine binop ?_
      refine name_l he (by rfl) (by rfl) (S.v2) ?_
      refine name_l he (by rfl) (by rfl) (S.v3) ?_
      refine op_add ?_
      rw [show (j : Int) + k = ((j + k : Nat) : Int) by omega]
      refine sub_list S.hb (by omega) (by omega) (il_get (by omega)) ⟨fun _ _ _ => rfl, fun _ _ => rfl⟩ ?_
      rw [Int.toNat_natCast, Int.toNat_natCast]
      refine op_eq ?_
      refine tr_bool ?_
      refine (if_neg (by simpa using S.sr c1 c2)).mpr ?_
      exact (if_neg (by decide)).mpr q
    · refine (if_neg (by simp; omega)).mpr ?_
      exact (if_neg (by decide)).mpr q
  · refine (if_neg (by simp; omega)).mpr ?_
    exact (if_neg (by decide)).mpr q
theorem fl_w3 (he : EnvOk z (E196 L)) (S : FlE ms al bl jj a b alo ahi blo bhi i j k) (q : Q .next ms) : WhileN z (E196 L) (forTest (fW 10)) (forBody (fW 10)) (0 + 1) ms Q := by
  have o2 := S.o2; have o4 := S.o4; have p2 := S.p2; have p4 := S.p4; have na := S.na; have nb := S.nb
  refine test_bool ?_
  refine and_cons ?_
  refine test_cmp (by rfl) ?_
  refine name_l he (by rfl) (by rfl) (S.v1) ?_
  refine name_l he (by rfl) (by rfl) (S.valo) ?_
  refine op_gt ?_
  refine tr_bool ?_
  by_cases c1 : alo < i
  · refine (if_pos (by simp; omega)).mpr ?_
    refine and_cons ?_
    refine test_cmp (by rfl) ?_
    refine name_l he (by rfl) (by rfl) (S.v2) ?_
    refine name_l he (by rfl) (by rfl) (S.vblo) ?_
    refine op_gt ?_
    refine tr_bool ?_
    by_cases c2 : blo < j
    · refine (if_pos (by simp; omega)).mpr ?_
      refine and_cons ?_
      refine test_val (by rfl) ?_
      refine e_callbm (id := "set.__contains__") (a := jj) (name_l he (by rfl) (by rfl) S.vj ⟨rfl, rfl⟩) (by rfl) (by rfl) ?_
      refine args_cons (by rfl) ?_
      refine e_sub ?_
      refine name_l he (by rfl) (by rfl) (S.vb) ?_
      refine binop ?_
      refine name_l he (by rfl) (by rfl) (S.v2) ?_
      refine const_int ?_
      refine op_sub ?_
      rw [show (j : Int) - 1 = ((j - 1 : Nat) : Int) by omega]
      refine sub_list S.hb (by omega) (by omega) (il_get (by omega)) ⟨fun _ _ _ => rfl, fun _ _ => rfl⟩ ?_
      refine args_nil ?_
      refine bm_scon S.hj ?_
      refine tr_bool ?_
      refine (if_neg (by decide)).mpr ?_
      exact (if_neg (by decide)).mpr q
    · refine (if_neg (by simp; omega)).mpr ?_
      exact (if_neg (by decide)).mpr q
  · refine (if_neg (by simp; omega)).mpr ?_
    exact (if_neg (by decide)).mpr q
theorem fl_w4 (he : EnvOk z (E196 L)) (S : FlE ms al bl jj a b alo ahi blo bhi i j k) (q : Q .next ms) : WhileN z (E196 L) (forTest (fW 11)) (forBody (fW 11)) (0 + 1) ms Q := by
  have o2 := S.o2; have o4 := S.o4; have p2 := S.p2; have p4 := S.p4; have na := S.na; have nb := S.nb
  refine test_bool ?_
  refine and_cons ?_
  refine test_cmp (by rfl) ?_
  refine binop ?_
  refine name_l he (by rfl) (by rfl) (S.v1) ?_
  refine name_l he (by rfl) (by rfl) (S.v3) ?_
  refine op_add ?_
  refine name_l he (by rfl) (by rfl) (S.vahi) ?_
  refine op_lt ?_
  refine tr_bool ?_
  by_cases c1 : i + k < ahi
  · refine (if_pos (by simp; omega)).mpr ?_
    refine and_cons ?_
    refine test_cmp (by rfl) ?_
    refine binop ?_
    refine name_l he (by rfl) (by rfl) (S.v2) ?_
    refine name_l he (by rfl) (by rfl) (S.v3) ?_
    refine op_add ?_
    refine name_l he (by rfl) (by rfl) (S.vbhi) ?_
    refine op_lt ?_
    refine tr_bool ?_
    by_cases c2 : j + k < bhi
    · refine (if_pos (by simp; omega)).mpr ?_
      refine and_cons ?_
      refine test_val (by rfl) ?_
      refine e_callbm (id := "set.__contains__") (a := jj) (name_l he (by rfl) (by rfl) S.vj ⟨rfl, rfl⟩) (by rfl) (by rfl) ?_
      refine args_cons (by rfl) ?_
      refine e_sub ?_
      refine name_l he (by rfl) (by rfl) (S.vb) ?_
      refine binop ?_
      refine name_l he (by rfl) (by rfl) (S.v2) ?_
      refine name_l he (by rfl) (by rfl) (S.v3) ?_
      refine op_add ?_
      rw [show (j : Int) + k = ((j + k : Nat) : Int) by omega]
      refine sub_list S.hb (by omega) (by omega) (il_get (by omega)) ⟨fun _ _ _ => rfl, fun _ _ => rfl⟩ ?_
      refine args_nil ?_
      refine bm_scon S.hj ?_
      refine tr_bool ?_
      refine (if_neg (by decide)).mpr ?_
      exact (if_neg (by decide)).mpr q
    · refine (if_neg (by simp; omega)).mpr ?_
      exact (if_neg (by decide)).mpr q
  · refine (if_neg (by simp; omega)).mpr ?_
    exact (if_neg (by decide)).mpr q
end
section
variable {z : Z} {ms : MS} {Q : MV → MS → Prop}
noncomputable def MT (r : I3) : MV := .tup true [.int r.1, .int r.2.1, .int r.2.2]
theorem fl_rest {L al bl d jj : Addr} {a b : List Int} {alo ahi blo bhi : Nat} {loc : Str → Option MV} {s0 : Addr → Option MO} (he : EnvOk z (E196 L)) (hr : Rm z 8) (ext : Ext s0 ms.sto)
    (ha : s0 al = some (il a)) (hb : s0 bl = some (il b)) (hd : B2J s0 d b) (hj : s0 jj = some .set0) (na : a.length ≤ 100) (nb : b.length ≤ 100)
    (va : ms.loc "a" = some (.obj al)) (vb : ms.loc "b" = some (.obj bl)) (vd : ms.loc "b2j" = some (.obj d)) (vj : ms.loc "isbjunk" = some (.bm "set.__contains__" jj))
    (valo : ms.loc "alo" = some (.int alo)) (vahi : ms.loc "ahi" = some (.int ahi)) (vblo : ms.loc "blo" = some (.int blo)) (vbhi : ms.loc "bhi" = some (.int bhi))
    (h1 : alo ≤ ahi) (h2 : ahi ≤ a.length) (h3 : blo ≤ bhi) (h4 : bhi ≤ b.length)
    (q : ∀ sto, Ext s0 sto → Q (MT (flmI a b alo ahi blo bhi)) ⟨loc, sto⟩) : WS z (execs ((bodyOf (meth 5 6)).drop 4) (E196 L)) ms (RetQ loc Q) := by
  refine s_cons ?_
  refine s_swap (names := ["besti", "bestj", "bestsize"]) (by rfl) (by rfl) ?_
  refine e_tuple ?_
  refine args_cons (by rfl) ?_
  refine name_l he (by rfl) (by rfl) (valo) ?_
  refine args_cons (by rfl) ?_
  refine name_l he (by rfl) (by rfl) (vblo) ?_
  refine args_cons (by rfl) ?_
  refine const_int ?_
  refine args_nil ?_
  refine ⟨by simp [sizeLine], _, rfl, rfl, ?_⟩
  refine st_bind he (by rfl) ?_
  refine st_bind he (by rfl) ?_
  refine st_bind he (by rfl) ?_
  refine s_cons ?_
  refine s_assign (by rfl) (by rfl) (by rfl) ?_
  refine e_dict0 fun e1 q1 _ => ?_
  have q1 : ms.sto e1 = none := q1
  refine st_name he (by rfl) ?_
  refine s_cons ?_
  refine s_assign (by rfl) (by rfl) (by rfl) ?_
  refine e_list ?_
  refine args_nil ?_
  refine ⟨by simp [sizeLine], fun nn q2 => ?_⟩
  have q2 : upd ms.sto e1 (.dict (fun _ => none) 0) nn = none := q2
  obtain ⟨q3, q4⟩ := upd_fresh q2
  refine st_name he (by rfl) ?_
  refine s_cons ?_
  refine s_for_range (by intro _; rfl) ?_
  refine e_range (name_b he (by rfl) (by rfl) (by kernel_rfl) (by kernel_rfl) (by decide) ⟨rfl, rfl⟩) (by rfl) (by rfl) ?_
  refine args_cons (by rfl) ?_
  refine name_l he (by rfl) (by rfl) (valo) ?_
  refine args_cons (by rfl) ?_
  refine name_l he (by rfl) (by rfl) (vahi) ?_
  refine args_nil ?_
  refine ⟨alo, ahi, ⟨⟨by omega, by omega, by omega, by omega⟩, ?_⟩, .inr rfl⟩
  have e : upTo alo ahi = (((List.range ((ahi : Int) - alo).toNat).map fun (i : Nat) => (alo : Int) + i).map MV.int) := by simp [upTo]
  rw [e]
  have ext1 : Ext s0 (upd (upd ms.sto e1 (.dict (fun _ => none) 0)) nn (.list [])) := (ext.upd (ext.none q1)).upd (ext.none q4)
  have S1 : FlS (upd (upd ms.sto e1 (.dict (fun _ => none) 0)) nn (.list [])) al bl d jj nn a b := ⟨ext1 _ _ ha, ext1 _ _ hb, hd.ext fun y mo e _ => ext1 _ _ e, ext1 _ _ hj, upd_self _ _ _, na, nb⟩
  refine fl_rows (alo := alo) (ahi := ahi) he S1 _ (fun _ => none) ((alo : Int), (blo : Int), 0) 0 e1 _ _ ?_ (Ext.refl _) (upd_old (upd_self _ _ _) q2) (by rfl) ⟨va, vb, vd, vj, by rfl, valo, vahi, vblo, vbhi⟩ ⟨by rfl, by rfl, by rfl⟩ ?_
  · intro i hi
    obtain ⟨m, hm, rfl⟩ := List.mem_map.mp hi
    rw [List.mem_range] at hm
    omega
  intro ms' ext2 V T
  have T : FlT ms' (flmI a b alo ahi blo bhi) := T
  obtain ⟨i, j, k, er, p1, p2, p3, p4, p5, p6⟩ := flm_stop (a := a) (b := b) h1 h2 h3 h4
  rw [er] at T
  have S : FlE ms' al bl jj a b alo ahi blo bhi i j k := ⟨V.va, V.vb, V.vj, V.valo, V.vahi, V.vblo, V.vbhi, T.v1, T.v2, T.v3, ext2 _ _ (ext1 _ _ ha), ext2 _ _ (ext1 _ _ hb), ext2 _ _ (ext1 _ _ hj), na, nb, h2, h4, p1, p2, p3, p4, p5, p6⟩
  refine s_cons ?_
  refine s_while (0 + 1) (fl_w1 he S ?_)
  refine s_cons ?_
  refine s_while (0 + 1) (fl_w2 he S ?_)
  refine s_cons ?_
  refine s_while (0 + 1) (fl_w3 he S ?_)
  refine s_cons ?_
  refine s_while (0 + 1) (fl_w4 he S ?_)
  refine s_cons ?_
  refine s_return ?_
  refine e_call (f := .ref 135) (name_g he (by rfl) (by rfl) (by kernel_rfl) ⟨rfl, rfl⟩) (plain_K (by kernel_rfl)) (by rfl) (by rfl) ?_
  refine args_cons (by rfl) ?_
  refine name_l he (by rfl) (by rfl) (S.v1) ?_
  refine args_cons (by rfl) ?_
  refine name_l he (by rfl) (by rfl) (S.v2) ?_
  refine args_cons (by rfl) ?_
  refine name_l he (by rfl) (by rfl) (S.v3) ?_
  refine args_nil ?_
  refine c_match hr ?_
  have := q ms'.sto (ext1.trans ext2)
  rw [er] at this
  exact this
end
end Mine
end

/-! FlmC -/
section
open PySem PySem.W PyProof.Rows
set_option Elab.async false
set_option maxRecDepth 100000
set_option maxHeartbeats 1000000
set_option linter.unusedVariables false
namespace Mine

section
variable {z : Z} {ms : MS} {Q : MV → MS → Prop}
theorem hin_bm (id : String) (a : Addr) : ∀ (h : Heap) (u : Value), VR h (.bm id a) u → handedIn u = true := fun h u r => by obtain ⟨b, rfl, _⟩ := vr_bm.mp r; rfl
theorem fl_head {L x al bl dx d j p : Addr} {mb : MV} {Q : MF → MS → Prop} (he : EnvOk z (E196 L)) (vx : ms.loc "self" = some (.obj x)) (hx : ms.sto x = some (.inst dx)) (hdx : ms.sto dx = some (.attrs (at10 al bl d j p mb))) (hj : ms.sto j = some .set0)
    (q : ∀ loc, (∀ y : Str, y ≠ "a" → y ≠ "b" → y ≠ "b2j" → y ≠ "isbjunk" → loc y = ms.loc y) → loc "a" = some (.obj al) → loc "b" = some (.obj bl) → loc "b2j" = some (.obj d) → loc "isbjunk" = some (.bm "set.__contains__" j) → WS z (execs ((bodyOf (meth 5 6)).drop 2) (E196 L)) ⟨loc, ms.sto⟩ Q) :
    WS z (execs (bodyOf (meth 5 6)) (E196 L)) ms Q := by
  refine s_cons ?_
  refine s_doc he.hi ?_
  refine s_cons ?_
  refine s_assign (by rfl) (by rfl) (by rfl) ?_
  refine e_tuple ?_
  refine args_cons (by rfl) ?_
  refine e_attr (by rfl) fn_a ?_
  refine name_l he (by rfl) (by rfl) (vx) ?_
  refine ⟨x, dx, _, _, rfl, hx, hdx, rfl, hin_obj _, ?_⟩
  refine args_cons (by rfl) ?_
  refine e_attr (by rfl) fn_b ?_
  refine name_l he (by rfl) (by rfl) (vx) ?_
  refine ⟨x, dx, _, _, rfl, hx, hdx, rfl, hin_obj _, ?_⟩
  refine args_cons (by rfl) ?_
  refine e_attr (by rfl) fn_b2j ?_
  refine name_l he (by rfl) (by rfl) (vx) ?_
  refine ⟨x, dx, _, _, rfl, hx, hdx, rfl, hin_obj _, ?_⟩
  refine args_cons (by rfl) ?_
  refine e_scon (by rfl) ?_
  refine e_attr (by rfl) fn_bjunk ?_
  refine name_l he (by rfl) (by rfl) (vx) ?_
  refine ⟨x, dx, _, _, rfl, hx, hdx, rfl, hin_obj _, ?_⟩
  refine ⟨j, rfl, hj, ?_⟩
  refine args_nil ?_
  refine ⟨by simp [sizeLine], ?_⟩
  refine st_tuple (by rfl) (by rfl) ?_
  refine st_name he (by rfl) ?_
  refine st_name he (by rfl) ?_
  refine st_name he (by rfl) ?_
  refine st_name he (by rfl) ?_
  refine q _ (fun y h1 h2 h3 h4 => ?_) (by rfl) (by rfl) (by rfl) (by rfl)
  simp only [updL]
  rw [if_neg h4, if_neg h3, if_neg h2, if_neg h1]
theorem flm_ok {x al bl : Addr} {a b : List Int} {mb : MV} {alo ahi blo bhi : Nat} (hr : Rm z 9) (M : Mat ms.sto x al bl a b mb) (na : a.length ≤ 100) (nb : b.length ≤ 100)
    (h1 : alo ≤ ahi) (h2 : ahi ≤ a.length) (h3 : blo ≤ bhi) (h4 : bhi ≤ b.length)
    (q : ∀ sto, Ext ms.sto sto → Q (MT (flmI a b alo ahi blo bhi)) ⟨ms.loc, sto⟩) : CallV z (.ref 196) [.obj x, .int alo, .int ahi, .int blo, .int bhi] ms Q := by
  refine c196 hr fun z' L' hw he hr' => ?_
  obtain ⟨dx, d, j, p, hx, hdx, hj, hd⟩ := M.ex
  refine fl_head he (by rfl) hx hdx hj fun loc keep va vb vd vj => ?_
  have valo : loc "alo" = some (.int alo) := (keep "alo" (by decide) (by decide) (by decide) (by decide)).trans (by rfl)
  have vahi : loc "ahi" = some (.int ahi) := (keep "ahi" (by decide) (by decide) (by decide) (by decide)).trans (by rfl)
  have vblo : loc "blo" = some (.int blo) := (keep "blo" (by decide) (by decide) (by decide) (by decide)).trans (by rfl)
  have vbhi : loc "bhi" = some (.int bhi) := (keep "bhi" (by decide) (by decide) (by decide) (by decide)).trans (by rfl)
  refine s_cons ?_
  refine s_if ?_
  refine test_cmp (by rfl) ?_
  refine name_l he (by rfl) (by rfl) (vahi) ?_
  refine const_none ?_
  refine op_is_none (isn_int _) ?_
  refine tr_bool ?_
  refine (if_neg (by decide)).mpr (s_nil ?_)
  refine s_cons ?_
  refine s_if ?_
  refine test_cmp (by rfl) ?_
  refine name_l he (by rfl) (by rfl) (vbhi) ?_
  refine const_none ?_
  refine op_is_none (isn_int _) ?_
  refine tr_bool ?_
  refine (if_neg (by decide)).mpr (s_nil ?_)
  exact fl_rest he hr' (Ext.refl _) M.ha M.hb hd hj na nb va vb vd vj valo vahi vblo vbhi h1 h2 h3 h4 q
theorem flm0_ok {x al bl : Addr} {a b : List Int} {mb : MV} (hr : Rm z 9) (M : Mat ms.sto x al bl a b mb) (na : a.length ≤ 100) (nb : b.length ≤ 100)
    (q : ∀ sto, Ext ms.sto sto → Q (MT (flmI a b 0 a.length 0 b.length)) ⟨ms.loc, sto⟩) : CallV z (.ref 196) [.obj x] ms Q := by
  refine c196d hr fun z' L' hw he hr' => ?_
  obtain ⟨dx, d, j, p, hx, hdx, hj, hd⟩ := M.ex
  refine fl_head he (by rfl) hx hdx hj fun loc keep va vb vd vj => ?_
  have valo : loc "alo" = some (.int (0 : Nat)) := (keep "alo" (by decide) (by decide) (by decide) (by decide)).trans (by rfl)
  have vahi : loc "ahi" = some .none := (keep "ahi" (by decide) (by decide) (by decide) (by decide)).trans (by rfl)
  have vblo : loc "blo" = some (.int (0 : Nat)) := (keep "blo" (by decide) (by decide) (by decide) (by decide)).trans (by rfl)
  have vbhi : loc "bhi" = some .none := (keep "bhi" (by decide) (by decide) (by decide) (by decide)).trans (by rfl)
  refine s_cons ?_
  refine s_if ?_
  refine test_cmp (by rfl) ?_
  refine name_l he (by rfl) (by rfl) (vahi) ?_
  refine const_none ?_
  refine op_is_none isn_none ?_
  refine tr_bool ?_
  refine (if_pos (by decide)).mpr ?_
  refine s_cons ?_
  refine s_assign (by rfl) (by rfl) (by rfl) ?_
  refine e_call (f := .builtin "len") (name_b he (by rfl) (by rfl) (by kernel_rfl) (by kernel_rfl) (by decide) ⟨rfl, rfl⟩) (plain_builtin _) (by rfl) (by rfl) ?_
  refine args_cons (by rfl) ?_
  refine name_l he (by rfl) (by rfl) (va) ?_
  refine args_nil ?_
  refine c_len M.ha (by simp; omega) ?_
  refine st_name he (by rfl) ?_
  refine s_nil ?_
  refine s_cons ?_
  refine s_if ?_
  refine test_cmp (by rfl) ?_
  refine name_l he (by rfl) (by rfl) (vbhi) ?_
  refine const_none ?_
  refine op_is_none isn_none ?_
  refine tr_bool ?_
  refine (if_pos (by decide)).mpr ?_
  refine s_cons ?_
  refine s_assign (by rfl) (by rfl) (by rfl) ?_
  refine e_call (f := .builtin "len") (name_b he (by rfl) (by rfl) (by kernel_rfl) (by kernel_rfl) (by decide) ⟨rfl, rfl⟩) (plain_builtin _) (by rfl) (by rfl) ?_
  refine args_cons (by rfl) ?_
  refine name_l he (by rfl) (by rfl) (vb) ?_
  refine args_nil ?_
  refine c_len M.hb (by simp; omega) ?_
  refine st_name he (by rfl) ?_
  refine s_nil ?_
  rw [show (a.map MV.int).length = a.length by simp, show (b.map MV.int).length = b.length by simp]
  exact fl_rest (alo := 0) (ahi := a.length) (blo := 0) (bhi := b.length) he hr' (Ext.refl _) M.ha M.hb hd hj na nb va vb vd vj valo (by rfl) vblo (by rfl) (Nat.zero_le _) (Nat.le_refl _) (Nat.zero_le _) (Nat.le_refl _) q
end
end Mine
end

/-! Unp -/
section
open PySem PySem.W PyProof.Rows
set_option Elab.async false
set_option maxRecDepth 100000
set_option maxHeartbeats 1000000
set_option linter.unusedVariables false
namespace Mine

open PySem.Calls PySem.Builtin PySem.Builtin.ObjectAttr PySem.Builtin.Getset_descriptor
/-! ## a Match is gone through, taken apart -/
section
variable {w : World} {A : Around} {E : Value → Shared → Prop} {s : Shared} {m : Addr} {items : Array Value} {n : Nat × Option Addr}
theorem mtype {h : Heap} (ho : h.get? m = some (tupO true items n)) : Looks (model P w) h (typeOf (.ref m)) (.ref 135) := (Looks.ld (part := some headPart) ho).andThen .now
theorem mlook {h : Heap} {name : Str} {r : Option Value} (X : (K w.params).In h) (ho : h.get? m = some (tupO true items n)) (e : findIn (K w.params) (.ref 135) name = some r) : Looks (model P w) h (specialOf (.ref m) name) r :=
  (mtype ho).andThen (looks_findIn X e)
theorem minst {h : Heap} (X : (K w.params).In h) (ho : h.get? m = some (tupO true items n)) : Looks (model P w) h (isInstance (.ref m) (.type "tuple")) true := (mtype ho).andThen (sub135t X)
theorem f_iter (q : Params) : findIn (K q) (.ref 135) "__iter__" = some (some (.builtin "tuple.__iter__")) := by kernel_rfl
theorem ti_kind : builtinKind "tuple.__iter__" = some .slot := by decide +kernel
theorem ti_split : splitId "tuple.__iter__" = some ("tuple", "__iter__") := by decide +kernel
theorem call_titer {Q : Value → Shared → Prop} (X : (K w.params).In s.heap) (ho : s.heap.get? m = some (tupO true items n))
    (hQ : Q (.ref s.heap.objs.size) { s with heap := s.heap.push { cls := .type "tuple_iterator", data := .fields #[.ref m, .int 0 0] } }) : wpAny (model P w) A (call (.builtin "tuple.__iter__") [.ref m]) Q E s := by
  refine wpAny_call (codeAny_call_builtin F.slot_tuple_iter.plain F.entry_tuple_iter (check_slot (i := "tuple.__iter__") (owner := "tuple") (n := "__iter__") (self := .ref m) (rest := []) (kw := []) ti_kind ti_split (minst X ho) (F.args_tuple_iter_1 _) ?_))
  show wpAny _ _ (do ret (← newFields "tuple_iterator" [.ref m, rawInt 0])) _ _ s
  exact wpAny_bind (wpAny_newObj_type (wpAny_pure hQ))
theorem miter {Q : Value → Shared → Prop} (X : (K w.params).In s.heap) (ho : s.heap.get? m = some (tupO true items n))
    (hQ : Q (.ref s.heap.objs.size) { s with heap := s.heap.push { cls := .type "tuple_iterator", data := .fields #[.ref m, .int 0 0] } }) : wpAny (model P w) A (pyIter (.ref m)) Q E s := by
  have lk := mlook (w := w) X ho (f_iter _)
  unfold pyIter
  refine wpAny_bind (lk.here ?_)
  dsimp only
  simp only [callSpecialIfBoundUnlessNone?, bindSpecialIfBound?]
  refine wpAny_bind (wpAny_holding (wpAny_bind (wpAny_bind (lk.here ?_))))
  refine wpAny_bind (wpAny_askSetting (wpAny_ite ?_))
  split
  · refine wpAny_bind (wpAny_of_eq (F.slot_tuple_iter.bind _) (wpAny_pure ?_))
    dsimp only
    rw [if_neg (by simp)]
    refine wpAny_bind (call_titer X ho (wpAny_pure ?_))
    dsimp only
    exact wpAny_bind (wpAny_specialOf (T := "tuple_iterator") ⟨_, Heap.get?_push_size _ rfl, rfl⟩ F.slot_tuple_iterator_next.lookup (wpAny_pure hQ))
  · refine wpAny_tryCatch (wpAny_bind (wpAny_of_eq (F.slot_tuple_iter.bind _) (wpAny_pure ?_)))
    dsimp only
    rw [if_neg (by simp)]
    refine wpAny_bind (call_titer X ho (wpAny_pure ?_))
    dsimp only
    exact wpAny_bind (wpAny_specialOf (T := "tuple_iterator") ⟨_, Heap.get?_push_size _ rfl, rfl⟩ F.slot_tuple_iterator_next.lookup (wpAny_pure hQ))
/-- the iterator of a thing with items -/
noncomputable def TIt (h : Heap) (it t : Addr) (i : Nat) : Prop := h.get? it = some { cls := .type "tuple_iterator", data := .fields #[.ref t, .int i 0] }
theorem tnext_call {it t : Addr} {i : Nat} {Q : Option Value → Shared → Prop} (hit : TIt s.heap it t i)
    (h : wpAny (model P w) A.in1 (Builtin.«tuple_iterator.__next__» ⟨[.ref it], []⟩) (fun fin s' => ∃ v, fin = .done (.ret v) ∧ Q (some v) s')
      (fun e s' => wpAny (model P w) A (isInstance e (.type "StopIteration") >>= fun b => if b = true then pure none else throw e) Q E s') s) : wpAny (model P w) A (pyNext (.ref it)) Q E s := by
  have hT : s.TypeIs (.ref it) "tuple_iterator" := ⟨_, hit, rfl⟩
  unfold pyNext
  refine wpAny_bind (wpAny_attempt (wpAny_callSpecial?_slot (name := Str.ofString "__next__") hT F.slot_tuple_iterator_next (wpAny_call_entry F.slot_tuple_iterator_next hT F.entry_tuple_iterator_next ?_ (F.args_tuple_iterator_next_1 _))))
  refine wpAny_mono h (fun fin s' hh => ?_) fun e s' hh => ?_
  · obtain ⟨v, rfl, q⟩ := hh
    exact ⟨v, rfl, wpAny_pure q⟩
  · exact hh
theorem tnext_item {it t : Addr} {o : Obj} {i k : Nat} {x : Value} {Q : Option Value → Shared → Prop} (hit : TIt s.heap it t i) (ho : s.heap.get? t = some o) (hd : o.data = .seq items k) (hx : items[i]? = some x)
    (hQ : ∀ h', TIt h' it t (i + 1) → Heap.SameBut it s.heap h' → Q (some x) { s with heap := h' }) : wpAny (model P w) A (pyNext (.ref it)) Q E s := by
  refine tnext_call hit ?_
  show wpAny _ _ (field (.ref it) 0 >>= _) _ _ s
  refine wpAny_bind (wpAny_field hit rfl (x := .ref t) rfl ?_)
  show wpAny _ _ (if (Value.ref t == Value.none) = true then _ else _) _ _ s
  rw [if_neg (show ¬ ((Value.ref t == Value.none) = true) from Bool.false_ne_true)]
  show wpAny _ _ (field (.ref it) 1 >>= _) _ _ s
  refine wpAny_bind (wpAny_field hit rfl (x := .int i 0) rfl ?_)
  show wpAny _ _ (seqItems? (.ref t) >>= _) _ _ s
  refine wpAny_bind (wpAny_seqItems ho hd ?_)
  simp only [Int.toNat_natCast, hx]
  refine wpAny_bind (wpAny_setField hit rfl (by simp) (wpAny_pure ⟨x, rfl, hQ _ ?_ (Heap.SameBut.update ..)⟩))
  show Heap.get? _ _ = _
  rw [Heap.get?_update_self _ hit (Obj.isFreed_of_fields (Obj.data_mapFields rfl _))]
  simp [Obj.mapFields, rawInt]
theorem tnext_end {it t : Addr} {o : Obj} {i k : Nat} {Q : Option Value → Shared → Prop} (hh : A.handled = none) (hit : TIt s.heap it t i) (ho : s.heap.get? t = some o) (hd : o.data = .seq items k) (hx : items[i]? = none)
    (hQ : ∀ h', Heap.ExtBut it s.heap h' → Q none { s with heap := h' }) : wpAny (model P w) A (pyNext (.ref it)) Q E s := by
  refine tnext_call hit ?_
  show wpAny _ _ (field (.ref it) 0 >>= _) _ _ s
  refine wpAny_bind (wpAny_field hit rfl (x := .ref t) rfl ?_)
  show wpAny _ _ (if (Value.ref t == Value.none) = true then _ else _) _ _ s
  rw [if_neg (show ¬ ((Value.ref t == Value.none) = true) from Bool.false_ne_true)]
  show wpAny _ _ (field (.ref it) 1 >>= _) _ _ s
  refine wpAny_bind (wpAny_field hit rfl (x := .int i 0) rfl ?_)
  show wpAny _ _ (seqItems? (.ref t) >>= _) _ _ s
  refine wpAny_bind (wpAny_seqItems ho hd ?_)
  simp only [Int.toNat_natCast, hx]
  refine wpAny_bind (wpAny_rule (wpAny_bind (wpAny_setField hit rfl (by simp) ?_)))
  show wpAny _ _ (newExc (.type "StopIteration") [] >>= _) _ _ _
  refine wpAny_bind ?_
  simp only [newExc, newTuple]
  refine wpAny_bind (wpAny_newObj_type ?_ (by size_fits))
  refine wpAny_bind (m := firstArgMember _ _) (wpAny_of_eq (a := Value.none) (by first | rfl | (simp only [firstArgMember]; rfl)) ?_)
  refine wpAny_newObj_type ?_ (by size_fits)
  simp only [raiseNew]
  refine wpAny_bind (wpAny_handled ?_)
  first | rw [show A.in1.handled = none from hh] | rw [hh]
  refine wpAny_bind (wpAny_pure (wpAny_throw ?_))
  refine wpAny_bind (wpAny_isInstance (T := "StopIteration") (b := true) ⟨_, Heap.get?_push_size _ rfl, rfl⟩ isSubtype_stop ?_)
  exact wpAny_pure (hQ _ (((Heap.SameBut.update ..).extBut.push _).push _))
theorem tdraw {it t : Addr} {o : Obj} {k : Nat} (hd : o.data = .seq items k) (hne : t ≠ it) : ∀ (c i : Nat) (s : Shared) (Q : List Value → Shared → Prop), TIt s.heap it t i → s.heap.get? t = some o → i + c = items.size →
    (∀ h', TIt h' it t items.size → Heap.SameBut it s.heap h' → Q (items.toList.drop i) { s with heap := h' }) → wpAny (model P w) A (draw (.ref it) c) Q E s
  | 0, i, s, Q, hit, _, hle, hQ => by
    show wpAny _ _ (pure []) Q E s
    have e : items.toList.drop i = [] := by rw [List.drop_eq_nil_iff]; simp; omega
    have := hQ s.heap (by rw [show items.size = i by omega]; exact hit) (Heap.SameBut.refl ..)
    rw [e] at this
    exact wpAny_pure this
  | c + 1, i, s, Q, hit, ho, hle, hQ => by
    have hlt : i < items.size := by omega
    show wpAny _ _ (pyNext (.ref it) >>= _) Q E s
    refine wpAny_bind (tnext_item hit ho hd (x := items[i]) (by simp [hlt]) fun h₁ hit₁ hs₁ => ?_)
    refine wpAny_bind (wpAny_holding (tdraw hd hne c (i + 1) _ _ hit₁ ((hs₁.2 _ hne).trans ho) (by omega) fun h₂ hit₂ hs₂ => wpAny_pure ?_))
    have e : items.toList.drop i = items[i] :: items.toList.drop (i + 1) := by simp [List.drop_eq_getElem_cons, hlt]
    have := hQ h₂ hit₂ (hs₁.trans hs₂)
    rw [e] at this
    exact this
theorem munpack {Q : List Value → Shared → Prop} (hh : A.handled = none) (X : (K w.params).In s.heap) (ho : s.heap.get? m = some (tupO true items n))
    (hQ : ∀ h', Heap.ExtBut s.heap.objs.size s.heap h' → Q items.toList { s with heap := h' }) : wpAny (model P w) A (unpackItems (.ref m) items.size none) Q E s := by
  have hlt : m ≠ s.heap.objs.size := Nat.ne_of_lt (Heap.lt_size ho)
  have ho' : (s.heap.push { cls := .type "tuple_iterator", data := .fields #[.ref m, .int 0 0] }).get? m = some (tupO true items n) := Heap.get?_push_of_some _ ho
  unfold unpackItems
  refine wpAny_bind ?_
  unfold notIterableAtAll
  refine wpAny_bind ((mlook X ho (f_iter _)).here ?_)
  refine wpAny_pure ?_
  simp only [Bool.false_eq_true, if_false]
  refine wpAny_bind (wpAny_holding (miter X ho ?_))
  refine wpAny_bind (wpAny_holding (tdraw rfl hlt items.size 0 _ _ (Heap.get?_push_size _ rfl) ho' (by omega) fun h₁ hit₁ hs₁ => ?_))
  rw [List.drop_zero, if_neg (by simp)]
  refine wpAny_bind (wpAny_holding (tnext_end hh hit₁ ((hs₁.2 _ hlt).trans ho') rfl (by simp) fun h₂ he₂ => ?_))
  simp only [Option.isSome_none, Bool.false_eq_true, if_false]
  exact wpAny_pure (hQ h₂ fun b o hb e => he₂ b o hb (hs₁.extBut b o hb (Heap.get?_push_of_some _ e)))
end
section
variable {z : Z} {ms : MS} {env : Env} {pos : Pos}
/-- i, j, k = a Match -/
theorem st_match {elts : List Expr} {k : Nat} {ds : List MV} {Q : MS → Prop} (hn : (assignEach elts env).length = ds.length) (hf : List.findIdx? (fun x => x.fst) (assignEach elts env) = none)
    (h : StAll z (List.map (fun x => x.snd) (assignEach elts env)) ds ms Q) : StV z (assign (.Tuple elts k pos) env) (.tup true ds) ms Q := by
  intro u s ok sh ru
  obtain ⟨a, items, n, rfl, e, rs⟩ := vr_tup.mp ru
  rw [arm_assign_Tuple]
  refine wpAny_bind (wpAny_standAt ?_)
  unfold unpack
  rw [hn, hf, ← arr_len rs]
  refine wpAny_bind (wpAny_holding (munpack z.hd sh.keepIn e fun h' ex => ?_))
  obtain ⟨sh', k'⟩ := sh.extNew ex
  exact wp_post (stAll_run h ok sh' (rs.keep k')) k' fun _ _ x => x
end
end Mine
end

/-! Ent -/
section
open PySem PySem.W PyProof.Rows
set_option Elab.async false
set_option maxRecDepth 100000
set_option maxHeartbeats 1000000
set_option linter.unusedVariables false
namespace Mine

section
variable {z : Z} {ms : MS} {env : Env} {pos : Pos} {Q : MV → MS → Prop}
theorem e_slice_from {value lo : Expr} {p : Pos} (ht : ∀ o r, letTemporaryGo value o r = pure ())
    (h : WV z (eval value env) ms fun d ms₁ => WV z (eval lo env) ms₁ fun b ms₂ => ∃ (l : Addr) (vs : List MV) (k : Nat), d = .obj l ∧ b = .int k ∧ ms₂.sto l = some (.list vs) ∧ vs.length ≤ 100000 ∧
      ∀ y, ms₂.sto y = none → Q (.obj y) ⟨ms₂.loc, upd ms₂.sto y (.list (vs.drop k))⟩) : WV z (eval (.Subscript value (.Slice (some lo) none none p) pos) env) ms Q := by
  intro s ok sh
  refine wpAny_Subscript_list_slice ?_ ht
  refine h.run (R' := VR) ok sh fun u d ms₁ s₁ ok₁ k₁ sh₁ ru q₁ => ?_
  refine q₁.run (R' := VR) ok₁ sh₁ fun v b ms₂ s₂ ok₂ k₂ sh₂ rv q₂ => ?_
  obtain ⟨l, vs, k, rfl, rfl, hl, hz, q⟩ := q₂
  obtain rfl := vr_obj.mp ru
  obtain ⟨t, rfl⟩ := vr_int.mp rv
  obtain ⟨items, n, el, vr⟩ := (sh₂.sto l _ hl).2.2.2
  have hsz : items.size ≤ sizeLine := by rw [arr_len vr]; unfold sizeLine; omega
  refine wpAny_pure ⟨l, items, some (k : Int), none, rfl, IsL.lst el, hsz, .int _ _, .none, ?_⟩
  have shp := sh₂.push { cls := .type "slice", data := .fields #[.int k t, .none, .none] }
  have kp := Keep.push s₂.heap { cls := .type "slice", data := .fields #[.int k t, .none, .none] }
  have sz : (s₂.heap.push { cls := .type "slice", data := .fields #[.int k t, .none, .none] }).objs.size = s₂.heap.objs.size + 1 := Heap.size_push ..
  have vp : VRs s₂.heap (vs.drop k) (slicePick items (some (k : Int)) none none).toList := by rw [slicePick_from']; simpa using vr.drop k
  have sha := shp.alloc (o := { cls := .type "list", data := .seq (slicePick items (some (k : Int)) none none) }) (mo := .list (vs.drop k)) ⟨_, 0, Heap.get?_push_size _ rfl, (vp.keep kp).keep (Keep.push _ _)⟩
  have N := shp.new_none.2.1
  rw [sz] at sha N
  exact post_at (d := .obj (s₂.heap.objs.size + 1)) ok₂ (((k₁.trans k₂).trans kp).trans (Keep.push _ _)) sha (vr_obj.mpr rfl) (q _ N)
theorem e_slice_upto {value hi : Expr} {p : Pos} (ht : ∀ o r, letTemporaryGo value o r = pure ())
    (h : WV z (eval value env) ms fun d ms₁ => WV z (eval hi env) ms₁ fun b ms₂ => ∃ (l : Addr) (vs : List MV) (k : Nat), d = .obj l ∧ b = .int k ∧ ms₂.sto l = some (.list vs) ∧ vs.length ≤ 100000 ∧
      ∀ y, ms₂.sto y = none → Q (.obj y) ⟨ms₂.loc, upd ms₂.sto y (.list (vs.take k))⟩) : WV z (eval (.Subscript value (.Slice none (some hi) none p) pos) env) ms Q := by
  intro s ok sh
  refine wpAny_Subscript_list_slice ?_ ht
  refine h.run (R' := VR) ok sh fun u d ms₁ s₁ ok₁ k₁ sh₁ ru q₁ => ?_
  refine wpAny_pure ?_
  refine q₁.run (R' := VR) ok₁ sh₁ fun v b ms₂ s₂ ok₂ k₂ sh₂ rv q₂ => ?_
  obtain ⟨l, vs, k, rfl, rfl, hl, hz, q⟩ := q₂
  obtain rfl := vr_obj.mp ru
  obtain ⟨t, rfl⟩ := vr_int.mp rv
  obtain ⟨items, n, el, vr⟩ := (sh₂.sto l _ hl).2.2.2
  have hsz : items.size ≤ sizeLine := by rw [arr_len vr]; unfold sizeLine; omega
  refine ⟨l, items, none, some (k : Int), rfl, IsL.lst el, hsz, .none, .int _ _, ?_⟩
  have shp := sh₂.push { cls := .type "slice", data := .fields #[.none, .int k t, .none] }
  have kp := Keep.push s₂.heap { cls := .type "slice", data := .fields #[.none, .int k t, .none] }
  have sz : (s₂.heap.push { cls := .type "slice", data := .fields #[.none, .int k t, .none] }).objs.size = s₂.heap.objs.size + 1 := Heap.size_push ..
  have vp : VRs s₂.heap (vs.take k) (slicePick items none (some (k : Int)) none).toList := by rw [slicePick_upto']; simpa using vr.take k
  have sha := shp.alloc (o := { cls := .type "list", data := .seq (slicePick items none (some (k : Int)) none) }) (mo := .list (vs.take k)) ⟨_, 0, Heap.get?_push_size _ rfl, (vp.keep kp).keep (Keep.push _ _)⟩
  have N := shp.new_none.2.1
  rw [sz] at sha N
  exact post_at (d := .obj (s₂.heap.objs.size + 1)) ok₂ (((k₁.trans k₂).trans kp).trans (Keep.push _ _)) sha (vr_obj.mpr rfl) (q _ N)
end
section
variable {z : Z} {ms : MS} {Q : MV → MS → Prop}
theorem entry_ok {x al bl : Addr} {a b : List Int} {mb : MV} {alo ahi blo bhi : Nat} (hr : Rm z 10) (M : Mat ms.sto x al bl a b mb) (na : a.length ≤ 100) (nb : b.length ≤ 100)
    (h1 : alo ≤ ahi) (h2 : ahi ≤ a.length) (h3 : blo ≤ bhi) (h4 : bhi ≤ b.length)
    (q : ∀ sto l, Ext ms.sto sto → sto l = some (tl (entI a b alo ahi blo bhi)) → ms.sto l = none → Q (.obj l) ⟨ms.loc, sto⟩) : CallV z (.ref 309) [.obj x, .int alo, .int ahi, .int blo, .int bhi] ms Q := by
  refine c309 hr fun z' L' hw he hr' => ?_
  obtain ⟨dx, d, j, p, hx, hdx, hj, hd⟩ := M.ex
  refine s_cons ?_
  refine s_assign (by rfl) (by rfl) (by rfl) ?_
  refine e_imethN (by rfl) (by rfl) (by rfl) m_find (by rfl) (by rfl) ?_
  refine name_l he (by rfl) (by rfl) (rfl) ?_
  refine ⟨x, dx, _, rfl, ⟨hx, hdx⟩, by rfl, ?_⟩
  refine args_cons (by rfl) ?_
  refine name_l he (by rfl) (by rfl) (rfl) ?_
  refine args_cons (by rfl) ?_
  refine name_l he (by rfl) (by rfl) (rfl) ?_
  refine args_cons (by rfl) ?_
  refine name_l he (by rfl) (by rfl) (rfl) ?_
  refine args_cons (by rfl) ?_
  refine name_l he (by rfl) (by rfl) (rfl) ?_
  refine args_nil ?_
  refine flm_ok hr' M na nb h1 h2 h3 h4 fun sto ext => ?_
  generalize hr : flmI a b alo ahi blo bhi = r
  refine st_match (by rfl) (by rfl) ?_
  refine st_name he (by rfl) ?_
  refine st_name he (by rfl) ?_
  refine st_name he (by rfl) ?_
  refine s_cons ?_
  refine s_return ?_
  refine ifexp ?_
  refine test_cmp (by rfl) ?_
  refine name_l he (by rfl) (by rfl) (rfl) ?_
  refine const_int ?_
  refine op_gt ?_
  refine tr_bool ?_
  by_cases c : r.2.2 > 0
  · refine (if_pos (by simpa using c)).mpr ?_
    refine e_list ?_
    refine args_cons (by rfl) ?_
    refine e_tuple ?_
    refine args_cons (by rfl) ?_
    refine unop ?_
    refine name_l he (by rfl) (by rfl) (rfl) ?_
    refine op_neg ?_
    refine args_cons (by rfl) ?_
    refine name_l he (by rfl) (by rfl) (rfl) ?_
    refine args_cons (by rfl) ?_
    refine name_l he (by rfl) (by rfl) (rfl) ?_
    refine args_cons (by rfl) ?_
    refine name_l he (by rfl) (by rfl) (rfl) ?_
    refine args_cons (by rfl) ?_
    refine name_l he (by rfl) (by rfl) (rfl) ?_
    refine args_cons (by rfl) ?_
    refine name_l he (by rfl) (by rfl) (rfl) ?_
    refine args_cons (by rfl) ?_
    refine name_l he (by rfl) (by rfl) (rfl) ?_
    refine args_nil ?_
    refine ⟨by simp [sizeLine], ?_⟩
    refine args_nil ?_
    refine ⟨by simp [sizeLine], fun l hl => ?_⟩
    have hl : sto l = none := hl
    refine q _ l (ext.upd (ext.none hl)) ((upd_self _ _ _).trans ?_) (ext.none hl)
    rw [entI, hr, if_pos c]; rfl
  · refine (if_neg (by simpa using c)).mpr ?_
    refine e_list ?_
    refine args_nil ?_
    refine ⟨by simp [sizeLine], fun l hl => ?_⟩
    have hl : sto l = none := hl
    refine q _ l (ext.upd (ext.none hl)) ((upd_self _ _ _).trans ?_) (ext.none hl)
    rw [entI, hr, if_neg c]; rfl
end
end Mine
end

/-! Told -/
section
open PySem PySem.W PyProof.Rows
set_option Elab.async false
set_option maxRecDepth 100000
set_option maxHeartbeats 1000000
set_option linter.unusedVariables false
namespace Mine

noncomputable def tWh : Stmt := ((bodyOf (cell 17))[1]?).getD (.Pass ⟨0,0,0,0⟩)
noncomputable def tFor : Stmt := ((forBody tWh)[4]?).getD (.Pass ⟨0,0,0,0⟩)
section
variable {z : Z} {a b : List Int}
theorem push_loop {L h l2 : Addr} {all : List (List Int)} {sto0 : Addr → Option MO} (he : EnvOk z (E316 L)) (hr : Rm z 3) (h2 : sto0 l2 = some (tl all)) (hlh : l2 ≠ h) :
    ∀ (rest hs : List (List Int)) (ms : MS) (Q : MF → MS → Prop), hs.length + rest.length ≤ 900 → HO hs → ms.sto = upd sto0 h (tl hs) → ms.loc "heap" = some (.obj h) →
      (∀ ms' hs', HO hs' → hs'.Perm (hs ++ rest) → ms'.sto = upd sto0 h (tl hs') → (∀ y : Str, y ≠ "entry" → ms'.loc y = ms.loc y) → Q .next ms') →
      ForN z (E316 L) (forTest tFor) (forBody tFor) (fun ms => ms.sto l2 = some (tl all)) (rest.map ti) ms Q
  | [], hs, ms, Q, hz, ho, hsto, l1, q => ⟨by show ms.sto l2 = _; rw [hsto, upd_ne _ _ hlh]; exact h2, q ms hs ho (by rw [List.append_nil]) hsto fun _ _ => rfl⟩
  | x :: rest, hs, ms, Q, hz, ho, hsto, l1, q => by
    refine ⟨by show ms.sto l2 = _; rw [hsto, upd_ne _ _ hlh]; exact h2, fun F' => ?_⟩
    have he0 := he
    have he := he.fr F'
    have hr' : Rm (z.fr F') 3 := hr
    simp only [List.length_cons] at hz
    refine st_name he (by rfl) ?_
    refine s_cons ?_
    refine s_expr he.hi (by rfl) ?_
    refine e_call (f := .ref 253) (name_g he (by rfl) (by rfl) (by kernel_rfl) ⟨rfl, rfl⟩) (plain_K (by kernel_rfl)) (by rfl) (by rfl) ?_
    refine args_cons (by rfl) ?_
    refine name_l he (by rfl) (by rfl) (l1) ?_
    refine args_cons (by rfl) ?_
    refine name_l he (by rfl) (by rfl) (rfl) ?_
    refine args_nil ?_
    refine heappush_ok (xss := hs) (hr'.less (by omega)) (by show ms.sto h = _; rw [hsto, upd_self]) (by omega) ⟨rfl, ?_⟩
    refine s_nil ?_
    obtain ⟨p1, p2⟩ := push_good (x := x) ho
    have len := p2.length_eq
    simp only [List.length_append, List.length_singleton] at len
    refine push_loop he0 hr h2 hlh rest (siftdown (hs ++ [x]) hs.length) _ Q (by omega) p1 ?_ l1 ?_
    · show upd ms.sto h _ = _
      rw [hsto, upd_upd]
    · intro ms' hs' g1 g2 g3 g4
      refine q ms' hs' g1 ?_ g3 fun y hy => (g4 y hy).trans ?_
      · refine g2.trans ?_
        refine (p2.append_right rest).trans ?_
        rw [List.append_assoc]; rfl
      · simp only [updL]; rw [if_neg hy]
theorem entI_len (a b : List Int) (p q r s : Int) : (entI a b p q r s).length ≤ 1 := by unfold entI; split <;> simp
theorem told_while {L h t x al bl : Addr} {mb : MV} {s0 : Addr → Option MO} (he : EnvOk z (E316 L)) (hr : Rm z 12) (M : Mat s0 x al bl a b mb) (na : a.length ≤ 100) (nb : b.length ≤ 100) (h0 : s0 h = none) (t0 : s0 t = none) (hht : h ≠ t) :
    ∀ (n : Nat) (hs : List (List Int)) (rs : List T3) (gs : List Gap) (told : List I3) (ms : MS) (Q : MF → MS → Prop), rs.length < n → Neg rs → hs.length + n ≤ 800 → told.length + n ≤ 800 → TS a b hs rs gs told → Ext s0 ms.sto → ms.sto h = some (tl hs) → ms.sto t = some (t3l told) →
      ms.loc "heap" = some (.obj h) → ms.loc "told" = some (.obj t) → ms.loc "matcher" = some (.obj x) →
      (∀ ms', Ext s0 ms'.sto → ms'.sto t = some (t3l (told ++ dueGo n rs)) → ms'.loc "told" = some (.obj t) → (told ++ dueGo n rs).Perm (blocks a b) → Q .next ms') →
      WhileN z (E316 L) (forTest tWh) (forBody tWh) n ms Q
  | 0, hs, rs, gs, told, ms, Q, hlt, _, _, _, _, _, _, _, _, _, _, _ => absurd hlt (Nat.not_lt_zero _)
  | n + 1, hs, rs, gs, told, ms, Q, hlt, hneg, z1, z2, T, hx, hh, ht, l1, l2, l3, q => by
    have hu : z.A.units + 1 < cLine := (hr.less (k' := 0) (by omega)).units
    refine test_cmp (by rfl) ?_
    refine name_l he (by rfl) (by rfl) (l1) ?_
    refine e_list ?_
    refine args_nil ?_
    refine ⟨by simp [sizeLine], fun e1 n1 => ?_⟩
    refine op_ne_lists (xss := hs) (yss := []) hu (upd_old hh n1) (upd_self _ _ _) ?_
    refine tr_bool ?_
    have hx1 : Ext s0 (upd ms.sto e1 (.list [])) := hx.upd (hx.none n1)
    cases hs with
    | nil =>
      obtain ⟨rfl, hp⟩ := T.empty
      refine (if_neg (by simp)).mpr ?_
      have ed : told ++ dueGo (n + 1) [] = told := by rw [dueGo, if_pos rfl, List.append_nil]
      exact q _ hx1 (by rw [ed]; exact upd_old ht n1) l2 (by rw [ed]; exact hp)
    | cons top tl' =>
      refine (if_pos (by simp)).mpr ?_
      obtain ⟨i, j, k, alo, ahi, blo, bhi, rfl, k0, q1, q2, q3, q4, q5, q6, hrs, hmin, next⟩ := T.step
      have hh1 : upd ms.sto e1 (.list []) h = some (tl ([-(k : Int), (i : Int), (j : Int), (alo : Int), (ahi : Int), (blo : Int), (bhi : Int)] :: tl')) := upd_old hh n1
      have ht1 : upd ms.sto e1 (.list []) t = some (t3l told) := upd_old ht n1
      generalize upd ms.sto e1 (.list []) = sto1 at hx1 hh1 ht1
      refine s_cons ?_
      refine s_assign (by rfl) (by rfl) (by rfl) ?_
      refine e_sub ?_
      refine name_l he (by rfl) (by rfl) (l1) ?_
      refine const_int ?_
      refine sub_list (d := ti [-(k : Int), (i : Int), (j : Int), (alo : Int), (ahi : Int), (blo : Int), (bhi : Int)]) hh1 (by omega) (by omega) rfl ⟨fun _ _ _ => rfl, fun _ _ => rfl⟩ ?_
      refine st_tuple (by rfl) (by rfl) ?_
      refine st_name he (by rfl) ?_
      refine st_name he (by rfl) ?_
      refine st_name he (by rfl) ?_
      refine st_name he (by rfl) ?_
      refine st_name he (by rfl) ?_
      refine st_name he (by rfl) ?_
      refine st_name he (by rfl) ?_
      refine s_cons ?_
      refine s_assign (by rfl) (by rfl) (by rfl) ?_
      refine e_call (f := .ref 309) (name_g he (by rfl) (by rfl) (by kernel_rfl) ⟨rfl, rfl⟩) (plain_K (by kernel_rfl)) (by rfl) (by rfl) ?_
      refine args_cons (by rfl) ?_
      refine name_l he (by rfl) (by rfl) (l3) ?_
      refine args_cons (by rfl) ?_
      refine name_l he (by rfl) (by rfl) (rfl) ?_
      refine args_cons (by rfl) ?_
      refine name_l he (by rfl) (by rfl) (rfl) ?_
      refine args_cons (by rfl) ?_
      refine name_l he (by rfl) (by rfl) (rfl) ?_
      refine args_cons (by rfl) ?_
      refine name_l he (by rfl) (by rfl) (rfl) ?_
      refine args_nil ?_
      refine entry_ok (hr.less (by omega)) (M.ext hx1) na nb q1 (by omega) q4 (by omega) fun sto2 m1 ex2 hm1 nm1 => ?_
      have nm1 : sto1 m1 = none := nm1
      have ex2 : Ext sto1 sto2 := ex2
      refine st_name he (by rfl) ?_
      refine s_cons ?_
      refine s_aug (d₀ := .obj m1) he (by rfl) (by rfl) ?_
      refine e_call (f := .ref 309) (name_g he (by rfl) (by rfl) (by kernel_rfl) ⟨rfl, rfl⟩) (plain_K (by kernel_rfl)) (by rfl) (by rfl) ?_
      refine args_cons (by rfl) ?_
      refine name_l he (by rfl) (by rfl) (l3) ?_
      refine args_cons (by rfl) ?_
      refine binop ?_
      refine name_l he (by rfl) (by rfl) (rfl) ?_
      refine name_l he (by rfl) (by rfl) (rfl) ?_
      refine op_sub ?_
      refine args_cons (by rfl) ?_
      refine name_l he (by rfl) (by rfl) (rfl) ?_
      refine args_cons (by rfl) ?_
      refine binop ?_
      refine name_l he (by rfl) (by rfl) (rfl) ?_
      refine name_l he (by rfl) (by rfl) (rfl) ?_
      refine op_sub ?_
      refine args_cons (by rfl) ?_
      refine name_l he (by rfl) (by rfl) (rfl) ?_
      refine args_nil ?_
      rw [show (i : Int) - -(k : Int) = ((i + k : Nat) : Int) by omega, show (j : Int) - -(k : Int) = ((j + k : Nat) : Int) by omega]
      refine entry_ok (hr.less (by omega)) (M.ext (hx1.trans ex2)) na nb q2 q3 q5 q6 fun sto3 m2 ex3 hm2 nm2 => ?_
      have nm2 : sto2 m2 = none := nm2
      have ex3 : Ext sto2 sto3 := ex3
      have m12 : m1 ≠ m2 := fun e => by subst e; rw [nm2] at hm1; cases hm1
      have le1 := entI_len a b alo i blo j
      have le2 := entI_len a b (i + k : Nat) ahi (j + k : Nat) bhi
      refine op_iadd_list (ex3 _ _ hm1) hm2 m12 (by rw [List.length_map, List.length_map]; omega) ?_
      rw [show (MO.list ((entI a b alo i blo j).map ti ++ (entI a b (i + k : Nat) ahi (j + k : Nat) bhi).map ti)) = tl (entI a b alo i blo j ++ entI a b (i + k : Nat) ahi (j + k : Nat) bhi) by simp [tl]]
      generalize hE : entI a b alo i blo j ++ entI a b (i + k : Nat) ahi (j + k : Nat) bhi = E at next
      have hEl : E.length ≤ 2 := by rw [← hE, List.length_append]; omega
      have ex13 : Ext sto1 sto3 := ex2.trans ex3
      have h13 : h ≠ m1 := fun e => by subst e; rw [nm1] at hh1; cases hh1
      have t13 : t ≠ m1 := fun e => by subst e; rw [nm1] at ht1; cases ht1
      have nm0 : s0 m1 = none := hx1.none nm1
      have hx4 : Ext s0 (upd sto3 m1 (tl E)) := (hx1.trans ex13).upd nm0
      have hh4 : upd sto3 m1 (tl E) h = some (tl ([-(k : Int), (i : Int), (j : Int), (alo : Int), (ahi : Int), (blo : Int), (bhi : Int)] :: tl')) := (upd_ne _ _ h13).trans (ex13 _ _ hh1)
      have ht4 : upd sto3 m1 (tl E) t = some (t3l told) := (upd_ne _ _ t13).trans (ex13 _ _ ht1)
      have hm4 : upd sto3 m1 (tl E) m1 = some (tl E) := upd_self _ _ _
      generalize upd sto3 m1 (tl E) = sto4 at hx4 hh4 ht4 hm4
      generalize htop : [-(k : Int), (i : Int), (j : Int), (alo : Int), (ahi : Int), (blo : Int), (bhi : Int)] = top at T hh1 hh4 next
      -- what is left of the turn, once the heap is as it must be
      have rest : ∀ (ms' : MS) (hs1 : List (List Int)) (sto5 : Addr → Option MO), Ext s0 sto5 → sto5 t = some (t3l told) → sto5 m1 = some (tl E) → m1 ≠ h → ms'.sto = upd sto5 h (tl hs1) → HO hs1 → (hs1 ++ E.drop 1).Perm (tl' ++ E) → hs1.length ≤ tl'.length + 1 →
          ms'.loc "heap" = some (.obj h) → ms'.loc "told" = some (.obj t) → ms'.loc "matcher" = some (.obj x) → ms'.loc "more" = some (.obj m1) → ms'.loc "top" = some (ti top) →
          WS z (execs ((forBody tWh).drop 4) (E316 L)) ms' (AftW (fun ms₂ => WhileN z (E316 L) (forTest tWh) (forBody tWh) n ms₂ Q) Q) := by
        intro ms' hs1 sto5 y1 y2 y3 y4 y5 y6 y7 y8 v1 v2 v3 v4 v5
        refine s_cons ?_
        refine s_for_list (.name _ _) (by intro _; rfl) ?_
        refine e_slice_from (by intro _ _; rfl) ?_
        refine name_l he (by rfl) (by rfl) (v4) ?_
        refine const_int ?_
        refine ⟨m1, _, 1, rfl, rfl, by rw [y5]; exact (upd_ne _ _ y4).trans y3, by simp; omega, fun l2 n2 => ?_⟩
        have n2 : ms'.sto l2 = none := n2
        rw [y5] at n2
        obtain ⟨hl2, n2'⟩ := upd_fresh n2
        refine ⟨l2, _, rfl, upd_self _ _ _, ?_⟩
        rw [show (E.map ti).drop 1 = (E.drop 1).map ti by rw [List.map_drop]]
        refine push_loop (h := h) (l2 := l2) (all := E.drop 1) (sto0 := upd sto5 l2 (tl (E.drop 1))) he (hr.less (by omega)) (upd_self _ _ _) hl2 (E.drop 1) hs1 _ _ ?_ y6 ?_ v1 ?_
        · simp only [List.length_cons, List.length_drop] at z1 ⊢; omega
        · show upd ms'.sto l2 _ = _
          rw [y5]
          funext y
          simp only [upd]
          by_cases c1 : y = l2
          · rw [if_pos c1, if_neg (by rw [c1]; exact hl2), if_pos c1]; rfl
          · rw [if_neg c1]
            by_cases c2 : y = h
            · rw [if_pos c2, if_pos c2]
            · rw [if_neg c2, if_neg c2, if_neg c1]
        intro ms6 hs2 w1 w2 w3 w4
        have hl2t : l2 ≠ t := fun e => by subst e; rw [n2'] at y2; cases y2
        have ht6 : ms6.sto t = some (t3l told) := by rw [w3, upd_ne _ _ (Ne.symm hht), upd_ne _ _ (Ne.symm hl2t)]; exact y2
        have u2 : ms6.loc "told" = some (.obj t) := (w4 "told" (by decide)).trans v2
        have u5 : ms6.loc "top" = some (ti top) := (w4 "top" (by decide)).trans v5
        refine s_cons ?_
        refine s_expr he.hi (by rfl) ?_
        refine e_meth1 (by rfl) (by rfl) (by rfl) PySem.F.plainAttrs_list PySem.F.slot_list_append PySem.F.type_list_append (by rfl) ?_
        refine name_l he (by rfl) (by rfl) (u2) ?_
        refine ⟨is_list ht6, ?_⟩
        subst htop
        refine e_tuple ?_
        refine args_cons (by rfl) ?_
        refine e_sub ?_
        refine name_l he (by rfl) (by rfl) (u5) ?_
        refine const_int ?_
        refine sub_tup (d := .int i) (by omega) (by omega) rfl ⟨fun _ _ _ => rfl, fun _ _ => rfl⟩ ?_
        refine args_cons (by rfl) ?_
        refine e_sub ?_
        refine name_l he (by rfl) (by rfl) (u5) ?_
        refine const_int ?_
        refine sub_tup (d := .int j) (by omega) (by omega) rfl ⟨fun _ _ _ => rfl, fun _ _ => rfl⟩ ?_
        refine args_cons (by rfl) ?_
        refine unop ?_
        refine e_sub ?_
        refine name_l he (by rfl) (by rfl) (u5) ?_
        refine const_int ?_
        refine sub_tup (d := .int (-(k : Int))) (by omega) (by omega) rfl ⟨fun _ _ _ => rfl, fun _ _ => rfl⟩ ?_
        refine op_neg ?_
        refine args_nil ?_
        refine ⟨by simp [sizeLine], ?_⟩
        refine c_append ht6 (by simp [sizeLine]; omega) ⟨rfl, ?_⟩
        refine s_nil ?_
        rw [show - -(k : Int) = (k : Int) by omega]
        have ea : (MO.list ((told.map t3).map ti ++ [MV.tup false [.int (i : Int), .int (j : Int), .int (k : Int)]])) = t3l (told ++ [((i : Int), (j : Int), (k : Int))]) := t3l_app told ((i : Int), (j : Int), (k : Int))
        rw [ea]
        have hperm : hs2.Perm (tl' ++ E) := w2.trans y7
        obtain ⟨gs', T'⟩ := next hs2 w1 hperm
        have hcl := cut_lt hrs hneg
        have hlen : hs2.length ≤ tl'.length + 2 := by rw [hperm.length_eq, List.length_append]; omega
        have ed : told ++ dueGo (n + 1) rs = (told ++ [((i : Int), (j : Int), (k : Int))]) ++ dueGo n (cut (min3 rs) rs) := by
          rw [dueGo, if_neg hrs, hmin, List.append_assoc]
          dsimp only
          rw [show - -(k : Int) = (k : Int) by omega]; rfl
        refine told_while he hr M na nb h0 t0 hht n hs2 (cut (min3 rs) rs) gs' (told ++ [((i : Int), (j : Int), (k : Int))]) _ Q (by omega) (cut_neg hneg) ?_ ?_ T' ?_ ?_ (upd_self _ _ _) ((w4 "heap" (by decide)).trans v1) u2 ((w4 "matcher" (by decide)).trans v3) ?_
        · simp only [List.length_cons] at z1; omega
        · simp only [List.length_append, List.length_singleton]; omega
        · show Ext s0 (upd ms6.sto t _)
          rw [w3]
          exact ((y1.upd (y1.none n2')).upd h0).upd t0
        · show upd ms6.sto t _ h = _
          rw [upd_ne _ _ hht, w3, upd_self]
        · intro m3 f1 f2 f3 f4
          rw [← ed] at f2 f4
          exact q m3 f1 f2 f3 f4
      have hhm : m1 ≠ h := Ne.symm h13
      refine s_cons ?_
      refine s_assign (by rfl) (by rfl) (by rfl) ?_
      refine ifexp ?_
      refine test_cmp (by rfl) ?_
      refine name_l he (by rfl) (by rfl) (rfl) ?_
      refine e_list ?_
      refine args_nil ?_
      refine ⟨by simp [sizeLine], fun e2 n3 => ?_⟩
      have n3 : sto4 e2 = none := n3
      have hh5 : upd sto4 e2 (.list []) h = some (tl (top :: tl')) := upd_old hh4 n3
      have ht5 : upd sto4 e2 (.list []) t = some (t3l told) := upd_old ht4 n3
      have hm5 : upd sto4 e2 (.list []) m1 = some (tl E) := upd_old hm4 n3
      have hx5 : Ext s0 (upd sto4 e2 (.list [])) := hx4.upd (hx4.none n3)
      refine op_eq_lists (xss := E) (yss := []) hu hm5 (upd_self _ _ _) ?_
      refine tr_bool ?_
      simp only [List.length_cons] at z1
      cases E with
      | nil =>
        refine (if_pos (by simp)).mpr ?_
        refine e_call (f := .ref 260) (name_g he (by rfl) (by rfl) (by kernel_rfl) ⟨rfl, rfl⟩) (plain_K (by kernel_rfl)) (by rfl) (by rfl) ?_
        refine args_cons (by rfl) ?_
        refine name_l he (by rfl) (by rfl) (l1) ?_
        refine args_nil ?_
        refine heappop_ok (xss := top :: tl') (hr.less (by omega)) hh5 (by simp) (by simp; omega) ?_
        refine st_name he (by rfl) ?_
        obtain ⟨p1, p2⟩ := pop_good T.ho
        exact rest _ (popHeap (top :: tl')) _ hx5 ht5 hm5 hhm (by rfl) p1 (by simpa using p2) (by rw [p2.length_eq]; omega) l1 l2 l3 (by rfl) (by rfl)
      | cons e0 E' =>
        refine (if_neg (by simp)).mpr ?_
        refine e_call (f := .ref 267) (name_g he (by rfl) (by rfl) (by kernel_rfl) ⟨rfl, rfl⟩) (plain_K (by kernel_rfl)) (by rfl) (by rfl) ?_
        refine args_cons (by rfl) ?_
        refine name_l he (by rfl) (by rfl) (l1) ?_
        refine args_cons (by rfl) ?_
        refine e_sub ?_
        refine name_l he (by rfl) (by rfl) (rfl) ?_
        refine const_int ?_
        refine sub_list (d := ti e0) hm5 (by omega) (by omega) rfl ⟨fun _ _ _ => rfl, fun _ _ => rfl⟩ ?_
        refine args_nil ?_
        refine heapreplace_ok (xss := tl') (x := e0) (y := top) (hr.less (by omega)) hh5 (by omega) ?_
        refine st_name he (by rfl) ?_
        obtain ⟨p1, p2⟩ := siftup_good (x := e0) T.ho
        refine rest _ (siftup (e0 :: tl')) _ hx5 ht5 hm5 hhm (by rfl) p1 ?_ (by rw [p2.length_eq]; simp) l1 l2 l3 (by rfl) (by rfl)
        refine (p2.append_right _).trans ?_
        show (e0 :: tl' ++ E').Perm (tl' ++ e0 :: E')
        exact (List.perm_middle (a := e0) (l₁ := tl') (l₂ := E')).symm
theorem told_ok {ms : MS} {Q : MV → MS → Prop} {x al bl : Addr} {mb : MV} (hr : Rm z 13) (M : Mat ms.sto x al bl a b mb) (na : a.length ≤ 20) (nb : b.length ≤ 20)
    (q : ∀ sto t, Ext ms.sto sto → ms.sto t = none → sto t = some (t3l (due3 a b)) → (due3 a b).Perm (blocks a b) → Q (.obj t) ⟨ms.loc, sto⟩) : CallV z (.ref 316) [.obj x, .obj al, .obj bl] ms Q := by
  refine c316 hr fun z' L' hw he hr' => ?_
  refine s_cons ?_
  refine s_swap (names := ["heap", "told"]) (by rfl) (by rfl) ?_
  refine e_tuple ?_
  refine args_cons (by rfl) ?_
  refine e_call (f := .ref 309) (name_g he (by rfl) (by rfl) (by kernel_rfl) ⟨rfl, rfl⟩) (plain_K (by kernel_rfl)) (by rfl) (by rfl) ?_
  refine args_cons (by rfl) ?_
  refine name_l he (by rfl) (by rfl) (rfl) ?_
  refine args_cons (by rfl) ?_
  refine const_int ?_
  refine args_cons (by rfl) ?_
  refine e_call (f := .builtin "len") (name_b he (by rfl) (by rfl) (by kernel_rfl) (by kernel_rfl) (by decide) ⟨rfl, rfl⟩) (plain_builtin _) (by rfl) (by rfl) ?_
  refine args_cons (by rfl) ?_
  refine name_l he (by rfl) (by rfl) (rfl) ?_
  refine args_nil ?_
  refine c_len M.ha (by simp; omega) ?_
  refine args_cons (by rfl) ?_
  refine const_int ?_
  refine args_cons (by rfl) ?_
  refine e_call (f := .builtin "len") (name_b he (by rfl) (by rfl) (by kernel_rfl) (by kernel_rfl) (by decide) ⟨rfl, rfl⟩) (plain_builtin _) (by rfl) (by rfl) ?_
  refine args_cons (by rfl) ?_
  refine name_l he (by rfl) (by rfl) (rfl) ?_
  refine args_nil ?_
  refine c_len M.hb (by simp; omega) ?_
  refine args_nil ?_
  rw [show (a.map MV.int).length = a.length by simp, show (b.map MV.int).length = b.length by simp]
  refine entry_ok (alo := 0) (ahi := a.length) (blo := 0) (bhi := b.length) (hr'.less (by omega)) M (by omega) (by omega) (Nat.zero_le _) (Nat.le_refl _) (Nat.zero_le _) (Nat.le_refl _) fun sto1 h ex1 hh hn => ?_
  have ex1 : Ext ms.sto sto1 := ex1
  have hn : ms.sto h = none := hn
  refine args_cons (by rfl) ?_
  refine e_list ?_
  refine args_nil ?_
  refine ⟨by simp [sizeLine], fun t htn => ?_⟩
  have htn : sto1 t = none := htn
  refine args_nil ?_
  refine ⟨by simp [sizeLine], _, rfl, rfl, ?_⟩
  refine st_bind he (by rfl) ?_
  refine st_bind he (by rfl) ?_
  refine s_cons ?_
  have hht : h ≠ t := fun e => by subst e; rw [htn] at hh; cases hh
  have hlen := runs3_len a b
  have hml : a.length * b.length ≤ 20 * 20 := Nat.mul_le_mul na nb
  have hel := entI_len a b 0 a.length 0 b.length
  refine s_while ((runs3 a b).length + 1) ?_
  refine told_while (s0 := ms.sto) (h := h) (t := t) (al := al) (bl := bl) (mb := mb) he hr' M (by omega) (by omega) hn (ex1.none htn) hht _ (entI a b 0 a.length 0 b.length) (runs3 a b) _ [] _ _ (Nat.lt_succ_self _) (runs3_neg _ _) (by omega) (by simp; omega) TS.init (ex1.upd (ex1.none htn)) (upd_old hh htn) (by exact upd_self _ _ _) (by rfl) (by rfl) (by rfl) ?_
  intro ms' f1 f2 f3 f4
  refine s_cons ?_
  refine s_return ?_
  refine name_l he (by rfl) (by rfl) (f3) ?_
  exact q ms'.sto t f1 (ex1.none htn) (by rw [f2]; rfl) f4
end
end Mine
end

/-! Srt -/
section
open PySem PySem.W PyProof.Rows
set_option Elab.async false
set_option maxRecDepth 100000
set_option maxHeartbeats 1000000
set_option linter.unusedVariables false
namespace Mine

/-! ## sorting: the tree of questions, when no two keys are alike -/
noncomputable def Ho (n : Nat) (lt : Nat → Nat → Bool) {α : Type} : KasT α → (α → Prop) → Prop
  | .ret a, Q => Q a
  | .ask i j k, Q => i < n ∧ j < n ∧ Ho n lt (k (lt i j)) Q
theorem Ho.bind {n : Nat} {lt : Nat → Nat → Bool} {α β : Type} {f : α → KasT β} {Q : β → Prop} : ∀ {t : KasT α}, Ho n lt t (fun a => Ho n lt (f a) Q) → Ho n lt (t.bind f) Q
  | .ret _, h => h
  | .ask _ _ k, ⟨h1, h2, h3⟩ => ⟨h1, h2, Ho.bind h3⟩
theorem Ho.mono {n : Nat} {lt : Nat → Nat → Bool} {α : Type} {Q Q' : α → Prop} (q : ∀ a, Q a → Q' a) : ∀ {t : KasT α}, Ho n lt t Q → Ho n lt t Q'
  | .ret _, h => q _ h
  | .ask _ _ k, ⟨h1, h2, h3⟩ => ⟨h1, h2, Ho.mono q h3⟩
theorem Ho.wp {n : Nat} {lt : Nat → Nat → Bool} {α : Type} {cmp : Nat → Nat → (Bool → Shared → Prop) → Shared → Prop} {s : Shared} (hc : ∀ i j, i < n → j < n → ∀ C : Bool → Shared → Prop, C (lt i j) s → cmp i j C s) {Q : α → Prop} {R : α → Shared → Prop} (q : ∀ a, Q a → R a s) :
    ∀ {t : KasT α}, Ho n lt t Q → t.kasWp cmp R s
  | .ret _, h => q _ h
  | .ask i j k, ⟨h1, h2, h3⟩ => hc i j h1 h2 _ (Ho.wp hc q h3)
section
variable {n : Nat} {key : Nat → List Int}
noncomputable def PA (n : Nat) (p : Array Nat) : Prop := p.toList.Perm (List.range n)
theorem PA.size {p : Array Nat} (h : PA n p) : p.size = n := by have := h.length_eq; simpa using this
theorem PA.lt {p : Array Nat} (h : PA n p) {t : Nat} (ht : t < n) : p.getD t 0 < n := by
  have hs : t < p.size := by rw [h.size]; exact ht
  have : p[t] ∈ List.range n := h.mem_iff.mp (by simp)
  rw [List.mem_range] at this
  simpa [Array.getD, hs] using this
theorem PA.inj {p : Array Nat} (h : PA n p) {t u : Nat} (ht : t < n) (hu : u < n) (e : p.getD t 0 = p.getD u 0) : t = u := by
  have hs : t < p.size := by rw [h.size]; exact ht
  have hs' : u < p.size := by rw [h.size]; exact hu
  have nd : p.toList.Nodup := h.symm.nodup List.nodup_range
  simp only [Array.getD, hs, hs', dif_pos] at e
  have key := List.pairwise_iff_getElem.mp nd
  rcases Nat.lt_trichotomy t u with c | c | c
  · exact absurd (by rw [Array.getElem_toList, Array.getElem_toList]; exact e) (key t u _ _ c)
  · exact c
  · exact absurd (by rw [Array.getElem_toList, Array.getElem_toList]; exact e.symm) (key u t _ _ c)
noncomputable def kp (key : Nat → List Int) (p : Array Nat) (t : Nat) : List Int := key (p.getD t 0)
noncomputable def SS (key : Nat → List Int) (p : Array Nat) (m : Nat) : Prop := ∀ i j, i < j → j < m → ltL (kp key p i) (kp key p j) = true
noncomputable def SD (key : Nat → List Int) (p : Array Nat) (m : Nat) : Prop := ∀ i j, i < j → j < m → ltL (kp key p j) (kp key p i) = true
/-- no two keys alike -/
noncomputable def Dis (n : Nat) (key : Nat → List Int) : Prop := ∀ i j, i < n → j < n → key i = key j → i = j
noncomputable def klt (key : Nat → List Int) (i j : Nat) : Bool := ltL (key i) (key j)
variable (hd : Dis n key)
include hd
theorem tri {p : Array Nat} (h : PA n p) {t u : Nat} (ht : t < n) (hu : u < n) (ne : t ≠ u) (e : ltL (kp key p t) (kp key p u) = false) : ltL (kp key p u) (kp key p t) = true := by
  cases q : ltL (kp key p u) (kp key p t) with
  | true => rfl
  | false => exact absurd (h.inj ht hu (hd _ _ (h.lt ht) (h.lt hu) (ltL_total e q))) ne
theorem asc_ok {p : Array Nat} (h : PA n p) : ∀ (f m : Nat) {Q : Nat → Prop}, 1 ≤ m → m + f ≤ n → SS key p m → (∀ r, m ≤ r → r ≤ m + f → SS key p r → (r = m + f ∨ ltL (kp key p r) (kp key p (r - 1)) = true) → Q r) → Ho n (klt key) (kas_asc p f m) Q
  | 0, m, Q, h1, h2, hs, q => q m (Nat.le_refl _) (Nat.le_refl _) hs (.inl rfl)
  | f + 1, m, Q, h1, h2, hs, q => by
    refine ⟨h.lt (by (first | lia | omega)), h.lt (by (first | lia | omega)), ?_⟩
    cases c : klt key (p.getD m 0) (p.getD (m - 1) 0) with
    | true => exact q m (Nat.le_refl _) (by (first | lia | omega)) hs (.inr c)
    | false =>
      refine asc_ok h f (m + 1) (by (first | lia | omega)) (by (first | lia | omega)) (fun i j hij hj => ?_) fun r r1 r2 r3 r4 => q r (by (first | lia | omega)) (by (first | lia | omega)) r3 (by rwa [show m + (f + 1) = m + 1 + f by (first | lia | omega)])
      by_cases hjm : j < m
      · exact hs i j hij hjm
      · obtain rfl : j = m := by (first | lia | omega)
        have last : ltL (kp key p (j - 1)) (kp key p j) = true := tri hd h (by (first | lia | omega)) (by (first | lia | omega)) (by (first | lia | omega)) c
        by_cases hi : i = j - 1
        · rw [hi]; exact last
        · exact ltL_trans (hs i (j - 1) (by (first | lia | omega)) (by (first | lia | omega))) last
theorem desc_ok {p : Array Nat} (h : PA n p) : ∀ (f m : Nat) {Q : Array Nat × Nat × Nat → Prop}, 1 ≤ m → m + f ≤ n → SD key p m → (∀ r, m ≤ r → r ≤ m + f → SD key p r → Q (p, r, 0)) → Ho n (klt key) (kas_desc f p m 0) Q
  | 0, m, Q, h1, h2, hs, q => q m (Nat.le_refl _) (Nat.le_refl _) hs
  | f + 1, m, Q, h1, h2, hs, q => by
    refine ⟨h.lt (by (first | lia | omega)), h.lt (by (first | lia | omega)), ?_⟩
    cases c : klt key (p.getD m 0) (p.getD (m - 1) 0) with
    | true =>
      simp only [if_true, Nat.lt_irrefl, gt_iff_lt, if_false]
      refine desc_ok h f (m + 1) (by (first | lia | omega)) (by (first | lia | omega)) (fun i j hij hj => ?_) fun r r1 r2 r3 => q r (by (first | lia | omega)) (by (first | lia | omega)) r3
      by_cases hjm : j < m
      · exact hs i j hij hjm
      · obtain rfl : j = m := by (first | lia | omega)
        by_cases hi : i = j - 1
        · rw [hi]; exact c
        · exact ltL_trans c (hs i (j - 1) (by (first | lia | omega)) (by (first | lia | omega)))
    | false =>
      simp only [Bool.false_eq_true, if_false]
      refine ⟨h.lt (by (first | lia | omega)), h.lt (by (first | lia | omega)), ?_⟩
      rw [show klt key (p.getD (m - 1) 0) (p.getD m 0) = true from tri hd h (by (first | lia | omega)) (by (first | lia | omega)) (by (first | lia | omega)) c]
      exact q m (Nat.le_refl _) (by (first | lia | omega)) hs
omit hd in
theorem getD_of {p q : Array Nat} {i j : Nat} (e : p[i]? = q[j]?) : p.getD i 0 = q.getD j 0 := by
  rw [Array.getD_eq_getD_getElem?, Array.getD_eq_getD_getElem?, e]
omit hd in
theorem rev_pa {p : Array Nat} (h : PA n p) (i j : Nat) : PA n (kas_rev p i j) := (Array.perm_iff_toList_perm.mp (mirror_perm p i j _)).trans h
theorem tail3_ok {p : Array Nat} (h : PA n p) {m nrem : Nat} (h1 : 1 ≤ m) (h2 : m ≤ nrem) (h3 : nrem ≤ n) (hs : SD key p m) {Q : Nat × Array Nat → Prop} (q : ∀ r p', 1 ≤ r → r ≤ nrem → PA n p' → SS key p' r → Q (r, p')) : Ho n (klt key) (kas_tail3 m nrem p) Q := by
  unfold kas_tail3
  have hp := rev_pa h 0 m
  have hk : ∀ t, t < m → kp key (kas_rev p 0 m) t = kp key p (m - 1 - t) := fun t ht => by
    unfold kp
    congr 1
    refine getD_of ?_
    have := getElem?_mirror_all (xs := p) (i := 0) (j := m) (by rw [h.size]; (first | lia | omega)) t
    rw [if_pos ⟨Nat.zero_le _, ht⟩] at this
    rw [show m - 1 - t = 0 + m - 1 - t by (first | lia | omega)]
    exact this
  refine Ho.bind (asc_ok hd hp (nrem - m) m h1 (by (first | lia | omega)) (fun i j hij hj => ?_) fun r r1 r2 r3 _ => q r _ (by (first | lia | omega)) (by (first | lia | omega)) hp r3)
  rw [hk i (by (first | lia | omega)), hk j hj]
  exact hs _ _ (by (first | lia | omega)) (by (first | lia | omega))
theorem descPart_ok {p : Array Nat} (h : PA n p) {m nrem : Nat} (h2 : m + 1 ≤ nrem) (h3 : nrem ≤ n) (hs : SD key p (m + 1)) {Q : Nat × Array Nat → Prop} (q : ∀ r p', 1 ≤ r → r ≤ nrem → PA n p' → SS key p' r → Q (r, p')) : Ho n (klt key) (kas_descPart m nrem p) Q := by
  unfold kas_descPart
  refine Ho.bind (desc_ok hd h (nrem - (m + 1)) (m + 1) (by (first | lia | omega)) (by (first | lia | omega)) hs fun r r1 r2 r3 => ?_)
  dsimp only
  rw [if_neg (by (first | lia | omega))]
  exact tail3_ok hd h (by (first | lia | omega)) (by (first | lia | omega)) h3 r3 q
theorem count_ok {p : Array Nat} (h : PA n p) (h1 : 1 ≤ n) {Q : Nat × Array Nat → Prop} (q : ∀ r p', 1 ≤ r → r ≤ n → PA n p' → SS key p' r → Q (r, p')) : Ho n (klt key) (kas_count n p) Q := by
  unfold kas_count
  refine Ho.bind (asc_ok hd h (n - 1) 1 (Nat.le_refl _) (by (first | lia | omega)) (fun i j hij hj => by (first | lia | omega)) fun r r1 r2 r3 r4 => ?_)
  by_cases c : r = n
  · rw [if_pos (by simpa using c)]
    exact q r p r1 (by (first | lia | omega)) h r3
  · rw [if_neg (by simpa using c)]
    have hlt : ltL (kp key p r) (kp key p (r - 1)) = true := r4.resolve_left (by (first | lia | omega))
    by_cases c2 : r > 1
    · rw [if_pos c2]
      refine ⟨h.lt (by (first | lia | omega)), h.lt (by (first | lia | omega)), ?_⟩
      rw [show klt key (p.getD 0 0) (p.getD (r - 1) 0) = true from r3 0 (r - 1) (by (first | lia | omega)) (by (first | lia | omega))]
      exact q r p r1 (by (first | lia | omega)) h r3
    · rw [if_neg c2]
      obtain rfl : r = 1 := by (first | lia | omega)
      refine descPart_ok hd h (by (first | lia | omega)) (Nat.le_refl _) (fun i j hij hj => ?_) q
      obtain rfl : i = 0 := by (first | lia | omega)
      obtain rfl : j = 1 := by (first | lia | omega)
      exact hlt
theorem place_ok {p : Array Nat} (h : PA n p) {k : Nat} (hk : k < n) (hs : SS key p k) {Q : Nat → Prop}
    (q : ∀ l, l ≤ k → (∀ i, i < l → ltL (kp key p i) (kp key p k) = true) → (∀ i, l ≤ i → i < k → ltL (kp key p k) (kp key p i) = true) → Q l) :
    ∀ (f l r : Nat), l ≤ r → r ≤ k → r - l ≤ f → (∀ i, i < l → ltL (kp key p i) (kp key p k) = true) → (∀ i, r ≤ i → i < k → ltL (kp key p k) (kp key p i) = true) → Ho n (klt key) (kas_place p k f l r) Q
  | 0, l, r, h1, h2, h3, a1, a2 => by
    obtain rfl : l = r := by (first | lia | omega)
    exact q l h2 a1 a2
  | f + 1, l, r, h1, h2, h3, a1, a2 => by
    unfold kas_place
    by_cases c : l ≥ r
    · rw [if_pos c]
      obtain rfl : l = r := by (first | lia | omega)
      exact q l h2 a1 a2
    · rw [if_neg c]
      refine ⟨h.lt hk, h.lt (by (first | lia | omega)), ?_⟩
      cases e : klt key (p.getD k 0) (p.getD ((l + r) / 2) 0) with
      | true =>
        simp only [if_true]
        refine place_ok h hk hs q f l ((l + r) / 2) (by (first | lia | omega)) (by (first | lia | omega)) (by (first | lia | omega)) a1 fun i i1 i2 => ?_
        by_cases c2 : i = (l + r) / 2
        · rw [c2]; exact e
        · exact ltL_trans e (hs _ _ (by (first | lia | omega)) i2)
      | false =>
        simp only [Bool.false_eq_true, if_false]
        have e' : ltL (kp key p ((l + r) / 2)) (kp key p k) = true := tri hd h hk (by (first | lia | omega)) (by (first | lia | omega)) e
        refine place_ok h hk hs q f ((l + r) / 2 + 1) r (by (first | lia | omega)) (by (first | lia | omega)) (by (first | lia | omega)) (fun i i1 => ?_) a2
        by_cases c2 : i = (l + r) / 2
        · rw [c2]; exact e'
        · exact ltL_trans (hs _ _ (by (first | lia | omega)) (by (first | lia | omega))) e'
theorem bin_ok : ∀ (f k : Nat) (p : Array Nat) {Q : Array Nat → Prop}, PA n p → SS key p k → k + f = n → (∀ p', PA n p' → SS key p' n → Q p') → Ho n (klt key) (kas_bin f p k) Q
  | 0, k, p, Q, h, hs, e, q => q p h (by rwa [show n = k by (first | lia | omega)])
  | f + 1, k, p, Q, h, hs, e, q => by
    unfold kas_bin
    refine Ho.bind (place_ok hd h (k := k) (by (first | lia | omega)) hs (fun l l1 l2 l3 => ?_) k 0 k (Nat.zero_le _) (Nat.le_refl _) (by (first | lia | omega)) (fun i hi => by (first | lia | omega)) fun i h1 h2 => by (first | lia | omega))
    have hp : PA n (bubble p k (k - l)) := (Array.perm_iff_toList_perm.mp (bubble_perm p k _)).trans h
    have hk : ∀ t, kp key (bubble p k (k - l)) t = if t = l then kp key p k else if l < t ∧ t ≤ k then kp key p (t - 1) else kp key p t := fun t => by
      have g := getElem?_bubble (xs := p) (src := k) (by rw [h.size]; (first | lia | omega)) (k - l) (by (first | lia | omega)) t
      rw [show k - (k - l) = l by (first | lia | omega)] at g
      unfold kp
      by_cases c1 : t = l
      · rw [if_pos c1] at g ⊢; rw [getD_of g]
      · rw [if_neg c1] at g ⊢
        by_cases c2 : l < t ∧ t ≤ k
        · rw [if_pos c2] at g ⊢; rw [getD_of g]
        · rw [if_neg c2] at g ⊢; rw [getD_of g]
    refine bin_ok f (k + 1) _ hp (fun i j hij hj => ?_) (by (first | lia | omega)) q
    rw [hk, hk]
    by_cases c1 : i = l
    · rw [if_pos c1, if_neg (by (first | lia | omega)), if_pos (by (first | lia | omega))]
      exact l3 _ (by (first | lia | omega)) (by (first | lia | omega))
    · rw [if_neg c1]
      by_cases c2 : j = l
      · rw [if_pos c2, if_neg (by (first | lia | omega))]
        exact l2 _ (by (first | lia | omega))
      · rw [if_neg c2]
        by_cases c3 : l < i ∧ i ≤ k
        · rw [if_pos c3, if_pos (by (first | lia | omega))]
          exact hs _ _ (by (first | lia | omega)) (by (first | lia | omega))
        · rw [if_neg c3]
          by_cases c4 : l < j ∧ j ≤ k
          · rw [if_pos c4]
            by_cases c5 : i = j - 1
            · (first | lia | omega)
            · exact hs _ _ (by (first | lia | omega)) (by (first | lia | omega))
          · rw [if_neg c4]
            exact hs _ _ hij (by (first | lia | omega))
theorem sort_ok (h1 : 1 ≤ n) {Q : Array Nat → Prop} (q : ∀ p', PA n p' → SS key p' n → Q p') : Ho n (klt key) (kas_sort n) Q := by
  unfold kas_sort
  have h0 : PA n (List.toArray (List.range n)) := .refl _
  refine Ho.bind (count_ok hd h0 h1 fun r p' r1 r2 hp hs => ?_)
  dsimp only
  by_cases c : r < n
  · rw [if_pos c, show max r 1 = r by (first | lia | omega)]
    exact bin_ok hd (n - r) r p' hp hs (by (first | lia | omega)) q
  · rw [if_neg c]
    exact q p' hp (by rwa [show n = r by (first | lia | omega)])
end
end Mine
end

/-! Srt2 -/
section
open PySem PySem.W PyProof.Rows
set_option Elab.async false
set_option maxRecDepth 100000
set_option maxHeartbeats 1000000
set_option linter.unusedVariables false
namespace Mine

section
variable {w : World} {A : Around} {E : Value → Shared → Prop} {s : Shared}
theorem sort_tree {a : Addr} {vs : List Value} {n : Nat} {key : Nat → List Int} {Pp : PySem.Fin → Shared → Prop} (ho : s.heap.get? a = some (seqObj "list" vs.toArray n)) (h64 : vs.length < 64) (hd : Dis vs.length key)
    (hk : 2 ≤ vs.length → ∀ h', Heap.ExtBut a s.heap h' → ∃ κ, (∀ (Q : SortKind → Shared → Prop) (E : Value → Shared → Prop), Q κ { s with heap := h' } → wpAny (model P w) A (keyKind' vs.toArray) Q E { s with heap := h' }) ∧
      ∀ i j, i < vs.length → j < vs.length → ∀ C : Bool → Shared → Prop, C (klt key i j) { s with heap := h' } → kas_ask P w A κ vs i j C { s with heap := h' })
    (h : ∀ p h' n', PA vs.length p → SS key p vs.length → Heap.ExtBut a s.heap h' → IsL h' a (List.toArray (p.toList.map fun i => vs.getD i Value.none)) n' → Pp (.done (.ret .none)) { s with heap := h' }) :
    wpAny (model P w) A (Builtin.«list.sort» ⟨[.ref a], []⟩) Pp E s := by
  have ha : a < s.heap.objs.size := Heap.lt_size ho
  have s1 := Heap.SameBut.update s.heap a (Obj.mapSeq fun _ => (#[] : Array Value))
  obtain ⟨e1, ho1⟩ : ∃ e1, (s.heap.update a (Obj.mapSeq fun _ => (#[] : Array Value))).get? a = some (seqObj "list" #[] e1) := ⟨_, get?_update_seq ho fun _ => #[]⟩
  have ho6 : (((s.heap.update a (Obj.mapSeq fun _ => (#[] : Array Value))).push (seqObj "tuple" vs.toArray 0)).push (seqObj "list" #[] 0)).get? a = some (seqObj "list" #[] e1) :=
    Heap.get?_push_of_some _ (Heap.get?_push_of_some _ ho1)
  have ext : Heap.ExtBut a s.heap (((s.heap.update a (Obj.mapSeq fun _ => (#[] : Array Value))).push (seqObj "tuple" vs.toArray 0)).push (seqObj "list" #[] 0)) := (s1.extBut.push _).push _
  have fin : ∀ p : Array Nat, PA vs.length p → SS key p vs.length → ∀ (E : Value → Shared → Prop),
      wpAny (model P w) A (do
        let touched := (← seqEpoch a) != e1
        Builtin.List.listUpdate (.ref a) fun _ => List.toArray (p.toList.map fun i => vs.getD i Value.none)
        if touched then rule "list.sort.modified"; raiseError "ValueError" "list modified during sort"
        ret .none) Pp E { s with heap := ((s.heap.update a (Obj.mapSeq fun _ => (#[] : Array Value))).push (seqObj "tuple" vs.toArray 0)).push (seqObj "list" #[] 0) } := by
    intro p hp hs E
    have hsz : (List.toArray (p.toList.map fun i => vs.getD i Value.none)).size = vs.length := by rw [List.size_toArray, List.length_map, Array.length_toList, hp.size]
    refine wpAny_bind (seqEpoch_at ho6 rfl ?_)
    refine wpAny_bind (listUpdate_at ho6 rfl ?_ (Nat.zero_le _) (Nat.le_trans (Nat.le_of_eq hsz) (by rw [sizeLine_eq]; omega)))
    simp only [bne_self_eq_false, Bool.false_eq_true, if_false]
    refine wpAny_pure (h p _ _ hp hs (ext.trans (Heap.SameBut.update ..).extBut) (get?_update_seq ho6 fun _ => List.toArray (p.toList.map fun i => vs.getD i Value.none)))
  rw [list_sort_plain]
  refine wpAny_bind (listItems_at ho rfl ?_)
  refine wpAny_bind (listUpdate_at ho rfl ?_ (by rw [List.size_toArray, sizeLine_eq]; omega) (Nat.zero_le _))
  refine wpAny_bind (seqEpoch_at ho1 rfl ?_)
  refine wpAny_bind (wpAny_newTuple ?_ (by show vs.length ≤ _; rw [sizeLine_eq]; omega))
  refine wpAny_bind (wpAny_newList ?_ (Nat.zero_le _))
  refine wpAny_holding ?_
  show wpAny (model P w) A _ Pp E { s with heap := ((s.heap.update a (Obj.mapSeq fun _ => (#[] : Array Value))).push (seqObj "tuple" vs.toArray 0)).push (seqObj "list" #[] 0) }
  dsimp only
  by_cases h2 : vs.toArray.size < 2
  · rw [if_pos h2, if_pos h2]
    refine wpAny_bind (wpAny_pure ?_)
    rw [StateT.run_pure]
    refine wpAny_bind (wpAny_pure ?_)
    have hp : PA vs.length (List.toArray (List.range vs.length)) := .refl _
    have hs : SS key (List.toArray (List.range vs.length)) vs.length := fun i j hij hj => by rw [List.size_toArray] at h2; omega
    have e : (arrOf (SortSt.mk' general' (vs.toArray.zip vs.toArray) #[] 7 none)).map (·.2) = List.toArray ((List.toArray (List.range vs.length)).toList.map fun i => vs.getD i Value.none) := by
      show (vs.toArray.zip vs.toArray).map (·.2) = _
      apply Array.toList_inj.mp
      refine List.ext_getElem (by simp) fun i h1 h2 => ?_
      simp at h1
      simp [h1]
    have f := fin _ hp hs E
    rw [← e] at f
    exact f
  · rw [if_neg h2, if_neg h2]
    rw [List.size_toArray] at h2
    obtain ⟨κ, k1, k2⟩ := hk (by omega) _ ext
    refine wpAny_bind (k1 _ _ ?_)
    refine wpAny_bind (wpAny_mono (kat_run (prog := P) (w := w) (A := A) (E := E) (vs := vs) (ks := vs) (κ := κ) (G := fun p s' => (PA vs.length p ∧ SS key p vs.length) ∧ s' = { s with heap := ((s.heap.update a (Obj.mapSeq fun _ => (#[] : Array Value))).push (seqObj "tuple" vs.toArray 0)).push (seqObj "list" #[] 0) })
      (Q := fun st' s' => ∃ p : Array Nat, p.size = vs.length ∧ arrOf st' = p.map (kas_item (vs.toArray.zip vs.toArray)) ∧ failedOf st' = none ∧ (PA vs.length p ∧ SS key p vs.length) ∧ s' = { s with heap := ((s.heap.update a (Obj.mapSeq fun _ => (#[] : Array Value))).push (seqObj "tuple" vs.toArray 0)).push (seqObj "list" #[] 0) })
      rfl (by omega) h64 (fun p' st' s' a1 a2 a3 a4 => ⟨p', a1, a2, a3, a4⟩) ?_) ?_ fun _ _ e => e)
    · exact (sort_ok hd (by omega) (Q := fun p => PA vs.length p ∧ SS key p vs.length) fun p hp hs => ⟨hp, hs⟩).wp k2 fun p hp => ⟨hp, rfl⟩
    · rintro ⟨⟨⟩, st'⟩ s' ⟨p, hp, har, hf, ⟨pa, ss⟩, rfl⟩
      dsimp only
      have e := kat_snds (ks := vs) (vs := vs) rfl har
      rw [e, hf]
      exact fin p pa ss E
end
end Mine
end

/-! Srt3 -/
section
open PySem PySem.W PyProof.Rows
set_option Elab.async false
set_option maxRecDepth 100000
set_option maxHeartbeats 1000000
set_option linter.unusedVariables false
namespace Mine

open PySem.Calls
/-! ## tuples of ints, plain or Match: compared, sorted -/
noncomputable def tm (m : Bool) (xs : List Int) : MV := .tup m (xs.map MV.int)
theorem vr_tm {h : Heap} {m : Bool} {xs : List Int} {u : Value} : VR h (tm m xs) u ↔ ∃ a items n, u = .ref a ∧ h.get? a = some (tupO m items n) ∧ IntsAre items.toList xs := by
  unfold tm
  rw [vr_tup]
  simp only [vrs_ints]
section
variable {w : World} {A : Around} {E : Value → Shared → Prop} {s : Shared}
theorem katlex_ints {b : Bool} {Q : Bool → Shared → Prop} : ∀ {us vs : List Value} {xs ys : List Int} {i : Nat}, IntsAre us xs → IntsAre vs ys → xs.length = ys.length → Q (ltL xs ys) s → KatLex P w A b false Q (us.zip vs) i s
  | [], [], _, _, _, hu, hv, _, h => by
    cases hu; cases hv
    exact kat_nil h
  | [], v :: vs, _, _, _, hu, hv, hl, _ => by
    cases hu; cases hv; simp at hl
  | u :: us, [], _, _, _, hu, hv, hl, _ => by
    cases hu; cases hv; simp at hl
  | u :: us, v :: vs, _, _, i, hu, hv, hl, h => by
    cases hu with
    | cons a t hu =>
    cases hv with
    | cons a' t' hv =>
    rw [List.zip_cons_cons]
    refine kat_cons (wpAny_eqBool_int ?_)
    by_cases e : (a == a') = true
    · rw [e]
      refine kat_yes (katlex_ints hu hv (by simpa using hl) ?_)
      simpa only [ltL, e, if_true] using h
    · rw [Bool.eq_false_iff.mpr e]
      refine kat_no ?_
      have h : Q (decide (a < a')) s := by simpa only [ltL, Bool.eq_false_iff.mpr e, Bool.false_eq_true, if_false] using h
      cases (b && i == 0) with
      | true => exact oneLt_int h
      | false => exact kat_one _ _ (PySem.P.lt_int h)
theorem f_lt (q : Params) : findIn (K q) (.ref 135) "__lt__" = some (some (.builtin "tuple.__lt__")) := by kernel_rfl
theorem tlt_kind : builtinKind "tuple.__lt__" = some .slot := by decide +kernel
theorem tlt_split : splitId "tuple.__lt__" = some ("tuple", "__lt__") := by decide +kernel
theorem match_lt {x y : Addr} {i1 i2 : Array Value} {n1 n2 : Nat × Option Addr} {xs ys : List Int} {C : Bool → Shared → Prop} (X : (K w.params).In s.heap) (hu : A.units < cLine) (e1 : s.heap.get? x = some (tupO true i1 n1)) (e2 : s.heap.get? y = some (tupO true i2 n2)) (a1 : IntsAre i1.toList xs) (a2 : IntsAre i2.toList ys)
    (h : C (ltL xs ys) s) : wpAny (model P w) A (keyLt' oneType' (.ref x) (.ref y)) C (fun _ _ => False) s := by
  rw [keyLt'_oneType, oneLt'_eq]
  simp only [if_true]
  refine wpAny_bind (wpAny_cRoomFor hu ?_)
  have lk := mlook (w := w) X e1 (f_lt _)
  have fin : wpAny (model P w) A (call (.builtin "tuple.__lt__") [.ref x, .ref y]) (fun v s' => v = .bool (ltL xs ys) ∧ s' = s) (fun _ _ => False) s := by
    refine wpAny_call (codeAny_call_builtin F.slot_tuple_lt.plain F.entry_tuple_lt (check_slot (i := "tuple.__lt__") (owner := "tuple") (n := "__lt__") (self := .ref x) (rest := [.ref y]) (kw := []) tlt_kind tlt_split (minst X e1) (F.args_tuple_lt_2 _ _) ?_))
    refine wpAny_mono (tup_lt_body (R := fun v s' => v = .bool (ltL xs ys) ∧ s' = s) (E := fun _ _ => False) e1 rfl e2 rfl (minst X e2) a1 a2 ⟨rfl, rfl⟩) (fun fin s' hh => ?_) fun _ _ z => z.elim
    obtain ⟨v, rfl, hv⟩ := hh
    exact hv
  simp only [callSpecialIfBound?, bindSpecialIfBound?]
  refine wpAny_bind (wpAny_holding (wpAny_bind (wpAny_bind (lk.here ?_))))
  refine wpAny_bind (wpAny_askSetting (wpAny_ite ?_))
  split
  · refine wpAny_bind (wpAny_of_eq (F.slot_tuple_lt.bind _) (wpAny_pure ?_))
    refine wpAny_bind (wpAny_mono fin (fun v s' hh => ?_) fun _ _ z => z)
    obtain ⟨rfl, rfl⟩ := hh
    exact wpAny_pure (wpAny_pure h)
  · refine wpAny_tryCatch (wpAny_bind (wpAny_of_eq (F.slot_tuple_lt.bind _) (wpAny_pure ?_)))
    refine wpAny_bind (wpAny_mono fin (fun v s' hh => ?_) fun _ _ z => z)
    obtain ⟨rfl, rfl⟩ := hh
    exact wpAny_pure (wpAny_pure h)
end
theorem vrs_getD {h : Heap} {f : List Int → MV} {xss : List (List Int)} {us : List Value} (r : VRs h (xss.map f) us) {i : Nat} (hi : i < us.length) : VR h (f (xss.getD i [])) (us.getD i .none) := by
  have := vrs_at r i hi
  rwa [show us.getD i .none = us[i] by simp [hi]]
theorem vrs_pick {h : Heap} {f : List Int → MV} {xss : List (List Int)} {us : List Value} (r : VRs h (xss.map f) us) : ∀ (p : List Nat), (∀ i ∈ p, i < us.length) → VRs h ((p.map fun i => xss.getD i []).map f) (p.map fun i => us.getD i .none)
  | [], _ => vrs_nil.mpr rfl
  | i :: p, hp => vrs_cons.mpr ⟨_, _, rfl, vrs_getD r (hp i (by simp)), vrs_pick r p fun j hj => hp j (by simp [hj])⟩
theorem katTups_of {h : Heap} : ∀ {xss : List (List Int)} {vs : List Value}, VRs h (xss.map (tm false)) vs → (∀ x ∈ xss, x.length = 3) → ∃ fs, KatTups h vs fs ∧ fs.length = vs.length ∧ ∀ v ∈ fs, ∃ i t, v = .int i t
  | [], _, r, _ => by
    rw [List.map_nil, vrs_nil] at r
    subst r
    exact ⟨[], KatTups.nil, rfl, fun v h => by cases h⟩
  | x :: xss, _, r, h3 => by
    rw [List.map_cons, vrs_cons] at r
    obtain ⟨u, r', rfl, r1, r2⟩ := r
    obtain ⟨a, items, n, rfl, e, ia⟩ := vr_tm.mp r1
    obtain ⟨fs, k1, k2, k3⟩ := katTups_of r2 fun y hy => h3 y (by simp [hy])
    have hl := (ints_get ia 0).2
    have h0 := (ints_get ia 0).1 (by rw [hl, h3 x (by simp)]; omega)
    obtain ⟨t, ht⟩ := h0
    have hx : items[0]? = some (.int (x.getD 0 0) t) := by
      rw [← Array.getElem?_toList, List.getElem?_eq_getElem (by rw [hl, h3 x (by simp)]; omega), ht]
    exact ⟨_ :: fs, KatTups.cons e rfl rfl hx k1, by simp [k2], fun v hv => by
      rcases List.mem_cons.mp hv with rfl | hv
      · exact ⟨_, _, rfl⟩
      · exact k3 v hv⟩
/-- what the sort asks, of tuples -/
theorem sort_asks {z : Z} {ms : MS} {s : Shared} {A : Around} {a : Addr} {m : Bool} {xss : List (List Int)} {vs : List Value} (sh : SH z ms s.heap) (hu : A.units < cLine) (r : VRs s.heap (xss.map (tm m)) vs) (h3 : ∀ x ∈ xss, x.length = 3) (hF : z.F a = none) (ha : ∀ o, s.heap.get? a = some o → ¬ Imm o) :
    2 ≤ vs.length → ∀ h', Heap.ExtBut a s.heap h' → ∃ κ, (∀ (Q : SortKind → Shared → Prop) (E : Value → Shared → Prop), Q κ { s with heap := h' } → wpAny (model P z.w) A (keyKind' vs.toArray) Q E { s with heap := h' }) ∧
      ∀ i j, i < vs.length → j < vs.length → ∀ C : Bool → Shared → Prop, C (klt (fun i => xss.getD i []) i j) { s with heap := h' } → kas_ask P z.w A κ vs i j C { s with heap := h' } := by
  intro h2 h' ex
  have kk : Keep s.heap h' := Keep.but ex ha
  have X : (K z.w.params).In h' := fun b o e => by
    have e2 := sh.base _ _ (z.X b o e)
    exact ex b o (fun q => by subst q; rw [hF] at e2; cases e2) (sh.fr _ _ e2)
  have r' := r.keep kk
  have hlen : vs.length = xss.length := by rw [r.length, List.length_map]
  have mem3 : ∀ i, i < vs.length → (xss.getD i []).length = 3 := fun i hi => by
    rw [hlen] at hi
    refine h3 _ ?_
    rw [show xss.getD i [] = xss[i] by simp [hi]]
    exact List.getElem_mem _
  cases m with
  | false =>
    obtain ⟨fs, t1, t2, t3⟩ := katTups_of r' h3
    refine ⟨tuples' (Value.type "int" != Value.type "tuple"), fun Q E q => kat_kind (s := { s with heap := h' }) (T := .type "int") t1 (by omega) (fun v hv => ?_) (by rfl) q, fun i j hi hj C hC => ?_⟩
    · obtain ⟨i, t, rfl⟩ := t3 v hv
      exact Looks.of_pure rfl
    · obtain ⟨x, i1, n1, ex1, g1, a1⟩ := vr_tm.mp (vrs_getD r' hi)
      obtain ⟨y, i2, n2, ex2, g2, a2⟩ := vr_tm.mp (vrs_getD r' hj)
      unfold kas_ask
      rw [ex1, ex2]
      refine kat_lt (s := { s with heap := h' }) g1 rfl g2 rfl ?_
      have z1 : i1.size = 3 := by have := (ints_get a1 0).2; rw [mem3 i hi] at this; simpa using this
      have z2 : i2.size = 3 := by have := (ints_get a2 0).2; rw [mem3 j hj] at this; simpa using this
      rw [show decide (i1.size < i2.size) = false by rw [z1, z2]; rfl]
      exact katlex_ints a1 a2 (by rw [mem3 i hi, mem3 j hj]) hC
  | true =>
    refine ⟨oneType', fun Q E q => kas_kind (s := { s with heap := h' }) (T := .ref 135) h2 (fun v hv => ?_) (by rfl) (by rfl) q, fun i j hi hj C hC => ?_⟩
    · obtain ⟨i, hi, rfl⟩ := List.mem_iff_getElem.mp hv
      obtain ⟨x, i1, n1, ex1, g1, a1⟩ := vr_tm.mp (vrs_at r' i hi)
      rw [ex1]
      exact mtype g1
    · obtain ⟨x, i1, n1, ex1, g1, a1⟩ := vr_tm.mp (vrs_getD r' hi)
      obtain ⟨y, i2, n2, ex2, g2, a2⟩ := vr_tm.mp (vrs_getD r' hj)
      unfold kas_ask
      rw [ex1, ex2]
      exact match_lt (s := { s with heap := h' }) X hu g1 g2 a1 a2 hC
/-- the one list in order -/
theorem sorted_is {n : Nat} {xss ys : List (List Int)} {p : Array Nat} (hn : n = xss.length) (hp : PA n p) (hs : SS (fun i => xss.getD i []) p n) (h1 : ys.Perm xss) (h2 : ys.Pairwise fun x y => ltL x y = true) : p.toList.map (fun i => xss.getD i []) = ys := by
  subst hn
  have e : (List.range xss.length).map (fun i => xss.getD i []) = xss := by
    refine List.ext_getElem (by simp) fun i a b => ?_
    simp at a
    simp [a]
  have perm : (p.toList.map fun i => xss.getD i []).Perm ys := by
    have := List.Perm.map (fun i => xss.getD i []) hp
    rw [e] at this
    exact this.trans h1.symm
  refine List.Perm.eq_of_pairwise (le := fun x y => ltL x y = true) (fun a b _ _ q1 q2 => ?_) ?_ h2 perm
  · have := ltL_trans q1 q2; rw [ltL_irrefl] at this; cases this
  · rw [List.pairwise_iff_getElem]
    intro i j hi hj hij
    have hi' : i < p.size := by simpa using hi
    have hj' : j < p.size := by simpa using hj
    have := hs i j hij (by rw [← hp.size]; exact hj')
    unfold kp at this
    simpa [Array.getD, hi', hj'] using this
theorem dis_of {xss ys : List (List Int)} (h1 : ys.Perm xss) (h2 : ys.Pairwise fun x y => ltL x y = true) : Dis xss.length fun i => xss.getD i [] := by
  have nd : xss.Nodup := h1.nodup (h2.imp fun h e => by subst e; rw [ltL_irrefl] at h; cases h)
  have key := List.pairwise_iff_getElem.mp nd
  intro i j hi hj e
  have e : xss[i] = xss[j] := by simpa [hi, hj] using e
  rcases Nat.lt_trichotomy i j with c | c | c
  · exact absurd e (key i j _ _ c)
  · exact c
  · exact absurd e.symm (key j i _ _ c)
section
variable {z : Z} {ms : MS} {h h' : Heap} {Q : MV → MS → Prop}
theorem SH.newAt (x : SH z ms h) {D : Addr} {mo : MO} (all : ∀ b o, h.get? b = some o → h'.get? b = some o) (hD : h.objs.size ≤ D) (r : OR h' D mo) : SH z ⟨ms.loc, upd ms.sto D mo⟩ h' ∧ Keep h h' ∧ ms.sto D = none := by
  have k := Keep.of_all all
  have x' := x.grow k all
  have nD : ∀ o, h.get? D ≠ some o := fun o e => absurd (Heap.lt_size e) (Nat.not_lt.mpr hD)
  have sD : ms.sto D = none := by
    cases q : ms.sto D with
    | none => rfl
    | some mo =>
      obtain ⟨o, e, _⟩ := (x.sto _ _ q).2.2.2.there
      exact absurd e (nD o)
  refine ⟨⟨x'.base, x'.fr, x'.ns, x'.lF, fun a m e => ?_⟩, k, sD⟩
  dsimp only [upd] at e
  by_cases q : a = D
  · subst q
    rw [if_pos rfl] at e
    cases e
    refine ⟨?_, ?_, ?_, r⟩
    · cases q : z.F a with
      | none => rfl
      | some o => exact absurd (x.fr _ _ q) (nD o)
    · exact Nat.lt_of_lt_of_le x.new_none.2.2.2 hD
    · intro q
      obtain ⟨m', n, _⟩ := x.ns
      obtain ⟨o, _, _, e', _⟩ := n
      rw [← q] at e'
      exact nD o e'
  · rw [if_neg q] at e
    exact x'.sto a m e
theorem c_sort {l : Addr} {m : Bool} {xss ys : List (List Int)} (hu : z.A.units + 5 < cLine) (hl : ms.sto l = some (.list (xss.map (tm m)))) (h3 : ∀ x ∈ xss, x.length = 3) (h64 : xss.length < 64) (h1 : ys.Perm xss) (h2 : ys.Pairwise fun x y => ltL x y = true)
    (q : Q .none ⟨ms.loc, upd ms.sto l (.list (ys.map (tm m)))⟩) : CallV z (.builtin "list.sort") [.obj l] ms Q := by
  intro us s ok sh rs
  obtain ⟨u1, r1, rfl, v1, rs⟩ := vrs_cons.mp rs
  obtain rfl := vrs_nil.mp rs
  obtain rfl := vr_obj.mp v1
  obtain ⟨p1, p2, p3, items, n, el, vr⟩ := sh.sto l _ hl
  have hn : items.toList.length = xss.length := by rw [vr.length, List.length_map]
  have ho : s.heap.get? l = some (seqObj "list" items.toList.toArray n) := by rw [Array.toArray_toList]; exact el
  refine wpAny_call_entry slot_list_sort ⟨_, ho, rfl⟩ entry_list_sort (sort_tree (key := fun i => xss.getD i []) (n := n) ho (by omega) (by rw [hn]; exact dis_of h1 h2) (sort_asks (A := z.A.in1) sh (by have : z.A.units + 1 < cLine := (by omega); exact this) vr h3 p1 fun o e => by rw [ho] at e; cases e; simp [Imm]) ?_) (args_list_sort _)
  intro p h' n' hp hs ex el'
  refine ⟨.none, rfl, ?_⟩
  have hsi := sorted_is hn hp hs h1 h2
  have kk : Keep s.heap h' := Keep.but ex fun o e => by rw [ho] at e; cases e; simp [Imm]
  have vr' : VRs h' (ys.map (tm m)) (p.toList.map fun i => items.toList.getD i Value.none) := by
    rw [← hsi]
    exact vrs_pick (vr.keep kk) p.toList fun i hi => by have := hp.mem_iff.mp hi; rwa [List.mem_range] at this
  have hll : s.heap.get? l = some (seqObj "list" items.toList.toArray n) := ho
  have sh' : SH z ⟨ms.loc, upd ms.sto l (.list (ys.map (tm m)))⟩ h' := by
    refine ⟨sh.base, fun b o e => ex b o (fun q => by subst q; rw [p1] at e; cases e) (sh.fr b o e), ?_, sh.lF, fun b mo e => ?_⟩
    · obtain ⟨mm, nn, rr⟩ := sh.ns
      refine ⟨mm, nn.at' fun o e => ex _ _ (Ne.symm p3) e, fun y d e => ?_⟩
      obtain ⟨u, e1, e2⟩ := rr y d e
      exact ⟨u, e1, e2.keep kk⟩
    · dsimp only [upd] at e
      by_cases qb : b = l
      · subst qb
        rw [if_pos rfl] at e
        cases e
        exact ⟨p1, p2, p3, _, n', el', by simpa using vr'⟩
      · rw [if_neg qb] at e
        obtain ⟨w1, w2, w3, w4⟩ := sh.sto b mo e
        exact ⟨w1, w2, w3, w4.same kk fun o => ex b o qb⟩
  exact post_at (s := { s with heap := h' }) ok kk sh' (vr_none.mpr rfl) q
theorem c_sorted {l : Addr} {m : Bool} {xss ys : List (List Int)} (hu : z.A.units + 5 < cLine) (hl : ms.sto l = some (.list (xss.map (tm m)))) (h3 : ∀ x ∈ xss, x.length = 3) (h64 : xss.length < 64) (h1 : ys.Perm xss) (h2 : ys.Pairwise fun x y => ltL x y = true)
    (q : ∀ D, ms.sto D = none → Q (.obj D) ⟨ms.loc, upd ms.sto D (.list (ys.map (tm m)))⟩) : CallV z (.builtin "sorted") [.obj l] ms Q := by
  intro us s ok sh rs
  obtain ⟨u1, r1, rfl, v1, rs⟩ := vrs_cons.mp rs
  obtain rfl := vrs_nil.mp rs
  obtain rfl := vr_obj.mp v1
  obtain ⟨p1, p2, p3, items, n, el, vr⟩ := sh.sto l _ hl
  have hn : items.toList.length = xss.length := by rw [vr.length, List.length_map]
  refine Calls.call_function_entry kind_sorted plain_sorted entry_sorted (args_sorted1 _) ?_
  unfold Builtin.«sorted»
  refine wpAny_bind (m := checkCount "sorted" 1 1 _) (wpAny_pure ?_)
  refine wpAny_bind (collect_seq el (.inl rfl) rfl (by have : items.size = xss.length := by simpa using hn
                                                       omega) ?_)
  refine wpAny_bind (wpAny_newList ?_ (by rw [hn, sizeLine_eq]; omega))
  have hsz : ((s.heap.push (seqObj "list" #[] 0)).update s.heap.objs.size (Obj.mapSeq (· ++ items))).objs.size = s.heap.objs.size + 1 := by
    rw [Heap.size_update, size_push']
  have hoL : (((s.heap.push (seqObj "list" #[] 0)).update s.heap.objs.size (Obj.mapSeq (· ++ items))).push (seqObj "list" items.toList.toArray 0)).get? (s.heap.objs.size + 1) = some (seqObj "list" items.toList.toArray 0) := by
    rw [← hsz]; exact Heap.get?_push_size _ rfl
  have all : ∀ b o, s.heap.get? b = some o → (((s.heap.push (seqObj "list" #[] 0)).update s.heap.objs.size (Obj.mapSeq (· ++ items))).push (seqObj "list" items.toList.toArray 0)).get? b = some o := fun b o e =>
    Heap.get?_push_of_some _ ((Heap.get?_update_ne _ _ _ _ (Nat.ne_of_lt (Heap.lt_size e))).trans (Heap.get?_push_of_some _ e))
  show wpAny _ _ _ _ _ { s with heap := ((s.heap.push (seqObj "list" #[] 0)).update s.heap.objs.size (Obj.mapSeq (· ++ items))).push (seqObj "list" items.toList.toArray 0) }
  rw [hsz]
  have k1 := Keep.of_all all
  have sh1 : SH z ms (((s.heap.push (seqObj "list" #[] 0)).update s.heap.objs.size (Obj.mapSeq (· ++ items))).push (seqObj "list" items.toList.toArray 0)) := sh.grow k1 all
  have hDn : z.F (s.heap.objs.size + 1) = none := by
    cases q : z.F (s.heap.objs.size + 1) with
    | none => rfl
    | some o => exact absurd (Heap.lt_size (sh.fr _ _ q)) (Nat.not_lt.mpr (Nat.le_succ _))
  refine wpAny_bind (wpAny_holding (wpAny_call_entry slot_list_sort ⟨_, hoL, rfl⟩ entry_list_sort (sort_tree (key := fun i => xss.getD i []) (n := 0)
    (s := { s with heap := ((s.heap.push (seqObj "list" #[] 0)).update s.heap.objs.size (Obj.mapSeq (· ++ items))).push (seqObj "list" items.toList.toArray 0) }) hoL (by omega) (by rw [hn]; exact dis_of h1 h2)
    (sort_asks (A := z.A.in1.in1) (s := { s with heap := ((s.heap.push (seqObj "list" #[] 0)).update s.heap.objs.size (Obj.mapSeq (· ++ items))).push (seqObj "list" items.toList.toArray 0) }) sh1 (by have : z.A.units + 1 + 1 < cLine := (by omega); exact this) (vr.keep k1) h3 hDn fun o e => by rw [hoL] at e; cases e; simp [Imm]) ?_) (args_list_sort _)))
  intro p h' n' hp hs ex el'
  refine ⟨.none, rfl, wpAny_pure ⟨_, rfl, ?_⟩⟩
  have hsi := sorted_is hn hp hs h1 h2
  have all' : ∀ b o, s.heap.get? b = some o → h'.get? b = some o := fun b o e => ex b o (Nat.ne_of_lt (Nat.lt_succ_of_lt (Heap.lt_size e))) (all b o e)
  have vr' : VRs h' (ys.map (tm m)) (p.toList.map fun i => items.toList.getD i Value.none) := by
    rw [← hsi]
    exact vrs_pick (vr.keep (Keep.of_all all')) p.toList fun i hi => by have := hp.mem_iff.mp hi; rwa [List.mem_range] at this
  obtain ⟨y1, y2, y3⟩ := sh.newAt (D := s.heap.objs.size + 1) (mo := .list (ys.map (tm m))) all' (Nat.le_succ _) ⟨_, n', el', by simpa using vr'⟩
  exact post_at (s := { s with heap := h' }) (d := .obj (s.heap.objs.size + 1)) ok y2 y1 (vr_obj.mpr rfl) (q _ y3)
end
end Mine
end

/-! MapA -/
section
open PySem PySem.W PyProof.Rows
set_option Elab.async false
set_option maxRecDepth 100000
set_option maxHeartbeats 1000000
set_option linter.unusedVariables false
namespace Mine



open PySem.Calls PySem.Builtin PySem.Builtin.SmallTypes PySem.Builtin.ObjectAttr PySem.Builtin.Getset_descriptor
/-! ## map objects -/
theorem mro_map : mroOf (.type "map") = pure [.type "map", .type "object"] := by rw [mroOf_type]; kernel_rfl
theorem lookup_map_new : typeLookup (.type "map") "__new__" = pure (some (.builtin "map.__new__")) := by rw [typeLookup_type, builtinLookup_eq_fast]; kernel_rfl
theorem slot_map_init : Slot "map" "__init__" "object.__init__" :=
  .of (owner := "object") (n := "__init__") (by rw [typeLookup_type, builtinLookup_eq_fast]; kernel_rfl) (by decide +kernel) (by decide +kernel) (by decide +kernel) (by first | exact .inl (by decide +kernel) | exact .inr (by decide +kernel)) (by rw [isSubtype_type]; kernel_rfl)
theorem slot_map_next : Slot "map" "__next__" "map.__next__" :=
  .of (owner := "map") (n := "__next__") (by rw [typeLookup_type, builtinLookup_eq_fast]; kernel_rfl) (by decide +kernel) (by decide +kernel) (by decide +kernel) (by first | exact .inl (by decide +kernel) | exact .inr (by decide +kernel)) (by rw [isSubtype_type]; kernel_rfl)
theorem slot_map_iter : Slot "map" "__iter__" "map.__iter__" :=
  .of (owner := "map") (n := "__iter__") (by rw [typeLookup_type, builtinLookup_eq_fast]; kernel_rfl) (by decide +kernel) (by decide +kernel) (by decide +kernel) (by first | exact .inl (by decide +kernel) | exact .inr (by decide +kernel)) (by rw [isSubtype_type]; kernel_rfl)
theorem called_map : TypeCalled "map" "map.__new__" "object.__init__" :=
  ⟨by decide +kernel, by decide +kernel, ⟨_, _, mro_map⟩, madeBy_type mro_map lookup_map_new (by decide +kernel), by decide +kernel, by rw [isSubtype_type]; kernel_rfl, slot_map_init⟩
theorem typeCall_map (a b : Value) : checkTypeCall "map" ⟨[a, b], []⟩ = pure () := by kernel_rfl
theorem newCall_map (a b : Value) : checkBuiltinCall "map.__new__" ⟨[.type "map", a, b], []⟩ = pure () := by kernel_rfl
theorem entry_map_new : entryFor table "map.__new__" = some Builtin.«map.__new__» := entryFor_of_tree (by kernel_rfl)
theorem entry_map_next : entryFor table "map.__next__" = some Builtin.«map.__next__» := entryFor_of_tree (by kernel_rfl)
theorem entry_map_iter : entryFor table "map.__iter__" = some Builtin.«dict_keyiterator.__iter__» :=
  entryFor_alias (id' := "dict_keyiterator.__iter__") (by kernel_rfl) (by first | rfl | decide +kernel | (unfold String.splitOn; simp +decide [String.splitOnAux])) (by decide +kernel) (by kernel_rfl)
theorem owner_map : Manifest.owners.lookup (String.ofList ['p', 'a', 'm'].reverse) = some Manifest.sig_map := by kernel_rfl
theorem args_map_next (a : Value) : argsOk "map.__next__" ⟨[a], []⟩ := by
  unfold argsOk; rw [signature?_of (id := "map.__next__") (n := ['_', '_', 't', 'x', 'e', 'n', '_', '_']) (o := ['p', 'a', 'm']) (by kernel_rfl) owner_map]; kernel_rfl
theorem args_map_iter (a : Value) : argsOk "map.__iter__" ⟨[a], []⟩ := by
  unfold argsOk; rw [signature?_of (id := "map.__iter__") (n := ['_', '_', 'r', 'e', 't', 'i', '_', '_']) (o := ['p', 'a', 'm']) (by kernel_rfl) owner_map]; kernel_rfl
theorem sub_map : isSubtype (.type "map") (.type "map") = pure true := by rw [isSubtype_type]; kernel_rfl
noncomputable def liO (l : Addr) (i : Nat) : Obj := { cls := .type "list_iterator", data := .fields #[.ref l, .int i 0] }
noncomputable def mapO (T : Addr) (f : Value) : Obj := { cls := .type "map", data := .fields #[.ref T, f] }
noncomputable def oneT (I : Addr) : Obj := { cls := .type "tuple", data := .seq #[.ref I] }
theorem map_new_meets (f : Value) (l : Addr) : Meets (Builtin.«map.__new__» ⟨[.type "map", f, .ref l], []⟩) (fun _ R s => ∃ items, s.heap.IsList l items ∧
    R (.ok (.ret (.ref (s.heap.objs.size + 2)))) { s with heap := ((s.heap.push (liO l 0)).push (oneT s.heap.objs.size)).push (mapO (s.heap.objs.size + 1) f) }) :=
  .of_wp fun prog w A R s h => by
    obtain ⟨items, hl, h⟩ := h
    show wpAny _ _ (newClass "map" ⟨[.type "map", f, .ref l], []⟩ >>= _) _ _ _
    unfold newClass
    refine wpAny_bind (wpAny_bind (m := isType (.type "map")) (wpAny_pure ?_))
    dsimp only
    rw [if_neg (by simp)]
    refine wpAny_bind (wpAny_of_eq sub_map ?_)
    rw [if_neg (by simp)]
    refine wpAny_pure ?_
    dsimp only
    refine wpAny_bind (m := refuseKeywords "map" (.type "map") ⟨[.type "map", f, .ref l], []⟩) (wpAny_pure ?_)
    rw [if_neg (by simp)]
    refine wpAny_bind (m := iterAll [.ref l]) ?_
    unfold iterAll
    refine wpAny_bind ?_
    rw [List.forIn_cons]
    refine wpAny_bind (wpAny_bind (wpAny_holding (wpAny_pyIter_list hl ?_)))
    refine wpAny_pure ?_
    dsimp only
    rw [List.forIn_nil]
    refine wpAny_pure (wpAny_pure ?_)
    refine wpAny_bind (wpAny_newTuple ?_ (by show 1 ≤ _; rw [sizeLine_eq]; omega))
    refine wpAny_bind ?_
    unfold newRecord
    dsimp only
    refine wpAny_newObj_type ?_ (by show 2 ≤ _; unfold sizeLine; omega)
    refine wpAny_pure ⟨_, rfl, ?_⟩
    simp only [Heap.size_push]
    exact h
theorem call_map {w : World} {A : Around} {E : Value → Shared → Prop} {s : Shared} {f : Value} {l : Addr} {items : Array Value} {Q : Value → Shared → Prop} (hl : s.heap.IsList l items)
    (h : Q (.ref (s.heap.objs.size + 2)) { s with heap := ((s.heap.push (liO l 0)).push (oneT s.heap.objs.size)).push (mapO (s.heap.objs.size + 1) f) }) : wpAny (model P w) A (call (.type "map") [f, .ref l]) Q E s := by
  refine callType_new called_map (by decide) (typeCall_map _ _) (newCall_map _ _) (fun obj => F.args_object_init_3 obj _ _) entry_map_new (map_new_meets f l) ⟨items, hl, ⟨mapO (s.heap.objs.size + 1) f, ?_, rfl⟩, h⟩
  have e : ((s.heap.push (liO l 0)).push (oneT s.heap.objs.size)).objs.size = s.heap.objs.size + 2 := by rw [Heap.size_push, Heap.size_push]
  show Heap.get? _ (s.heap.objs.size + 2) = _
  rw [← e]
  exact Heap.get?_push_size _ rfl
end Mine
end

/-! MapB -/
section
open PySem PySem.W PyProof.Rows
set_option Elab.async false
set_option maxRecDepth 100000
set_option maxHeartbeats 1000000
set_option linter.unusedVariables false
namespace Mine

open PySem.Calls PySem.Builtin PySem.Builtin.ObjectAttr PySem.Builtin.Getset_descriptor PySem.Builtin.SmallTypes
section
variable {z : Z} {ms : MS} {Q : MV → MS → Prop}
theorem f_len (q : Params) : findIn (K q) (.ref 135) "__len__" = some (some (.builtin "tuple.__len__")) := by kernel_rfl
theorem tlen_kind : builtinKind "tuple.__len__" = some .slot := by decide +kernel
theorem tlen_split : splitId "tuple.__len__" = some ("tuple", "__len__") := by decide +kernel
theorem c_len_match {ds : List MV} (hn : ds.length ≤ 1000) (q : Q (.int ds.length) ms) : CallV z (.builtin "len") [.tup true ds] ms Q := by
  intro us s ok sh rs
  obtain ⟨u1, r1, rfl, v1, rs⟩ := vrs_cons.mp rs
  obtain rfl := vrs_nil.mp rs
  obtain ⟨t, items, n, rfl, e, vr⟩ := vr_tup.mp v1
  have X := sh.keepIn
  have hz := arr_len vr
  have lk := mlook (w := z.w) X e (f_len _)
  refine Calls.call_function_entry kind_len plain_len entry_len (args_len1 _) ?_
  unfold Builtin.«len»
  refine wpAny_bind (m := oneArg "len" _) (wpAny_pure ?_)
  unfold callSpecial?
  refine wpAny_bind (wpAny_bind (lk.here ?_))
  dsimp only
  refine wpAny_holding (wpAny_bind (wpAny_of_eq (F.slot_tuple_len.bind _) (wpAny_bind ?_)))
  refine wpAny_call (codeAny_call_builtin F.slot_tuple_len.plain F.entry_tuple_len (check_slot (i := "tuple.__len__") (owner := "tuple") (n := "__len__") (self := .ref t) (rest := []) (kw := []) tlen_kind tlen_split (minst X e) (args_tuple_len _) ?_))
  show wpAny _ _ (do retInt (← Builtin.Tuple.tupleItemsOf (.ref t)).size) _ _ s
  refine wpAny_bind (wpAny_bind (wpAny_seqItems e rfl (wpAny_pure ?_)))
  refine wpAny_bind (wpAny_mkInt (wpAny_pure ?_))
  refine wpAny_pure ?_
  refine wpAny_bind (wpAny_holding (wpAny_pure ?_))
  refine wpAny_bind (wpAny_letGo ?_)
  show wpAny _ _ (if ((items.size : Nat) : Int) < 0 then _ else _) _ _ _
  rw [if_neg (by omega)]
  show wpAny _ _ (if ((items.size : Nat) : Int) ≥ 2 ^ 63 then _ else _) _ _ _
  rw [if_neg (by omega)]
  refine wpAny_bind (wpAny_mkInt (wpAny_pure ⟨_, rfl, ?_⟩))
  rw [hz]
  exact post_tok ok sh (vr_int.mpr ⟨_, rfl⟩) q
theorem c89C {k : Nat} {d0 d1 : MV} (hr : Rm z (k + 1)) (H : ∀ z' L', z'.w = z.w → EnvOk z' (E89 L') → Rm z' k → WS z' (execs (bodyOf (meth 3 5)) (E89 L')) ⟨fun x => ([("cls", d0), ("iterable", d1)] : List (Str × MV)).reverse.lookup x, ms.sto⟩ (RetQ ms.loc Q)) : CallC z (.ref 89) [d0, d1] ms Q := by
  refine c_defC (k := k) (c := 88) (st := meth 3 5) (qual := "Match._make") (dV := .none) (doc := .str (docAt (meth 3 5)) 293) (pm := .str "cpy313.difflib" 194) (an := (some 92)) F89 E89 [("cls", d0), ("iterable", d1)] hr (fun q => by kernel_rfl) (fun q => by kernel_rfl) (by rfl) (fun L => rfl) ?_ (by kernel_rfl) (by kernel_rfl) (by kernel_rfl) H
  intro us s X rs
  obtain ⟨u0, r0, rfl, v0, rs⟩ := vrs_cons.mp rs
  obtain ⟨u1, r1, rfl, v1, rs⟩ := vrs_cons.mp rs
  obtain rfl := vrs_nil.mp rs
  exact ⟨[("cls", u0), ("iterable", u1)], BindsTo.of_eq (by kernel_rfl), _, _, rfl, v0, _, _, rfl, v1, rfl⟩
theorem make89_ok {ds : List MV} (hr : Rm z 2) (h3 : ds.length = 3) (q : Q (.tup true ds) ms) : CallC z (.ref 89) [.obj 135, .tup false ds] ms Q := by
  refine c89C hr fun z' L' hw he hr' => ?_
  refine s_cons ?_
  refine s_doc he.hi ?_
  refine s_cons ?_
  refine s_assign (by rfl) (by rfl) (by rfl) ?_
  refine e_tnew (name_b he (by rfl) (by rfl) (by kernel_rfl) (by kernel_rfl) (by decide) ⟨rfl, rfl⟩) (by rfl) (by rfl) (by rfl) (by rfl) (by rfl) ?_
  refine args_cons (by rfl) ?_
  refine name_l he (by rfl) (by rfl) (rfl) ?_
  refine args_cons (by rfl) ?_
  refine name_l he (by rfl) (by rfl) (rfl) ?_
  refine args_nil ?_
  refine c_tnew (by omega) ?_
  refine st_name he (by rfl) ?_
  refine s_cons ?_
  refine s_if ?_
  refine test_cmp (by rfl) ?_
  refine e_call (f := .builtin "len") (name_b he (by rfl) (by rfl) (by kernel_rfl) (by kernel_rfl) (by decide) ⟨rfl, rfl⟩) (plain_builtin _) (by rfl) (by rfl) ?_
  refine args_cons (by rfl) ?_
  refine name_l he (by rfl) (by rfl) (rfl) ?_
  refine args_nil ?_
  refine c_len_match (by omega) ?_
  refine const_int ?_
  refine op_ne ?_
  refine tr_bool ?_
  refine (if_neg (by rw [h3]; decide)).mpr (s_nil ?_)
  refine s_cons ?_
  refine s_return ?_
  refine name_l he (by rfl) (by rfl) (rfl) ?_
  exact q
end
section
variable {w : World} {A : Around} {E : Value → Shared → Prop} {s : Shared} {I l : Addr} {i : Nat} {items : Array Value} {k : Nat}
theorem li_next {Q : Option Value → Shared → Prop} (hit : s.heap.get? I = some (liO l i))
    (h : wpAny (model P w) A.in1 (Builtin.«list_iterator.__next__» ⟨[.ref I], []⟩) (fun fin s' => ∃ v, fin = .done (.ret v) ∧ Q (some v) s') E s) : wpAny (model P w) A (callSpecial? (.ref I) "__next__") Q E s := by
  have hT : s.TypeIs (.ref I) "list_iterator" := ⟨_, hit, rfl⟩
  exact wpAny_callSpecial?_slot (name := Str.ofString "__next__") hT slot_listiter_next (wpAny_call_entry slot_listiter_next hT entry_listiter_next h (args_listiter_next _))
theorem li_next_item {o : Obj} {x : Value} {Q : Option Value → Shared → Prop} (hit : s.heap.get? I = some (liO l i)) (ho : s.heap.get? l = some o) (hd : o.data = .seq items k) (hx : items[i]? = some x)
    (hQ : ∀ h', h'.get? I = some (liO l (i + 1)) → Heap.SameBut I s.heap h' → Q (some x) { s with heap := h' }) : wpAny (model P w) A (callSpecial? (.ref I) "__next__") Q E s := by
  refine li_next hit ?_
  show wpAny _ _ (field (.ref I) 0 >>= _) _ _ s
  refine wpAny_bind (wpAny_field hit rfl (x := .ref l) rfl ?_)
  show wpAny _ _ (if (Value.ref l == Value.none) = true then _ else _) _ _ s
  rw [if_neg (show ¬ ((Value.ref l == Value.none) = true) from Bool.false_ne_true)]
  show wpAny _ _ (field (.ref I) 1 >>= _) _ _ s
  refine wpAny_bind (wpAny_field hit rfl (x := .int i 0) rfl ?_)
  show wpAny _ _ (seqItems? (.ref l) >>= _) _ _ s
  refine wpAny_bind (wpAny_seqItems ho hd ?_)
  simp only [Int.toNat_natCast, hx]
  refine wpAny_bind (wpAny_setField hit rfl (by simp) (wpAny_pure ⟨x, rfl, hQ _ ?_ (Heap.SameBut.update ..)⟩))
  rw [Heap.get?_update_self _ hit (Obj.isFreed_of_fields (Obj.data_mapFields rfl _))]
  simp [Obj.mapFields, rawInt, liO]
theorem li_next_end {o : Obj} {Q : Option Value → Shared → Prop} (hh : A.handled = none) (hit : s.heap.get? I = some (liO l i)) (ho : s.heap.get? l = some o) (hd : o.data = .seq items k) (hx : items[i]? = none)
    (hE : ∀ h' e, Heap.ExtBut I s.heap h' → Shared.TypeIs { s with heap := h' } e "StopIteration" → E e { s with heap := h' }) : wpAny (model P w) A (callSpecial? (.ref I) "__next__") Q E s := by
  refine li_next hit ?_
  show wpAny _ _ (field (.ref I) 0 >>= _) _ _ s
  refine wpAny_bind (wpAny_field hit rfl (x := .ref l) rfl ?_)
  show wpAny _ _ (if (Value.ref l == Value.none) = true then _ else _) _ _ s
  rw [if_neg (show ¬ ((Value.ref l == Value.none) = true) from Bool.false_ne_true)]
  show wpAny _ _ (field (.ref I) 1 >>= _) _ _ s
  refine wpAny_bind (wpAny_field hit rfl (x := .int i 0) rfl ?_)
  show wpAny _ _ (seqItems? (.ref l) >>= _) _ _ s
  refine wpAny_bind (wpAny_seqItems ho hd ?_)
  simp only [Int.toNat_natCast, hx]
  refine wpAny_bind (wpAny_rule (wpAny_bind (wpAny_setField hit rfl (by simp) ?_)))
  show wpAny _ _ (newExc (.type "StopIteration") [] >>= _) _ _ _
  refine wpAny_bind ?_
  simp only [newExc, newTuple]
  refine wpAny_bind (wpAny_newObj_type ?_ (by size_fits))
  refine wpAny_bind (m := firstArgMember _ _) (wpAny_of_eq (a := Value.none) (by first | rfl | (simp only [firstArgMember]; rfl)) ?_)
  refine wpAny_newObj_type ?_ (by size_fits)
  simp only [raiseNew]
  refine wpAny_bind (wpAny_handled ?_)
  first | rw [show A.in1.handled = none from hh] | rw [hh]
  refine wpAny_bind (wpAny_pure (wpAny_throw ?_))
  exact hE _ _ (((Heap.SameBut.update ..).extBut.push _).push _) ⟨_, Heap.get?_push_size _ rfl, rfl⟩
/-- one turn of a map over a list -/
theorem map_next {M T : Addr} {f : Value} {Q : Option Value → Shared → Prop} (hM : s.heap.get? M = some (mapO T f)) (hT : s.heap.get? T = some (oneT I))
    (h : wpAny (model P w) A.in1 (callSpecial? (.ref I) "__next__") (fun r s₁ => ∃ x, r = some x ∧ s₁.heap.get? M = some (mapO T f) ∧ wpAny (model P w) A.in1 (call f [x]) (fun v s₂ => Q (some v) s₂) (fun _ _ => False) s₁)
      (fun e s₁ => s₁.TypeIs e "StopIteration" ∧ Q none s₁) s) : wpAny (model P w) A (pyNext (.ref M)) Q E s := by
  have hTM : s.TypeIs (.ref M) "map" := ⟨_, hM, rfl⟩
  unfold pyNext
  refine wpAny_bind (wpAny_attempt (wpAny_callSpecial?_slot (name := Str.ofString "__next__") hTM slot_map_next (wpAny_call_entry slot_map_next hTM entry_map_next ?_ (args_map_next _))))
  show wpAny _ _ (field (.ref M) 0 >>= _) _ _ s
  refine wpAny_bind (wpAny_field hM rfl (x := .ref T) rfl ?_)
  show wpAny _ _ (seqItems? (.ref T) >>= _) _ _ s
  refine wpAny_bind (wpAny_seqItems hT rfl ?_)
  dsimp only
  refine wpAny_bind ?_
  rw [← Array.forIn_toList, List.forIn_cons]
  refine wpAny_bind (wpAny_bind (wpAny_holding ?_))
  unfold nextOf
  refine wpAny_bind (wpAny_mono h (fun r s₁ hr => ?_) fun e s₁ he => ?_)
  · obtain ⟨x, rfl, hM₁, hc⟩ := hr
    dsimp only
    refine wpAny_pure (wpAny_pure ?_)
    dsimp only
    rw [List.forIn_nil]
    refine wpAny_pure ?_
    refine wpAny_bind (wpAny_field hM₁ rfl (x := f) rfl ?_)
    refine wpAny_bind (wpAny_holding (wpAny_mono hc (fun v s₂ hq => ?_) fun _ _ z => z.elim))
    refine wpAny_bind (wpAny_letGo ?_)
    exact wpAny_pure ⟨v, rfl, wpAny_pure hq⟩
  · exact wpAny_bind (wpAny_isInstance (b := true) he.1 isSubtype_stop (wpAny_pure he.2))
theorem call_method {B fa : Addr} {self : Value} {args : List Value} {Q : Value → Shared → Prop} (hB : s.heap.get? B = some (methodObj (.ref fa) self))
    (h : codeAny (model P w) A (.call (.ref fa) ⟨self :: args, []⟩) (fun r s' => match r with | .ok (.ret v) => Q v s' | .ok _ => False | .error e => E e s') s) : wpAny (model P w) A (call (.ref B) args) Q E s := by
  refine wpAny_call (codeAny_of_tree ?_)
  show wpAny _ A.in1 (callAny (.ref B) ⟨args, []⟩) _ _ s
  simp only [callAny]
  refine wpAny_bind (wpAny_load hB ?_)
  simp only [methodObj, show (Value.type "method" == Value.type "method" || Value.type "method" == Value.type "builtin_function_or_method" || Value.type "method" == Value.type "method-wrapper") = true by decide, if_true]
  exact wpAny_pure ⟨rfl, h⟩
end
end Mine
end

/-! MapC -/
section
open PySem PySem.W PyProof.Rows
set_option Elab.async false
set_option maxRecDepth 100000
set_option maxHeartbeats 1000000
set_option linter.unusedVariables false
namespace Mine

open PySem.Calls PySem.Builtin PySem.Builtin.ObjectAttr PySem.Builtin.Getset_descriptor PySem.Builtin.SmallTypes
noncomputable def zA (z : Z) (A' : Around) (h1 : A'.handled = none) (h2 : ∃ l, A'.frames = some l) : Z := { z with A := A', hd := h1, fs := h2 }
section
variable {z : Z} {ms : MS} {h h' : Heap}
theorem sh_A {A' : Around} {h1 h2} : SH (zA z A' h1 h2) ms h ↔ SH z ms h := ⟨fun x => ⟨x.base, x.fr, x.ns, x.lF, x.sto⟩, fun x => ⟨x.base, x.fr, x.ns, x.lF, x.sto⟩⟩
theorem SH.other (x : SH z ms h) {I : Addr} (ex : Heap.ExtBut I h h') (hI : z.F I = none ∧ I ≠ z.L ∧ ms.sto I = none) (ni : ∀ o, h.get? I = some o → ¬ Imm o) : SH z ms h' ∧ Keep h h' := by
  have k : Keep h h' := Keep.but ex ni
  refine ⟨⟨x.base, fun a o e => ex a o (fun q => by subst q; rw [hI.1] at e; cases e) (x.fr a o e), ?_, x.lF, fun a mo e => ?_⟩, k⟩
  · obtain ⟨m, n, r⟩ := x.ns
    refine ⟨m, n.at' fun o e => ex _ _ (Ne.symm hI.2.1) e, fun y d e => ?_⟩
    obtain ⟨u, a, b⟩ := r y d e
    exact ⟨u, a, b.keep k⟩
  · obtain ⟨p1, p2, p3, p4⟩ := x.sto a mo e
    exact ⟨p1, p2, p3, p4.same k fun o => ex a o fun q => by subst q; rw [hI.2.2] at e; cases e⟩
/-- the objects of a list(map(f, l)) under way -/
structure MapIn (h : Heap) (M T I B S l : Addr) (i : Nat) (acc : Array Value) (n : Nat) : Prop where
  hM : h.get? M = some (mapO T (.ref B))
  hT : h.get? T = some (oneT I)
  hI : h.get? I = some (liO l i)
  hB : h.get? B = some (methodObj (.ref 89) (.ref 135))
  hS : IsL h S acc n
theorem li_ni {l : Addr} {i : Nat} : ¬ Imm (liO l i) := by simp [Imm, liO]
theorem ls_ni {acc : Array Value} {n : Nat} : ¬ Imm ({ cls := .type "list", dict := none, data := .seq acc n, slots := #[] } : Obj) := by simp [Imm]
theorem map_loop {M T I B S l : Addr} {tups : List (List Int)} (h3 : ∀ x ∈ tups, x.length = 3) (hr : Rm z 20) (hl : ms.sto l = some (tl tups)) (hn : tups.length ≤ 1000) (hown : ∀ b ∈ [M, T, I, B, S], z.F b = none ∧ b ≠ z.L ∧ ms.sto b = none) (hIS : I ≠ S)
    {R : Result → Shared → Prop} {h₀ : Heap} (fin : ∀ (s' : Shared) (acc' : Array Value) (n' : Nat), Ok z s' → Keep h₀ s'.heap → SH z ms s'.heap → IsL s'.heap S acc' n' → VRs s'.heap (tups.map (tm true)) acc'.toList → R (.ok (.ret .none)) s') :
    ∀ (c i : Nat) (s : Shared) (acc : Array Value) (n : Nat), i + c = tups.length → Ok z s → Keep h₀ s.heap → SH z ms s.heap → MapIn s.heap M T I B S l i acc n → VRs s.heap ((tups.take i).map (tm true)) acc.toList →
      codeAny (model P z.w) z.A.in1 (.builtin "list.extend.loop" ⟨[.ref S, .ref M, .none], []⟩) R s
  | 0, i, s, acc, n, hc, ok, k, sh, mi, va => by
    refine codeAny_builtin F.entry_extend_loop ?_
    rw [Around.under_plainId F.plain_extend_loop _]
    show wpAny _ z.A.in1.in1 (pyNext (.ref M) >>= _) _ _ s
    obtain ⟨items, n2, el, vr⟩ := (sh.sto l _ hl).2.2.2
    have hz : items.size = tups.length := by rw [arr_len vr]; simp
    refine wpAny_bind (map_next mi.hM mi.hT (li_next_end (show z.A.in1.in1.in1.handled = none from z.hd) mi.hI el rfl (by rw [Array.getElem?_eq_none_iff, hz]; omega) fun h' e ex ht => ⟨ht, ?_⟩))
    obtain ⟨sh', k'⟩ := sh.other ex (hown I (by simp)) fun o q => by rw [mi.hI] at q; cases q; exact li_ni
    refine wpAny_pure (fin { s with heap := h' } acc n ok (k.trans k') sh' (ex S _ (Ne.symm hIS) mi.hS) ?_)
    have := va.keep k'
    rwa [List.take_of_length_le (by omega)] at this
  | c + 1, i, s, acc, n, hc, ok, k, sh, mi, va => by
    refine codeAny_builtin F.entry_extend_loop ?_
    rw [Around.under_plainId F.plain_extend_loop _]
    show wpAny _ z.A.in1.in1 (pyNext (.ref M) >>= _) _ _ s
    obtain ⟨items, n2, el, vr⟩ := (sh.sto l _ hl).2.2.2
    have hi : i < tups.length := by omega
    have hmem : (tups.getD i []) ∈ tups := by rw [show tups.getD i [] = tups[i] by simp [hi]]; exact List.getElem_mem _
    obtain ⟨x, hx, rx⟩ := arr_get vr (tl_get hi)
    have hMI : M ≠ I := fun e => by have := mi.hM; rw [e, mi.hI] at this; simp [liO, mapO] at this
    have hTI : T ≠ I := fun e => by have := mi.hT; rw [e, mi.hI] at this; simp [liO, oneT] at this
    have hBI : B ≠ I := fun e => by have := mi.hB; rw [e, mi.hI] at this; simp [liO, methodObj] at this
    have hMS : M ≠ S := fun e => by have := mi.hM; rw [e] at this; have q := mi.hS; unfold IsL at q; rw [q] at this; simp [mapO] at this
    have hTS : T ≠ S := fun e => by have := mi.hT; rw [e] at this; have q := mi.hS; unfold IsL at q; rw [q] at this; simp [oneT] at this
    have hBS : B ≠ S := fun e => by have := mi.hB; rw [e] at this; have q := mi.hS; unfold IsL at q; rw [q] at this; simp [methodObj] at this
    refine wpAny_bind (map_next mi.hM mi.hT (li_next_item mi.hI el rfl hx fun h' hI' sb => ⟨x, rfl, (sb.2 M hMI).trans mi.hM, ?_⟩))
    obtain ⟨sh', k'⟩ := sh.other sb.extBut (hown I (by simp)) fun o q => by rw [mi.hI] at q; cases q; exact li_ni
    have hB' : h'.get? B = some (methodObj (.ref 89) (.ref 135)) := (sb.2 B hBI).trans mi.hB
    have hM' := (sb.2 M hMI).trans mi.hM
    have hT' := (sb.2 T hTI).trans mi.hT
    have hS' : IsL h' S acc n := (sb.2 S (Ne.symm hIS)).trans mi.hS
    have here : ∀ b ∈ [M, T, I, B, S], z.F b = none ∧ b ≠ z.L ∧ ∃ o, h'.get? b = some o := fun b hb => by
      refine ⟨(hown b hb).1, (hown b hb).2.1, ?_⟩
      simp only [List.mem_cons, List.not_mem_nil, or_false] at hb
      rcases hb with rfl | rfl | rfl | rfl | rfl
      · exact ⟨_, hM'⟩
      · exact ⟨_, hT'⟩
      · exact ⟨_, hI'⟩
      · exact ⟨_, hB'⟩
      · exact ⟨_, hS'⟩
    have shF := sh'.frame (own := [M, T, I, B, S]) (fun b hb => ⟨(hown b hb).1, (hown b hb).2.1⟩) fun a mo e hb => by rw [(hown a hb).2.2] at e; cases e
    have h2 : ∃ l, z.A.in1.in1.in1.frames = some l := z.fs
    have hr2 : Rm (zA (z.fr fun a => if a ∈ [M, T, I, B, S] then h'.get? a else z.F a) z.A.in1.in1.in1 z.hd h2) 2 := by
      obtain ⟨r1, r2⟩ := hr
      exact ⟨show z.A.depth + 2 ≤ 400 by omega, show z.A.units + 1 + 1 + 1 + 3 * 2 ≤ 1000 by omega⟩
    have mk := make89_ok (z := zA (z.fr fun a => if a ∈ [M, T, I, B, S] then h'.get? a else z.F a) z.A.in1.in1.in1 z.hd h2) (ms := ms) (ds := (tups.getD i []).map MV.int) (Q := fun d ms' => d = tm true (tups.getD i []) ∧ ms' = ms) hr2 (by rw [List.length_map]; exact h3 _ hmem) ⟨rfl, rfl⟩
    refine call_method hB' (codeAny_mono (mk [.ref 135, x] { s with heap := h' } ok (sh_A.mpr shF) (vrs_cons.mpr ⟨_, _, rfl, vr_obj.mpr rfl, VRs.one (rx.keep k')⟩)) fun r s₂ p => ?_)
    obtain ⟨v, rfl, p⟩ : ∃ v, r = .ok (.ret v) ∧ Post (zA (z.fr fun a => if a ∈ [M, T, I, B, S] then h'.get? a else z.F a) z.A.in1.in1.in1 z.hd h2) VR h' (fun d ms' => d = tm true (tups.getD i []) ∧ ms' = ms) v s₂ := by
      rcases r with e | (_ | _ | _ | _) <;> first | exact p.elim | exact ⟨_, rfl, p⟩
    obtain ⟨ok₂, k₂, d, ms₂, sh₂, rv, hd, hms⟩ := p
    rw [hms] at sh₂
    rw [hd] at rv
    show wpAny _ _ (Builtin.List.listUpdate (.ref S) (·.push v) >>= _) _ _ _
    obtain ⟨sh₃, _, own₃⟩ := (sh_A.mp sh₂).unframe sh.base here
    have hS₃ : IsL s₂.heap S acc n := own₃ S (by simp) _ hS'
    have hlen : acc.size = i := by
      have := va.length
      rw [List.length_map, List.length_take] at this
      simp at this
      omega
    refine wpAny_bind (m := Builtin.List.listUpdate (.ref S) (·.push v)) (listUpdate_at (o := { cls := .type "list", dict := none, data := .seq acc n, slots := #[] }) hS₃ rfl ?_ (by rw [hlen, sizeLine_eq]; omega) (by rw [Array.size_push, hlen, sizeLine_eq]; omega))
    have sbS := Heap.SameBut.update s₂.heap S (Obj.mapSeq (·.push v))
    obtain ⟨sh₄, k₄⟩ := sh₃.other sbS.extBut (hown S (by simp)) fun o q => by unfold IsL at hS₃; rw [hS₃] at q; cases q; exact ls_ni
    obtain ⟨n4, hS₄⟩ : ∃ n4, IsL (s₂.heap.update S (Obj.mapSeq (·.push v))) S (acc.push v) n4 := by
      have := get?_update_seq (h := s₂.heap) (a := S) (c := "list") (xs := acc) (n := n) hS₃ (·.push v)
      exact ⟨_, this⟩
    refine wpAny_pure ⟨plainId_quiet F.plain_extend_loop _, map_loop h3 hr hl hn hown hIS fin c (i + 1) _ (acc.push v) n4 (by omega) ok₂ ((k.trans k').trans (k₂.trans k₄)) sh₄ ⟨(sbS.2 M hMS).trans (own₃ M (by simp) _ hM'), (sbS.2 T hTS).trans (own₃ T (by simp) _ hT'), (sbS.2 I hIS).trans (own₃ I (by simp) _ hI'), (sbS.2 B hBS).trans (own₃ B (by simp) _ hB'), hS₄⟩ ?_⟩
    rw [Array.toList_push, show (tups.take (i + 1)).map (tm true) = (tups.take i).map (tm true) ++ [tm true (tups.getD i [])] by
      rw [List.take_succ_eq_append_getElem hi, List.map_append]; simp [hi]]
    exact (((va.keep k').keep k₂).keep k₄).append (VRs.one (rv.keep k₄))
end
end Mine
end

/-! MapD -/
section
open PySem PySem.W PyProof.Rows
set_option Elab.async false
set_option maxRecDepth 100000
set_option maxHeartbeats 1000000
set_option linter.unusedVariables false
namespace Mine

open PySem.Calls PySem.Builtin PySem.Builtin.ObjectAttr PySem.Builtin.Getset_descriptor PySem.Builtin.SmallTypes
theorem map_no_len : typeLookup (.type "map") "__len__" = pure none := by rw [typeLookup_type, builtinLookup_eq_fast]; kernel_rfl
theorem map_no_hint : typeLookup (.type "map") "__length_hint__" = pure none := by rw [typeLookup_type, builtinLookup_eq_fast]; kernel_rfl
section
variable {z : Z} {ms : MS} {h h' : Heap}
theorem SH.fresh (x : SH z ms h) {a : Addr} (ha : h.objs.size ≤ a) : z.F a = none ∧ a ≠ z.L ∧ ms.sto a = none := by
  have nD : ∀ o, h.get? a ≠ some o := fun o e => absurd (Heap.lt_size e) (Nat.not_lt.mpr ha)
  refine ⟨?_, ?_, ?_⟩
  · cases q : z.F a with
    | none => rfl
    | some o => exact absurd (x.fr _ _ q) (nD o)
  · intro q
    obtain ⟨m', n, _⟩ := x.ns
    obtain ⟨o, _, _, e', _⟩ := n
    rw [← q] at e'
    exact nD o e'
  · cases q : ms.sto a with
    | none => rfl
    | some mo =>
      obtain ⟨o, e, _⟩ := (x.sto _ _ q).2.2.2.there
      exact absurd e (nD o)
/-- list(a map over a list of tuples) -/
theorem call_list_map {Q : MV → MS → Prop} {M T I B l : Addr} {tups : List (List Int)} {s : Shared} {h₀ : Heap} (h3 : ∀ x ∈ tups, x.length = 3) (hr : Rm z 20) (hl : ms.sto l = some (tl tups)) (hn : tups.length ≤ 1000) (hown : ∀ b ∈ [M, T, I, B], z.F b = none ∧ b ≠ z.L ∧ ms.sto b = none)
    (ok : Ok z s) (k : Keep h₀ s.heap) (sh : SH z ms s.heap) (hM : s.heap.get? M = some (mapO T (.ref B))) (hT : s.heap.get? T = some (oneT I)) (hI : s.heap.get? I = some (liO l 0)) (hB : s.heap.get? B = some (methodObj (.ref 89) (.ref 135)))
    (q : ∀ D, ms.sto D = none → Q (.obj D) ⟨ms.loc, upd ms.sto D (.list (tups.map (tm true)))⟩) : wpAny (model P z.w) z.A (call (.type "list") [.ref M]) (Post z VR h₀ Q) NoE s := by
  have nS := sh.fresh (Nat.le_refl s.heap.objs.size)
  have big := sh.new_none.2.2.2
  have hMS : M ≠ s.heap.objs.size := Nat.ne_of_lt (Heap.lt_size hM)
  have hTS : T ≠ s.heap.objs.size := Nat.ne_of_lt (Heap.lt_size hT)
  have hIS : I ≠ s.heap.objs.size := Nat.ne_of_lt (Heap.lt_size hI)
  have hBS : B ≠ s.heap.objs.size := Nat.ne_of_lt (Heap.lt_size hB)
  refine callType_codes (Q₁ := fun obj s₁ => obj = .ref s.heap.objs.size ∧ s₁ = { s with heap := s.heap.push { cls := .type "list", data := .seq #[] } }) F.called_list (F.typeCall_list_1 _) F.entry_list_init
    (code_list_new _ ⟨rfl, rfl⟩) fun obj s₁ h₁ => ?_
  obtain ⟨rfl, rfl⟩ := h₁
  have hS : (s.heap.push { cls := .type "list", data := .seq #[] }).get? s.heap.objs.size = some { cls := .type "list", data := .seq #[] } := Heap.get?_push_size _ rfl
  refine ⟨⟨_, hS, rfl⟩, F.args_list_init_2 _ _, ?_⟩
  show wpAny _ z.A.in1.in1 (do let old ← Builtin.List.listItems (.ref s.heap.objs.size); Builtin.List.listUpdate (.ref s.heap.objs.size) (fun _ => #[]); letGo old.toList.reverse; Builtin.List.listExtendWith (.ref s.heap.objs.size) (.ref M) .none) _ _ _
  refine wpAny_bind ?_
  unfold Builtin.List.listItems
  refine wpAny_bind (wpAny_seqItems hS rfl (wpAny_pure ?_))
  show wpAny _ z.A.in1.in1 (updateSeq s.heap.objs.size (fun _ => #[]) >>= fun _ => letGo (#[] : Array Value).toList.reverse >>= fun _ => Builtin.List.listExtendWith (.ref s.heap.objs.size) (.ref M) .none) _ _ _
  refine wpAny_bind (wpAny_updateSeq hS rfl ?_)
  have hS₂ := Heap.get?_update_self (Obj.mapSeq (fun _ => (#[] : Array Value))) hS rfl
  refine wpAny_bind (wpAny_letGo ?_)
  have all2 : ∀ b o, b ≠ s.heap.objs.size → s.heap.get? b = some o → ((s.heap.push { cls := .type "list", data := .seq #[] }).update s.heap.objs.size (Obj.mapSeq (fun _ => (#[] : Array Value)))).get? b = some o := fun b o hb e =>
    (Heap.get?_update_other _ _ (Ne.symm hb)).trans (Heap.get?_push_of_some _ e)
  have hM2 := all2 M _ hMS hM
  have hTM : Shared.TypeIs { s with heap := (s.heap.push { cls := .type "list", data := .seq #[] }).update s.heap.objs.size (Obj.mapSeq (fun _ => (#[] : Array Value))) } (.ref M) "map" := ⟨_, hM2, rfl⟩
  unfold Builtin.List.listExtendWith
  refine wpAny_bind (wpAny_typeOf hTM ?_)
  have h1 : Builtin.List.listSameRef (.ref s.heap.objs.size) (.ref M) = false := by simp [Builtin.List.listSameRef, Ne.symm hMS]
  have h2 : (Value.type "map" == Value.type "list") = false := by decide
  have h3' : (Value.type "map" == Value.type "tuple") = false := by decide
  simp only [h1, h2, h3', Bool.or_false, Bool.false_eq_true, if_false]
  refine wpAny_bind (wpAny_pyIter_slot hTM slot_map_iter (wpAny_call_entry slot_map_iter hTM entry_map_iter ?_ (args_map_iter _)))
  refine wpAny_pure ⟨_, rfl, "map", _, hTM, slot_map_next.lookup, ?_⟩
  refine wpAny_bind (wpAny_holding ?_)
  unfold Builtin.List.listLengthHint
  refine wpAny_bind (wpAny_specialOf hTM map_no_len ?_)
  show wpAny _ _ (specialOf (Value.ref M) (Str.ofString "__length_hint__") >>= _) _ _ _
  refine wpAny_bind (wpAny_specialOf hTM map_no_hint ?_)
  refine wpAny_pure ?_
  show wpAny _ _ (rule "list.extend.makes-room" >>= fun _ => Builtin.List.listTouch (.ref s.heap.objs.size) >>= fun _ =>
    again (.builtin "list.extend.loop" ⟨[.ref s.heap.objs.size, .ref M, .none], []⟩)) _ _ _
  refine wpAny_bind (wpAny_rule ?_)
  refine wpAny_bind ?_
  show wpAny _ _ (updateSeq s.heap.objs.size (·.push .none) >>= fun _ => updateSeq s.heap.objs.size (·.pop)) _ _ _
  refine wpAny_bind (wpAny_updateSeq hS₂ rfl ?_)
  have hS₃ := Heap.get?_update_self (Obj.mapSeq (·.push Value.none)) hS₂ rfl
  refine wpAny_updateSeq (hz := by seq_fits) hS₃ rfl ?_
  have hS₄ := Heap.get?_update_self (Obj.mapSeq (·.pop)) hS₃ rfl
  have all4 : ∀ b o, b ≠ s.heap.objs.size → s.heap.get? b = some o → ((((s.heap.push { cls := .type "list", data := .seq #[] }).update s.heap.objs.size (Obj.mapSeq (fun _ => (#[] : Array Value)))).update s.heap.objs.size (Obj.mapSeq (·.push Value.none))).update s.heap.objs.size (Obj.mapSeq (·.pop))).get? b = some o := fun b o hb e =>
    (Heap.get?_update_other _ _ (Ne.symm hb)).trans ((Heap.get?_update_other _ _ (Ne.symm hb)).trans (all2 b o hb e))
  generalize (((s.heap.push { cls := .type "list", data := .seq #[] }).update s.heap.objs.size (Obj.mapSeq (fun _ => (#[] : Array Value)))).update s.heap.objs.size (Obj.mapSeq (·.push Value.none))).update s.heap.objs.size (Obj.mapSeq (·.pop)) = h4 at hS₄ all4
  have all5 : ∀ b o, s.heap.get? b = some o → h4.get? b = some o := fun b o e => all4 b o (Nat.ne_of_lt (Heap.lt_size e)) e
  have k5 : Keep s.heap h4 := Keep.of_all all5
  have sh5 : SH z ms h4 := sh.grow k5 all5
  have hS₅ : ∃ n5, IsL h4 s.heap.objs.size #[] n5 := ⟨_, hS₄⟩
  obtain ⟨n5, hS₅⟩ := hS₅
  refine wpAny_pure ⟨plainId_quiet F.plain_extend_loop _, map_loop (h₀ := h₀) (S := s.heap.objs.size) (M := M) (T := T) (I := I) (B := B) (l := l) h3 hr hl hn (fun b hb => ?_) hIS (fun s' acc' n' ok' kk sh' hS' va => ?_) tups.length 0 _ #[] n5 (by omega) ok (k.trans k5) sh5 ⟨all5 _ _ hM, all5 _ _ hT, all5 _ _ hI, all5 _ _ hB, hS₅⟩ (vrs_nil.mpr rfl)⟩
  · simp only [List.mem_cons, List.not_mem_nil, or_false] at hb hown
    rcases hb with rfl | rfl | rfl | rfl | rfl
    · exact hown _ (.inl rfl)
    · exact hown _ (.inr (.inl rfl))
    · exact hown _ (.inr (.inr (.inl rfl)))
    · exact hown _ (.inr (.inr (.inr rfl)))
    · exact nS
  · refine ⟨rfl, ?_⟩
    have shD : SH z ⟨ms.loc, upd ms.sto s.heap.objs.size (.list (tups.map (tm true)))⟩ s'.heap := by
      refine ⟨sh'.base, sh'.fr, sh'.ns, sh'.lF, fun a mo e => ?_⟩
      dsimp only [upd] at e
      by_cases qa : a = s.heap.objs.size
      · subst qa
        rw [if_pos rfl] at e
        cases e
        exact ⟨nS.1, big, nS.2.1, acc', n', hS', va⟩
      · rw [if_neg qa] at e
        exact sh'.sto a mo e
    exact post_at (d := .obj s.heap.objs.size) ok' kk shD (vr_obj.mpr rfl) (q _ nS.2.2)
end
end Mine
end

/-! MapE -/
section
open PySem PySem.W PyProof.Rows
set_option Elab.async false
set_option maxRecDepth 100000
set_option maxHeartbeats 1000000
set_option linter.unusedVariables false
namespace Mine

open PySem.Calls PySem.Builtin PySem.Builtin.ObjectAttr PySem.Builtin.Getset_descriptor PySem.Builtin.SmallTypes
section
variable {z : Z} {ms : MS} {env : Env} {pos : Pos} {Q : MV → MS → Prop}
theorem raw_g {x : Str} {p : Pos} {v : Value} (he : EnvOk z env) (hx : env.kindOf x = some .globalImplicit) (hd : (x == ("__debug__" : Str)) = false) (h : nsIn (K z.w.params) mainGlobals x = some (some v)) :
    ∀ s (R : Value → Shared → Prop), Ok z s → SH z ms s.heap → R v s → wpAny (model P z.w) z.A (eval (.Name x p) env) R NoE s := fun s R ok sh r =>
  Calls.Name_function_global he.kind hx (Calls.loadGlobal_global (he.globals ▸ sh.top.g) (mg_of sh.keepIn sh.top.g h) r) hd
theorem raw_l {x : Str} {p : Pos} {l : Addr} (he : EnvOk z env) (hx : env.kindOf x = some .local) (hd : (x == ("__debug__" : Str)) = false) (hv : ms.loc x = some (.obj l)) :
    ∀ s (R : Value → Shared → Prop), Ok z s → SH z ms s.heap → R (.ref l) s → wpAny (model P z.w) z.A (eval (.Name x p) env) R NoE s := fun s R ok sh r => by
  obtain ⟨m, n, q⟩ := sh.ns
  obtain ⟨u, e, ru⟩ := q x _ hv
  obtain rfl := vr_obj.mp ru
  exact wpAny_Name (wpAny_loadName_local he.kind hx (he.locals ▸ n) e r) hd
theorem get_make {w : World} {A : Around} {E : Value → Shared → Prop} {s : Shared} {R : Value → Shared → Prop} (X : (K w.params).In s.heap) (h : R (.ref s.heap.objs.size) { s with heap := s.heap.push (methodObj (.ref 89) (.ref 135)), toks := s.toks + 1 }) :
    wpAny (model P w) A (getAttr (.ref 135) "_make" true) R E s := by
  refine cls_bind (g := .builtin "classmethod.__get__") (a := .ref 91) (obj := .none) (tp := .ref 135) (mc := .type "type") X (by kernel_rfl) (by kernel_rfl) ?_
  refine wpAny_call (cm_get (f := .ref 89) (rest := [.bool false]) X (by kernel_rfl) ?_)
  show wpAny _ _ (handedOut _) _ _ _
  rw [handedOut_of (by rfl)]
  exact wpAny_pure h
theorem e_listmap {p1 p2 p3 p4 p5 p6 : Pos} {l : Addr} {tups : List (List Int)} (he : EnvOk z env) (k1 : env.kindOf "list" = some .globalImplicit) (k2 : env.kindOf "map" = some .globalImplicit) (k3 : env.kindOf "Match" = some .globalImplicit) (k4 : env.kindOf "non_adjacent" = some .local)
    (ha : eval (.Attribute (.Name "Match" p3) "_make" p4) env = (do let o ← eval (.Name "Match" p3) env; standAt p4.atName; let r ← holding [o] (getAttr o "_make" true); letTemporaryGo (.Name "Match" p3) o r; pure r))
    (hr : Rm z 20) (hv : ms.loc "non_adjacent" = some (.obj l)) (hl : ms.sto l = some (tl tups)) (h3 : ∀ x ∈ tups, x.length = 3) (hn : tups.length ≤ 1000)
    (q : ∀ D, ms.sto D = none → Q (.obj D) ⟨ms.loc, upd ms.sto D (.list (tups.map (tm true)))⟩) :
    WV z (eval (.Call (.Name "list" p1) [.Call (.Name "map" p2) [.Attribute (.Name "Match" p3) "_make" p4, .Name "non_adjacent" p5] [] p6] [] pos) env) ms Q := by
  intro s ok sh
  refine wpAny_Call_NameR (raw_b (v := .type "list") he k1 (by rfl) (by kernel_rfl) (by kernel_rfl) (by decide) s _ ok sh ?_)
  have hst1 : ∀ e, starEach [e] env = (false, eval e env) :: starEach [] env → True := fun _ _ => trivial
  have inner : wpAny (model P z.w) z.A (eval (.Call (.Name "map" p2) [.Attribute (.Name "Match" p3) "_make" p4, .Name "non_adjacent" p5] [] p6) env)
      (fun u s' => ∃ M T I B, u = .ref M ∧ Ok z s' ∧ Keep s.heap s'.heap ∧ SH z ms s'.heap ∧ s'.heap.get? M = some (mapO T (.ref B)) ∧ s'.heap.get? T = some (oneT I) ∧ s'.heap.get? I = some (liO l 0) ∧ s'.heap.get? B = some (methodObj (.ref 89) (.ref 135)) ∧
        ∀ b ∈ [M, T, I, B], z.F b = none ∧ b ≠ z.L ∧ ms.sto b = none) NoE s := by
    refine wpAny_Call_NameR (raw_b (v := .type "map") he k2 (by rfl) (by kernel_rfl) (by kernel_rfl) (by decide) s _ ok sh ?_)
    have e1 : starEach [Expr.Attribute (.Name "Match" p3) "_make" p4, .Name "non_adjacent" p5] env = (false, eval (.Attribute (.Name "Match" p3) "_make" p4) env) :: starEach [Expr.Name "non_adjacent" p5] env := rfl
    have e2 : starEach [Expr.Name "non_adjacent" p5] env = (false, eval (.Name "non_adjacent" p5) env) :: starEach [] env := rfl
    have kB := Keep.push s.heap (methodObj (.ref 89) (.ref 135))
    have shB : SH z ms (s.heap.push (methodObj (.ref 89) (.ref 135))) := sh.push _
    have args : wpAny (model P z.w) z.A (spliced (backTo p6 (starEach [Expr.Attribute (.Name "Match" p3) "_make" p4, .Name "non_adjacent" p5] env)))
        (fun vs s₁ => vs = [.ref s.heap.objs.size, .ref l] ∧ s₁ = { s with heap := s.heap.push (methodObj (.ref 89) (.ref 135)), toks := s.toks + 1 }) NoE s := by
      refine wpAny_items_cons (Attribute_any_ (raw_g (v := .ref 135) he k3 (by rfl) (by kernel_rfl) s _ ok sh ?_) ha) e1
      refine get_make sh.keepIn ?_
      refine wpAny_items_cons (raw_l (ms := ms) he k4 (by rfl) hv { s with heap := s.heap.push (methodObj (.ref 89) (.ref 135)), toks := s.toks + 1 } _ ok shB (wpAny_items_nil ⟨rfl, rfl⟩)) e2
    rw [e1] at args ⊢
    refine plain_type "map" p6 [] _ s (fun a s₁ => a = ⟨[.ref s.heap.objs.size, .ref l], []⟩ ∧ s₁ = { s with heap := s.heap.push (methodObj (.ref 89) (.ref 135)), toks := s.toks + 1 }) _ rfl ?_ (Calls.evalArgs_plain (wpAny_mono args (fun vs s₁ h => ⟨by rw [h.1], h.2⟩) fun _ _ x => x))
    rintro a s₁ ⟨rfl, rfl⟩
    obtain ⟨items, n, el, vr⟩ := (shB.sto l _ hl).2.2.2
    refine ⟨shB.keepIn, call_map (s := { s with heap := s.heap.push (methodObj (.ref 89) (.ref 135)), toks := s.toks + 1 }) (IsL.lst el) ?_⟩
    have zB : (s.heap.push (methodObj (.ref 89) (.ref 135))).objs.size = s.heap.objs.size + 1 := Heap.size_push ..
    have hB : (s.heap.push (methodObj (.ref 89) (.ref 135))).get? s.heap.objs.size = some (methodObj (.ref 89) (.ref 135)) := Heap.get?_push_size _ rfl
    generalize s.heap.push (methodObj (.ref 89) (.ref 135)) = hb at kB shB zB hB
    dsimp only
    have z1 : (hb.push (liO l 0)).objs.size = hb.objs.size + 1 := Heap.size_push ..
    have z2 : ((hb.push (liO l 0)).push (oneT hb.objs.size)).objs.size = hb.objs.size + 2 := by rw [Heap.size_push, z1]
    have all : ∀ b o, hb.get? b = some o → (((hb.push (liO l 0)).push (oneT hb.objs.size)).push (mapO (hb.objs.size + 1) (.ref s.heap.objs.size))).get? b = some o := fun b o e => Heap.get?_push_of_some _ (Heap.get?_push_of_some _ (Heap.get?_push_of_some _ e))
    have kk := Keep.of_all all
    refine ⟨hb.objs.size + 2, hb.objs.size + 1, hb.objs.size, s.heap.objs.size, rfl, ok, kB.trans kk, shB.grow kk all, ?_, ?_, ?_, all _ _ hB, fun b hb' => ?_⟩
    · rw [← z2]; exact Heap.get?_push_size _ rfl
    · refine Heap.get?_push_of_some _ ?_
      rw [← z1]; exact Heap.get?_push_size _ rfl
    · exact Heap.get?_push_of_some _ (Heap.get?_push_of_some _ (Heap.get?_push_size _ rfl))
    · simp only [List.mem_cons, List.not_mem_nil, or_false] at hb'
      refine sh.fresh ?_
      rw [zB] at hb'
      rcases hb' with rfl | rfl | rfl | rfl
      · exact Nat.le_trans (Nat.le_succ _) (Nat.le_add_right _ 2)
      · exact Nat.le_trans (Nat.le_succ _) (Nat.le_succ _)
      · exact Nat.le_succ _
      · exact Nat.le_refl _
  have e0 : starEach [Expr.Call (.Name "map" p2) [.Attribute (.Name "Match" p3) "_make" p4, .Name "non_adjacent" p5] [] p6] env = (false, eval (.Call (.Name "map" p2) [.Attribute (.Name "Match" p3) "_make" p4, .Name "non_adjacent" p5] [] p6) env) :: starEach [] env := rfl
  rw [e0]
  refine plain_type "list" pos [] _ s (fun a s' => ∃ M T I B, a = ⟨[.ref M], []⟩ ∧ Ok z s' ∧ Keep s.heap s'.heap ∧ SH z ms s'.heap ∧ s'.heap.get? M = some (mapO T (.ref B)) ∧ s'.heap.get? T = some (oneT I) ∧ s'.heap.get? I = some (liO l 0) ∧ s'.heap.get? B = some (methodObj (.ref 89) (.ref 135)) ∧
        ∀ b ∈ [M, T, I, B], z.F b = none ∧ b ≠ z.L ∧ ms.sto b = none) _ rfl ?_ (Calls.evalArgs_plain ?_)
  · rintro a s₁ ⟨M, T, I, B, rfl, ok₁, k₁, sh₁, g1, g2, g3, g4, g5⟩
    exact ⟨sh₁.keepIn, call_list_map h3 hr hl hn g5 ok₁ k₁ sh₁ g1 g2 g3 g4 q⟩
  · refine wpAny_items_cons (wpAny_mono inner (fun u s₁ hh => ?_) fun _ _ x => x) rfl
    obtain ⟨M, T, I, B, rfl, rest⟩ := hh
    exact wpAny_items_nil ⟨M, T, I, B, rfl, rest⟩
end
end Mine
end

/-! Gmb -/
section
open PySem PySem.W PyProof.Rows
set_option Elab.async false
set_option maxRecDepth 100000
set_option maxHeartbeats 1000000
set_option linter.unusedVariables false
namespace Mine

noncomputable def g4 (g : Gap) : List Int := [(g.1 : Int), (g.2.1 : Int), (g.2.2.1 : Int), (g.2.2.2 : Int)]
noncomputable def gWh : Stmt := ((bodyOf (meth 5 7))[5]?).getD (.Pass ⟨0,0,0,0⟩)
noncomputable def gFor : Stmt := ((bodyOf (meth 5 7))[9]?).getD (.Pass ⟨0,0,0,0⟩)
noncomputable def ml (acc : List I3) : MO := .list ((acc.map t3).map (tm true))
theorem ml_app (acc : List I3) (r : I3) : MO.list ((acc.map t3).map (tm true) ++ [MT r]) = ml (acc ++ [r]) := by simp [ml, tm, MT, t3]
structure GL (ms : MS) (x qa ma : Addr) (la lb : Nat) : Prop where
  vs : ms.loc "self" = some (.obj x)
  va : ms.loc "la" = some (.int la)
  vb : ms.loc "lb" = some (.int lb)
  vq : ms.loc "queue" = some (.obj qa)
  vm : ms.loc "matching_blocks" = some (.obj ma)
theorem gM_len (qs : List Gap) : qs.length ≤ gM qs := by
  induction qs with
  | nil => simp
  | cons g qs ih =>
    unfold gM at ih ⊢
    simp only [List.map_cons, List.sum_cons, List.length_cons]
    omega
section
variable {z : Z} {a b : List Int}
theorem gm_while {L x al bl qa ma : Addr} {mb : MV} {s0 : Addr → Option MO} (he : EnvOk z (E203 L)) (hr : Rm z 12) (M : Mat s0 x al bl a b mb) (na : a.length ≤ 60) (nb : b.length ≤ 60) (q0 : s0 qa = none) (m0 : s0 ma = none) (hqm : qa ≠ ma) :
    ∀ (n : Nat) (qs : List Gap) (acc : List I3) (ms : MS) (Q : MF → MS → Prop), gM qs < n → gM qs ≤ 1000 → GS a b qs acc → Ext s0 ms.sto → ms.sto qa = some (tl (qs.map g4)) → ms.sto ma = some (ml acc) → GL ms x qa ma a.length b.length →
      (∀ ms' acc', Ext s0 ms'.sto → acc'.Perm (blocks a b) → ms'.sto ma = some (ml acc') → GL ms' x qa ma a.length b.length → Q .next ms') →
      WhileN z (E203 L) (forTest gWh) (forBody gWh) n ms Q
  | 0, qs, acc, ms, Q, h, _, _, _, _, _, _, _ => absurd h (Nat.not_lt_zero _)
  | n + 1, qs, acc, ms, Q, hn, hb, G, hx, hq, hm, V, q => by
    have hql := gM_len qs
    refine test_val (by rfl) ?_
    refine name_l he (by rfl) (by rfl) (V.vq) ?_
    refine tr_list hq (by simp; omega) ?_
    rcases List.eq_nil_or_concat qs with rfl | ⟨qs', g, hg⟩
    · refine (if_neg (by decide)).mpr ?_
      exact q ms acc hx G.last hm V
    rw [List.concat_eq_append] at hg
    subst hg
    refine (if_pos (by simp)).mpr ?_
    obtain ⟨alo, ahi, blo, bhi⟩ := g
    have hq2 : ms.sto qa = some (.list ((qs'.map g4).map ti ++ [ti (g4 (alo, ahi, blo, bhi))])) := by rw [hq, tl]; simp
    have okg : alo ≤ ahi ∧ ahi ≤ a.length ∧ blo ≤ bhi ∧ bhi ≤ b.length := G.ok _ (List.mem_append_right _ (List.mem_singleton.mpr rfl))
    obtain ⟨o1, o2, o3, o4⟩ := okg
    rw [gM_app] at hn hb
    have hg1 : 1 ≤ gM [(alo, ahi, blo, bhi)] := gM_len [(alo, ahi, blo, bhi)]
    have hacc : acc.length ≤ 60 := by
      have h1 := G.perm.length_eq
      have h2 := blocks_len (a := a) (b := b)
      rw [List.length_append] at h1
      omega
    have hql' := gM_len qs'
    refine s_cons ?_
    refine s_assign (by rfl) (by rfl) (by rfl) ?_
    refine e_meth0 (by rfl) (by rfl) PySem.F.plainAttrs_list PySem.F.slot_list_pop PySem.F.type_list_pop ?_
    refine name_l he (by rfl) (by rfl) (V.vq) ?_
    refine ⟨is_list hq, ?_⟩
    refine c_pop (vs := (qs'.map g4).map ti) (d := ti (g4 (alo, ahi, blo, bhi))) hq2 (by simp [sizeLine]; omega) ?_
    refine st_tuple (by rfl) (by rfl) ?_
    refine st_name he (by rfl) ?_
    refine st_name he (by rfl) ?_
    refine st_name he (by rfl) ?_
    refine st_name he (by rfl) ?_
    have hx1 : Ext s0 (upd ms.sto qa (.list ((qs'.map g4).map ti))) := hx.upd q0
    have hm1 : upd ms.sto qa (.list ((qs'.map g4).map ti)) ma = some (ml acc) := (upd_ne _ _ (Ne.symm hqm)).trans hm
    have hq1 : upd ms.sto qa (.list ((qs'.map g4).map ti)) qa = some (tl (qs'.map g4)) := upd_self _ _ _
    generalize upd ms.sto qa (.list ((qs'.map g4).map ti)) = sto1 at hx1 hm1 hq1
    have M1 := M.ext hx1
    obtain ⟨dx, d, j', p, hix, hdx, hj, hd⟩ := M1.ex
    refine s_cons ?_
    refine s_assign2 (by rfl) (by rfl) ?_
    refine e_imethN (by rfl) (by rfl) (by rfl) m_find (by rfl) (by rfl) ?_
    refine name_l he (by rfl) (by rfl) (V.vs) ?_
    refine ⟨x, dx, _, rfl, ⟨hix, hdx⟩, by rfl, ?_⟩
    refine args_cons (by rfl) ?_
    refine name_l he (by rfl) (by rfl) (rfl) ?_
    refine args_cons (by rfl) ?_
    refine name_l he (by rfl) (by rfl) (rfl) ?_
    refine args_cons (by rfl) ?_
    refine name_l he (by rfl) (by rfl) (rfl) ?_
    refine args_cons (by rfl) ?_
    refine name_l he (by rfl) (by rfl) (rfl) ?_
    refine args_nil ?_
    refine flm_ok (hr.less (by omega)) M1 (by omega) (by omega) o1 o2 o3 o4 fun sto2 ex2 => ?_
    have ex2 : Ext sto1 sto2 := ex2
    have hx2 := hx1.trans ex2
    have hm2 := ex2 _ _ hm1
    have hq2 := ex2 _ _ hq1
    refine st_match (by rfl) (by rfl) ?_
    refine st_name he (by rfl) ?_
    refine st_name he (by rfl) ?_
    refine st_name he (by rfl) ?_
    refine st_name he (by rfl) ?_
    refine s_cons ?_
    refine s_if ?_
    refine test_val (by rfl) ?_
    refine name_l he (by rfl) (by rfl) (rfl) ?_
    refine tr_int ?_
    rcases G.step with ⟨er, G'⟩ | ⟨i, j, k, er, k0, p1, p2, p3, p4, G', hM⟩
    · rw [er]
      refine (if_neg (by simp)).mpr ?_
      refine s_nil (s_nil ?_)
      exact gm_while he hr M na nb q0 m0 hqm n qs' acc _ Q (by omega) (by omega) G' hx2 hq2 hm2 ⟨V.vs, V.va, V.vb, V.vq, V.vm⟩ q
    · rw [er]
      refine (if_pos (by simp; omega)).mpr ?_
      refine s_cons ?_
      refine s_expr he.hi (by rfl) ?_
      refine e_meth1 (by rfl) (by rfl) (by rfl) PySem.F.plainAttrs_list PySem.F.slot_list_append PySem.F.type_list_append (by rfl) ?_
      refine name_l he (by rfl) (by rfl) (V.vm) ?_
      refine ⟨is_list hm2, ?_⟩
      refine name_l he (by rfl) (by rfl) (rfl) ?_
      refine c_append hm2 (by simp [sizeLine]; omega) ⟨rfl, ?_⟩
      have em : (MO.list ((acc.map t3).map (tm true) ++ [MV.tup true [.int (i : Int), .int (j : Int), .int (k : Int)]])) = ml (acc ++ [((i : Int), (j : Int), (k : Int))]) := ml_app acc ((i : Int), (j : Int), (k : Int))
      first | rw [ml_app] | rw [em]
      have hx3 : Ext s0 (upd sto2 ma (ml (acc ++ [((i : Int), (j : Int), (k : Int))]))) := hx2.upd m0
      have hm3 : upd sto2 ma (ml (acc ++ [((i : Int), (j : Int), (k : Int))])) ma = some (ml (acc ++ [((i : Int), (j : Int), (k : Int))])) := upd_self _ _ _
      have hq3 : upd sto2 ma (ml (acc ++ [((i : Int), (j : Int), (k : Int))])) qa = some (tl (qs'.map g4)) := (upd_ne _ _ hqm).trans hq2
      show WS _ _ ⟨_, upd sto2 ma (ml (acc ++ [((i : Int), (j : Int), (k : Int))]))⟩ _
      generalize upd sto2 ma (ml (acc ++ [((i : Int), (j : Int), (k : Int))])) = sto3 at hx3 hm3 hq3
      rw [gM_app] at *
      -- the end of a turn, with the queue as it must be
      have fin : ∀ (ms' : MS) (qs2 : List Gap), qs2 = qs' ++ gpush alo ahi blo bhi i j k → Ext s0 ms'.sto → ms'.sto qa = some (tl (qs2.map g4)) → ms'.sto ma = some (ml (acc ++ [((i : Int), (j : Int), (k : Int))])) → GL ms' x qa ma a.length b.length →
          WhileN z (E203 L) (forTest gWh) (forBody gWh) n ms' Q := by
        intro ms' qs2 e1 y1 y2 y3 y4
        subst e1
        exact gm_while he hr M na nb q0 m0 hqm n _ _ ms' Q (by rw [gM_app]; omega) (by rw [gM_app]; omega) G' y1 y2 y3 y4 q
      have part2 : ∀ (ms' : MS) (qs2 : List Gap), qs2 = qs' ++ (if alo < i ∧ blo < j then [(alo, i, blo, j)] else []) → Ext s0 ms'.sto → ms'.sto qa = some (tl (qs2.map g4)) → ms'.sto ma = some (ml (acc ++ [((i : Int), (j : Int), (k : Int))])) → GL ms' x qa ma a.length b.length →
          ms'.loc "ahi" = some (.int ahi) → ms'.loc "bhi" = some (.int bhi) → ms'.loc "i" = some (.int i) → ms'.loc "j" = some (.int j) → ms'.loc "k" = some (.int k) →
          WS z (execs (((forBody ((forBody gWh)[2]?.getD (.Pass ⟨0,0,0,0⟩)))).drop 2) (E203 L)) ms' (Then z (execs [] (E203 L)) (AftW (fun ms₂ => WhileN z (E203 L) (forTest gWh) (forBody gWh) n ms₂ Q) Q)) := by
        intro ms' qs2 e1 y1 y2 y3 y4 w1 w2 w3 w4 w5
        have hq2l : qs2.length ≤ 1001 := by rw [e1, List.length_append]; split <;> simp <;> omega
        refine s_cons ?_
        refine s_if ?_
        refine test_bool ?_
        refine and_cons ?_
        refine test_cmp (by rfl) ?_
        refine binop ?_
        refine name_l he (by rfl) (by rfl) (w3) ?_
        refine name_l he (by rfl) (by rfl) (w5) ?_
        refine op_add ?_
        refine name_l he (by rfl) (by rfl) (w1) ?_
        refine op_lt ?_
        refine tr_bool ?_
        by_cases c1 : i + k < ahi
        · refine (if_pos (by simp; omega)).mpr ?_
          refine and_cons ?_
          refine test_cmp (by rfl) ?_
          refine binop ?_
          refine name_l he (by rfl) (by rfl) (w4) ?_
          refine name_l he (by rfl) (by rfl) (w5) ?_
          refine op_add ?_
          refine name_l he (by rfl) (by rfl) (w2) ?_
          refine op_lt ?_
          refine tr_bool ?_
          by_cases c2 : j + k < bhi
          · refine (if_pos (by simp; omega)).mpr ?_
            refine and_nil ?_
            refine (if_pos rfl).mpr ?_
            refine s_cons ?_
            refine s_expr he.hi (by rfl) ?_
            refine e_meth1 (by rfl) (by rfl) (by rfl) PySem.F.plainAttrs_list PySem.F.slot_list_append PySem.F.type_list_append (by rfl) ?_
            refine name_l he (by rfl) (by rfl) (y4.vq) ?_
            refine ⟨is_list y2, ?_⟩
            refine e_tuple ?_
            refine args_cons (by rfl) ?_
            refine binop ?_
            refine name_l he (by rfl) (by rfl) (w3) ?_
            refine name_l he (by rfl) (by rfl) (w5) ?_
            refine op_add ?_
            refine args_cons (by rfl) ?_
            refine name_l he (by rfl) (by rfl) (w1) ?_
            refine args_cons (by rfl) ?_
            refine binop ?_
            refine name_l he (by rfl) (by rfl) (w4) ?_
            refine name_l he (by rfl) (by rfl) (w5) ?_
            refine op_add ?_
            refine args_cons (by rfl) ?_
            refine name_l he (by rfl) (by rfl) (w2) ?_
            refine args_nil ?_
            refine ⟨by simp [sizeLine], ?_⟩
            refine c_append y2 (by simp [sizeLine]; omega) ⟨rfl, ?_⟩
            have eq : (MO.list ((qs2.map g4).map ti ++ [MV.tup false [.int ((i : Int) + k), .int ahi, .int ((j : Int) + k), .int bhi]])) = tl ((qs2 ++ [(i + k, ahi, j + k, bhi)]).map g4) := by simp [tl, ti, g4]
            rw [eq]
            refine s_nil (s_nil (s_nil ?_))
            refine fin _ (qs2 ++ [(i + k, ahi, j + k, bhi)]) ?_ (y1.upd q0) (upd_self _ _ _) ((upd_ne _ _ (Ne.symm hqm)).trans y3) ⟨y4.vs, y4.va, y4.vb, y4.vq, y4.vm⟩
            rw [e1, gpush, if_pos (show i + k < ahi ∧ j + k < bhi from ⟨c1, c2⟩), List.append_assoc]
          · refine (if_neg (by simp; omega)).mpr ?_
            refine (if_neg (by decide)).mpr ?_
            refine s_nil (s_nil (s_nil ?_))
            refine fin _ qs2 ?_ y1 y2 y3 y4
            rw [e1, gpush, if_neg (show ¬ (i + k < ahi ∧ j + k < bhi) from fun h => c2 h.2), List.append_nil]
        · refine (if_neg (by simp; omega)).mpr ?_
          refine (if_neg (by decide)).mpr ?_
          refine s_nil (s_nil (s_nil ?_))
          refine fin _ qs2 ?_ y1 y2 y3 y4
          rw [e1, gpush, if_neg (show ¬ (i + k < ahi ∧ j + k < bhi) from fun h => c1 h.1), List.append_nil]
      refine s_cons ?_
      refine s_if ?_
      refine test_bool ?_
      refine and_cons ?_
      refine test_cmp (by rfl) ?_
      refine name_l he (by rfl) (by rfl) (rfl) ?_
      refine name_l he (by rfl) (by rfl) (rfl) ?_
      refine op_lt ?_
      refine tr_bool ?_
      by_cases c1 : alo < i
      · refine (if_pos (by simp; omega)).mpr ?_
        refine and_cons ?_
        refine test_cmp (by rfl) ?_
        refine name_l he (by rfl) (by rfl) (rfl) ?_
        refine name_l he (by rfl) (by rfl) (rfl) ?_
        refine op_lt ?_
        refine tr_bool ?_
        by_cases c2 : blo < j
        · refine (if_pos (by simp; omega)).mpr ?_
          refine and_nil ?_
          refine (if_pos rfl).mpr ?_
          refine s_cons ?_
          refine s_expr he.hi (by rfl) ?_
          refine e_meth1 (by rfl) (by rfl) (by rfl) PySem.F.plainAttrs_list PySem.F.slot_list_append PySem.F.type_list_append (by rfl) ?_
          refine name_l he (by rfl) (by rfl) (V.vq) ?_
          refine ⟨is_list hq3, ?_⟩
          refine e_tuple ?_
          refine args_cons (by rfl) ?_
          refine name_l he (by rfl) (by rfl) (rfl) ?_
          refine args_cons (by rfl) ?_
          refine name_l he (by rfl) (by rfl) (rfl) ?_
          refine args_cons (by rfl) ?_
          refine name_l he (by rfl) (by rfl) (rfl) ?_
          refine args_cons (by rfl) ?_
          refine name_l he (by rfl) (by rfl) (rfl) ?_
          refine args_nil ?_
          refine ⟨by simp [sizeLine], ?_⟩
          refine c_append hq3 (by simp [sizeLine]; omega) ⟨rfl, ?_⟩
          have eq : (MO.list ((qs'.map g4).map ti ++ [MV.tup false [.int alo, .int i, .int blo, .int j]])) = tl ((qs' ++ [(alo, i, blo, j)]).map g4) := by simp [tl, ti, g4]
          refine s_nil ?_
          show WS z (execs (((forBody ((forBody gWh)[2]?.getD (.Pass ⟨0,0,0,0⟩)))).drop 2) (E203 L)) ⟨_, upd sto3 qa (MO.list ((qs'.map g4).map ti ++ [MV.tup false [.int alo, .int i, .int blo, .int j]]))⟩ (Then z (execs [] (E203 L)) (AftW (fun ms₂ => WhileN z (E203 L) (forTest gWh) (forBody gWh) n ms₂ Q) Q))
          rw [eq]
          exact part2 _ (qs' ++ [(alo, i, blo, j)]) (by rw [if_pos (show alo < i ∧ blo < j from ⟨c1, c2⟩)]) (hx3.upd q0) (upd_self _ _ _) ((upd_ne _ _ (Ne.symm hqm)).trans hm3) ⟨V.vs, V.va, V.vb, V.vq, V.vm⟩ (by rfl) (by rfl) (by rfl) (by rfl) (by rfl)
        · refine (if_neg (by simp; omega)).mpr ?_
          refine (if_neg (by decide)).mpr ?_
          refine s_nil ?_
          exact part2 _ qs' (by rw [if_neg (show ¬ (alo < i ∧ blo < j) from fun h => c2 h.2), List.append_nil]) hx3 hq3 hm3 ⟨V.vs, V.va, V.vb, V.vq, V.vm⟩ (by rfl) (by rfl) (by rfl) (by rfl) (by rfl)
      · refine (if_neg (by simp; omega)).mpr ?_
        refine (if_neg (by decide)).mpr ?_
        refine s_nil ?_
        exact part2 _ qs' (by rw [if_neg (show ¬ (alo < i ∧ blo < j) from fun h => c1 h.1), List.append_nil]) hx3 hq3 hm3 ⟨V.vs, V.va, V.vb, V.vq, V.vm⟩ (by rfl) (by rfl) (by rfl) (by rfl) (by rfl)
end
end Mine
end

/-! GmbB -/
section
open PySem PySem.W PyProof.Rows
set_option Elab.async false
set_option maxRecDepth 100000
set_option maxHeartbeats 1000000
set_option linter.unusedVariables false
namespace Mine

theorem fn_blocks_bind : True := trivial
/-- how far the loop over the blocks has come -/
noncomputable def Adj (done : List I3) (cur : I3) (na : List I3) : Prop := (done = [] ∧ cur = (0, 0, 0) ∧ na = []) ∨ done = na ++ [cur]
section
variable {z : Z}
theorem adj_loop {L ma nl : Addr} {all : List I3} {sto0 : Addr → Option MO} (he : EnvOk z (E203 L)) (hm : sto0 ma = some (ml all)) (hmn : ma ≠ nl) (hpw : all.Pairwise RB) (hpos : ∀ c ∈ all, 0 < c.2.2) (hlen : all.length ≤ 1000) :
    ∀ (rest done : List I3) (cur : I3) (na : List I3) (ms : MS) (Q : MF → MS → Prop), all = done ++ rest → Adj done cur na → ms.sto = upd sto0 nl (t3l na) → ms.loc "non_adjacent" = some (.obj nl) → ms.loc "i1" = some (.int cur.1) → ms.loc "j1" = some (.int cur.2.1) → ms.loc "k1" = some (.int cur.2.2) →
      (∀ ms' cur' na', Adj all cur' na' → ms'.sto = upd sto0 nl (t3l na') → ms'.loc "non_adjacent" = some (.obj nl) → ms'.loc "i1" = some (.int cur'.1) → ms'.loc "j1" = some (.int cur'.2.1) → ms'.loc "k1" = some (.int cur'.2.2) → ms'.loc "la" = ms.loc "la" → ms'.loc "lb" = ms.loc "lb" → ms'.loc "self" = ms.loc "self" → Q .next ms') →
      ForN z (E203 L) (forTest gFor) (forBody gFor) (fun ms => ms.sto ma = some (ml all)) ((rest.map t3).map (tm true)) ms Q
  | [], done, cur, na, ms, Q, e, A, hs, l0, l1, l2, l3, q => ⟨by show ms.sto ma = _; rw [hs, upd_ne _ _ hmn]; exact hm, q ms cur na (by rw [e, List.append_nil]; exact A) hs l0 l1 l2 l3 rfl rfl rfl⟩
  | c :: rest, done, cur, na, ms, Q, e, A, hs, l0, l1, l2, l3, q => by
    refine ⟨by show ms.sto ma = _; rw [hs, upd_ne _ _ hmn]; exact hm, fun F' => ?_⟩
    have he0 := he
    have he := he.fr F'
    have hc : 0 < c.2.2 := hpos c (by rw [e]; simp)
    have hnl : na.length ≤ 1000 := by
      have h1 : done.length ≤ 1000 := by rw [e, List.length_append] at hlen; omega
      rcases A with ⟨_, _, h⟩ | h
      · rw [h]; simp
      · rw [h, List.length_append] at h1; omega
    refine st_match (by rfl) (by rfl) ?_
    refine st_name he (by rfl) ?_
    refine st_name he (by rfl) ?_
    refine st_name he (by rfl) ?_
    refine s_cons ?_
    refine s_if ?_
    refine test_bool ?_
    refine and_cons ?_
    refine test_cmp (by rfl) ?_
    refine binop ?_
    refine name_l he (by rfl) (by rfl) (l1) ?_
    refine name_l he (by rfl) (by rfl) (l3) ?_
    refine op_add ?_
    refine name_l he (by rfl) (by rfl) (rfl) ?_
    refine op_eq ?_
    refine tr_bool ?_
    have fin : ∀ (ms' : MS) (na' : List I3), Adj (done ++ [c]) c na' → ms'.sto = upd sto0 nl (t3l na') → ms'.loc "non_adjacent" = some (.obj nl) → ms'.loc "i1" = some (.int c.1) → ms'.loc "j1" = some (.int c.2.1) → ms'.loc "k1" = some (.int c.2.2) → ms'.loc "la" = ms.loc "la" → ms'.loc "lb" = ms.loc "lb" → ms'.loc "self" = ms.loc "self" →
        ForN z (E203 L) (forTest gFor) (forBody gFor) (fun ms => ms.sto ma = some (ml all)) ((rest.map t3).map (tm true)) ms' Q := by
      intro ms' na' y1 y2 y3 y4 y5 y6 y7 y8 y9
      refine adj_loop he0 hm hmn hpw hpos hlen rest (done ++ [c]) c na' ms' Q (by rw [e]; simp) y1 y2 y3 y4 y5 y6 ?_
      intro m3 cur' na'' f1 f2 f3 f4 f5 f6 f7 f8 f9
      exact q m3 cur' na'' f1 f2 f3 f4 f5 f6 (f7.trans y7) (f8.trans y8) (f9.trans y9)
    -- the other arm
    have other : ¬ (cur.1 + cur.2.2 = c.1 ∧ cur.2.1 + cur.2.2 = c.2.1) → WS (z.fr F') (execs (match (forBody gFor)[0]? with | some (Stmt.If _ _ e _) => e | _ => []) (E203 L)) ⟨updL (updL (updL ms.loc "i2" (.int c.1)) "j2" (.int c.2.1)) "k2" (.int c.2.2), ms.sto⟩
        (Then (z.fr F') (execs [] (E203 L)) (AftW (fun ms₂ => ForN z (E203 L) (forTest gFor) (forBody gFor) (fun ms => ms.sto ma = some (ml all)) ((rest.map t3).map (tm true)) ms₂ Q) Q)) := by
      intro hno
      refine s_cons ?_
      refine s_if ?_
      refine test_val (by rfl) ?_
      refine name_l he (by rfl) (by rfl) (l3) ?_
      refine tr_int ?_
      rcases A with ⟨a1, a2, a3⟩ | a1
      · subst a2
        refine (if_neg (by decide)).mpr ?_
        refine s_nil ?_
        refine s_cons ?_
        refine s_swap (names := ["i1", "j1", "k1"]) (by rfl) (by rfl) ?_
        refine e_tuple ?_
        refine args_cons (by rfl) ?_
        refine name_l he (by rfl) (by rfl) (rfl) ?_
        refine args_cons (by rfl) ?_
        refine name_l he (by rfl) (by rfl) (rfl) ?_
        refine args_cons (by rfl) ?_
        refine name_l he (by rfl) (by rfl) (rfl) ?_
        refine args_nil ?_
        refine ⟨by simp [sizeLine], _, rfl, rfl, ?_⟩
        refine st_bind he (by rfl) ?_
        refine st_bind he (by rfl) ?_
        refine st_bind he (by rfl) ?_
        refine s_nil (s_nil ?_)
        exact fin _ na (.inr (by simp [a1, a3])) hs l0 (by rfl) (by rfl) (by rfl) (by rfl) (by rfl) (by rfl)
      · have hcur : 0 < cur.2.2 := hpos cur (by rw [e, a1]; simp)
        refine (if_pos (by simp; omega)).mpr ?_
        have hsn : ms.sto nl = some (t3l na) := by rw [hs, upd_self]
        refine s_cons ?_
        refine s_expr he.hi (by rfl) ?_
        refine e_meth1 (by rfl) (by rfl) (by rfl) PySem.F.plainAttrs_list PySem.F.slot_list_append PySem.F.type_list_append (by rfl) ?_
        refine name_l he (by rfl) (by rfl) (l0) ?_
        refine ⟨is_list hsn, ?_⟩
        refine e_tuple ?_
        refine args_cons (by rfl) ?_
        refine name_l he (by rfl) (by rfl) (l1) ?_
        refine args_cons (by rfl) ?_
        refine name_l he (by rfl) (by rfl) (l2) ?_
        refine args_cons (by rfl) ?_
        refine name_l he (by rfl) (by rfl) (l3) ?_
        refine args_nil ?_
        refine ⟨by simp [sizeLine], ?_⟩
        refine c_append hsn (by simp [sizeLine]; omega) ⟨rfl, ?_⟩
        have ea : (MO.list ((na.map t3).map ti ++ [MV.tup false [.int cur.1, .int cur.2.1, .int cur.2.2]])) = t3l (na ++ [cur]) := t3l_app na cur
        rw [ea]
        refine s_nil ?_
        refine s_cons ?_
        refine s_swap (names := ["i1", "j1", "k1"]) (by rfl) (by rfl) ?_
        refine e_tuple ?_
        refine args_cons (by rfl) ?_
        refine name_l he (by rfl) (by rfl) (rfl) ?_
        refine args_cons (by rfl) ?_
        refine name_l he (by rfl) (by rfl) (rfl) ?_
        refine args_cons (by rfl) ?_
        refine name_l he (by rfl) (by rfl) (rfl) ?_
        refine args_nil ?_
        refine ⟨by simp [sizeLine], _, rfl, rfl, ?_⟩
        refine st_bind he (by rfl) ?_
        refine st_bind he (by rfl) ?_
        refine st_bind he (by rfl) ?_
        refine s_nil (s_nil ?_)
        refine fin _ (na ++ [cur]) (.inr (by rw [a1])) ?_ l0 (by rfl) (by rfl) (by rfl) (by rfl) (by rfl) (by rfl)
        show upd ms.sto nl _ = _
        rw [hs, upd_upd]
    by_cases c1 : cur.1 + cur.2.2 = c.1
    · refine (if_pos (by simpa using c1)).mpr ?_
      refine and_cons ?_
      refine test_cmp (by rfl) ?_
      refine binop ?_
      refine name_l he (by rfl) (by rfl) (l2) ?_
      refine name_l he (by rfl) (by rfl) (l3) ?_
      refine op_add ?_
      refine name_l he (by rfl) (by rfl) (rfl) ?_
      refine op_eq ?_
      refine tr_bool ?_
      by_cases c2 : cur.2.1 + cur.2.2 = c.2.1
      · refine (if_pos (by simpa using c2)).mpr ?_
        refine and_nil ?_
        refine (if_pos rfl).mpr ?_
        rcases A with ⟨a1, a2, a3⟩ | a1
        · subst a2
          dsimp only at c1 c2 l1 l2 l3
          refine s_cons ?_
          refine s_aug he (by rfl) l3 ?_
          refine name_l he (by rfl) (by rfl) (rfl) ?_
          refine op_iadd ?_
          refine s_nil (s_nil ?_)
          refine fin _ na (.inr (by simp [a1, a3])) hs l0 ?_ ?_ ?_ (by rfl) (by rfl) (by rfl)
          · refine l1.trans ?_; rw [← c1]; rfl
          · refine l2.trans ?_; rw [← c2]; rfl
          · show some (MV.int (0 + c.2.2)) = _
            rw [Int.zero_add]
        · exfalso
          rw [e, a1] at hpw
          have := (List.pairwise_append.mp hpw).2.2 cur (by simp) c (by simp)
          exact this.2.2 ⟨c1, c2⟩
      · refine (if_neg (by simpa using c2)).mpr ?_
        refine (if_neg (by decide)).mpr ?_
        exact other fun h => c2 h.2
    · refine (if_neg (by simpa using c1)).mpr ?_
      refine (if_neg (by decide)).mpr ?_
      exact other fun h => c1 h.1
end
theorem adj_end {all : List I3} {cur : I3} {na : List I3} (h : Adj all cur na) (hpos : ∀ c ∈ all, 0 < c.2.2) : (cur.2.2 = 0 ∧ na = all) ∨ (0 < cur.2.2 ∧ na ++ [cur] = all) := by
  rcases h with ⟨h1, h2, h3⟩ | h1
  · exact .inl ⟨by rw [h2], by rw [h1, h3]⟩
  · exact .inr ⟨hpos cur (by rw [h1]; simp), h1.symm⟩
section
variable {z : Z} {ms : MS} {Q : MV → MS → Prop} {a b : List Int}
theorem Mat.other {s s' : Addr → Option MO} {x al bl : Addr} {a b : List Int} {mb mb' : MV} (h : Mat s x al bl a b mb) (k : ∀ y mo, s y = some mo → (∀ l, mo ≠ .attrs l) → s' y = some mo) (hd : ∀ dx d j p, s x = some (.inst dx) → s dx = some (.attrs (at10 al bl d j p mb)) → s' dx = some (.attrs (at10 al bl d j p mb'))) : Mat s' x al bl a b mb' := by
  obtain ⟨dx, d, j, p, h1, h2, h3, h4⟩ := h.ex
  exact ⟨⟨dx, d, j, p, k _ _ h1 nofun, hd dx d j p h1 h2, k _ _ h3 nofun, h4.ext k⟩, k _ _ h.ha nofun, k _ _ h.hb nofun⟩
theorem at10_mb (al bl d j p : Addr) (D : Addr) : putA "matching_blocks" (.obj D) (at10 al bl d j p .none) = at10 al bl d j p (.obj D) := by rfl
theorem gmb_ok {x al bl : Addr} (hr : Rm z 30) (M : Mat ms.sto x al bl a b .none) (na : a.length ≤ 60) (nb : b.length ≤ 60)
    (q : ∀ sto D, (∀ y mo, ms.sto y = some mo → (∀ l, mo ≠ .attrs l) → sto y = some mo) → ms.sto D = none → sto D = some (ml (blocks a b ++ [((a.length : Int), (b.length : Int), 0)])) → Mat sto x al bl a b (.obj D) → Q (.obj D) ⟨ms.loc, sto⟩) : CallV z (.ref 203) [.obj x] ms Q := by
  refine c203 hr fun z' L' hw he hr' => ?_
  have hu : z'.A.units + 5 < cLine := Nat.lt_of_le_of_lt (by have := hr'.2; omega : z'.A.units + 5 ≤ 1005) (by decide)
  obtain ⟨dx, d, j, p, hix, hdx, hj, hd⟩ := M.ex
  refine s_cons ?_
  refine s_doc he.hi ?_
  refine s_cons ?_
  refine s_if ?_
  refine test_cmp (by rfl) ?_
  refine e_attr (by rfl) fn_mb ?_
  refine name_l he (by rfl) (by rfl) (rfl) ?_
  refine ⟨x, dx, _, _, rfl, hix, hdx, rfl, hin_none, ?_⟩
  refine const_none ?_
  refine op_isnot_none isn_none ?_
  refine tr_bool ?_
  refine (if_neg (by decide)).mpr (s_nil ?_)
  refine s_cons ?_
  refine s_swap (names := ["la", "lb"]) (by rfl) (by rfl) ?_
  refine e_tuple ?_
  refine args_cons (by rfl) ?_
  refine e_call (f := .builtin "len") (name_b he (by rfl) (by rfl) (by kernel_rfl) (by kernel_rfl) (by decide) ⟨rfl, rfl⟩) (plain_builtin _) (by rfl) (by rfl) ?_
  refine args_cons (by rfl) ?_
  refine e_attr (by rfl) fn_a ?_
  refine name_l he (by rfl) (by rfl) (rfl) ?_
  refine ⟨x, dx, _, _, rfl, hix, hdx, rfl, hin_obj _, ?_⟩
  refine args_nil ?_
  refine c_len M.ha (by simp; omega) ?_
  refine args_cons (by rfl) ?_
  refine e_call (f := .builtin "len") (name_b he (by rfl) (by rfl) (by kernel_rfl) (by kernel_rfl) (by decide) ⟨rfl, rfl⟩) (plain_builtin _) (by rfl) (by rfl) ?_
  refine args_cons (by rfl) ?_
  refine e_attr (by rfl) fn_b ?_
  refine name_l he (by rfl) (by rfl) (rfl) ?_
  refine ⟨x, dx, _, _, rfl, hix, hdx, rfl, hin_obj _, ?_⟩
  refine args_nil ?_
  refine c_len M.hb (by simp; omega) ?_
  refine args_nil ?_
  rw [show (a.map MV.int).length = a.length by simp, show (b.map MV.int).length = b.length by simp]
  refine ⟨by simp [sizeLine], _, rfl, rfl, ?_⟩
  refine st_bind he (by rfl) ?_
  refine st_bind he (by rfl) ?_
  refine s_cons ?_
  refine s_assign (by rfl) (by rfl) (by rfl) ?_
  refine e_list ?_
  refine args_cons (by rfl) ?_
  refine e_tuple ?_
  refine args_cons (by rfl) ?_
  refine const_int ?_
  refine args_cons (by rfl) ?_
  refine name_l he (by rfl) (by rfl) (rfl) ?_
  refine args_cons (by rfl) ?_
  refine const_int ?_
  refine args_cons (by rfl) ?_
  refine name_l he (by rfl) (by rfl) (rfl) ?_
  refine args_nil ?_
  refine ⟨by simp [sizeLine], ?_⟩
  refine args_nil ?_
  refine ⟨by simp [sizeLine], fun qa hq => ?_⟩
  have hq : ms.sto qa = none := hq
  refine st_name he (by rfl) ?_
  refine s_cons ?_
  refine s_assign (by rfl) (by rfl) (by rfl) ?_
  refine e_list ?_
  refine args_nil ?_
  refine ⟨by simp [sizeLine], fun ma hm => ?_⟩
  obtain ⟨hmq, hm'⟩ := upd_fresh (f := ms.sto) hm
  refine st_name he (by rfl) ?_
  refine s_cons ?_
  refine s_while (gM [(0, a.length, 0, b.length)] + 1) ?_
  have hM0 : gM [(0, a.length, 0, b.length)] = 2 * a.length + 1 := by simp [gM]
  refine gm_while (s0 := ms.sto) (x := x) (al := al) (bl := bl) (qa := qa) (ma := ma) (a := a) (b := b) he (hr'.less (by omega)) M na nb hq hm' (Ne.symm hmq) _ [(0, a.length, 0, b.length)] [] _ _ (Nat.lt_succ_self _) (by omega) GS.init (((Ext.refl _).upd hq).upd hm') ((upd_ne _ _ (Ne.symm hmq)).trans (upd_self _ _ _)) (by exact upd_self _ _ _) ⟨by rfl, by rfl, by rfl, by rfl, by rfl⟩ ?_
  intro ms1 acc ex1 hperm hma V
  have hlen : acc.length ≤ 60 := by rw [hperm.length_eq]; exact Nat.le_trans blocks_len na
  refine s_cons ?_
  refine s_expr he.hi (by rfl) ?_
  refine e_meth0 (by rfl) (by rfl) PySem.F.plainAttrs_list PySem.F.slot_list_sort PySem.F.type_list_sort ?_
  refine name_l he (by rfl) (by rfl) (V.vm) ?_
  refine ⟨is_list hma, ?_⟩
  refine c_sort (m := true) (xss := acc.map t3) (ys := (blocks a b).map t3) hu hma (fun y hy => ?_) (by simp; omega) (hperm.symm.map t3) blocks_sorted ⟨rfl, ?_⟩
  · obtain ⟨t, _, rfl⟩ := List.mem_map.mp hy; rfl
  have ex2 : Ext ms.sto (upd ms1.sto ma (ml (blocks a b))) := ex1.upd hm'
  have hma2 : upd ms1.sto ma (ml (blocks a b)) ma = some (ml (blocks a b)) := upd_self _ _ _
  show WS _ _ ⟨ms1.loc, upd ms1.sto ma (ml (blocks a b))⟩ _
  generalize upd ms1.sto ma (ml (blocks a b)) = sto2 at ex2 hma2
  have hpos : ∀ c ∈ blocks a b, 0 < c.2.2 := fun c hc => by obtain ⟨i, j, k, rfl, h0, _⟩ := blocks_in hc; dsimp only; omega
  have hbl : (blocks a b).length ≤ 60 := Nat.le_trans blocks_len na
  refine s_cons ?_
  refine s_assign3 (by rfl) (by rfl) ?_
  refine const_int ?_
  refine st_name he (by rfl) ?_
  refine st_name he (by rfl) ?_
  refine st_name he (by rfl) ?_
  refine s_cons ?_
  refine s_assign (by rfl) (by rfl) (by rfl) ?_
  refine e_list ?_
  refine args_nil ?_
  refine ⟨by simp [sizeLine], fun nl hn => ?_⟩
  have hn : sto2 nl = none := hn
  have hmn : ma ≠ nl := fun e => by subst e; rw [hn] at hma2; cases hma2
  refine st_name he (by rfl) ?_
  refine s_cons ?_
  refine s_for_list (.tup _ _ _) (by intro _; rfl) ?_
  refine name_l he (by rfl) (by rfl) (V.vm) ?_
  refine ⟨ma, _, rfl, upd_old hma2 hn, ?_⟩
  refine adj_loop (all := blocks a b) (ma := ma) (nl := nl) (sto0 := sto2) he hma2 hmn blocks_pw hpos (by omega) (blocks a b) [] (0, 0, 0) [] _ _ rfl (.inl ⟨rfl, rfl, rfl⟩) (by rfl) (by rfl) (by rfl) (by rfl) (by rfl) ?_
  intro ms3 cur na' A hs3 v0 v1 v2 v3 v4 v5 v6
  have hnl : na'.length ≤ 60 := by
    rcases A with ⟨_, _, h⟩ | h
    · rw [h]; simp
    · rw [h, List.length_append] at hbl; omega
  have wla : ms3.loc "la" = some (.int (a.length : Int)) := v4.trans V.va
  have wlb : ms3.loc "lb" = some (.int (b.length : Int)) := v5.trans V.vb
  have wself : ms3.loc "self" = some (.obj x) := v6.trans V.vs
  have hsn : ms3.sto nl = some (t3l na') := by rw [hs3, upd_self]
  -- from the last append on
  have rest : ∀ ms4 : MS, ms4.sto = upd sto2 nl (t3l (blocks a b)) → ms4.loc "non_adjacent" = some (.obj nl) → ms4.loc "la" = some (.int (a.length : Int)) → ms4.loc "lb" = some (.int (b.length : Int)) → ms4.loc "self" = some (.obj x) →
      WS z' (execs ((bodyOf (meth 5 7)).drop 11) (E203 L')) ms4 (RetQ ms.loc Q) := by
    intro ms4 y0 y1 y2 y3 y4
    have hsn4 : ms4.sto nl = some (t3l (blocks a b)) := by rw [y0, upd_self]
    refine s_cons ?_
    refine s_expr he.hi (by rfl) ?_
    refine e_meth1 (by rfl) (by rfl) (by rfl) PySem.F.plainAttrs_list PySem.F.slot_list_append PySem.F.type_list_append (by rfl) ?_
    refine name_l he (by rfl) (by rfl) (y1) ?_
    refine ⟨is_list hsn4, ?_⟩
    refine e_tuple ?_
    refine args_cons (by rfl) ?_
    refine name_l he (by rfl) (by rfl) (y2) ?_
    refine args_cons (by rfl) ?_
    refine name_l he (by rfl) (by rfl) (y3) ?_
    refine args_cons (by rfl) ?_
    refine const_int ?_
    refine args_nil ?_
    refine ⟨by simp [sizeLine], ?_⟩
    refine c_append hsn4 (by simp [sizeLine]; omega) ⟨rfl, ?_⟩
    have ea : (MO.list (((blocks a b).map t3).map ti ++ [MV.tup false [.int (a.length : Int), .int (b.length : Int), .int 0]])) = t3l (blocks a b ++ [((a.length : Int), (b.length : Int), 0)]) := t3l_app (blocks a b) ((a.length : Int), (b.length : Int), 0)
    rw [ea]
    have hs5 : upd ms4.sto nl (t3l (blocks a b ++ [((a.length : Int), (b.length : Int), 0)])) nl = some (tl ((blocks a b ++ [((a.length : Int), (b.length : Int), 0)]).map t3)) := upd_self _ _ _
    have ex5 : Ext ms.sto (upd ms4.sto nl (t3l (blocks a b ++ [((a.length : Int), (b.length : Int), 0)]))) := by
      rw [y0, upd_upd]; exact ex2.upd (ex2.none hn)
    generalize upd ms4.sto nl (t3l (blocks a b ++ [((a.length : Int), (b.length : Int), 0)])) = sto5 at hs5 ex5
    refine s_cons ?_
    refine s_assign (by rfl) (by rfl) (by rfl) ?_
    refine e_listmap he (by rfl) (by rfl) (by rfl) (by rfl) (by rfl) (hr'.less (by omega)) y1 hs5 (fun y hy => ?_) (by simp; omega) fun D hD => ?_
    · obtain ⟨t, _, rfl⟩ := List.mem_map.mp hy; rfl
    have hD : sto5 D = none := hD
    have hDn : ms.sto D = none := ex5.none hD
    refine st_attr fn_mb ?_
    refine name_l he (by rfl) (by rfl) (y4) ?_
    refine ⟨x, dx, _, rfl, upd_old (ex5 _ _ hix) hD, upd_old (ex5 _ _ hdx) hD, by simp [at10], ?_⟩
    rw [at10_mb]
    have hDdx : D ≠ dx := fun e => by subst e; rw [hDn] at hdx; cases hdx
    have keep : ∀ y mo, ms.sto y = some mo → (∀ l, mo ≠ .attrs l) → upd (upd sto5 D (.list (((blocks a b ++ [((a.length : Int), (b.length : Int), 0)]).map t3).map (tm true)))) dx (.attrs (at10 al bl d j p (.obj D))) y = some mo := fun y mo e nn =>
      upd_other (upd_old (ex5 _ _ e) hD) (upd_old (ex5 _ _ hdx) hD) (nn _)
    refine s_cons ?_
    refine s_return ?_
    refine e_attr (by rfl) fn_mb ?_
    refine name_l he (by rfl) (by rfl) (y4) ?_
    refine ⟨x, dx, _, _, rfl, keep _ _ hix nofun, upd_self _ _ _, rfl, hin_obj _, ?_⟩
    refine q _ D keep hDn ((upd_ne _ _ hDdx).trans (upd_self _ _ _)) (M.other keep fun dx' d' j' p' g1 g2 => ?_)
    have : dx' = dx := by rw [hix] at g1; cases g1; rfl
    subst this
    rw [hdx] at g2
    cases g2
    exact upd_self _ _ _
  refine s_cons ?_
  refine s_if ?_
  refine test_val (by rfl) ?_
  refine name_l he (by rfl) (by rfl) (v3) ?_
  refine tr_int ?_
  rcases adj_end A hpos with ⟨k0, e⟩ | ⟨k0, e⟩
  · refine (if_neg (by simp [k0])).mpr (s_nil ?_)
    exact rest ms3 (by rw [hs3, e]) v0 wla wlb wself
  · refine (if_pos (by simp; omega)).mpr ?_
    refine s_cons ?_
    refine s_expr he.hi (by rfl) ?_
    refine e_meth1 (by rfl) (by rfl) (by rfl) PySem.F.plainAttrs_list PySem.F.slot_list_append PySem.F.type_list_append (by rfl) ?_
    refine name_l he (by rfl) (by rfl) (v0) ?_
    refine ⟨is_list hsn, ?_⟩
    refine e_tuple ?_
    refine args_cons (by rfl) ?_
    refine name_l he (by rfl) (by rfl) (v1) ?_
    refine args_cons (by rfl) ?_
    refine name_l he (by rfl) (by rfl) (v2) ?_
    refine args_cons (by rfl) ?_
    refine name_l he (by rfl) (by rfl) (v3) ?_
    refine args_nil ?_
    refine ⟨by simp [sizeLine], ?_⟩
    refine c_append hsn (by simp [sizeLine]; omega) ⟨rfl, ?_⟩
    have ea : (MO.list ((na'.map t3).map ti ++ [MV.tup false [.int cur.1, .int cur.2.1, .int cur.2.2]])) = t3l (na' ++ [cur]) := t3l_app na' cur
    rw [ea, e]
    refine s_nil ?_
    refine rest _ ?_ v0 wla wlb wself
    show upd ms3.sto nl _ = _
    rw [hs3, upd_upd]
end
end Mine
end

/-! TupM -/
section
open PySem PySem.W PyProof.Rows
set_option Elab.async false
set_option maxRecDepth 100000
set_option maxHeartbeats 1000000
set_option linter.unusedVariables false
namespace Mine

open PySem.Calls PySem.Builtin PySem.Builtin.ObjectAttr PySem.Builtin.Getset_descriptor
/-! ## tuple(a Match) -/
section
variable {w : World} {A : Around} {E : Value → Shared → Prop} {s : Shared} {m : Addr} {items : Array Value} {n : Nat × Option Addr}
theorem len_match {Q : Value → Shared → Prop} (X : (K w.params).In s.heap) (e : s.heap.get? m = some (tupO true items n)) (hz : items.size ≤ 1000)
    (h : ∀ t tk, Q (.int items.size t) { s with toks := tk }) : wpAny (model P w) A (call (.builtin "len") [.ref m]) Q E s := by
  have lk := mlook (w := w) X e (f_len _)
  refine Calls.call_function_entry kind_len plain_len entry_len (args_len1 _) ?_
  unfold Builtin.«len»
  refine wpAny_bind (m := oneArg "len" _) (wpAny_pure ?_)
  unfold callSpecial?
  refine wpAny_bind (wpAny_bind (lk.here ?_))
  dsimp only
  refine wpAny_holding (wpAny_bind (wpAny_of_eq (F.slot_tuple_len.bind _) (wpAny_bind ?_)))
  refine wpAny_call (codeAny_call_builtin F.slot_tuple_len.plain F.entry_tuple_len (check_slot (i := "tuple.__len__") (owner := "tuple") (n := "__len__") (self := .ref m) (rest := []) (kw := []) tlen_kind tlen_split (minst X e) (args_tuple_len _) ?_))
  show wpAny _ _ (do retInt (← Builtin.Tuple.tupleItemsOf (.ref m)).size) _ _ s
  refine wpAny_bind (wpAny_bind (wpAny_seqItems e rfl (wpAny_pure ?_)))
  refine wpAny_bind (wpAny_mkInt (wpAny_pure ?_))
  refine wpAny_pure ?_
  refine wpAny_bind (wpAny_holding (wpAny_pure ?_))
  refine wpAny_bind (wpAny_letGo ?_)
  show wpAny _ _ (if ((items.size : Nat) : Int) < 0 then _ else _) _ _ _
  rw [if_neg (by omega)]
  show wpAny _ _ (if ((items.size : Nat) : Int) ≥ 2 ^ 63 then _ else _) _ _ _
  rw [if_neg (by omega)]
  exact wpAny_bind (wpAny_mkInt (wpAny_pure ⟨_, rfl, h _ _⟩))
/-- the loop of list.extend over a thing with items -/
theorem ext_loop {I t S : Addr} {o : Obj} {k : Nat} {res : Value} {R : Result → Shared → Prop} (hh : A.handled = none) (hd : o.data = .seq items k) (hz : items.size ≤ 1000) (htI : t ≠ I) (htS : t ≠ S) (hIS : I ≠ S) :
    ∀ (c i : Nat) (s : Shared) (acc : Array Value) (na : Nat), i + c = items.size → TIt s.heap I t i → s.heap.get? t = some o → IsL s.heap S acc na → acc.toList = items.toList.take i →
      (∀ h' n', (∀ b o, b ≠ I → b ≠ S → s.heap.get? b = some o → h'.get? b = some o) → IsL h' S items n' → R (.ok (.ret res)) { s with heap := h' }) →
      codeAny (model P w) A (.builtin "list.extend.loop" ⟨[.ref S, .ref I, res], []⟩) R s
  | 0, i, s, acc, na, hc, hit, ho, hS, ha, fin => by
    refine codeAny_builtin F.entry_extend_loop ?_
    rw [Around.under_plainId F.plain_extend_loop _]
    show wpAny _ A.in1 (pyNext (.ref I) >>= _) _ _ s
    have e : acc = items := Array.toList_inj.mp (by rw [ha, List.take_of_length_le (by simp; omega)])
    subst e
    refine wpAny_bind (tnext_end (show A.in1.handled = none from hh) hit ho hd (by rw [Array.getElem?_eq_none_iff]; omega) fun h' ex => ?_)
    exact wpAny_pure (fin h' na (fun b o q1 _ e => ex b o q1 e) (ex S _ (Ne.symm hIS) hS))
  | c + 1, i, s, acc, na, hc, hit, ho, hS, ha, fin => by
    refine codeAny_builtin F.entry_extend_loop ?_
    rw [Around.under_plainId F.plain_extend_loop _]
    show wpAny _ A.in1 (pyNext (.ref I) >>= _) _ _ s
    have hi : i < items.size := by omega
    have hlen : acc.size = i := by
      have := congrArg List.length ha
      rw [List.length_take] at this
      simp at this
      omega
    refine wpAny_bind (tnext_item hit ho hd (x := items[i]) (by simp [hi]) fun h' hit' sb => ?_)
    show wpAny _ _ (Builtin.List.listUpdate (.ref S) (·.push items[i]) >>= _) _ _ _
    have hS' : IsL h' S acc na := (sb.2 S (Ne.symm hIS)).trans hS
    refine wpAny_bind (listUpdate_at (s := { s with heap := h' }) (o := { cls := .type "list", dict := none, data := .seq acc na, slots := #[] }) hS' rfl ?_ (by rw [hlen, sizeLine_eq]; omega) (by rw [Array.size_push, hlen, sizeLine_eq]; omega))
    have sbS := Heap.SameBut.update h' S (Obj.mapSeq (·.push items[i]))
    obtain ⟨n4, hS4⟩ : ∃ n4, IsL (h'.update S (Obj.mapSeq (·.push items[i]))) S (acc.push items[i]) n4 := ⟨_, get?_update_seq (h := h') (a := S) (c := "list") (xs := acc) (n := na) hS' (·.push items[i])⟩
    refine wpAny_pure ⟨plainId_quiet F.plain_extend_loop _, ext_loop hh hd hz htI htS hIS c (i + 1) _ (acc.push items[i]) n4 (by omega) ((sbS.2 I hIS).trans hit') ((sbS.2 t htS).trans ((sb.2 t htI).trans ho)) hS4 ?_ fun h'' n'' k2 hS'' => fin h'' n'' (fun b o q1 q2 e => k2 b o q1 q2 ((sbS.2 b q2).trans ((sb.2 b q1).trans e))) hS''⟩
    rw [Array.toList_push, ha, List.take_succ_eq_append_getElem (by simpa using hi)]
    simp
theorem silent_len : ∀ (M : Model) (A : Around) (E : Value → Shared → Prop) (s : Shared) (Q : Bool → Shared → Prop), wpAny M A (pure true : Sem Bool) Q E s → wpAny M A (pure true : Sem Bool) Q E s := fun _ _ _ _ _ h => h
theorem collect_match {Q : List Value → Shared → Prop} (X : (K w.params).In s.heap) (hh : A.handled = none) (ho : s.heap.get? m = some (tupO true items n)) (hz : items.size ≤ 1000) (hz1 : 0 < items.size)
    (h : ∀ h' tk, (∀ b o, s.heap.get? b = some o → h'.get? b = some o) → Q items.toList { s with heap := h', toks := tk }) : wpAny (model P w) A (collect (.ref m)) Q E s := by
  unfold collect
  refine wpAny_bind (wpAny_runValue (codeAny_builtin entry_proto_collect' ?_))
  show wpAny _ _ (do again (.builtin "list.__iadd__" ⟨[← newList [], .ref m], []⟩)) _ _ s
  refine wpAny_bind (wpAny_newList (wpAny_pure ⟨Code.quiet_builtin _ (by decide +kernel), codeAny_builtin entry_list_iadd' ?_⟩))
  show wpAny _ _ (Builtin.List.listExtendWith (.ref s.heap.objs.size) (.ref m) (.ref s.heap.objs.size)) _ _ { s with heap := s.heap.push (seqObj "list" #[] 0) }
  have mS : m ≠ s.heap.objs.size := Nat.ne_of_lt (Heap.lt_size ho)
  have kp : ∀ b o, s.heap.get? b = some o → (s.heap.push (seqObj "list" #[] 0)).get? b = some o := fun b o e => Heap.get?_push_of_some _ e
  have hS1 : IsL (s.heap.push (seqObj "list" #[] 0)) s.heap.objs.size #[] 0 := Heap.get?_push_size _ rfl
  have sz1 : (s.heap.push (seqObj "list" #[] 0)).objs.size = s.heap.objs.size + 1 := Heap.size_push ..
  generalize hg : s.heap.push (seqObj "list" #[] 0) = h1 at kp hS1 sz1
  have X1 : (K w.params).In h1 := fun b o e => kp b o (X b o e)
  have ho1 := kp m _ ho
  unfold Builtin.List.listExtendWith
  refine wpAny_bind ((mtype ho1).at ?_)
  have e1 : Builtin.List.listSameRef (.ref s.heap.objs.size) (.ref m) = false := by simp [Builtin.List.listSameRef, Ne.symm mS]
  simp only [e1, show (Value.ref 135 == Value.type "list") = false by decide, show (Value.ref 135 == Value.type "tuple") = false by decide, Bool.or_false, Bool.false_eq_true, if_false]
  refine wpAny_bind (miter (s := { s with heap := h1 }) X1 ho1 ?_)
  dsimp only
  have kp2 : ∀ b o, h1.get? b = some o → (h1.push { cls := .type "tuple_iterator", data := .fields #[.ref m, .int 0 0] }).get? b = some o := fun b o e => Heap.get?_push_of_some _ e
  have hI2 : TIt (h1.push { cls := .type "tuple_iterator", data := .fields #[.ref m, .int 0 0] }) h1.objs.size m 0 := Heap.get?_push_size _ rfl
  generalize h1.push { cls := .type "tuple_iterator", data := .fields #[.ref m, .int 0 0] } = h2 at kp2 hI2
  have X2 : (K w.params).In h2 := fun b o e => kp2 b o (X1 b o e)
  have ho2 := kp2 m _ ho1
  have hS2 := kp2 _ _ hS1
  have mI : m ≠ h1.objs.size := Nat.ne_of_lt (Heap.lt_size ho1)
  have IS : h1.objs.size ≠ s.heap.objs.size := by rw [sz1]; exact Nat.succ_ne_self _
  refine wpAny_bind (wpAny_holding ?_)
  unfold Builtin.List.listLengthHint
  refine wpAny_bind ((mlook X2 ho2 (f_len _)).at ?_)
  dsimp only
  rw [tlen_split]
  dsimp only
  refine wpAny_bind ((minst X2 ho2).at ?_)
  rw [if_neg (by decide)]
  rw [if_pos (by decide +kernel)]
  refine wpAny_bind ((mtype ho2).at ?_)
  dsimp only
  refine wpAny_bind (len_match (s := { s with heap := h2 }) X2 ho2 hz fun t tk => ?_)
  refine wpAny_bind (m := asInt? (.int items.size t)) (wpAny_pure ?_)
  dsimp only
  refine wpAny_pure ?_
  rw [show (((items.size : Nat) : Int) != 0) = true from bne_iff_ne.mpr (by omega)]
  show wpAny _ _ (rule "list.extend.makes-room" >>= fun _ => Builtin.List.listTouch (.ref s.heap.objs.size) >>= fun _ =>
    again (.builtin "list.extend.loop" ⟨[.ref s.heap.objs.size, .ref h1.objs.size, .ref s.heap.objs.size], []⟩)) _ _ _
  refine wpAny_bind (wpAny_rule ?_)
  refine wpAny_bind ?_
  show wpAny _ _ (updateSeq s.heap.objs.size (·.push .none) >>= fun _ => updateSeq s.heap.objs.size (·.pop)) _ _ _
  refine wpAny_bind (wpAny_updateSeq hS2 rfl ?_)
  have hS3 := Heap.get?_update_self (Obj.mapSeq (·.push Value.none)) hS2 rfl
  refine wpAny_updateSeq (hz := by seq_fits) hS3 rfl ?_
  have hS4 := Heap.get?_update_self (Obj.mapSeq (·.pop)) hS3 rfl
  have kp4 : ∀ b o, b ≠ s.heap.objs.size → h2.get? b = some o → ((h2.update s.heap.objs.size (Obj.mapSeq (·.push Value.none))).update s.heap.objs.size (Obj.mapSeq (·.pop))).get? b = some o := fun b o hb e =>
    (Heap.get?_update_other _ _ (Ne.symm hb)).trans ((Heap.get?_update_other _ _ (Ne.symm hb)).trans e)
  generalize (h2.update s.heap.objs.size (Obj.mapSeq (·.push Value.none))).update s.heap.objs.size (Obj.mapSeq (·.pop)) = h4 at hS4 kp4
  obtain ⟨n5, hS5⟩ : ∃ n5, IsL h4 s.heap.objs.size #[] n5 := ⟨_, hS4⟩
  refine wpAny_pure ⟨plainId_quiet F.plain_extend_loop _, ext_loop (o := tupO true items n) hh rfl hz mI mS IS items.size 0 _ #[] n5 (by omega) (kp4 _ _ IS hI2) (kp4 _ _ mS ho2) hS5 rfl fun h' n' k' hS' => ?_⟩
  show wpAny _ _ (load s.heap.objs.size >>= _) _ _ _
  refine wpAny_bind (wpAny_load hS' ?_)
  exact wpAny_pure (h h' tk fun b o e => k' b o (by rw [sz1]; exact Nat.ne_of_lt (Nat.lt_succ_of_lt (Heap.lt_size e))) (Nat.ne_of_lt (Heap.lt_size e)) (kp4 b o (Nat.ne_of_lt (Heap.lt_size e)) (kp2 b o (kp b o e))))
end
section
variable {w : World} {A : Around} {E : Value → Shared → Prop} {s : Shared} {m : Addr} {items : Array Value} {n : Nat × Option Addr}
theorem tuple_match {Q : Value → Shared → Prop} (X : (K w.params).In s.heap) (hh : A.handled = none) (ho : s.heap.get? m = some (tupO true items n)) (hz : items.size ≤ 1000) (hz1 : 0 < items.size)
    (h : ∀ (h' : Heap) tk, (∀ b o, s.heap.get? b = some o → h'.get? b = some o) → Q (.ref h'.objs.size) { s with heap := h'.push (tupO false items (0, none)), toks := tk }) : wpAny (model P w) A (call (.type "tuple") [.ref m]) Q E s := by
  have l1 := mtype (w := w) ho
  refine callType_codes (Q₁ := fun obj s₁ => ∃ (h' : Heap) (tk : Nat), obj = .ref h'.objs.size ∧ s₁ = { s with heap := h'.push (tupO false items (0, none)), toks := tk } ∧ (∀ b o, s.heap.get? b = some o → h'.get? b = some o)) F.called_tuple (F.typeCall_tuple_1 _) F.entry_object_init ?_ fun obj s₁ h₁ => ?_
  · refine codeAny_call_builtin (by decide +kernel) F.entry_tuple_new (wpAny_of_eq (F.newCall_tuple_1 _) ?_)
    obtain ⟨hp, g, dd, tk, os⟩ := s
    unfold Builtin.«tuple.__new__»
    dsimp only
    refine wpAny_bind (m := isType (.type "tuple")) (wpAny_pure ?_)
    rw [if_neg (by decide)]
    refine wpAny_bind (wpAny_of_eq sub_tuple_self ?_)
    rw [if_neg (by decide)]
    rw [if_neg (by decide +kernel)]
    refine wpAny_bind (wpAny_of_eq madeHere_tuple ?_)
    refine wpAny_bind (wpAny_of_eq init_tuple_lookup ?_)
    rw [if_pos (by decide)]
    refine wpAny_bind (wpAny_pure ?_)
    refine wpAny_bind (m := PySem.checkCount "tuple" 0 1 1) (wpAny_pure ?_)
    rw [if_pos (by decide)]
    refine wpAny_bind (m := Tuple.tupleIsExact (.ref m)) ?_
    unfold Tuple.tupleIsExact
    refine wpAny_bind (l1.at (wpAny_pure ?_))
    rw [if_neg (by decide)]
    refine wpAny_bind (collect_match (s := ⟨hp, g, dd, tk, os⟩) X hh ho hz hz1 fun h' tk' keep => ?_)
    refine wpAny_bind (wpAny_pure ?_)
    unfold Builtin.Tuple.tupleExact
    refine wpAny_bind (wpAny_newObj_type (hd := by show items.toList.toArray.size ≤ _; simp [sizeLine_eq]; omega) (wpAny_pure ?_))
    rw [Array.toArray_toList]
    exact ⟨h', tk', rfl, rfl, keep⟩
  · obtain ⟨h', tk, rfl, rfl, keep⟩ := h₁
    have hT : Shared.TypeIs { s with heap := h'.push (tupO false items (0, none)), toks := tk } (.ref h'.objs.size) "tuple" := ⟨_, Heap.get?_push_size _ rfl, rfl⟩
    refine ⟨hT, F.args_object_init_2 _ _, ?_⟩
    exact object_init_meets F.called_tuple.init.lookup F.called_tuple.made (by decide) P w A.in1 _ _ ⟨hT, ⟨rfl, h _ _ keep⟩⟩
end
end Mine
end

/-! LComp -/
section
open PySem PySem.W PyProof.Rows
set_option Elab.async false
set_option maxRecDepth 100000
set_option maxHeartbeats 1000000
set_option linter.unusedVariables false
namespace Mine

theorem ni_list {h : Heap} {a : Addr} {xs : Array Value} (x : h.IsList a xs) : ∀ o, h.get? a = some o → ¬ Imm o := by
  obtain ⟨o, ho, hc, n, hd⟩ := x
  intro o' e
  rw [ho] at e; cases e
  rintro (⟨_, _, _, q⟩ | ⟨_, q, _⟩)
  · exact q hc
  · rw [hd] at q; cases q
theorem ni_iter {h : Heap} {a l : Addr} {i : Nat} (x : h.IsListIter a l i) : ∀ o, h.get? a = some o → ¬ Imm o := by
  obtain ⟨o, ho, hc, hd⟩ := x
  intro o' e
  rw [ho] at e; cases e
  rintro (⟨_, _, q, _⟩ | ⟨_, _, q⟩)
  · rw [hd] at q; cases q
  · rw [hc] at q; simp at q
theorem ni_ns {h : Heap} {a : Addr} {m : Str → Option Value} (x : h.Ns a m) : ∀ o, h.get? a = some o → ¬ Imm o := by
  obtain ⟨o, es, k, ho, hd, _⟩ := x
  intro o' e
  rw [ho] at e; cases e
  rintro (⟨_, _, q, _⟩ | ⟨_, q, _⟩)
  · rw [hd] at q; cases q
  · rw [hd] at q; cases q
section
variable {w : World} {A : Around} {E : Value → Shared → Prop} {s : Shared} {mg mb : Str → Option Value}
theorem elt_tuple {cenv : Env} {x : Str} {p1 p2 p3 : Pos} {Q : Value → Shared → Prop} {m : Str → Option Value} {a : Addr} {items : Array Value} {n : Nat × Option Addr} (X : (K w.params).In s.heap) (T : TopRead V (looseW V loose) mg mb s.heap) (hh : A.handled = none)
    (kind : cenv.scope.kind = .function) (hx : cenv.kindOf x = some .local) (hd : (x == ("__debug__" : Str)) = false) (ht : cenv.kindOf "tuple" = some .globalImplicit) (hg : cenv.globals = mainGlobals) (hb : cenv.builtins = builtinsNs)
    (hn : s.heap.Ns cenv.locals m) (hm : m x = some (.ref a)) (ho : s.heap.get? a = some (tupO true items n)) (hz : items.size ≤ 1000) (hz1 : 0 < items.size)
    (h : ∀ (h' : Heap) tk, (∀ b o, s.heap.get? b = some o → h'.get? b = some o) → Q (.ref h'.objs.size) { s with heap := h'.push (tupO false items (0, none)), toks := tk }) :
    wpAny (model P w) A (eval (.Call (.Name "tuple" p1) [.Name x p2] [] p3) cenv) Q E s := by
  refine wpAny_Call_NameR (Calls.Name_function_global kind ht (Calls.loadGlobal_builtin (v := .type "tuple") (hg ▸ T.g) (mg_none_of X T.g (by kernel_rfl)) (hb ▸ T.b) ((T.builtins "tuple" (by decide)).trans (by kernel_rfl)) ?_) (by rfl))
  refine PySem.callWith_type (by rfl) (Calls.evalArgs_plain (wpAny_items_cons (wpAny_Name (wpAny_loadName_local kind hx hn hm (wpAny_items_nil ?_)) hd) (by rfl)))
  exact tuple_match X hh ho hz hz1 h
theorem append_l {l : Addr} {items : Array Value} {x : Value} {n : Nat} {Q : Value → Shared → Prop} (hl : IsL s.heap l items n) (hz : items.size ≤ 1000)
    (hQ : ∀ h' n', IsL h' l (items.push x) n' → Heap.SameBut l s.heap h' → Q .none { s with heap := h' }) : wpAny (model P w) A (call (.builtin "list.append") [.ref l, x]) Q E s := by
  refine wpAny_call_entry slot_list_append (IsL.lst hl).typeIs entry_list_append ?_ (args_list_append _ _)
  show wpAny _ _ (updateSeq l (·.push x) >>= fun _ => ret .none) _ _ s
  have hsz : items.size ≤ sizeLine := by rw [sizeLine_eq]; omega
  refine wpAny_bind ?_
  refine wpAny_updateSeq hl rfl (wpAny_pure ⟨.none, rfl, ?_⟩)
  exact hQ _ _ (get?_update_seq (h := s.heap) (a := l) (c := "list") (xs := items) (n := n) hl (·.push x)) (Heap.SameBut.update ..)
theorem lc_loop {R : Result → Shared → Prop} {h0 : Heap} {dss : List (List MV)} {iter : Expr} {x : Str} {px p1 p2 p3 : Pos} {scope : Scope} {pos : Pos} {I ax D : Addr} {cenv : Env} {items : Array Value} {m : Str → Option Value}
    (X : (K w.params).In h0) (T : TopRead V (looseW V loose) mg mb h0) (hh : A.handled = none) (kind : cenv.scope.kind = .function) (hx : cenv.kindOf x = some .local) (hd : (x == ("__debug__" : Str)) = false) (ht : cenv.kindOf "tuple" = some .globalImplicit) (hg : cenv.globals = mainGlobals) (hb : cenv.builtins = builtinsNs)
    (hp : (cenv.scope.kind == .class || (cenv.scope.kind == .module && cenv.locals != cenv.globals)) = false)
    (hDI : D ≠ I) (hDC : D ≠ cenv.locals) (hIC : I ≠ cenv.locals) (haI : ax ≠ I) (haC : ax ≠ cenv.locals) (haD : ax ≠ D)
    (nI : h0.get? I = none) (nC : h0.get? cenv.locals = none) (nD : h0.get? D = none)
    (hit : s.heap.IsListIter I ax 0) (hl : s.heap.IsList ax items) {n0 : Nat} (hacc : IsL s.heap D #[] n0) (hn : s.heap.Ns cenv.locals m)
    (hv : VRs s.heap (dss.map (MV.tup true)) items.toList) (hds : ∀ ds ∈ dss, 0 < ds.length ∧ ds.length ≤ 1000) (hlen : dss.length ≤ 1000)
    (all : ∀ b o, h0.get? b = some o → s.heap.get? b = some o)
    (hR : ∀ h' tk ys, (∃ nd, IsL h' D ys nd) → VRs h' (dss.map (MV.tup false)) ys.toList → (∀ b o, h0.get? b = some o → h'.get? b = some o) → (∃ m', h'.Ns cenv.locals m') → R (.ok .next) { s with heap := h', toks := tk }) :
    codeAny (model P w) A (.compLoop (.ListComp (.Call (.Name "tuple" p1) [.Name x p2] [] p3) [⟨.Name x px, iter, [], 0⟩] scope pos) 0 (.ref I) (.ref D) cenv) R s := by
  have hsz : items.size = dss.length := by have := hv.length; simpa using this
  refine codeAny_compLoop_tests
    (fun k s' => ∃ h' tk m' ys i, s' = { s with heap := h', toks := tk } ∧ h'.IsListIter I ax i ∧ h'.IsList ax items ∧ (∃ nd, IsL h' D ys nd) ∧ h'.Ns cenv.locals m' ∧
      VRs h' (dss.map (MV.tup true)) items.toList ∧ VRs h' ((dss.map (MV.tup false)).take i) ys.toList ∧ i ≤ items.size ∧ k = items.size + 1 - i ∧
      ∀ b o, h0.get? b = some o → h'.get? b = some o) ?_ (items.size + 1)
    ⟨s.heap, s.toks, m, #[], 0, rfl, hit, hl, ⟨n0, hacc⟩, hn, hv, by rw [List.take_zero]; exact vrs_nil.mpr rfl, Nat.zero_le _, rfl, all⟩
  rintro k s' ⟨H, tk, m', ys, i, rfl, hit', hl', ⟨nd, hacc'⟩, hn', hv', hF, hi, rfl, hk⟩
  have offI : ∀ b o, h0.get? b = some o → b ≠ I := fun b o e q => by subst q; rw [nI] at e; cases e
  have offC : ∀ b o, h0.get? b = some o → b ≠ cenv.locals := fun b o e q => by subst q; rw [nC] at e; cases e
  have offD : ∀ b o, h0.get? b = some o → b ≠ D := fun b o e q => by subst q; rw [nD] at e; cases e
  cases hvi : items[i]? with
  | none =>
    have hge : items.size ≤ i := by simpa using hvi
    refine wpAny_pyNext_list_end hh hit' hl' hvi fun h₁ he₁ => ?_
    have kp : Keep H h₁ := Keep.but he₁ (ni_iter hit')
    rw [List.take_of_length_le (by simp; omega)] at hF
    exact hR h₁ tk ys ⟨nd, he₁ _ _ hDI hacc'⟩ (hF.keep kp) (fun b o e => he₁ b o (offI b o e) (hk b o e)) ⟨m', hn'.extBut he₁ (Ne.symm hIC)⟩
  | some v =>
    have hlt : i < items.size := (Array.getElem?_eq_some_iff.mp hvi).1
    refine wpAny_pyNext_list_item hit' hl' hvi fun h₁ hit₁ hs₁ => ?_
    have k1 : Keep H h₁ := Keep.but hs₁.extBut (ni_iter hit')
    have hn1 := hn'.sameBut hs₁ (Ne.symm hIC)
    refine wpAny_assign_Name (wpAny_storeName_local hx hn1 (fun h₂ hn₂ hs₂ => ?_) hp)
    have k2 : Keep h₁ h₂ := Keep.but hs₂.extBut (ni_ns hn1)
    have all2 : ∀ b o, h0.get? b = some o → h₂.get? b = some o := fun b o e => hs₂.extBut b o (offC b o e) (hs₁.extBut b o (offI b o e) (hk b o e))
    have hv2 := (hv'.keep k1).keep k2
    have hF2 := (hF.keep k1).keep k2
    have hacc2 : IsL h₂ D ys nd := hs₂.extBut _ _ hDC (hs₁.extBut _ _ hDI hacc')
    have hl2 := (hl'.extBut hs₁.extBut haI).extBut hs₂.extBut haC
    have hit2 := hit₁.extBut hs₂.extBut hIC
    have hdi : (dss.map (MV.tup true))[i]? = some (.tup true (dss[i]'(by omega))) := by simp [hsz ▸ hlt]
    obtain ⟨u, hu, ru⟩ := hv2.get hdi
    obtain rfl : u = v := by
      have : items.toList[i]? = some v := by simpa using hvi
      rw [this] at hu; cases hu; rfl
    obtain ⟨a, its, n, rfl, ga, va⟩ := vr_tup.mp ru
    have hdl := hds _ (List.getElem_mem (l := dss) (n := i) (by omega))
    have hts : its.size = (dss[i]'(by omega)).length := by have := va.length; simpa using this
    refine wpAny_pure ?_
    rw [if_pos rfl]
    refine elt_tuple (s := { s with heap := h₂, toks := tk + 1 }) (fun b o e => all2 b o (X b o e)) (T.keeps all2) hh kind hx hd ht hg hb hn₂ (by simp) ga (by omega) (by omega) fun h₃ tk₃ keep => ?_
    have kp4 : ∀ b o, h₂.get? b = some o → (h₃.push (tupO false its (0, none))).get? b = some o := fun b o e => Heap.get?_push_of_some _ (keep b o e)
    have g4 : (h₃.push (tupO false its (0, none))).get? h₃.objs.size = some (tupO false its (0, none)) := Heap.get?_push_size _ rfl
    generalize h₃.push (tupO false its (0, none)) = h₄ at kp4 g4
    have k4 : Keep h₂ h₄ := Keep.of_all kp4
    have hacc4 : IsL h₄ D ys nd := kp4 _ _ hacc2
    have hys : ys.size = i := by have := hF.length; simp at this; omega
    refine append_l (s := { s with heap := h₄, toks := tk₃ }) hacc4 (by omega) fun h₅ n5 hl₅ hs₅ => ?_
    have k5 : Keep h₄ h₅ := Keep.but hs₅.extBut (ni_list (IsL.lst hacc4))
    refine ⟨items.size + 1 - (i + 1), by omega, h₅, tk₃, _, ys.push (.ref h₃.objs.size), i + 1, rfl, (hit2.at fun o e => kp4 _ o e).extBut hs₅.extBut (Ne.symm hDI), (hl2.at fun o e => kp4 _ o e).extBut hs₅.extBut haD, ⟨n5, hl₅⟩,
      (hn₂.at' fun o e => kp4 _ o e).sameBut hs₅ (Ne.symm hDC), (hv2.keep k4).keep k5, ?_, hlt, rfl, fun b o e => hs₅.extBut b o (offD b o e) (kp4 b o (all2 b o e))⟩
    rw [Array.toList_push, List.take_succ_eq_append_getElem (by simp; omega)]
    refine ((hF2.keep k4).keep k5).append (VRs.one ?_)
    rw [List.getElem_map]
    exact (vr_tup.mpr ⟨_, its, (0, none), rfl, g4, va.keep k4⟩).keep k5
end
section
variable {z : Z} {ms : MS} {env : Env} {pos : Pos} {Q : MV → MS → Prop}
theorem e_listcomp {iter : Expr} {x : Str} {px p1 p2 p3 : Pos} {scope : Scope} (he : EnvOk z env) (hfree : ∀ y ∈ scope.names, y.2 ≠ .free) (hcell : ∀ y ∈ scope.names, y.2 ≠ .cell) (hkind : scope.kind = .function)
    (hnames : ∀ y ∈ scope.names, y.2 = .local → scope.names.lookup y.1 = some .local) (hx : scope.names.lookup x = some .local) (hd : (x == ("__debug__" : Str)) = false) (ht : scope.names.lookup ("tuple" : Str) = some .globalImplicit)
    (hs : ∀ x, foldedSetIterable iter env x = pure x)
    (h : WV z (eval iter env) ms fun d ms₁ => ∃ (l : Addr) (dss : List (List MV)), d = .obj l ∧ ms₁.sto l = some (.list (dss.map (MV.tup true))) ∧ (∀ ds ∈ dss, 0 < ds.length ∧ ds.length ≤ 1000) ∧ dss.length ≤ 1000 ∧
      ∀ D, ms₁.sto D = none → Q (.obj D) ⟨ms₁.loc, upd ms₁.sto D (.list (dss.map (MV.tup false)))⟩) :
    WV z (eval (.ListComp (.Call (.Name "tuple" p1) [.Name x p2] [] p3) [⟨.Name x px, iter, [], 0⟩] scope pos) env) ms Q := by
  intro s ok sh
  refine wpAny_ListComp hfree hkind hnames (h.run (R' := VR) ok sh fun u d ms₁ s₁ ok₁ k₁ sh₁ ru q₁ => ?_) hs
  obtain ⟨ax, dss, rfl, hl, hds, hlen, q⟩ := q₁
  obtain rfl := vr_obj.mp ru
  obtain ⟨items, n, el, vr⟩ := (sh₁.sto ax _ hl).2.2.2
  have hil := IsL.lst el
  refine wpAny_pyIter_list hil (wpAny_newObj_type (hd := by size_fits) (wpAny_newFunctionEnv hcell (by intro y hy; simp at hy) (fun h₁ hns₁ hsb₁ => ?_) hkind))
  dsimp only at hns₁ hsb₁ ⊢
  obtain ⟨ol, hol, hol'⟩ := id hil
  have hax : ax < s₁.heap.objs.size := Heap.lt_size hol
  generalize hH1 : s₁.heap.push { cls := .type "list_iterator", data := .fields #[.ref ax, .int 0 0] } = H1 at hns₁ hsb₁ ⊢
  have hD : H1.objs.size = s₁.heap.objs.size + 1 := by rw [← hH1, Heap.size_push]
  generalize hH2 : H1.push { cls := .type "list", dict := none, data := .seq ([] : List Value).toArray } = H2 at hns₁ hsb₁ ⊢
  have hC : H2.objs.size = s₁.heap.objs.size + 2 := by rw [← hH2, Heap.size_push, hD]
  have hDI : H1.objs.size ≠ s₁.heap.objs.size := by rw [hD]; exact Nat.succ_ne_self _
  have hDC : H1.objs.size ≠ H2.objs.size := by rw [hD, hC]; exact Nat.ne_of_lt (Nat.lt_succ_self _)
  have hIC : s₁.heap.objs.size ≠ H2.objs.size := by rw [hC]; exact Nat.ne_of_lt (Nat.lt_succ_of_lt (Nat.lt_succ_self _))
  have below : ∀ b, b < s₁.heap.objs.size → b ≠ H2.objs.size ∧ b ≠ s₁.heap.objs.size ∧ b ≠ H1.objs.size := fun b hb =>
    ⟨by rw [hC]; exact Nat.ne_of_lt (Nat.lt_succ_of_lt (Nat.lt_succ_of_lt hb)), Nat.ne_of_lt hb, by rw [hD]; exact Nat.ne_of_lt (Nat.lt_succ_of_lt hb)⟩
  have old : ∀ b o, s₁.heap.get? b = some o → h₁.get? b = some o := fun b o e =>
    hsb₁.extBut b o (below b (Heap.lt_size e)).1 (Heap.get?_push_of_some _ (hH2 ▸ Heap.get?_push_of_some _ (hH1 ▸ Heap.get?_push_of_some _ e)))
  have hit : h₁.IsListIter s₁.heap.objs.size ax 0 :=
    ⟨_, hsb₁.extBut _ _ hIC (Heap.get?_push_of_some _ (hH2 ▸ Heap.get?_push_of_some _ (hH1 ▸ Heap.get?_push_size _ rfl))), rfl, rfl⟩
  have hacc : IsL h₁ H1.objs.size #[] 0 := hsb₁.extBut _ _ hDC (Heap.get?_push_of_some _ (hH2 ▸ Heap.get?_push_size _ rfl))
  have hl₁ : h₁.IsList ax items := ⟨ol, old _ _ hol, hol'⟩
  have new : ∀ b, s₁.heap.objs.size ≤ b → s₁.heap.get? b = none := fun b hb => by
    cases e : s₁.heap.get? b with
    | none => rfl
    | some o' => exact absurd (Heap.lt_size e) (Nat.not_lt.mpr hb)
  have loop : ∀ s₂ : Shared, s₂ = { s₁ with heap := h₁, toks := s₁.toks + ([] : List (Str × Value)).length } →
      codeAny (model P z.w) z.A (.compLoop (.ListComp (.Call (.Name "tuple" p1) [.Name x p2] [] p3) [⟨.Name x px, iter, [], 0⟩] scope pos) 0 (.ref s₁.heap.objs.size) (.ref H1.objs.size) (compEnv scope H2.objs.size env))
        (fun r s' => ∃ m, s'.heap.Ns H2.objs.size m ∧ ∀ h', Heap.SameBut H2.objs.size s'.heap h' →
          match r with | .ok _ => Post z VR s.heap Q (.ref H1.objs.size) { s' with heap := h' } | .error x => wpAny (model P z.w) z.A (passOn "comprehension.variables-let-go" x (compEnv scope H2.objs.size env)) (Post z VR s.heap Q) NoE { s' with heap := h' }) s₂ := by
    rintro s₂ rfl
    refine lc_loop (cenv := compEnv scope H2.objs.size env) (h0 := s₁.heap) (dss := dss) (items := items) sh₁.keepIn sh₁.top z.hd hkind hx hd ht he.globals he.builtins (by simp [compEnv, hkind]) hDI hDC hIC (below ax hax).2.1 (below ax hax).1 (below ax hax).2.2
      (new _ (Nat.le_refl _)) (new _ (by show _ ≤ H2.objs.size; omega)) (new _ (by omega)) hit hl₁ hacc hns₁ (vr.keep (Keep.of_all old)) hds hlen old fun h' tk ys hys hv hk hm => ?_
    obtain ⟨m', hn⟩ := hm
    refine ⟨m', hn, fun h'' hs'' => ?_⟩
    have k'' : Keep h' h'' := Keep.but hs''.extBut (ni_ns hn)
    have all'' : ∀ b o, s₁.heap.get? b = some o → h''.get? b = some o := fun b o e => hs''.extBut b o (below b (Heap.lt_size e)).1 (hk b o e)
    obtain ⟨nd, hD'⟩ := hys
    have hD2 : IsL h'' H1.objs.size ys nd := hs''.extBut _ _ hDC hD'
    obtain ⟨sh2, k2, N⟩ := sh₁.newAt (D := H1.objs.size) (mo := .list (dss.map (MV.tup false))) all'' (by omega) ⟨_, _, hD2, hv.keep k''⟩
    exact post_at (s := { s₁ with heap := h'', toks := tk }) (d := .obj H1.objs.size) ok₁ (k₁.trans k2) sh2 (vr_obj.mpr rfl) (q _ N)
  exact codeAny_compStart_list (loop _ rfl) (wpAny_pyIter_listiter hit (loop _ rfl))
end
end Mine
end

/-! LawW -/
section
open PySem PySem.W PyProof.Rows
set_option Elab.async false
set_option maxRecDepth 100000
set_option maxHeartbeats 1000000
set_option linter.unusedVariables false
namespace Mine

noncomputable def lFor : Stmt := ((bodyOf (cell 18))[7]?).getD (.Pass ⟨0,0,0,0⟩)
theorem tm_list (xss : List (List Int)) (m : Bool) : (xss.map fun xs => xs.map MV.int).map (MV.tup m) = xss.map (tm m) := by rw [List.map_map]; rfl
section
variable {z : Z} {ms : MS} {env : Env} {pos : Pos} {Q : MV → MS → Prop}
theorem c_tuple_m {ds : List MV} (h0 : 0 < ds.length) (h1 : ds.length ≤ 1000) (q : Q (.tup false ds) ms) : CallV z (.type "tuple") [.tup true ds] ms Q := by
  intro us s ok sh rs
  obtain ⟨u1, r1, rfl, v1, rs⟩ := vrs_cons.mp rs
  obtain rfl := vrs_nil.mp rs
  obtain ⟨a, items, n, rfl, e, va⟩ := vr_tup.mp v1
  have hz : items.size = ds.length := by have := va.length; simpa using this
  refine tuple_match sh.keepIn z.hd e (by omega) (by omega) fun h' tk keep => ?_
  have kp : ∀ b o, s.heap.get? b = some o → (h'.push (tupO false items (0, none))).get? b = some o := fun b o e => Heap.get?_push_of_some _ (keep b o e)
  exact post_at (d := .tup false ds) (s := { s with heap := h'.push (tupO false items (0, none)), toks := tk }) ok (Keep.of_all kp) (sh.grow (Keep.of_all kp) kp) (vr_tup.mpr ⟨_, items, (0, none), rfl, Heap.get?_push_size _ rfl, va.keep (Keep.of_all kp)⟩) q
theorem e_slice_old {value hi : Expr} {p : Pos} {l : Addr} {o : Obj} {vs : List Value} {ns : List Int} {n : Nat} (hF : z.F l = some o) (hc : o.cls = .type "list") (hdt : o.data = .seq vs.toArray n) (hI : IntsAre vs ns) (hz : ns.length ≤ 1000) (ht : ∀ o r, letTemporaryGo value o r = pure ())
    (h : WV z (eval value env) ms fun d ms₁ => WV z (eval hi env) ms₁ fun b ms₂ => ∃ (k : Nat), d = .obj l ∧ b = .int k ∧
      ∀ y, ms₂.sto y = none → Q (.obj y) ⟨ms₂.loc, upd ms₂.sto y (il (ns.take k))⟩) : WV z (eval (.Subscript value (.Slice none (some hi) none p) pos) env) ms Q := by
  intro s ok sh
  refine wpAny_Subscript_list_slice ?_ ht
  refine h.run (R' := VR) ok sh fun u d ms₁ s₁ ok₁ k₁ sh₁ ru q₁ => ?_
  refine wpAny_pure ?_
  refine q₁.run (R' := VR) ok₁ sh₁ fun v b ms₂ s₂ ok₂ k₂ sh₂ rv q₂ => ?_
  obtain ⟨k, rfl, rfl, q⟩ := q₂
  obtain rfl := vr_obj.mp ru
  obtain ⟨t, rfl⟩ := vr_int.mp rv
  have vr : VRs s₂.heap (ns.map MV.int) vs.toArray.toList := by simpa using vrs_ints.mpr hI
  have hsz : vs.toArray.size ≤ sizeLine := by rw [arr_len vr]; simp [sizeLine]; omega
  refine ⟨l, vs.toArray, none, some (k : Int), rfl, ⟨o, sh₂.fr _ _ hF, hc, n, hdt⟩, hsz, .none, .int _ _, ?_⟩
  have shp := sh₂.push { cls := .type "slice", data := .fields #[.none, .int k t, .none] }
  have kp := Keep.push s₂.heap { cls := .type "slice", data := .fields #[.none, .int k t, .none] }
  have sz : (s₂.heap.push { cls := .type "slice", data := .fields #[.none, .int k t, .none] }).objs.size = s₂.heap.objs.size + 1 := Heap.size_push ..
  have vp : VRs s₂.heap ((ns.map MV.int).take k) (slicePick vs.toArray none (some (k : Int)) none).toList := by rw [slicePick_upto']; simpa using vr.take k
  have sha := shp.alloc (o := { cls := .type "list", data := .seq (slicePick vs.toArray none (some (k : Int)) none) }) (mo := .list ((ns.map MV.int).take k)) ⟨_, 0, Heap.get?_push_size _ rfl, (vp.keep kp).keep (Keep.push _ _)⟩
  have N := shp.new_none.2.1
  rw [sz] at sha N
  have q := q _ N
  unfold il at q
  rw [List.map_take] at q
  exact post_at (d := .obj (s₂.heap.objs.size + 1)) ok₂ (((k₁.trans k₂).trans kp).trans (Keep.push _ _)) sha (vr_obj.mpr rfl) q
end
section
variable {z : Z} {a b : List Int}
/-- the last loop of law -/
theorem law_loop {L e x al bl : Addr} {all : List (List Int)} {mb : MV} (he : EnvOk z (E321 L)) (hr : Rm z 12) (na : a.length ≤ 100) (nb : b.length ≤ 100) :
    ∀ (rest : List I3) (alo blo : Nat) (ms : MS) (Q : MF → MS → Prop), Mat ms.sto x al bl a b mb → ms.sto e = some (tl all) → alo ≤ a.length → blo ≤ b.length → Leaf a b a.length b.length alo blo rest →
      ms.loc "matcher" = some (.obj x) → ms.loc "alo" = some (.int alo) → ms.loc "blo" = some (.int blo) → (∀ ms', Q .next ms') →
      ForN z (E321 L) (forTest lFor) (forBody lFor) (fun ms => ms.sto e = some (tl all)) (((rest ++ [((a.length : Int), (b.length : Int), 0)]).map t3).map ti) ms Q := by
  have turn : ∀ (i j k alo blo : Nat) (more : List MV) (ms : MS) (Q : MF → MS → Prop), Mat ms.sto x al bl a b mb → ms.sto e = some (tl all) → alo ≤ i → i ≤ a.length → blo ≤ j → j ≤ b.length → (∀ t, ¬ InG a b alo i blo j t) →
      ms.loc "matcher" = some (.obj x) → ms.loc "alo" = some (.int alo) → ms.loc "blo" = some (.int blo) →
      (∀ ms' : MS, Mat ms'.sto x al bl a b mb → ms'.sto e = some (tl all) → ms'.loc "matcher" = some (.obj x) → ms'.loc "alo" = some (.int ((i + k : Nat) : Int)) → ms'.loc "blo" = some (.int ((j + k : Nat) : Int)) →
        ForN z (E321 L) (forTest lFor) (forBody lFor) (fun ms => ms.sto e = some (tl all)) more ms' Q) →
      ForN z (E321 L) (forTest lFor) (forBody lFor) (fun ms => ms.sto e = some (tl all)) (ti [(i : Int), (j : Int), (k : Int)] :: more) ms Q := by
    intro i j k alo blo more ms Q M hl p1 p2 p3 p4 no l1 l2 l3 next
    refine ⟨hl, fun F' => ?_⟩
    have he0 := he
    have he := he.fr F'
    have hr' : Rm (z.fr F') 12 := hr
    have hu : (z.fr F').A.units < cLine := Nat.lt_of_le_of_lt (by have := hr'.2; omega : (z.fr F').A.units ≤ 1005) (by decide)
    obtain ⟨dx, d, jj, p, hx, hdx, hj, hd⟩ := M.ex
    refine st_tuple (by rfl) (by rfl) ?_
    refine st_name he (by rfl) ?_
    refine st_name he (by rfl) ?_
    refine st_name he (by rfl) ?_
    refine s_cons ?_
    refine s_if ?_
    refine test_cmp (by rfl) ?_
    refine e_call (f := .type "tuple") (name_b he (by rfl) (by rfl) (by kernel_rfl) (by kernel_rfl) (by decide) ⟨rfl, rfl⟩) (plain_type _) (by rfl) (by rfl) ?_
    refine args_cons (by rfl) ?_
    refine e_imethN (by rfl) (by rfl) (by rfl) m_find (by rfl) (by rfl) ?_
    refine name_l he (by rfl) (by rfl) (l1) ?_
    refine ⟨x, dx, _, rfl, ⟨hx, hdx⟩, by rfl, ?_⟩
    refine args_cons (by rfl) ?_
    refine name_l he (by rfl) (by rfl) (l2) ?_
    refine args_cons (by rfl) ?_
    refine name_l he (by rfl) (by rfl) (rfl) ?_
    refine args_cons (by rfl) ?_
    refine name_l he (by rfl) (by rfl) (l3) ?_
    refine args_cons (by rfl) ?_
    refine name_l he (by rfl) (by rfl) (rfl) ?_
    refine args_nil ?_
    refine flm_ok (hr'.less (by omega)) M na nb p1 p2 p3 p4 fun sto ext => ?_
    rw [leaf_spec p1 p2 p4 no]
    refine args_nil ?_
    refine c_tuple_m (by simp) (by simp) ?_
    refine e_tuple ?_
    refine args_cons (by rfl) ?_
    refine name_l he (by rfl) (by rfl) (l2) ?_
    refine args_cons (by rfl) ?_
    refine name_l he (by rfl) (by rfl) (l3) ?_
    refine args_cons (by rfl) ?_
    refine const_int ?_
    refine args_nil ?_
    refine ⟨by simp [sizeLine], ?_⟩
    refine op_ne_ti (xs := [(alo : Int), (blo : Int), 0]) (ys := [(alo : Int), (blo : Int), 0]) hu ?_
    refine tr_bool ?_
    refine (if_neg (by simp)).mpr (s_nil ?_)
    refine s_cons ?_
    refine s_swap (names := ["alo", "blo"]) (by rfl) (by rfl) ?_
    refine e_tuple ?_
    refine args_cons (by rfl) ?_
    refine binop ?_
    refine name_l he (by rfl) (by rfl) (rfl) ?_
    refine name_l he (by rfl) (by rfl) (rfl) ?_
    refine op_add ?_
    refine args_cons (by rfl) ?_
    refine binop ?_
    refine name_l he (by rfl) (by rfl) (rfl) ?_
    refine name_l he (by rfl) (by rfl) (rfl) ?_
    refine op_add ?_
    refine args_nil ?_
    refine ⟨by simp [sizeLine], _, rfl, rfl, ?_⟩
    refine st_bind he (by rfl) ?_
    refine st_bind he (by rfl) ?_
    refine s_nil ?_
    exact next _ (M.ext ext) (ext _ _ hl) l1 (by rfl) (by rfl)
  intro rest
  induction rest with
  | nil =>
    intro alo blo ms Q M hl o1 o2 lf l1 l2 l3 q
    refine turn a.length b.length 0 alo blo [] ms Q M hl o1 (Nat.le_refl _) o2 (Nat.le_refl _) lf l1 l2 l3 fun ms' M' hl' _ _ _ => ?_
    exact ⟨hl', q ms'⟩
  | cons c rest ih =>
    intro alo blo ms Q M hl o1 o2 lf l1 l2 l3 q
    obtain ⟨i, j, k, rfl, p1, p2, p3, p4, no, lf'⟩ := lf
    refine turn i j k alo blo _ ms Q M hl p1 (by omega) p2 (by omega) no l1 l2 l3 fun ms' M' hl' m1 m2 m3 => ?_
    exact ih (i + k) (j + k) ms' Q M' hl' p3 p4 lf' m1 m2 m3 q
end
end Mine
end

/-! LawV -/
section
open PySem PySem.W PyProof.Rows
set_option Elab.async false
set_option maxRecDepth 100000
set_option maxHeartbeats 1000000
set_option linter.unusedVariables false
namespace Mine

section
variable {z : Z}
theorem law_body {L l : Addr} {o : Obj} {vs : List Value} {ns : List Int} {n : Nat} {loc : Str → Option MV} (he : EnvOk z (E321 L)) (hr : Rm z 40) (hF : z.F l = some o) (hc : o.cls = .type "list") (hdt : o.data = .seq vs.toArray n) (hI : IntsAre vs ns) (hz : ns.length ≤ 63) :
    WS z (execs (bodyOf (cell 18)) (E321 L)) ⟨fun x => ([("script", .obj l)] : List (Str × MV)).reverse.lookup x, fun _ => none⟩ (RetQ loc fun d _ => d = .bool true) := by
  have hu : z.A.units + 5 < cLine := Nat.lt_of_le_of_lt (by have := hr.2; omega : z.A.units + 5 ≤ 1005) (by decide)
  refine s_cons ?_
  refine s_assign (by rfl) (by rfl) (by rfl) ?_
  refine e_call (f := .ref 288) (name_g he (by rfl) (by rfl) (by kernel_rfl) ⟨rfl, rfl⟩) (plain_K (by kernel_rfl)) (by rfl) (by rfl) ?_
  refine args_cons (by rfl) ?_
  refine binop ?_
  refine e_list ?_
  refine args_cons (by rfl) ?_
  refine const_int ?_
  refine args_cons (by rfl) ?_
  refine const_int ?_
  refine args_cons (by rfl) ?_
  refine const_int ?_
  refine args_cons (by rfl) ?_
  refine const_int ?_
  refine args_nil ?_
  refine ⟨by simp [sizeLine], fun l1 n1 => ?_⟩
  refine e_slice_old hF hc hdt hI (by omega) (by intro _ _; rfl) ?_
  refine name_l he (by rfl) (by rfl) (rfl) ?_
  refine const_int ?_
  refine ⟨14, rfl, rfl, fun l2 n2 => ?_⟩
  have n2 : upd (fun _ => none) l1 (MO.list [.int 1, .int 4, .int 8, .int 2]) l2 = none := n2
  refine op_add_list (xs := [.int 1, .int 4, .int 8, .int 2]) (ys := (ns.take 14).map MV.int) (upd_old (upd_self _ _ _) n2) (upd_self _ _ _) (by simp; omega) fun l3 n3 => ?_
  refine args_nil ?_
  have e3 : ∀ s : Addr → Option MO, upd s l3 (.list ([.int 1, .int 4, .int 8, .int 2] ++ (ns.take 14).map MV.int)) l3 = some (il (1 :: 4 :: 8 :: 2 :: ns.take 14)) := fun s => upd_self _ _ _
  have hts : (ns.take 14).length ≤ 14 := List.length_take_le _ _
  obtain ⟨len1, len2, hne⟩ := law_lists (ns.take 14)
  refine lists_ok (ns := 1 :: 4 :: 8 :: 2 :: ns.take 14) (hr.less (by omega)) (e3 _) (by simp; omega) fun sto al bl ex an bn hab ha hb => ?_
  generalize oneOf (1 :: 4 :: 8 :: 2 :: ns.take 14) = a at len1 hne ha
  generalize twoOf (1 :: 4 :: 8 :: 2 :: ns.take 14) = b at len2 hne hb
  have la : a.length ≤ 18 := by omega
  have lb : b.length ≤ 18 := by omega
  clear ex an bn n1 n2 n3 e3
  refine st_tuple (by rfl) (by rfl) ?_
  refine st_name he (by rfl) ?_
  refine st_name he (by rfl) ?_
  refine s_cons ?_
  refine s_swap (names := ["matcher", "due"]) (by rfl) (by rfl) ?_
  refine e_tuple ?_
  refine args_cons (by rfl) ?_
  refine e_call (f := .ref 242) (name_g he (by rfl) (by rfl) (by kernel_rfl) ⟨rfl, rfl⟩) (plain_K (by kernel_rfl)) (by rfl) (by rfl) ?_
  refine args_cons (by rfl) ?_
  refine const_none ?_
  refine args_cons (by rfl) ?_
  refine name_l he (by rfl) (by rfl) (rfl) ?_
  refine args_cons (by rfl) ?_
  refine name_l he (by rfl) (by rfl) (rfl) ?_
  refine args_nil ?_
  refine make_ok (hr.less (by omega)) ha hb (by omega) fun sto1 x ex1 xn M => ?_
  have ha1 := ex1 _ _ ha
  have hb1 := ex1 _ _ hb
  refine args_cons (by rfl) ?_
  refine e_call (f := .ref 302) (name_g he (by rfl) (by rfl) (by kernel_rfl) ⟨rfl, rfl⟩) (plain_K (by kernel_rfl)) (by rfl) (by rfl) ?_
  refine args_cons (by rfl) ?_
  refine name_l he (by rfl) (by rfl) (rfl) ?_
  refine args_cons (by rfl) ?_
  refine name_l he (by rfl) (by rfl) (rfl) ?_
  refine args_nil ?_
  have hrl := runs3_len a b
  have hml : a.length * b.length ≤ 18 * 18 := Nat.mul_le_mul la lb
  refine due_ok (hr.less (by omega)) ha1 hb1 (by omega) (by omega) (by omega) fun sto2 dl ex2 dn hd => ?_
  have M2 := M.ext ex2
  clear M ex1 ha1 hb1
  refine args_nil ?_
  refine ⟨by simp [sizeLine], _, rfl, rfl, ?_⟩
  refine st_bind he (by rfl) ?_
  refine st_bind he (by rfl) ?_
  refine s_cons ?_
  refine s_if ?_
  refine test_cmp (by rfl) ?_
  refine e_call (f := .ref 316) (name_g he (by rfl) (by rfl) (by kernel_rfl) ⟨rfl, rfl⟩) (plain_K (by kernel_rfl)) (by rfl) (by rfl) ?_
  refine args_cons (by rfl) ?_
  refine name_l he (by rfl) (by rfl) (rfl) ?_
  refine args_cons (by rfl) ?_
  refine name_l he (by rfl) (by rfl) (rfl) ?_
  refine args_cons (by rfl) ?_
  refine name_l he (by rfl) (by rfl) (rfl) ?_
  refine args_nil ?_
  refine told_ok (hr.less (by omega)) M2 (by omega) (by omega) fun sto3 tl3 ex3 tn ht hperm => ?_
  have M3 := M2.ext ex3
  have hd3 := ex3 _ _ hd
  clear M2 hd ex2
  refine name_l he (by rfl) (by rfl) (rfl) ?_
  refine op_ne_lists (xss := (due3 a b).map t3) (yss := (due3 a b).map t3) (by omega) ht hd3 ?_
  refine tr_bool ?_
  refine (if_neg (by simp)).mpr (s_nil ?_)
  clear ht tn
  obtain ⟨dx, d, jj, p, hx, hdx, hj, hdd⟩ := M3.ex
  obtain ⟨rest, hdue⟩ := due_first hne
  refine s_cons ?_
  refine s_if ?_
  refine test_cmp (by rfl) ?_
  refine e_call (f := .type "tuple") (name_b he (by rfl) (by rfl) (by kernel_rfl) (by kernel_rfl) (by decide) ⟨rfl, rfl⟩) (plain_type _) (by rfl) (by rfl) ?_
  refine args_cons (by rfl) ?_
  refine e_imeth0 (by rfl) (by rfl) m_find ?_
  refine name_l he (by rfl) (by rfl) (rfl) ?_
  refine ⟨x, dx, _, rfl, ⟨hx, hdx⟩, by rfl, ?_⟩
  refine flm0_ok (hr.less (by omega)) M3 (by omega) (by omega) fun sto4 ex4 => ?_
  have M4 := M3.ext ex4
  have hd4 := ex4 _ _ hd3
  clear hx hdx hj hdd hd3 ex4 ex3
  refine args_nil ?_
  refine c_tuple_m (by simp) (by simp) ?_
  refine e_sub ?_
  refine name_l he (by rfl) (by rfl) (rfl) ?_
  refine const_int ?_
  refine sub_list (d := ti (t3 (flmI a b 0 a.length 0 b.length))) (vs := ((due3 a b).map t3).map ti) hd4 (by omega) (by omega) (by rw [hdue]; rfl) ⟨fun _ _ _ => rfl, fun _ _ => rfl⟩ ?_
  refine op_ne_ti (xs := t3 (flmI a b 0 a.length 0 b.length)) (ys := t3 (flmI a b 0 a.length 0 b.length)) (by omega) ?_
  refine tr_bool ?_
  refine (if_neg (by simp)).mpr (s_nil ?_)
  have hbl : (blocks a b).length ≤ a.length := blocks_len
  have hdl : ((due3 a b).map t3).length = (blocks a b).length := by rw [List.length_map]; exact hperm.length_eq
  refine s_cons ?_
  refine s_assign (by rfl) (by rfl) (by rfl) ?_
  refine binop ?_
  refine e_call (f := .builtin "sorted") (name_b he (by rfl) (by rfl) (by kernel_rfl) (by kernel_rfl) (by decide) ⟨rfl, rfl⟩) (plain_builtin _) (by rfl) (by rfl) ?_
  refine args_cons (by rfl) ?_
  refine name_l he (by rfl) (by rfl) (rfl) ?_
  refine args_nil ?_
  refine c_sorted (m := false) (xss := (due3 a b).map t3) (ys := (blocks a b).map t3) hu hd4 (fun y hy => by obtain ⟨t, _, rfl⟩ := List.mem_map.mp hy; rfl) (by omega) (hperm.map t3).symm blocks_sorted fun D1 hD1 => ?_
  have hD1 : sto4 D1 = none := hD1
  have M5 : Mat (upd sto4 D1 (.list (((blocks a b).map t3).map (tm false)))) x al bl a b .none := M4.ext (Ext.refl _ |>.upd hD1)
  have hs1 : upd sto4 D1 (.list (((blocks a b).map t3).map (tm false))) D1 = some (MO.list (((blocks a b).map t3).map (tm false))) := upd_self _ _ _
  generalize upd sto4 D1 (.list (((blocks a b).map t3).map (tm false))) = sto5 at M5 hs1
  clear M4 hd4 hD1
  refine e_list ?_
  refine args_cons (by rfl) ?_
  refine e_tuple ?_
  refine args_cons (by rfl) ?_
  refine e_call (f := .builtin "len") (name_b he (by rfl) (by rfl) (by kernel_rfl) (by kernel_rfl) (by decide) ⟨rfl, rfl⟩) (plain_builtin _) (by rfl) (by rfl) ?_
  refine args_cons (by rfl) ?_
  refine name_l he (by rfl) (by rfl) (rfl) ?_
  refine args_nil ?_
  refine c_len M5.ha (by simp; omega) ?_
  refine args_cons (by rfl) ?_
  refine e_call (f := .builtin "len") (name_b he (by rfl) (by rfl) (by kernel_rfl) (by kernel_rfl) (by decide) ⟨rfl, rfl⟩) (plain_builtin _) (by rfl) (by rfl) ?_
  refine args_cons (by rfl) ?_
  refine name_l he (by rfl) (by rfl) (rfl) ?_
  refine args_nil ?_
  refine c_len M5.hb (by simp; omega) ?_
  refine args_cons (by rfl) ?_
  refine const_int ?_
  refine args_nil ?_
  rw [show (a.map MV.int).length = a.length by simp, show (b.map MV.int).length = b.length by simp]
  refine ⟨by simp [sizeLine], ?_⟩
  refine args_nil ?_
  refine ⟨by simp [sizeLine], fun l4 n4 => ?_⟩
  have n4 : sto5 l4 = none := n4
  refine op_add_list (xs := ((blocks a b).map t3).map (tm false)) (ys := [.tup false [.int (a.length : Int), .int (b.length : Int), .int 0]]) (upd_old hs1 n4) (upd_self _ _ _) (by simp; omega) fun e n5 => ?_
  have n5 : upd sto5 l4 (.list [.tup false [.int (a.length : Int), .int (b.length : Int), .int 0]]) e = none := n5
  have M6 := (M5.ext ((Ext.refl sto5).upd n4)).ext ((Ext.refl _).upd (mo := .list (((blocks a b).map t3).map (tm false) ++ [.tup false [.int (a.length : Int), .int (b.length : Int), .int 0]])) n5)
  have he6 : upd (upd sto5 l4 (.list [.tup false [.int (a.length : Int), .int (b.length : Int), .int 0]])) e (.list (((blocks a b).map t3).map (tm false) ++ [.tup false [.int (a.length : Int), .int (b.length : Int), .int 0]])) e = some (tl ((blocks a b ++ [((a.length : Int), (b.length : Int), 0)]).map t3)) := by
    rw [upd_self, List.map_append]
    unfold tl
    rw [List.map_append]
    rfl
  generalize upd (upd sto5 l4 (.list [.tup false [.int (a.length : Int), .int (b.length : Int), .int 0]])) e (.list (((blocks a b).map t3).map (tm false) ++ [.tup false [.int (a.length : Int), .int (b.length : Int), .int 0]])) = sto6 at M6 he6
  clear M5 hs1 n4 n5
  refine st_name he (by rfl) ?_
  refine s_cons ?_
  refine s_if ?_
  refine test_cmp (by rfl) ?_
  refine e_listcomp he (by decide +kernel) (by decide +kernel) (by rfl) (by decide +kernel) (by rfl) (by rfl) (by rfl) (by intro _; rfl) ?_
  obtain ⟨dx, d, jj, p, hx, hdx, hj, hdd⟩ := M6.ex
  refine e_imeth0 (by rfl) (by rfl) m_blocks ?_
  refine name_l he (by rfl) (by rfl) (rfl) ?_
  refine ⟨x, dx, _, rfl, ⟨hx, hdx⟩, by rfl, ?_⟩
  refine gmb_ok (hr.less (by omega)) M6 (by omega) (by omega) fun sto7 D2 keep hD2 hs7 M7 => ?_
  have he7 : sto7 e = some (tl ((blocks a b ++ [((a.length : Int), (b.length : Int), 0)]).map t3)) := keep _ _ he6 nofun
  clear hx hdx hj hdd M6 he6 keep hD2
  refine ⟨D2, ((blocks a b ++ [((a.length : Int), (b.length : Int), 0)]).map t3).map fun xs : List Int => xs.map MV.int, rfl, by rw [tm_list]; exact hs7, ?_, by simp; omega, fun D3 hD3 => ?_⟩
  · intro ds hds
    obtain ⟨xs, hxs, rfl⟩ := List.mem_map.mp hds
    obtain ⟨t, _, rfl⟩ := List.mem_map.mp hxs
    exact ⟨Nat.zero_lt_succ _, by simp [t3]⟩
  have hD3 : sto7 D3 = none := hD3
  rw [tm_list]
  have M8 : Mat (upd sto7 D3 (.list (((blocks a b ++ [((a.length : Int), (b.length : Int), 0)]).map t3).map (tm false)))) x al bl a b (.obj D2) := M7.ext ((Ext.refl _).upd hD3)
  have he8 : upd sto7 D3 (.list (((blocks a b ++ [((a.length : Int), (b.length : Int), 0)]).map t3).map (tm false))) e = some (tl ((blocks a b ++ [((a.length : Int), (b.length : Int), 0)]).map t3)) := upd_old he7 hD3
  have hs8 : upd sto7 D3 (.list (((blocks a b ++ [((a.length : Int), (b.length : Int), 0)]).map t3).map (tm false))) D3 = some (tl ((blocks a b ++ [((a.length : Int), (b.length : Int), 0)]).map t3)) := upd_self _ _ _
  generalize upd sto7 D3 (.list (((blocks a b ++ [((a.length : Int), (b.length : Int), 0)]).map t3).map (tm false))) = sto8 at M8 he8 hs8
  refine name_l he (by rfl) (by rfl) (rfl) ?_
  refine op_ne_lists (by omega) hs8 he8 ?_
  refine tr_bool ?_
  refine (if_neg (by simp)).mpr (s_nil ?_)
  refine s_cons ?_
  refine s_assign (by rfl) (by rfl) (by rfl) ?_
  refine e_tuple ?_
  refine args_cons (by rfl) ?_
  refine const_int ?_
  refine args_cons (by rfl) ?_
  refine const_int ?_
  refine args_nil ?_
  refine ⟨by simp [sizeLine], ?_⟩
  refine st_tuple (by rfl) (by rfl) ?_
  refine st_name he (by rfl) ?_
  refine st_name he (by rfl) ?_
  refine s_cons ?_
  refine s_for_list (.tup _ _ _) (by intro _; rfl) ?_
  refine name_l he (by rfl) (by rfl) (rfl) ?_
  refine ⟨e, _, rfl, he8, ?_⟩
  refine law_loop (mb := .obj D2) he (hr.less (by omega)) (by omega) (by omega) (blocks a b) 0 0 _ _ M8 he8 (Nat.zero_le _) (Nat.zero_le _) blocks_leaf (by rfl) (by rfl) (by rfl) fun ms' => ?_
  refine s_cons ?_
  refine s_return ?_
  refine const_bool ?_
  exact rfl
end
end Mine
end

/-! LawM -/
section
open PySem PySem.W PyProof.Rows
set_option Elab.async false
set_option maxRecDepth 100000
set_option maxHeartbeats 1000000
set_option linter.unusedVariables false
namespace Mine

theorem rm_caller {env : Env} : (callerA.deeper env).depth + 40 ≤ 400 ∧ (callerA.deeper env).units + 3 * 40 ≤ 1000 :=
  ⟨Nat.le_of_ble_eq_true (show Nat.ble (1 + claimMargin + 1 + 40) 400 = true by decide +kernel), Nat.le_of_ble_eq_true (show Nat.ble (4 + 3 + 3 * 40) 1000 = true by decide)⟩
theorem law_main : LawMain := by
  intro w s₁ mg mb X hg T S l vs ns hl hI hn
  obtain ⟨o, ho, hc, n, hdt⟩ := hl
  have ho321 := X 321 _ (show (K w.params).lookup 321 = some (fnO (cell 18) "law" (.none) (.none) (.str "law_kl0397_01" 631) none 320) by kernel_rfl)
  refine wpAny_call (codeAny_call_def (fd := F321) (body := bodyOf (cell 18)) (binds := [("script", .ref l)]) (show callerA.depth < 1000 by decide +kernel) ho321 (by rfl) T.nolimit (codeRec_of X (by kernel_rfl)) (by rfl) (BindsTo.of_eq (by kernel_rfl)) ?_ ?_ ?_ (by rfl) (by rfl) (by rfl))
  · intro x hx
    have := List.all_eq_true.mp (show ((scopeOf (cell 18)).names.all fun x => x.2 != .cell) = true by kernel_rfl) x hx
    simpa using this
  · intro x hx
    rw [List.mem_singleton] at hx
    subst hx
    exact (show (scopeOf (cell 18)).names.lookup ("script" : Str) = some .local by kernel_rfl)
  · intro h₀ hns all
    have new : s₁.heap.get? s₁.heap.objs.size = none := by
      cases e : s₁.heap.get? s₁.heap.objs.size with
      | none => rfl
      | some o' => exact absurd (Heap.lt_size e) (Nat.lt_irrefl _)
    have fs : callerA.frames = some [] := rfl
    let z : Z := { w := w, s₁ := s₁, mg := mg, mb := mb, X := X, T := T, A := callerA.deeper (E321 s₁.heap.objs.size), hd := rfl, S := S, fs := ⟨_, Around.frames_deeper fs⟩, F := s₁.heap.get?, L := s₁.heap.objs.size }
    have he : EnvOk z (E321 s₁.heap.objs.size) := ⟨by rfl, rfl, by rfl, by rfl, by rfl, by rfl, _, Around.frames_deeper fs⟩
    have sh : SH z ⟨fun x => ([("script", .obj l)] : List (Str × MV)).reverse.lookup x, fun _ => none⟩ h₀ := by
      refine ⟨fun _ _ e => e, all, ⟨_, hns, fun y d e => ?_⟩, new, fun a mo e => by cases e⟩
      simp only [List.reverse_singleton, List.lookup_cons] at e ⊢
      cases q : (y == ("script" : Str)) with
      | true => rw [q] at e; cases e; exact ⟨_, rfl, vr_obj.mpr rfl⟩
      | false => rw [q] at e; cases e
    refine wpAny_mono (law_body (z := z) (loc := fun _ => none) he rm_caller ho hc hdt hI hn { s₁ with heap := h₀, toks := s₁.toks + 1 } ⟨hg, rfl⟩ sh) (fun f s' p => ?_) fun _ _ x => x.elim
    obtain ⟨ok', k', d, ms', sh', rf, q⟩ := p
    have key : (match f with | .ret v => v | _ => Value.none) = .bool true := by
      cases d with
      | next => cases q
      | brk => cases q
      | cont => cases q
      | ret d =>
        obtain ⟨u, rfl, r⟩ := rf
        have q : d = .bool true := q
        subst q
        exact vr_bool.mp r
    exact ⟨key, sh'.all, ok'.2, ok'.1⟩
end Mine
end

theorem PySem.Challenge.cw_kl0397_01_holds : PySem.Challenge.rw_kl0397_01.Holds := by
  exact Mine.of_main Mine.law_main
