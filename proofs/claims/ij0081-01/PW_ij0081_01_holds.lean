import PyProof.Rows.All
import Wide.All
import OpenK.AllK
import Wide.FinOn
import PySem.Challenge.RW_ij0081_01
set_option Elab.async false
set_option linter.unusedVariables false
set_option maxRecDepth 100000
open PySem PySem.Calls PyProof.Rows PySem.W
namespace Fm
section
/-- the parts of the def at a place of the row's text -/
noncomputable def fnP (i : Nat) : Arguments := match PySem.Challenge.pw_ij0081_01.main.body[i]? with
  | some (.FunctionDef _ a _ _ _ _ _ _ _ _) => a
  | _ => default
noncomputable def fnB (i : Nat) : List Stmt := match PySem.Challenge.pw_ij0081_01.main.body[i]? with
  | some (.FunctionDef _ _ b _ _ _ _ _ _ _) => b
  | _ => []
noncomputable def fnS (i : Nat) : Scope := match PySem.Challenge.pw_ij0081_01.main.body[i]? with
  | some (.FunctionDef _ _ _ _ _ _ s _ _ _) => s
  | _ => default
noncomputable def fnPos (i : Nat) : Pos := match PySem.Challenge.pw_ij0081_01.main.body[i]? with
  | some (.FunctionDef _ _ _ _ _ _ _ _ _ p) => p
  | _ => default
noncomputable def fnO (i : Nat) (nm m : Str) (t : Tok) (c : Addr) : Obj := { cls := .type "function", data := .func (docDef nm (fnP i) (fnB i) (fnS i) (.str m t) (.ref c) .none) }
/-- what stands at the addresses that the walk asks for, when the text has been run -/
noncomputable def heapF (P : Params) : Frag := [
  (3, { cls := .type "dict", data := .dict #[⟨PyData.keyHash P "__name__", .str "__name__" 165, .str "law_ij0081_01" 566⟩, ⟨PyData.keyHash P "__doc__", .str "__doc__" 166, .none⟩, ⟨PyData.keyHash P "__package__", .str "__package__" 167, .none⟩, ⟨PyData.keyHash P "__loader__", .str "__loader__" 168, .builtin "__main__.__loader__#opaque"⟩, ⟨PyData.keyHash P "__spec__", .str "__spec__" 169, .none⟩, ⟨PyData.keyHash P "__annotations__", .str "__annotations__" 170, .ref 6⟩, ⟨PyData.keyHash P "__builtins__", .str "__builtins__" 171, .ref 4⟩, ⟨PyData.keyHash P "__file__", .str "__file__" 173, .str "/claim/cut.py" 172⟩, ⟨PyData.keyHash P "__cached__", .str "__cached__" 174, .none⟩, ⟨PyData.keyHash P "_sre", .str "_sre" 275, .ref 12⟩, ⟨PyData.keyHash P "_twin_re_1", .str "_twin_re_1" 319, .ref 36⟩, ⟨PyData.keyHash P "_special_chars_map", .str "_special_chars_map" 467, .ref 38⟩, ⟨PyData.keyHash P "escape", .str "escape" 474, .ref 48⟩, ⟨PyData.keyHash P "_translate", .str "_translate" 495, .ref 55⟩, ⟨PyData.keyHash P "add", .str "add" 505, .ref 62⟩, ⟨PyData.keyHash P "and_", .str "and_" 513, .ref 69⟩, ⟨PyData.keyHash P "lshift", .str "lshift" 521, .ref 76⟩, ⟨PyData.keyHash P "mul", .str "mul" 529, .ref 83⟩, ⟨PyData.keyHash P "or_", .str "or_" 537, .ref 90⟩, ⟨PyData.keyHash P "rshift", .str "rshift" 545, .ref 97⟩, ⟨PyData.keyHash P "countOf", .str "countOf" 555, .ref 104⟩, ⟨PyData.keyHash P "indexOf", .str "indexOf" 565, .ref 111⟩, ⟨PyData.keyHash P "_law_pieces", .str "_law_pieces" 573, .ref 118⟩, ⟨PyData.keyHash P "_law_takes", .str "_law_takes" 583, .ref 125⟩, ⟨PyData.keyHash P "_law_masks", .str "_law_masks" 589, .ref 130⟩, ⟨PyData.keyHash P "_law_onward", .str "_law_onward" 601, .ref 137⟩, ⟨PyData.keyHash P "_law_backward", .str "_law_backward" 614, .ref 144⟩, ⟨PyData.keyHash P "_law_items", .str "_law_items" 624, .ref 151⟩, ⟨PyData.keyHash P "_law_walks", .str "_law_walks" 630, .ref 156⟩, ⟨PyData.keyHash P "_law_first", .str "_law_first" 637, .ref 163⟩, ⟨PyData.keyHash P "_law_field", .str "_law_field" 645, .ref 170⟩, ⟨PyData.keyHash P "law", .str "law" 651, .ref 175⟩] 32 }),
  (35, { cls := .type "tuple", data := .seq #[.int 14 0, .int 14 0, .int 4 0, .int 1 0, .int 1 0, .int 9 0, .int 0 0, .int 64 0, .int 0 0, .int 1342177280 0, .int 0 0, .int 0 0, .int 0 0, .int 0 0, .int 0 0, .int 17 0, .int 0 0, .int 13 0, .int 11 0, .int 9 0, .int 0 0, .int 64 0, .int 0 0, .int 1342177280 0, .int 0 0, .int 0 0, .int 0 0, .int 0 0, .int 0 0, .int 17 0, .int 1 0, .int 1 0] 0 }),
  (36, { cls := .type "re.Pattern", data := .fields #[.str "([&~|])" 283, .int 32 318, .int 1 0, .none, .none, .ref 35, .int 0 0] }),
  (38, { cls := .type "dict", data := .dict #[⟨40, .int 40 323, .str "\\(" 327⟩, ⟨41, .int 41 329, .str "\\)" 333⟩, ⟨91, .int 91 335, .str "\\[" 339⟩, ⟨93, .int 93 341, .str "\\]" 345⟩, ⟨123, .int 123 347, .str "\\{" 351⟩, ⟨125, .int 125 353, .str "\\}" 357⟩, ⟨63, .int 63 359, .str "\\?" 363⟩, ⟨42, .int 42 365, .str "\\*" 369⟩, ⟨43, .int 43 371, .str "\\+" 375⟩, ⟨45, .int 45 377, .str "\\-" 381⟩, ⟨124, .int 124 383, .str "\\|" 387⟩, ⟨94, .int 94 389, .str "\\^" 393⟩, ⟨36, .int 36 395, .str "\\$" 399⟩, ⟨92, .int 92 401, .str "\\\\" 405⟩, ⟨46, .int 46 407, .str "\\." 411⟩, ⟨38, .int 38 413, .str "\\&" 417⟩, ⟨126, .int 126 419, .str "\\~" 423⟩, ⟨35, .int 35 425, .str "\\#" 429⟩, ⟨32, .int 32 431, .str "\\ " 435⟩, ⟨9, .int 9 437, .str "\\\t" 441⟩, ⟨10, .int 10 443, .str "\\\n" 447⟩, ⟨13, .int 13 449, .str "\\\x0d" 453⟩, ⟨11, .int 11 455, .str "\\\x0b" 459⟩, ⟨12, .int 12 461, .str "\\\x0c" 465⟩] 24 }),
  (47, { cls := .type "code", data := .fields #[.str "escape" 468, .str "escape" 469, .str "/claim/cut.py" 470, .int 5 0, .int 1 0, .int 0 0, .int 0 0, .int 3 0, .ref 42, .bool true, .int 276 0, .ref 43, .none, .ref 44, .ref 45, .ref 46, .int 472 0, .int 5 0, .str "/claim/cut.py" 473] }),
  (48, fnO 4 "escape" "re" 320 47),
  (54, { cls := .type "code", data := .fields #[.str "_translate" 477, .str "_translate" 478, .str "/claim/cut.py" 479, .int 12 0, .int 3 0, .int 0 0, .int 0 0, .int 3 0, .ref 49, .bool true, .int 276 0, .ref 50, .none, .ref 51, .ref 52, .ref 53, .int 493 0, .int 12 0, .str "/claim/cut.py" 494] }),
  (55, fnO 6 "_translate" "cpy313.fnmatch" 475 54),
  (61, { cls := .type "code", data := .fields #[.str "add" 498, .str "add" 499, .str "/claim/cut.py" 500, .int 75 0, .int 2 0, .int 0 0, .int 0 0, .int 3 0, .ref 56, .bool true, .int 276 0, .ref 57, .none, .ref 58, .ref 59, .ref 60, .int 503 0, .int 75 0, .str "/claim/cut.py" 504] }),
  (62, fnO 8 "add" "cpy313.operator" 496 61),
  (68, { cls := .type "code", data := .fields #[.str "and_" 506, .str "and_" 507, .str "/claim/cut.py" 508, .int 77 0, .int 2 0, .int 0 0, .int 0 0, .int 3 0, .ref 63, .bool true, .int 276 0, .ref 64, .none, .ref 65, .ref 66, .ref 67, .int 511 0, .int 77 0, .str "/claim/cut.py" 512] }),
  (69, fnO 9 "and_" "cpy313.operator" 496 68),
  (75, { cls := .type "code", data := .fields #[.str "lshift" 514, .str "lshift" 515, .str "/claim/cut.py" 516, .int 79 0, .int 2 0, .int 0 0, .int 0 0, .int 3 0, .ref 70, .bool true, .int 276 0, .ref 71, .none, .ref 72, .ref 73, .ref 74, .int 519 0, .int 79 0, .str "/claim/cut.py" 520] }),
  (76, fnO 10 "lshift" "cpy313.operator" 496 75),
  (82, { cls := .type "code", data := .fields #[.str "mul" 522, .str "mul" 523, .str "/claim/cut.py" 524, .int 81 0, .int 2 0, .int 0 0, .int 0 0, .int 3 0, .ref 77, .bool true, .int 276 0, .ref 78, .none, .ref 79, .ref 80, .ref 81, .int 527 0, .int 81 0, .str "/claim/cut.py" 528] }),
  (83, fnO 11 "mul" "cpy313.operator" 496 82),
  (89, { cls := .type "code", data := .fields #[.str "or_" 530, .str "or_" 531, .str "/claim/cut.py" 532, .int 83 0, .int 2 0, .int 0 0, .int 0 0, .int 3 0, .ref 84, .bool true, .int 276 0, .ref 85, .none, .ref 86, .ref 87, .ref 88, .int 535 0, .int 83 0, .str "/claim/cut.py" 536] }),
  (90, fnO 12 "or_" "cpy313.operator" 496 89),
  (96, { cls := .type "code", data := .fields #[.str "rshift" 538, .str "rshift" 539, .str "/claim/cut.py" 540, .int 85 0, .int 2 0, .int 0 0, .int 0 0, .int 3 0, .ref 91, .bool true, .int 276 0, .ref 92, .none, .ref 93, .ref 94, .ref 95, .int 543 0, .int 85 0, .str "/claim/cut.py" 544] }),
  (97, fnO 13 "rshift" "cpy313.operator" 496 96),
  (103, { cls := .type "code", data := .fields #[.str "countOf" 546, .str "countOf" 547, .str "/claim/cut.py" 548, .int 87 0, .int 2 0, .int 0 0, .int 0 0, .int 3 0, .ref 98, .bool true, .int 276 0, .ref 99, .none, .ref 100, .ref 101, .ref 102, .int 553 0, .int 87 0, .str "/claim/cut.py" 554] }),
  (104, fnO 14 "countOf" "cpy313.operator" 496 103),
  (110, { cls := .type "code", data := .fields #[.str "indexOf" 556, .str "indexOf" 557, .str "/claim/cut.py" 558, .int 93 0, .int 2 0, .int 0 0, .int 0 0, .int 3 0, .ref 105, .bool true, .int 276 0, .ref 106, .none, .ref 107, .ref 108, .ref 109, .int 563 0, .int 93 0, .str "/claim/cut.py" 564] }),
  (111, fnO 15 "indexOf" "cpy313.operator" 496 110),
  (117, { cls := .type "code", data := .fields #[.str "_law_pieces" 568, .str "_law_pieces" 569, .str "/claim/cut.py" 570, .int 100 0, .int 0 0, .int 0 0, .int 0 0, .int 3 0, .ref 112, .bool true, .int 276 0, .ref 113, .none, .ref 114, .ref 115, .ref 116, .int 571 0, .int 100 0, .str "/claim/cut.py" 572] }),
  (118, fnO 17 "_law_pieces" "law_ij0081_01" 566 117),
  (124, { cls := .type "code", data := .fields #[.str "_law_takes" 574, .str "_law_takes" 575, .str "/claim/cut.py" 576, .int 102 0, .int 2 0, .int 0 0, .int 0 0, .int 3 0, .ref 119, .bool true, .int 276 0, .ref 120, .none, .ref 121, .ref 122, .ref 123, .int 581 0, .int 102 0, .str "/claim/cut.py" 582] }),
  (125, fnO 18 "_law_takes" "law_ij0081_01" 566 124),
  (129, { cls := .type "code", data := .fields #[.str "_law_masks" 584, .str "_law_masks" 585, .str "/claim/cut.py" 586, .int 116 0, .int 1 0, .int 0 0, .int 0 0, .int 3 0, .ref 126, .bool true, .int 276 0, .ref 127, .none, .none, .none, .ref 128, .int 587 0, .int 116 0, .str "/claim/cut.py" 588] }),
  (130, fnO 19 "_law_masks" "law_ij0081_01" 566 129),
  (136, { cls := .type "code", data := .fields #[.str "_law_onward" 590, .str "_law_onward" 591, .str "/claim/cut.py" 592, .int 127 0, .int 3 0, .int 0 0, .int 0 0, .int 3 0, .ref 131, .bool true, .int 276 0, .ref 132, .none, .ref 133, .ref 134, .ref 135, .int 599 0, .int 127 0, .str "/claim/cut.py" 600] }),
  (137, fnO 20 "_law_onward" "law_ij0081_01" 566 136),
  (143, { cls := .type "code", data := .fields #[.str "_law_backward" 602, .str "_law_backward" 603, .str "/claim/cut.py" 604, .int 134 0, .int 4 0, .int 0 0, .int 0 0, .int 3 0, .ref 138, .bool true, .int 276 0, .ref 139, .none, .ref 140, .ref 141, .ref 142, .int 612 0, .int 134 0, .str "/claim/cut.py" 613] }),
  (144, fnO 21 "_law_backward" "law_ij0081_01" 566 143),
  (150, { cls := .type "code", data := .fields #[.str "_law_items" 615, .str "_law_items" 616, .str "/claim/cut.py" 617, .int 141 0, .int 1 0, .int 0 0, .int 0 0, .int 3 0, .ref 145, .bool true, .int 276 0, .ref 146, .none, .ref 147, .ref 148, .ref 149, .int 622 0, .int 141 0, .str "/claim/cut.py" 623] }),
  (151, fnO 22 "_law_items" "law_ij0081_01" 566 150),
  (155, { cls := .type "code", data := .fields #[.str "_law_walks" 625, .str "_law_walks" 626, .str "/claim/cut.py" 627, .int 151 0, .int 3 0, .int 0 0, .int 0 0, .int 3 0, .ref 152, .bool true, .int 276 0, .ref 153, .none, .none, .none, .ref 154, .int 628 0, .int 151 0, .str "/claim/cut.py" 629] }),
  (156, fnO 23 "_law_walks" "law_ij0081_01" 566 155),
  (162, { cls := .type "code", data := .fields #[.str "_law_first" 631, .str "_law_first" 632, .str "/claim/cut.py" 633, .int 159 0, .int 1 0, .int 0 0, .int 0 0, .int 3 0, .ref 157, .bool true, .int 276 0, .ref 158, .none, .ref 159, .ref 160, .ref 161, .int 635 0, .int 159 0, .str "/claim/cut.py" 636] }),
  (163, fnO 24 "_law_first" "law_ij0081_01" 566 162),
  (169, { cls := .type "code", data := .fields #[.str "_law_field" 638, .str "_law_field" 639, .str "/claim/cut.py" 640, .int 164 0, .int 2 0, .int 0 0, .int 0 0, .int 3 0, .ref 164, .bool true, .int 276 0, .ref 165, .none, .ref 166, .ref 167, .ref 168, .int 643 0, .int 164 0, .str "/claim/cut.py" 644] }),
  (170, fnO 25 "_law_field" "law_ij0081_01" 566 169),
  (174, { cls := .type "code", data := .fields #[.str "law" 646, .str "law" 647, .str "/claim/cut.py" 648, .int 166 0, .int 1 0, .int 0 0, .int 0 0, .int 3 0, .ref 171, .bool true, .int 276 0, .ref 172, .none, .none, .none, .ref 173, .int 649 0, .int 166 0, .str "/claim/cut.py" 650] }),
  (175, fnO 26 "law" "law_ij0081_01" 566 174)]
abbrev addrF : List Addr := [3, 35, 36, 38, 47, 48, 54, 55, 61, 62, 68, 69, 75, 76, 82, 83, 89, 90, 96, 97, 103, 104, 110, 111, 117, 118, 124, 125, 129, 130, 136, 137, 143, 144, 150, 151, 155, 156, 162, 163, 169, 170, 174, 175]
/-- the text without the rows that bind `__name__` -/
noncomputable def viewQ : Program := { PySem.Challenge.pw_ij0081_01 with main := { PySem.Challenge.pw_ij0081_01.main with body := ([0, 1, 3, 4, 6, 8, 9, 10, 11, 12, 13, 14, 15, 17, 18, 19, 20, 21, 22, 23, 24, 25, 26] : List Nat).filterMap (PySem.Challenge.pw_ij0081_01.main.body[·]?) } }
abbrev looseF : List Str := ["_twin_re_1", "_special_chars_map"]
noncomputable def lawD : DefRec := { name := "law", params := fnP 26, body := fnB 26, scope := fnS 26, pos := fnPos 26 }
noncomputable def hookF : Hook := kmHook heapF addrF (fun _ => by kernel_rfl) [50]
noncomputable def xtF (s : Shared) : Bool := xlAt viewQ [] s && recOk PySem.Challenge.rw_ij0081_01.row.records s
end

section
/-- the run of the text and what is seen when it is over, in one world -/
def LeftAt (w : World) : Prop := (openEnds treeTable PySem.Challenge.rw_ij0081_01.row.prog w 4088).map (fun s => (openSeen viewQ looseF (importedModules PySem.Challenge.rw_ij0081_01.row.prog.main.body) xtF true s, hookF.obs s)) = some (openGood viewQ looseF, hookF.val w)
theorem left_ff (w : World) : LeftAt ((w.withFollow "special-get-raises" false).withFollow "comprehension-iter-twice" false) := by
  unfold LeftAt openEnds fencedOpening topFrom
  rw [PySem.W.Fast.te10274390034422433532, PySem.W.Fast.te14082659384304107361, PySem.W.Fast.te14289696077712309145, PySem.W.Fast.te14364793385576792824, PySem.W.Fast.te4187177175401517315]
  kernel_rfl
theorem left_tf (w : World) : LeftAt ((w.withFollow "special-get-raises" true).withFollow "comprehension-iter-twice" false) := by
  unfold LeftAt openEnds fencedOpening topFrom
  rw [PySem.W.Fast.te10274390034422433532, PySem.W.Fast.te14082659384304107361, PySem.W.Fast.te14289696077712309145, PySem.W.Fast.te14364793385576792824, PySem.W.Fast.te4187177175401517315]
  kernel_rfl
theorem left_ft (w : World) : LeftAt ((w.withFollow "special-get-raises" false).withFollow "comprehension-iter-twice" true) := by
  unfold LeftAt openEnds fencedOpening topFrom
  rw [PySem.W.Fast.te10274390034422433532, PySem.W.Fast.te14082659384304107361, PySem.W.Fast.te14289696077712309145, PySem.W.Fast.te14364793385576792824, PySem.W.Fast.te4187177175401517315]
  kernel_rfl
theorem left_tt (w : World) : LeftAt ((w.withFollow "special-get-raises" true).withFollow "comprehension-iter-twice" true) := by
  unfold LeftAt openEnds fencedOpening topFrom
  rw [PySem.W.Fast.te10274390034422433532, PySem.W.Fast.te14082659384304107361, PySem.W.Fast.te14289696077712309145, PySem.W.Fast.te14364793385576792824, PySem.W.Fast.te4187177175401517315]
  kernel_rfl
theorem left_all : LeftO PySem.Challenge.rw_ij0081_01.row.prog viewQ looseF xtF hookF.obs hookF.val 4088 :=
  byRow2 "comprehension-iter-twice" (P := LeftAt)
    (byRow2 "special-get-raises" (P := fun w => LeftAt (w.withFollow "comprehension-iter-twice" false)) left_ff left_tf)
    (byRow2 "special-get-raises" (P := fun w => LeftAt (w.withFollow "comprehension-iter-twice" true)) left_ft left_tt)
end

section
theorem saidT : PySem.W.Fast.tw9446332074065402090 PySem.Challenge.rw_ij0081_01 = true := by kernel_rfl
theorem said : PySem.Challenge.rw_ij0081_01.wellSaid = true := (congrFun PySem.W.Fast.te9446332074065402090 PySem.Challenge.rw_ij0081_01).trans saidT
theorem hdM (left : LeftO PySem.Challenge.rw_ij0081_01.row.prog viewQ looseF xtF hookF.obs hookF.val 4088) (h : WalkO viewQ looseF (XL viewQ []) hookF.says PySem.Challenge.rw_ij0081_01.row.toRowW lawD [] fun f vs => PySem.call f vs) : PySem.Challenge.rw_ij0081_01.Holds := by
  refine holds_law said fun said => ?_
  refine holds_open (q := viewQ) (loose := looseF) (Xt := xtF) (XP := XL viewQ []) (Yf := hookF.obs) (Ya := hookF.val) (YP := hookF.says) (d := lawD) (kwd := []) (N := 4088) left (Hook.of hookF) (Hook.keeps hookF) (fun s e => xl_of s (Bool.and_eq_true_iff.mp e).1) XL.keeps (by kernel_rfl) (by kernel_rfl) (by kernel_rfl) (fun s e => recFacts_of (Bool.and_eq_true_iff.mp e).2) (by rfl) (by first | assumption | decide +kernel) (by decide +kernel) ⟨rfl, rfl, rfl, rfl, rfl, by decide +kernel⟩ ?hw h
  case hw => w_witness2
end

section
/-- plain data of the program -/
inductive D where
  | none
  | bool (b : Bool)
  | int (i : Int)
  | str (x : Str)
  | list (l : List D)
  | tup (l : List D)
  | loc (a : Addr)
  | val (v : Value)
  | rng (a b c : Int)
  | meth (id : String) (a : Addr)

def Sub (h h' : Heap) : Prop := ∀ b o, h.get? b = some o → h'.get? b = some o
theorem Sub.refl (h : Heap) : Sub h h := fun _ _ e => e
theorem Sub.trans {a b c : Heap} (x : Sub a b) (y : Sub b c) : Sub a c := fun p o e => y p o (x p o e)
theorem Sub.push (h : Heap) (o : Obj) : Sub h (h.push o) := fun _ _ e => Heap.get?_push_of_some o e

abbrev vis (H : List Addr) (h : Heap) : Heap := hideAll h H
theorem vis_not {H : List Addr} {h : Heap} {b : Addr} {o : Obj} (e : (vis H h).get? b = some o) : b ∉ H := fun hm => by
  rw [hideAll_none H hm] at e; cases e
theorem vis_of {H : List Addr} {h : Heap} {b : Addr} {o : Obj} (e : (vis H h).get? b = some o) : h.get? b = some o := of_hideAll H e
theorem vis_get {H : List Addr} {h : Heap} {b : Addr} {o : Obj} (e : h.get? b = some o) (hb : b ∉ H) : (vis H h).get? b = some o := hideAll_get H e hb
theorem vis_sub {H : List Addr} {h h' : Heap} (k : ∀ b o, b ∉ H → h.get? b = some o → h'.get? b = some o) : Sub (vis H h) (vis H h') := fun b o e =>
  vis_get (k b o (vis_not e) (vis_of e)) (vis_not e)
theorem Sub.vis {H : List Addr} {h h' : Heap} (k : Sub h h') : Sub (vis H h) (vis H h') := vis_sub fun b o _ e => k b o e
theorem vis_le (H : List Addr) (h : Heap) : Sub (vis H h) h := fun _ _ e => vis_of e
/-- a view that hides more is within one that hides less -/
theorem vis_more {H H' : List Addr} {h : Heap} (k : ∀ a ∈ H, a ∈ H') : Sub (vis H' h) (vis H h) := fun _ _ e => vis_get (vis_of e) fun hm => vis_not e (k _ hm)
/-- hiding what does not stand hides nothing -/
theorem vis_new {H H' : List Addr} {h : Heap} (k : ∀ a ∈ H', a ∈ H ∨ h.get? a = none) : Sub (vis H h) (vis H' h) := fun b o e =>
  vis_get (vis_of e) fun hm => by
    rcases k b hm with q | q
    · exact vis_not e q
    · rw [vis_of e] at q; cases q

mutual
inductive Rep (g : Heap) : Value → D → Prop
  | none : Rep g .none .none
  | bool (b : Bool) : Rep g (.bool b) (.bool b)
  | int (i : Int) (t : Tok) : Rep g (.int i t) (.int i)
  | str (x : Str) (t : Tok) : Rep g (.str x t) (.str x)
  | list {a : Addr} {vs : List Value} {n : Nat} {ds : List D} : IsL g a vs.toArray n → RepL g vs ds → Rep g (.ref a) (.list ds)
  | tup {a : Addr} {vs : List Value} {n : Nat} {ds : List D} : g.get? a = some { cls := .type "tuple", dict := none, data := .seq vs.toArray n, slots := #[] } → RepL g vs ds → Rep g (.ref a) (.tup ds)
  | loc (a : Addr) : Rep g (.ref a) (.loc a)
  | val (v : Value) : Rep g v (.val v)
  | rng {r : Addr} {a b c : Int} {t u v : Tok} : IsRange g r a b c t u v → Rep g (.ref r) (.rng a b c)
  | meth {b : Addr} {id : String} {a : Addr} : g.get? b = some { cls := .type "builtin_function_or_method", dict := Option.none, data := .fields #[.builtin id, .ref a], slots := #[] } → Rep g (.ref b) (.meth id a)
inductive RepL (g : Heap) : List Value → List D → Prop
  | nil : RepL g [] []
  | cons {v : Value} {vs : List Value} {d : D} {ds : List D} : Rep g v d → RepL g vs ds → RepL g (v :: vs) (d :: ds)
end
mutual
theorem Rep.mono {g g' : Heap} (k : Sub g g') : ∀ {v : Value} {d : D}, Rep g v d → Rep g' v d
  | _, _, .none => .none
  | _, _, .bool b => .bool b
  | _, _, .int i t => .int i t
  | _, _, .str x t => .str x t
  | _, _, .list h r => .list (k _ _ h) (RepL.mono k r)
  | _, _, .tup h r => .tup (k _ _ h) (RepL.mono k r)
  | _, _, .loc a => .loc a
  | _, _, .val v => .val v
  | _, _, .rng h => .rng (k _ _ h)
  | _, _, .meth h => .meth (k _ _ h)
theorem RepL.mono {g g' : Heap} (k : Sub g g') : ∀ {vs : List Value} {ds : List D}, RepL g vs ds → RepL g' vs ds
  | _, _, .nil => .nil
  | _, _, .cons h r => .cons (Rep.mono k h) (RepL.mono k r)
end
theorem RepL.length {g : Heap} : ∀ {vs : List Value} {ds : List D}, RepL g vs ds → vs.length = ds.length
  | _, _, .nil => rfl
  | _, _, .cons _ r => by rw [List.length_cons, List.length_cons, RepL.length r]
theorem RepL.append {g : Heap} : ∀ {vs ws : List Value} {ds es : List D}, RepL g vs ds → RepL g ws es → RepL g (vs ++ ws) (ds ++ es)
  | _, _, _, _, .nil, k => k
  | _, _, _, _, .cons h r, k => .cons h (RepL.append r k)
theorem RepL.one {g : Heap} {v : Value} {d : D} (h : Rep g v d) : RepL g [v] [d] := .cons h .nil
theorem RepL.get {g : Heap} : ∀ {vs : List Value} {ds : List D}, RepL g vs ds → ∀ {k : Nat} {d : D}, ds[k]? = some d → ∃ v, vs[k]? = some v ∧ Rep g v d
  | _, _, .nil, k, d, e => by simp at e
  | _, _, .cons (v := v) h r, 0, d, e => by
    have : _ = d := Option.some.inj e
    subst this
    exact ⟨v, rfl, h⟩
  | _, _, .cons h r, k + 1, d, e => RepL.get r (k := k) (by simpa using e)
theorem RepL.getV {g : Heap} : ∀ {vs : List Value} {ds : List D}, RepL g vs ds → ∀ {k : Nat} {v : Value}, vs[k]? = some v → ∃ d, ds[k]? = some d ∧ Rep g v d
  | _, _, .nil, k, d, e => by simp at e
  | _, _, .cons (d := d) h r, 0, v, e => by
    have : _ = v := Option.some.inj e
    subst this
    exact ⟨d, rfl, h⟩
  | _, _, .cons h r, k + 1, d, e => RepL.getV r (k := k) (by simpa using e)
theorem RepL.take {g : Heap} : ∀ {vs : List Value} {ds : List D} (k : Nat), RepL g vs ds → RepL g (vs.take k) (ds.take k)
  | _, _, 0, _ => by simpa using RepL.nil
  | _, _, _ + 1, .nil => by simpa using RepL.nil
  | _, _, k + 1, .cons h r => .cons h (RepL.take k r)
theorem RepL.drop {g : Heap} : ∀ {vs : List Value} {ds : List D} (k : Nat), RepL g vs ds → RepL g (vs.drop k) (ds.drop k)
  | _, _, 0, r => by simpa using r
  | _, _, _ + 1, .nil => by simpa using RepL.nil
  | _, _, k + 1, .cons _ r => RepL.drop k r
theorem RepL.set {g : Heap} : ∀ {vs : List Value} {ds : List D} (k : Nat) {v : Value} {d : D}, RepL g vs ds → Rep g v d → RepL g (vs.set k v) (ds.set k d)
  | _, _, _, _, _, .nil, _ => by simpa using RepL.nil
  | _, _, 0, _, _, .cons _ r, q => .cons q r
  | _, _, k + 1, _, _, .cons h r, q => .cons h (RepL.set k r q)
theorem RepL.eraseIdx {g : Heap} : ∀ {vs : List Value} {ds : List D} (k : Nat), RepL g vs ds → RepL g (vs.eraseIdx k) (ds.eraseIdx k)
  | _, _, _, .nil => by simpa using RepL.nil
  | _, _, 0, .cons _ r => r
  | _, _, k + 1, .cons h r => .cons h (RepL.eraseIdx k r)

/-- what a call may change: it adds objects; nothing that stood is turned -/
structure Ext (s s' : Shared) : Prop where
  sub : Sub s.heap s'.heap
  os : s'.os = s.os
  gens : AllBare s.gens → AllBare s'.gens
theorem Ext.refl (s : Shared) : Ext s s := ⟨.refl _, rfl, id⟩
theorem Ext.trans {a b c : Shared} (x : Ext a b) (y : Ext b c) : Ext a c := ⟨x.sub.trans y.sub, y.os.trans x.os, fun h => y.gens (x.gens h)⟩
theorem Ext.tok (s : Shared) (t : Nat) : Ext s { s with toks := t } := ⟨.refl _, rfl, id⟩
theorem Ext.of (s : Shared) {h' : Heap} (t : Nat) (k : Sub s.heap h') : Ext s { s with heap := h', toks := t } := ⟨k, rfl, id⟩

structure Room (k : Nat) (A : Around) : Prop where
  handled : A.handled = none
  depth : A.depth + k < recursionLimit
  units : A.units + 20 * k + 20 < cLine
theorem Room.le {k j : Nat} {A : Around} (r : Room k A) (h : j ≤ k) : Room j A := ⟨r.handled, by have := r.depth; omega, by have := r.units; omega⟩
theorem Room.deeper {k : Nat} {A : Around} (r : Room (k + 1) A) (env : Env) : Room k (A.deeper env) := ⟨r.handled, by have := r.depth; show A.depth + 1 + k < _; omega, by have := r.units; show A.units + 3 + 20 * k + 20 < _; omega⟩
theorem Room.in1 {k : Nat} {A : Around} (r : Room (k + 1) A) : Room k A.in1 := ⟨r.handled, by have := r.depth; show A.depth + k < _; omega, by have := r.units; show A.units + 1 + 20 * k + 20 < _; omega⟩
theorem Room.line {k : Nat} {A : Around} (r : Room k A) : A.units < cLine := by have := r.units; omega
theorem Room.lim {k : Nat} {A : Around} (r : Room k A) : A.depth < recursionLimit := by have := r.depth; omega

/-- the value of a name of the frame -/
def Has (env : Env) (h : Heap) (x : Str) (v : Value) : Prop :=
  (env.kindOf x = some .local ∧ ∃ m, h.Ns env.locals m ∧ m x = some v) ∨
  ((env.kindOf x = some .cell ∨ env.kindOf x = some .free) ∧ ∃ c, env.cells.lookup x = some c ∧ h.IsCell c (some v))
theorem Has.mono {env : Env} {h h' : Heap} {x : Str} {v : Value} (k : Sub h h') (q : Has env h x v) : Has env h' x v := by
  rcases q with ⟨a, m, n, e⟩ | ⟨a, c, l, n⟩
  · exact .inl ⟨a, m, n.keeps k, e⟩
  · exact .inr ⟨a, c, l, n.keeps k⟩

/-- the program's own facts: a predicate of the heap that growth keeps -/
structure Pg where
  P : Heap → Prop
  mono : ∀ {g g'}, Sub g g' → P g → P g'

structure Nm (G : Pg) (env : Env) (ρ : List (Str × D)) (σ : List (Addr × List D)) (H : List Addr) (h : Heap) : Prop where
  prog : G.P (vis H h)
  fn : env.scope.kind = .function
  bound : ∀ a ∈ H, ∃ o, h.get? a = some o
  names : ∀ p ∈ ρ, ∃ v, Has env h p.1 v ∧ Rep (vis H h) v p.2
  locs : ∀ p ∈ σ, ∃ vs n, IsL h p.1 (List.toArray vs) n ∧ RepL (vis H h) vs p.2
theorem Nm.grow {G : Pg} {env : Env} {ρ : List (Str × D)} {σ : List (Addr × List D)} {H : List Addr} {h h' : Heap} (N : Nm G env ρ σ H h) (k : Sub h h') : Nm G env ρ σ H h' where
  prog := G.mono k.vis N.prog
  fn := N.fn
  bound := fun a ha => let ⟨o, e⟩ := N.bound a ha; ⟨o, k _ _ e⟩
  names := fun p hp => let ⟨v, a, b⟩ := N.names p hp; ⟨v, a.mono k, b.mono k.vis⟩
  locs := fun p hp => let ⟨vs, n, a, b⟩ := N.locs p hp; ⟨vs, n, k _ _ a, b.mono k.vis⟩
theorem Nm.fresh {G : Pg} {env : Env} {ρ : List (Str × D)} {σ : List (Addr × List D)} {H : List Addr} {h : Heap} (N : Nm G env ρ σ H h) : h.objs.size ∉ H := fun hm => by
  obtain ⟨o, e⟩ := N.bound _ hm
  exact Nat.lt_irrefl _ (Heap.lt_size e)

variable {prog : Program} {w : World} {G : Pg}

/-- an expression's value, as plain data -/
def EV (prog : Program) (w : World) (G : Pg) (k : Nat) (env : Env) (ρ : List (Str × D)) (σ : List (Addr × List D)) (e : Expr) (d : D) : Prop :=
  ∀ (A : Around) (s : Shared) (H : List Addr) (Q : Value → Shared → Prop) (E : Value → Shared → Prop), Room k A → Nm G env ρ σ H s.heap →
    (∀ v s', Ext s s' → Rep (vis H s'.heap) v d → Q v s') → wpAny (model prog w) A (eval e env) Q E s
/-- an expression's truth -/
def TV (prog : Program) (w : World) (G : Pg) (k : Nat) (env : Env) (ρ : List (Str × D)) (σ : List (Addr × List D)) (e : Expr) (b : Bool) : Prop :=
  ∀ (A : Around) (s : Shared) (H : List Addr) (Q : Bool → Shared → Prop) (E : Value → Shared → Prop), Room k A → Nm G env ρ σ H s.heap →
    (∀ s', Ext s s' → Q b s') → wpAny (model prog w) A (isTrue e env (eval e env)) Q E s
end

section
section
variable {prog : Program} {w : World} {G : Pg} {k : Nat} {env : Env} {ρ : List (Str × D)} {σ : List (Addr × List D)}

def Bound (H : List Addr) (h : Heap) : Prop := ∀ a ∈ H, ∃ o, h.get? a = some o
theorem Bound.grow {H : List Addr} {h h' : Heap} (b : Bound H h) (x : Sub h h') : Bound H h' := fun a ha => let ⟨o, e⟩ := b a ha; ⟨o, x _ _ e⟩
theorem Bound.fresh {H : List Addr} {h : Heap} (b : Bound H h) : h.objs.size ∉ H := fun hm => by
  obtain ⟨o, e⟩ := b _ hm
  exact Nat.lt_irrefl _ (Heap.lt_size e)
theorem rep_new {H : List Addr} {h : Heap} {vs : List Value} {ds : List D} (b : Bound H h) (r : RepL (vis H h) vs ds) :
    Rep (vis H (h.push { cls := .type "list", data := .seq vs.toArray })) (.ref h.objs.size) (.list ds) :=
  .list (n := 0) (vis_get (IsL.new h vs.toArray) b.fresh) (r.mono (Sub.push h _).vis)
theorem rep_newT {H : List Addr} {h : Heap} {vs : List Value} {ds : List D} (b : Bound H h) (r : RepL (vis H h) vs ds) :
    Rep (vis H (h.push { cls := .type "tuple", data := .seq vs.toArray })) (.ref h.objs.size) (.tup ds) :=
  .tup (n := 0) (vis_get (Heap.get?_push_size _ rfl) b.fresh) (r.mono (Sub.push h _).vis)

/-- two values under an operator -/
def OP (prog : Program) (w : World) (k : Nat) (o : Operator) (da db d : D) : Prop :=
  ∀ (A : Around) (s : Shared) (H : List Addr) (Q E : Value → Shared → Prop) (va vb : Value), Room k A → Bound H s.heap → Rep (vis H s.heap) va da → Rep (vis H s.heap) vb db →
    (∀ v s', Ext s s' → Rep (vis H s'.heap) v d → Q v s') → wpAny (model prog w) A (binaryOp o va vb) Q E s
def CP (prog : Program) (w : World) (k : Nat) (o : CmpOp) (da db : D) (b : Bool) : Prop :=
  ∀ (A : Around) (s : Shared) (H : List Addr) (Q E : Value → Shared → Prop) (va vb : Value), Room k A → Bound H s.heap → Rep (vis H s.heap) va da → Rep (vis H s.heap) vb db →
    (∀ s', Ext s s' → Q (.bool b) s') → wpAny (model prog w) A (compareOp o va vb) Q E s
def TR (prog : Program) (w : World) (k : Nat) (d : D) (b : Bool) : Prop :=
  ∀ (A : Around) (s : Shared) (H : List Addr) (Q : Bool → Shared → Prop) (E : Value → Shared → Prop) (v : Value), Room k A → Bound H s.heap → Rep (vis H s.heap) v d →
    (∀ s', Ext s s' → Q b s') → wpAny (model prog w) A (truthy v) Q E s

theorem EV.int {i : Int} {n : Nat} {pos : Pos} : EV prog w G k env ρ σ (.Constant (.int i) n pos) (.int i) := fun _ s _ _ _ _ _ q =>
  wpAny_Constant_int (q _ _ (.tok s _) (.int _ _))
theorem EV.str {x : Str} {n : Nat} {pos : Pos} : EV prog w G k env ρ σ (.Constant (.str x) n pos) (.str x) := fun _ s _ _ _ _ _ q =>
  Calls.Constant_str (q _ _ (.tok s _) (.str _ _))
theorem EV.bool {b : Bool} {n : Nat} {pos : Pos} : EV prog w G k env ρ σ (.Constant (.bool b) n pos) (.bool b) := fun _ s _ _ _ _ _ q =>
  Constant_bool (q _ _ (.refl s) (.bool _))
theorem EV.none {n : Nat} {pos : Pos} : EV prog w G k env ρ σ (.Constant .none n pos) .none := fun _ s _ _ _ _ _ q =>
  Constant_none (q _ _ (.refl s) .none)

theorem mem_of_lookupD {ρ : List (Str × D)} {x : Str} {d : D} (h : ρ.lookup x = some d) : (x, d) ∈ ρ := mem_of_lookup h
theorem EV.name {x : Str} {d : D} {pos : Pos} (h : ρ.lookup x = some d) (hd : (x == ("__debug__" : Str)) = false := by decide) (hc : (x == ("__classdict__" : Str)) = false := by decide) :
    EV prog w G k env ρ σ (.Name x pos) d := fun A s H Q E r N q => by
  obtain ⟨v, hv, rp⟩ := N.names _ (mem_of_lookupD h)
  refine wpAny_Name ?_ hd
  rcases hv with ⟨a, m, n, e⟩ | ⟨a | a, c, l, n⟩
  · exact wpAny_loadName_local N.fn a n e (q _ _ (.refl s) rp)
  · exact wpAny_loadName_cell N.fn a l n (q _ _ (.refl s) rp)
  · exact wpAny_loadName_free N.fn a l n (q _ _ (.refl s) rp) hc

theorem EV.bin {l r : Expr} {o : Operator} {pos : Pos} {da db d : D} (hl : EV prog w G k env ρ σ l da) (hr : EV prog w G k env ρ σ r db) (ho : OP prog w k o da db d) :
    EV prog w G k env ρ σ (.BinOp l o r pos) d := fun A s H Q E r N q =>
  wpAny_BinOp (hl A s H _ E r N fun va s₁ x₁ ra => hr A s₁ H _ E r (N.grow x₁.sub) fun vb s₂ x₂ rb =>
    ho A s₂ H Q E va vb r (N.grow (x₁.trans x₂).sub).bound (ra.mono x₂.sub.vis) rb fun v s₃ x₃ rv => q v s₃ ((x₁.trans x₂).trans x₃) rv)

theorem EV.cmp {l r : Expr} {o : CmpOp} {pos : Pos} {da db : D} {b : Bool} (hl : EV prog w G k env ρ σ l da) (hr : EV prog w G k env ρ σ r db) (ho : CP prog w k o da db b)
    (hm : behindInMarks o r = false := by with_unfolding_all rfl) : EV prog w G k env ρ σ (.Compare l [o] [r] pos) (.bool b) := fun A s H Q E r N q =>
  wpAny_Compare1 (hl A s H _ E r N fun va s₁ x₁ ra => hr A s₁ H _ E r (N.grow x₁.sub) fun vb s₂ x₂ rb =>
    ho A s₂ H Q E va vb r (N.grow (x₁.trans x₂).sub).bound (ra.mono x₂.sub.vis) rb fun s₃ x₃ => q _ s₃ ((x₁.trans x₂).trans x₃) (.bool _)) hm
theorem TV.cmp {l r : Expr} {o : CmpOp} {pos : Pos} {da db : D} {b : Bool} (hl : EV prog w G k env ρ σ l da) (hr : EV prog w G k env ρ σ r db) (ho : CP prog w k o da db b)
    (hm : behindInMarks o r = false := by with_unfolding_all rfl) : TV prog w G k env ρ σ (.Compare l [o] [r] pos) b := fun A s H Q E r N q =>
  wpAny_isTrue_Compare1 (hl A s H _ E r N fun va s₁ x₁ ra => hr A s₁ H _ E r (N.grow x₁.sub) fun vb s₂ x₂ rb =>
    ho A s₂ H _ E va vb r (N.grow (x₁.trans x₂).sub).bound (ra.mono x₂.sub.vis) rb fun s₃ x₃ => wpAny_truthy_bool (q s₃ ((x₁.trans x₂).trans x₃))) hm
/-- a chain of two -/
theorem EV.chain {l r₁ r₂ : Expr} {o₁ o₂ : CmpOp} {pos : Pos} {da db dc : D} {b c : Bool} (hl : EV prog w G k env ρ σ l da) (h1 : EV prog w G k env ρ σ r₁ db) (h2 : EV prog w G k env ρ σ r₂ dc)
    (ho : CP prog w k o₁ da db b) (ho' : CP prog w k o₂ db dc c) (hm : lastMarks [o₁, o₂] [r₁, r₂] = false := by with_unfolding_all rfl) :
    EV prog w G k env ρ σ (.Compare l [o₁, o₂] [r₁, r₂] pos) (.bool (b && c)) := fun A s H Q E r N q =>
  Compare_chain (hl A s H _ E r N fun va s₁ x₁ ra => chain_link (h1 A s₁ H _ E r (N.grow x₁.sub) fun vb s₂ x₂ rb =>
    ho A s₂ H _ E va vb r (N.grow (x₁.trans x₂).sub).bound (ra.mono x₂.sub.vis) rb fun s₃ x₃ => wpAny_truthy_bool (by
      have x13 := (x₁.trans x₂).trans x₃
      cases b with
      | false => exact q _ s₃ x13 (.bool _)
      | true =>
        refine chain_last (h2 A s₃ H _ E r (N.grow x13.sub) fun vc s₄ x₄ rc => ?_)
        exact ho' A s₄ H Q E vb vc r (N.grow (x13.trans x₄).sub).bound (rb.mono (x₃.trans x₄).sub.vis) rc fun s₅ x₅ => q _ s₅ ((x13.trans x₄).trans x₅) (.bool _)))) hm

theorem TV.not {e : Expr} {pos : Pos} {b : Bool} (h : TV prog w G k env ρ σ e b) : TV prog w G k env ρ σ (.UnaryOp .Not e pos) (!b) := fun A s H Q E r N q =>
  isTrue_not (h A s H _ E r N fun s' x => q s' x)
theorem TV.of {e : Expr} {d : D} {b : Bool} (h : EV prog w G k env ρ σ e d) (t : TR prog w k d b) (he : ∀ whole, isTrue e env whole = (do let v ← whole; standAt e.pos; holding [v] (truthy v)) := by intro _; rfl) :
    TV prog w G k env ρ σ e b := fun A s H Q E r N q =>
  isTrue_plain (h A s H _ E r N fun v s₁ x₁ rv => t A s₁ H Q E v r (N.grow x₁.sub).bound rv fun s₂ x₂ => q s₂ (x₁.trans x₂)) (he _)
theorem TV.and_nil {pos : Pos} : TV prog w G k env ρ σ (.BoolOp .And [] pos) true := fun A s H Q E r N q => isTrue_and_nil (q s (.refl s))
theorem TV.or_nil {pos : Pos} : TV prog w G k env ρ σ (.BoolOp .Or [] pos) false := fun A s H Q E r N q => isTrue_or_nil (q s (.refl s))
theorem TV.and_false {e : Expr} {es : List Expr} {pos : Pos} (h : TV prog w G k env ρ σ e false) : TV prog w G k env ρ σ (.BoolOp .And (e :: es) pos) false := fun A s H Q E r N q =>
  isTrue_and (h A s H _ E r N fun s' x => q s' x)
theorem TV.and_true {e : Expr} {es : List Expr} {pos : Pos} {b : Bool} (h : TV prog w G k env ρ σ e true) (h' : TV prog w G k env ρ σ (.BoolOp .And es pos) b) : TV prog w G k env ρ σ (.BoolOp .And (e :: es) pos) b := fun A s H Q E r N q =>
  isTrue_and (h A s H _ E r N fun s' x => h' A s' H Q E r (N.grow x.sub) fun s₂ x₂ => q s₂ (x.trans x₂))
theorem TV.or_true {e : Expr} {es : List Expr} {pos : Pos} (h : TV prog w G k env ρ σ e true) : TV prog w G k env ρ σ (.BoolOp .Or (e :: es) pos) true := fun A s H Q E r N q =>
  isTrue_or (h A s H _ E r N fun s' x => q s' x)
theorem TV.or_false {e : Expr} {es : List Expr} {pos : Pos} {b : Bool} (h : TV prog w G k env ρ σ e false) (h' : TV prog w G k env ρ σ (.BoolOp .Or es pos) b) : TV prog w G k env ρ σ (.BoolOp .Or (e :: es) pos) b := fun A s H Q E r N q =>
  isTrue_or (h A s H _ E r N fun s' x => h' A s' H Q E r (N.grow x.sub) fun s₂ x₂ => q s₂ (x.trans x₂))
theorem EV.ite_true {t b o : Expr} {pos : Pos} {d : D} (h : TV prog w G k env ρ σ t true) (h' : EV prog w G k env ρ σ b d) : EV prog w G k env ρ σ (.IfExp t b o pos) d := fun A s H Q E r N q =>
  IfExp_ (h A s H _ E r N fun s' x => h' A s' H Q E r (N.grow x.sub) fun v s₂ x₂ rv => q v s₂ (x.trans x₂) rv)
theorem EV.ite_false {t b o : Expr} {pos : Pos} {d : D} (h : TV prog w G k env ρ σ t false) (h' : EV prog w G k env ρ σ o d) : EV prog w G k env ρ σ (.IfExp t b o pos) d := fun A s H Q E r N q =>
  IfExp_ (h A s H _ E r N fun s' x => h' A s' H Q E r (N.grow x.sub) fun v s₂ x₂ rv => q v s₂ (x.trans x₂) rv)
theorem EV.ite {t b o : Expr} {pos : Pos} {c : Bool} {d : D} (h : TV prog w G k env ρ σ t c) (h1 : c = true → EV prog w G k env ρ σ b d) (h2 : c = false → EV prog w G k env ρ σ o d) : EV prog w G k env ρ σ (.IfExp t b o pos) d := by
  cases c with
  | true => exact .ite_true h (h1 rfl)
  | false => exact .ite_false h (h2 rfl)
theorem EV.neg {e : Expr} {pos : Pos} {a : Int} (h : EV prog w G k env ρ σ e (.int a)) : EV prog w G k env ρ σ (.UnaryOp .USub e pos) (.int (-a)) := fun A s H Q E r N q =>
  UnaryOp_ (h A s H _ E r N fun v s₁ x₁ rv => by cases rv; exact neg_int (q _ _ (x₁.trans (.tok _ _)) (.int _ _)))

/-- several values, left to right -/
def EVS (prog : Program) (w : World) (G : Pg) (k : Nat) (env : Env) (ρ : List (Str × D)) (σ : List (Addr × List D)) (es : List Expr) (ds : List D) : Prop :=
  ∀ (A : Around) (s : Shared) (H : List Addr) (Q : List Value → Shared → Prop) (E : Value → Shared → Prop) (pos : Pos), Room k A → Nm G env ρ σ H s.heap →
    (∀ vs s', Ext s s' → RepL (vis H s'.heap) vs ds → Q vs s') → wpAny (model prog w) A (spliced (backTo pos (starEach es env))) Q E s
theorem EVS.nil : EVS prog w G k env ρ σ [] [] := fun _ s _ _ _ _ _ _ q => Calls.spliced_nil (q _ s (.refl s) .nil)
theorem EVS.cons {e : Expr} {es : List Expr} {d : D} {ds : List D} (h : EV prog w G k env ρ σ e d) (h' : EVS prog w G k env ρ σ es ds) (he : starEach (e :: es) env = (false, eval e env) :: starEach es env := by rfl) :
    EVS prog w G k env ρ σ (e :: es) (d :: ds) := fun A s H Q E pos r N q => by
  rw [he]
  show wpAny _ A (spliced ((false, eval e env) :: backTo pos (starEach es env))) Q E s
  exact Calls.spliced_cons (h A s H _ E r N fun v s₁ x₁ rv => h' A s₁ H _ E pos r (N.grow x₁.sub) fun vs s₂ x₂ rvs => q _ s₂ (x₁.trans x₂) (.cons (rv.mono x₂.sub.vis) rvs))

theorem EV.list {es : List Expr} {pos : Pos} {ds : List D} (h : EVS prog w G k env ρ σ es ds) (hz : ds.length ≤ sizeLine := by exact Nat.le_of_ble_eq_true rfl) : EV prog w G k env ρ σ (.List es pos) (.list ds) := fun A s H Q E r N q =>
  List_ (h A s H _ E pos r N fun vs s₁ x₁ rv => wpAny_newObj_type (q _ _ (x₁.trans (.of s₁ s₁.toks (Sub.push _ _))) (rep_new (N.grow x₁.sub).bound rv)) (by
    show vs.toArray.size ≤ sizeLine
    rw [List.size_toArray, rv.length]; exact hz))
theorem EV.tup {es : List Expr} {n : Nat} {pos : Pos} {ds : List D} (h : EVS prog w G k env ρ σ es ds) (hz : ds.length ≤ sizeLine := by exact Nat.le_of_ble_eq_true rfl) : EV prog w G k env ρ σ (.Tuple es n pos) (.tup ds) := fun A s H Q E r N q =>
  Tuple_ (h A s H _ E pos r N fun vs s₁ x₁ rv => wpAny_newObj_type (q _ _ (x₁.trans (.of s₁ s₁.toks (Sub.push _ _))) (rep_newT (N.grow x₁.sub).bound rv)) (by
    show vs.toArray.size ≤ sizeLine
    rw [List.size_toArray, rv.length]; exact hz))

-- ints
theorem OP.add {a b : Int} : OP prog w k .Add (.int a) (.int b) (.int (a + b)) := fun A s H Q E va vb r _ ra rb q => by
  cases ra; cases rb; exact wpAny_add_int (q _ _ (.tok _ _) (.int _ _))
theorem OP.sub {a b : Int} : OP prog w k .Sub (.int a) (.int b) (.int (a - b)) := fun A s H Q E va vb r _ ra rb q => by
  cases ra; cases rb; exact sub_int' (q _ _ (.tok _ _) (.int _ _))
theorem OP.mul {a b : Int} (hm : IntMulOk a b) : OP prog w k .Mult (.int a) (.int b) (.int (a * b)) := fun A s H Q E va vb r _ ra rb q => by
  cases ra; cases rb; exact mul_int (q _ _ (.tok _ _) (.int _ _)) hm
theorem OP.mod {a b : Int} (hb : b ≠ 0) : OP prog w k .Mod (.int a) (.int b) (.int (a.fmod b)) := fun A s H Q E va vb r _ ra rb q => by
  cases ra; cases rb; exact mod_int' hb (q _ _ (.tok _ _) (.int _ _))
theorem OP.and {a b : Int} : OP prog w k .BitAnd (.int a) (.int b) (.int (Builtin.bitAnd a b)) := fun A s H Q E va vb r _ ra rb q => by
  cases ra; cases rb; exact and_int (q _ _ (.tok _ _) (.int _ _))
theorem OP.or {a b : Int} : OP prog w k .BitOr (.int a) (.int b) (.int (Builtin.bitOr a b)) := fun A s H Q E va vb r _ ra rb q => by
  cases ra; cases rb; exact or_int (q _ _ (.tok _ _) (.int _ _))
theorem OP.shl {a n : Int} (hn : 0 ≤ n) (hsz : (Builtin.Int.intBits a : Int) + n ≤ 2 ^ 27) : OP prog w k .LShift (.int a) (.int n) (.int (a * 2 ^ n.toNat)) := fun A s H Q E va vb r _ ra rb q => by
  cases ra; cases rb; exact lshift_int hn hsz (q _ _ (.tok _ _) (.int _ _))
theorem OP.shr {a n : Int} (hn : 0 ≤ n) : OP prog w k .RShift (.int a) (.int n) (.int (a.fdiv (2 ^ n.toNat))) := fun A s H Q E va vb r _ ra rb q => by
  cases ra; cases rb; exact rshift_int hn (q _ _ (.tok _ _) (.int _ _))
theorem OP.pow {a n : Int} (hn : 0 ≤ n) (hn2 : n ≤ 1000000) (ha : a.natAbs < 2 ^ 64) : OP prog w k .Pow (.int a) (.int n) (.int (a ^ n.toNat)) := fun A s H Q E va vb r _ ra rb q => by
  cases ra; cases rb; exact pow_int_small hn hn2 ha (q _ _ (.tok _ _) (.int _ _))
theorem OP.fdiv {a b : Int} (hb : b ≠ 0) (hb' : b.natAbs < 1073741824) : OP prog w k .FloorDiv (.int a) (.int b) (.int (a.fdiv b)) := fun A s H Q E va vb r _ ra rb q => by
  cases ra; cases rb
  exact floordiv_int hb (q _ _ (.tok _ _) (.int _ _)) (.inl (PyProof.noPylong_small hb'))
theorem CP.eq_int {a b : Int} : CP prog w k .Eq (.int a) (.int b) (a == b) := fun A s H Q E va vb r _ ra rb q => by
  cases ra; cases rb; exact PyProof.Rows.eq_int (q _ (.refl _))
theorem CP.ne_int {a b : Int} : CP prog w k .NotEq (.int a) (.int b) (a != b) := fun A s H Q E va vb r _ ra rb q => by
  cases ra; cases rb; exact PyProof.Rows.ne_int (q _ (.refl _))
theorem CP.lt_int {a b : Int} : CP prog w k .Lt (.int a) (.int b) (decide (a < b)) := fun A s H Q E va vb r _ ra rb q => by
  cases ra; cases rb; exact PyProof.Rows.lt_int (q _ (.refl _))
theorem CP.le_int {a b : Int} : CP prog w k .LtE (.int a) (.int b) (decide (a ≤ b)) := fun A s H Q E va vb r _ ra rb q => by
  cases ra; cases rb; exact PyProof.Rows.le_int (q _ (.refl _))
theorem CP.ge_int {a b : Int} : CP prog w k .GtE (.int a) (.int b) (decide (b ≤ a)) := fun A s H Q E va vb r _ ra rb q => by
  cases ra; cases rb; exact PyProof.Rows.ge_int (q _ (.refl _))
theorem CP.ne_bool {a b : Bool} : CP prog w k .NotEq (.bool a) (.bool b) (a != b) := fun A s H Q E va vb r _ ra rb q => by
  cases ra; cases rb; exact PyProof.Rows.ne_bool (q _ (.refl _))
theorem CP.eq_str {a b : Str} : CP prog w k .Eq (.str a) (.str b) (a == b) := fun A s H Q E va vb r _ ra rb q => by
  cases ra; cases rb; exact PyProof.Rows.eq_str (q _ (.refl _))
theorem CP.ne_str {a b : Str} : CP prog w k .NotEq (.str a) (.str b) (a != b) := fun A s H Q E va vb r _ ra rb q => by
  cases ra; cases rb; exact PyProof.Rows.ne_str (q _ (.refl _))
theorem TR.bool {b : Bool} : TR prog w k (.bool b) b := fun A s H Q E v r _ rv q => by
  cases rv; exact wpAny_truthy_bool (q _ (.refl _))
theorem TR.int {a : Int} : TR prog w k (.int a) (a != 0) := fun A s H Q E v r _ rv q => by
  cases rv; exact PyProof.Rows.truthy_int (q _ (.refl _))
end
end

section
section
variable {prog : Program} {w : World} {G : Pg} {k : Nat} {env : Env} {ρ : List (Str × D)} {σ : List (Addr × List D)}

theorem tail_go {A : Around} {E : Value → Shared → Prop} {s : Shared} {value slice : Expr} {o i : Value} {T id : String} {ops : List Value} {Q : Value → Shared → Prop} (hT : s.TypeIs o T)
    (hl : typeLookup (.type T) "__getitem__" = pure (some (.builtin id))) (h : wpAny (model prog w) A (getItem o i) Q E s)
    (hs : subscripted slice false o i = operate ops (getItem o i)) : wpAny (model prog w) A (subscriptTail value slice o i) Q E s := by
  unfold subscriptTail
  refine wpAny_bind ?_
  rw [getitemInPython_of_ne hT.not_modules]
  refine wpAny_bind (wpAny_specialOf hT hl ?_)
  have fin : wpAny (model prog w) A (subscripted slice false o i) (fun r s₃ => wpAny (model prog w) A (letTemporaryGo value o r >>= fun _ => pure r) Q E s₃) E s := by
    rw [hs]
    exact wpAny_operating (wpAny_mono h (fun r s₃ h₃ => wpAny_bind (wpAny_letTemporaryGo (wpAny_pure h₃))) fun _ _ x => x)
  first
    | exact wpAny_pure (wpAny_bind fin)
    | exact wpAny_bind (wpAny_pure (wpAny_bind fin))
    | exact wpAny_bind fin

/-- an item -/
def IX (prog : Program) (w : World) (k : Nat) (da di d : D) : Prop :=
  ∀ (A : Around) (s : Shared) (H : List Addr) (Q E : Value → Shared → Prop) (va vi : Value), Room k A → Bound H s.heap → Rep (vis H s.heap) va da → Rep (vis H s.heap) vi di →
    (∀ v s', Ext s s' → Rep (vis H s'.heap) v d → Q v s') → ∃ T id, typeLookup (.type T) "__getitem__" = pure (some (.builtin id)) ∧ s.TypeIs va T ∧ wpAny (model prog w) A (getItem va vi) Q E s
theorem EV.sub {e i : Expr} {pos : Pos} {da di d : D} (h : EV prog w G k env ρ σ e da) (hi : EV prog w G k env ρ σ i di) (hx : IX prog w k da di d)
    (hs : ∀ o v, subscripted i false o v = operate [o, v] (getItem o v) := by intro _ _; rfl) : EV prog w G k env ρ σ (.Subscript e i pos) d := fun A s H Q E r N q =>
  Subscript_ (h A s H _ E r N fun va s₁ x₁ ra => hi A s₁ H _ E r (N.grow x₁.sub) fun vi s₂ x₂ ri => by
    obtain ⟨T, id, hl, hT, hg⟩ := hx A s₂ H Q E va vi r (N.grow (x₁.trans x₂).sub).bound (ra.mono x₂.sub.vis) ri fun v s₃ x₃ rv => q v s₃ ((x₁.trans x₂).trans x₃) rv
    exact tail_go hT hl hg (hs _ _))

theorem fits_small {i : Int} (h0 : -(2 ^ 62) ≤ i) (h1 : i < 2 ^ 62) : (decide (i < -(2 ^ 63 : Int)) || decide (i ≥ 2 ^ 63)) = false := by
  rw [Bool.or_eq_false_iff]; exact ⟨decide_eq_false (by omega), decide_eq_false (by omega)⟩
theorem IX.list {ds : List D} {i : Int} {d : D} (h0 : 0 ≤ i) (hi : i < 2 ^ 62) (hd : ds[i.toNat]? = some d) : IX prog w k (.list ds) (.int i) d := fun A s H Q E va vi r b ra ri q => by
  cases ri
  cases ra with
  | list hl rl =>
    obtain ⟨v, e, rv⟩ := rl.get hd
    have hl' : IsL s.heap _ _ _ := vis_of hl
    exact ⟨"list", _, slot_list_getitem.lookup, hl'.isList.typeIs, wpAny_getItem_list hl'.isList h0 (by omega) (by simpa using e) (q _ _ (.refl s) rv)⟩
theorem IX.list_neg {ds : List D} {i : Int} {d : D} (h0 : i < 0) (hn : -(ds.length : Int) ≤ i) (hi : -(2 ^ 62) ≤ i) (hd : ds[(i + ds.length).toNat]? = some d) : IX prog w k (.list ds) (.int i) d := fun A s H Q E va vi r b ra ri q => by
  cases ri
  cases ra with
  | list hl rl =>
    have hlen := rl.length
    obtain ⟨v, e, rv⟩ := rl.get hd
    have hl' : IsL s.heap _ _ _ := vis_of hl
    refine ⟨"list", _, slot_list_getitem.lookup, hl'.isList.typeIs, wpAny_getItem_list_neg hl'.isList h0 (by rw [List.size_toArray, hlen]; omega) (by omega) ?_ (q _ _ (.refl s) rv)⟩
    simpa [hlen] using e
theorem IX.str {x : Str} {i : Int} {c : Nat} (h0 : -(2 ^ 62) ≤ i) (h1 : i < 2 ^ 62) (hc : (seqIndex? i x.length).bind (x.cps[·]?) = some c) : IX prog w k (.str x) (.int i) (.str ⟨#[c]⟩) := fun A s H Q E va vi r b ra ri q => by
  cases ri; cases ra
  exact ⟨"str", _, F.slot_str_getitem.lookup, typeIs_str _ _ _, P.getItem_str (fits_small h0 h1) hc (q _ _ (.tok s _) (.str _ _))⟩

/-- the parts of a slice -/
def PT (prog : Program) (w : World) (G : Pg) (k : Nat) (env : Env) (ρ : List (Str × D)) (σ : List (Addr × List D)) (p : Option Expr) (x : Option Int) : Prop := match p, x with
  | Option.none, Option.none => True
  | some e, some i => EV prog w G k env ρ σ e (.int i)
  | _, _ => False
theorem PT.run {p : Option Expr} {x : Option Int} (h : PT prog w G k env ρ σ p x) {A : Around} {s : Shared} {H : List Addr} {Q : Value → Shared → Prop} {E : Value → Shared → Prop} (r : Room k A) (N : Nm G env ρ σ H s.heap)
    (q : ∀ t s', Ext s s' → Q (partValue (x.map fun i => (i, t))) s') : wpAny (model prog w) A (evalPart p env) Q E s := by
  cases p with
  | none => cases x with
    | none => exact wpAny_evalPart_none (q 0 s (.refl s))
    | some => exact h.elim
  | some e => cases x with
    | none => exact h.elim
    | some i => exact wpAny_evalPart_some (h A s H _ E r N fun v s' x' rv => by cases rv; exact q _ s' x')

def pickD (ds : List D) (lo hi st : Option Int) : List D :=
  (sliceRange (sliceBounds lo hi st ds.length).1 (sliceBounds lo hi st ds.length).2.1 (sliceBounds lo hi st ds.length).2.2).filterMap (ds[·]?)
theorem RepL.pick {g : Heap} {vs : List Value} {ds : List D} (h : RepL g vs ds) (l : List Nat) : RepL g (l.filterMap (vs[·]?)) (l.filterMap (ds[·]?)) := by
  induction l with
  | nil => exact .nil
  | cons a l ih =>
    simp only [List.filterMap_cons]
    cases e : ds[a]? with
    | none =>
      have : vs[a]? = none := by
        rw [List.getElem?_eq_none_iff] at e ⊢
        rw [h.length]; exact e
      rw [this]; exact ih
    | some d =>
      obtain ⟨v, e', rv⟩ := h.get e
      rw [e']
      exact .cons rv ih
theorem rep_slicePick {g : Heap} {vs : List Value} {ds : List D} (h : RepL g vs ds) (lo hi st : Option Int) : RepL g (slicePick vs.toArray lo hi st).toList (pickD ds lo hi st) := by
  unfold slicePick pickD
  simp only [List.size_toArray, h.length]
  have := h.pick (sliceRange (sliceBounds lo hi st ds.length).1 (sliceBounds lo hi st ds.length).2.1 (sliceBounds lo hi st ds.length).2.2)
  simpa using this
theorem isPart_of (x : Option Int) (t : Tok) : IsPart (partValue (x.map fun i => (i, t))) x := by
  cases x with
  | none => exact .none
  | some i => exact .int i t

def cutS (x : Str) (lo hi st : Option Int) : Str :=
  if (st.getD 1 == 1 && (Builtin.Str.strSliceIndices lo hi (st.getD 1) x.length).length == x.length) = true then x else ⟨((Builtin.Str.strSliceIndices lo hi (st.getD 1) x.length).filterMap (x.cps[·]?)).toArray⟩
theorem cutS_le (x : Str) (lo hi st : Option Int) (h0 : st ≠ some 0) : (cutS x lo hi st).length ≤ x.length := by
  unfold cutS
  split
  · exact Nat.le_refl _
  · show (List.filterMap _ _).toArray.size ≤ x.length
    rw [List.size_toArray]
    refine Nat.le_trans (List.length_filterMap_le _ _) (sliceIndicesBy_le _ _ _ ?_ x.length)
    cases st with
    | none => decide
    | some c => intro e; exact h0 (by rw [show c = 0 from e])

theorem EV.slice_list {e : Expr} {lo hi st : Option Expr} {p pos : Pos} {ds : List D} {l u t : Option Int} (h : EV prog w G k env ρ σ e (.list ds)) (hl : PT prog w G k env ρ σ lo l) (hu : PT prog w G k env ρ σ hi u) (ht : PT prog w G k env ρ σ st t)
    (h0 : t ≠ some 0) (hz : ds.length ≤ sizeLine) (hs : ∀ o v, ∃ ops, subscripted (.Slice lo hi st p) false o v = operate ops (getItem o v) := by intro _ _; exact ⟨_, rfl⟩) : EV prog w G k env ρ σ (.Subscript e (.Slice lo hi st p) pos) (.list (pickD ds l u t)) := fun A s H Q E r N q =>
  Subscript_ (h A s H _ E r N fun va s₁ x₁ ra => wpAny_Slice (hl.run r (N.grow x₁.sub) fun tl s₂ x₂ => hu.run r (N.grow (x₁.trans x₂).sub) fun tu s₃ x₃ => ht.run r (N.grow ((x₁.trans x₂).trans x₃).sub) fun tt s₄ x₄ => by
    obtain ⟨ops, hop⟩ := hs va (.ref s₄.heap.objs.size)
    have x14 := (x₂.trans x₃).trans x₄
    have xs := x₁.trans x14
    cases ra with
    | list hL rl =>
      rename_i a vs n
      have hL4 : IsL (s₄.heap.push { cls := .type "slice", data := .fields #[partValue (l.map fun i => (i, tl)), partValue (u.map fun i => (i, tu)), partValue (t.map fun i => (i, tt))] }) a vs.toArray n := Heap.get?_push_of_some _ (x14.sub _ _ (vis_of hL))
      refine tail_go (Heap.IsList.typeIs (s := { s₄ with heap := s₄.heap.push _ }) hL4.isList) list_getitem_lookup (wpAny_getItem_list_slice hL4.isList (Heap.IsSliceOf.new ..) (isPart_of l tl) (isPart_of u tu) (isPart_of t tt) h0 ?_ (by
        rw [List.size_toArray, rl.length]; exact hz)) hop
      have b5 := ((N.grow xs.sub).bound)
      have x5 := Sub.push s₄.heap { cls := .type "slice", data := .fields #[partValue (l.map fun i => (i, tl)), partValue (u.map fun i => (i, tu)), partValue (t.map fun i => (i, tt))] }
      refine q _ _ (xs.trans (.of s₄ s₄.toks (x5.trans (Sub.push _ _)))) ?_
      have := rep_new (H := H) (vs := (slicePick vs.toArray l u t).toList) (ds := pickD ds l u t) (Bound.grow b5 x5) (rep_slicePick ((rl.mono x14.sub.vis).mono x5.vis) l u t)
      simpa using this))

theorem EV.slice_str {e : Expr} {lo hi st : Option Expr} {p pos : Pos} {x : Str} {l u t : Option Int} (h : EV prog w G k env ρ σ e (.str x)) (hl : PT prog w G k env ρ σ lo l) (hu : PT prog w G k env ρ σ hi u) (ht : PT prog w G k env ρ σ st t)
    (h0 : t ≠ some 0) (hz : x.length ≤ sizeLine) (hs : ∀ o v, ∃ ops, subscripted (.Slice lo hi st p) false o v = operate ops (getItem o v) := by intro _ _; exact ⟨_, rfl⟩) : EV prog w G k env ρ σ (.Subscript e (.Slice lo hi st p) pos) (.str (cutS x l u t)) := fun A s H Q E r N q =>
  Subscript_ (h A s H _ E r N fun va s₁ x₁ ra => wpAny_Slice (hl.run r (N.grow x₁.sub) fun tl s₂ x₂ => hu.run r (N.grow (x₁.trans x₂).sub) fun tu s₃ x₃ => ht.run r (N.grow ((x₁.trans x₂).trans x₃).sub) fun tt s₄ x₄ => by
    obtain ⟨ops, hop⟩ := hs va (.ref s₄.heap.objs.size)
    have xs := x₁.trans ((x₂.trans x₃).trans x₄)
    cases ra with
    | str _ tx =>
      refine tail_go (T := "str") (typeIs_str _ _ _) F.slot_str_getitem.lookup (wpAny_getItem_str_slice (l := l.map fun i => (i, tl)) (u := u.map fun i => (i, tu)) (st := t.map fun i => (i, tt)) ⟨_, Heap.get?_push_size _ rfl, rfl, rfl⟩ ?_ ?_) hop
      · cases t with
        | none => rfl
        | some c => simpa using fun e : c = 0 => h0 (by rw [e])
      · have key : sliceMade x tx (l.map fun i => (i, tl)) (u.map fun i => (i, tu)) (t.map fun i => (i, tt)) =
            if (t.getD 1 == 1 && (Builtin.Str.strSliceIndices l u (t.getD 1) x.length).length == x.length) = true then Made.val (.str x tx) else Made.str ⟨((Builtin.Str.strSliceIndices l u (t.getD 1) x.length).filterMap (x.cps[·]?)).toArray⟩ := by
          unfold sliceMade slicePicked
          have m : ∀ (a : Option Int) (t' : Tok), (a.map fun i => (i, t')).map (·.1) = a := fun a t' => by cases a <;> rfl
          simp only [m]
        rw [key]
        refine post_val_or_str ⟨Nat.le_trans (cutS_le x l u t h0) hz, fun t' k' => ?_⟩
        exact q _ _ (xs.trans (.of s₄ _ (Sub.push _ _))) (.str _ _)))

theorem OP.addL {ds es : List D} (hz : ds.length + es.length ≤ sizeLine) : OP prog w k .Add (.list ds) (.list es) (.list (ds ++ es)) := fun A s H Q E va vb r b ra rb q => by
  cases ra with
  | list hl rl => cases rb with
    | list hl' rl' =>
      refine P.add_list (vis_of hl) (vis_of hl') ?_ (by simp only [List.size_toArray, rl.length, rl'.length]; exact hz)
      have := rep_new b (rl.append rl')
      simp only [← List.append_toArray] at this ⊢
      exact q _ _ (.of s s.toks (Sub.push _ _)) this
theorem OP.addS {x y : Str} (hz : x.length + y.length ≤ sizeLine) : OP prog w k .Add (.str x) (.str y) (.str (x ++ y)) := fun A s H Q E va vb r b ra rb q => by
  cases ra; cases rb
  exact PyProof.Rows.add_str (fun t' tk => q _ _ (.tok s tk) (.str _ _)) hz
end
end

section
/-- what is known of the program at every place: a written part, the globals, the built-ins -/
structure Kn where
  K : Frag
  mg : Str → Option Value
  mb : Str → Option Value
def Kn.pg (κ : Kn) : Pg where
  P g := κ.K.In g ∧ g.Ns mainGlobals κ.mg ∧ g.Ns builtinsNs κ.mb ∧ g.NoLimit
  mono k q := ⟨fun a o e => k _ _ (q.1 a o e), q.2.1.keeps k, q.2.2.1.keeps k, q.2.2.2.keeps k⟩

section
variable {prog : Program} {w : World} {κ : Kn} {k : Nat} {env : Env} {ρ : List (Str × D)} {σ : List (Addr × List D)}

theorem EV.gname {x : Str} {v : Value} {pos : Pos} (hx : env.kindOf x = some .globalImplicit) (hg : env.globals = mainGlobals) (hv : κ.mg x = some v) (hd : (x == ("__debug__" : Str)) = false := by decide) :
    EV prog w κ.pg k env ρ σ (.Name x pos) (.val v) := fun A s H Q E r N q =>
  Calls.Name_function_global N.fn hx (Calls.loadGlobal_global (hg ▸ (N.prog.2.1.keeps (vis_le _ _))) hv (q _ _ (.refl s) (.val _))) hd
theorem EV.bname {x : Str} {v : Value} {pos : Pos} (hx : env.kindOf x = some .globalImplicit) (hg : env.globals = mainGlobals) (hbn : env.builtins = builtinsNs) (hv : κ.mg x = Option.none) (hb : κ.mb x = some v) (hd : (x == ("__debug__" : Str)) = false := by decide) :
    EV prog w κ.pg k env ρ σ (.Name x pos) (.val v) := fun A s H Q E r N q =>
  Calls.Name_function_global N.fn hx (Calls.loadGlobal_builtin (hg ▸ (N.prog.2.1.keeps (vis_le _ _))) hv (hbn ▸ (N.prog.2.2.1.keeps (vis_le _ _))) hb (q _ _ (.refl s) (.val _))) hd

/-- a call of a function of the program: its contract on plain data -/
def FN (prog : Program) (w : World) (G : Pg) (k : Nat) (a : Addr) (ds : List D) (d : D) : Prop :=
  ∀ (A : Around) (s : Shared) (H : List Addr) (Q E : Value → Shared → Prop) (vs : List Value), Room k A → G.P (vis H s.heap) → Bound H s.heap → RepL (vis H s.heap) vs ds →
    (∀ v s', Ext s s' → Rep (vis H s'.heap) v d → Q v s') → wpAny (model prog w) A (call (.ref a) vs) Q E s
/-- a call of a built-in function -/
def BN (prog : Program) (w : World) (k : Nat) (f : Value) (ds : List D) (d : D) : Prop :=
  ∀ (A : Around) (s : Shared) (H : List Addr) (Q E : Value → Shared → Prop) (vs : List Value), Room k A → Bound H s.heap → RepL (vis H s.heap) vs ds →
    (∀ v s', Ext s s' → Rep (vis H s'.heap) v d → Q v s') → wpAny (model prog w) A (call f vs) Q E s

theorem evalArgs_EVS {G : Pg} {e : Expr} {es : List Expr} {ds : List D} {f : Value} {pos : Pos} (h : EVS prog w G k env ρ σ (e :: es) ds) (he : starEach (e :: es) env = (false, eval e env) :: starEach es env) {A : Around} {s : Shared} {H : List Addr} {Q : Args → Shared → Prop} {E : Value → Shared → Prop} (r : Room k A) (N : Nm G env ρ σ H s.heap)
    (q : ∀ vs s', Ext s s' → RepL (vis H s'.heap) vs ds → Q ⟨vs, []⟩ s') : wpAny (model prog w) A (evalArgs f true (backTo pos (starEach (e :: es) env)) []) Q E s := by
  have h' := h A s H (fun vs s' => Q ⟨vs, []⟩ s') E pos r N q
  rw [he] at h' ⊢
  exact Calls.evalArgs_plain h'

theorem EV.call {f e : Expr} {es : List Expr} {pos : Pos} {a : Addr} {ds : List D} {d : D} (hf : EV prog w κ.pg k env ρ σ f (.val (.ref a))) (h : EVS prog w κ.pg k env ρ σ (e :: es) ds) (fn : FN prog w κ.pg k a ds d)
    (hfn : ∃ o fd, κ.K.lookup a = some o ∧ o.data = .func fd) (he : starEach (e :: es) env = (false, eval e env) :: starEach es env := by rfl)
    (hc : ∀ e', eval (.Call f (e :: es) [] pos) e' = (do callWith pos (← eval f e') [] (backTo pos (starEach (e :: es) e')) (backToKw pos (keywordEach [] e'))) := by intro _; rfl) :
    EV prog w κ.pg k env ρ σ (.Call f (e :: es) [] pos) d := fun A s H Q E r N q => by
  obtain ⟨o, fd, ho, hfd⟩ := hfn
  rw [hc]
  refine wpAny_bind (hf A s H _ E r N fun vf s₁ x₁ rf => ?_)
  cases rf
  refine Calls.callWith_function (o := o) (fd := fd) (evalArgs_EVS h he r (N.grow x₁.sub) fun vs s₂ x₂ rv => ?_)
  have N2 := N.grow (x₁.trans x₂).sub
  exact ⟨⟨vis_of (N2.prog.1 _ _ ho), hfd⟩, fn A s₂ H Q E vs r N2.prog N2.bound rv fun v s₃ x₃ rv' => q v s₃ ((x₁.trans x₂).trans x₃) rv'⟩
theorem EV.call0 {f : Expr} {pos : Pos} {a : Addr} {d : D} (hf : EV prog w κ.pg k env ρ σ f (.val (.ref a))) (fn : FN prog w κ.pg k a [] d)
    (hfn : ∃ o fd, κ.K.lookup a = some o ∧ o.data = .func fd)
    (hc : ∀ e', eval (.Call f [] [] pos) e' = (do callWith pos (← eval f e') [] (backTo pos (starEach [] e')) (backToKw pos (keywordEach [] e'))) := by intro _; rfl) :
    EV prog w κ.pg k env ρ σ (.Call f [] [] pos) d := fun A s H Q E r N q => by
  obtain ⟨o, fd, ho, hfd⟩ := hfn
  rw [hc]
  refine wpAny_bind (hf A s H _ E r N fun vf s₁ x₁ rf => ?_)
  cases rf
  have N1 := N.grow x₁.sub
  refine Calls.callWith_function (o := o) (fd := fd) (PyProof.Rows.evalArgs_nil3 ?_)
  exact ⟨⟨vis_of (N1.prog.1 _ _ ho), hfd⟩, fn A s₁ H Q E [] r N1.prog N1.bound .nil fun v s₃ x₃ rv' => q v s₃ (x₁.trans x₃) rv'⟩
theorem EV.bcall {f e : Expr} {es : List Expr} {pos : Pos} {id : String} {ds : List D} {d : D} (hf : EV prog w κ.pg k env ρ σ f (.val (.builtin id))) (h : EVS prog w κ.pg k env ρ σ (e :: es) ds) (fn : BN prog w k (.builtin id) ds d)
    (hp : ∀ e', (backTo pos (starEach (e :: es) e')).any (·.1) = false := by intro _; rfl) (he : starEach (e :: es) env = (false, eval e env) :: starEach es env := by rfl)
    (hc : ∀ e', eval (.Call f (e :: es) [] pos) e' = (do callWith pos (← eval f e') [] (backTo pos (starEach (e :: es) e')) (backToKw pos (keywordEach [] e'))) := by intro _; rfl) :
    EV prog w κ.pg k env ρ σ (.Call f (e :: es) [] pos) d := fun A s H Q E r N q => by
  rw [hc]
  refine wpAny_bind (hf A s H _ E r N fun vf s₁ x₁ rf => ?_)
  cases rf
  refine Calls.callWith_builtin (hp _) (evalArgs_EVS h he r (N.grow x₁.sub) fun vs s₂ x₂ rv => ?_)
  exact fn A s₂ H Q E vs r (N.grow (x₁.trans x₂).sub).bound rv fun v s₃ x₃ rv' => q v s₃ ((x₁.trans x₂).trans x₃) rv'

-- the frame's own state
inductive Upd (x : Str) (d : D) : List (Str × D) → List (Str × D) → Prop
  | nil : Upd x d [] [(x, d)]
  | here {d₀ : D} {r : List (Str × D)} : Upd x d ((x, d₀) :: r) ((x, d) :: r)
  | skip {y : Str} {e : D} {r r' : List (Str × D)} : y ≠ x → Upd x d r r' → Upd x d ((y, e) :: r) ((y, e) :: r')
theorem Upd.mem {x : Str} {d : D} {r r' : List (Str × D)} (u : Upd x d r r') : (r.map (·.1)).Nodup → ∀ p ∈ r', p = (x, d) ∨ (p.1 ≠ x ∧ p ∈ r) := by
  induction u with
  | nil => intro _ p hp; exact .inl (List.mem_singleton.mp hp)
  | @here d₀ r =>
    intro hn p hp
    rcases List.mem_cons.mp hp with e | hp
    · exact .inl e
    · refine .inr ⟨fun e => ?_, .tail _ hp⟩
      have := (List.nodup_cons.mp hn).1
      exact this (e ▸ List.mem_map.mpr ⟨p, hp, rfl⟩)
  | @skip y e r r' hy _ ih =>
    intro hn p hp
    rcases List.mem_cons.mp hp with q | hp
    · exact .inr ⟨by rw [q]; exact hy, by rw [q]; exact .head _⟩
    · exact (ih (List.nodup_cons.mp hn).2 p hp).imp_right fun h => ⟨h.1, .tail _ h.2⟩
theorem Upd.names {x : Str} {d : D} {r r' : List (Str × D)} (u : Upd x d r r') : ∀ y, y ∈ r'.map (·.1) → y = x ∨ y ∈ r.map (·.1) := by
  induction u with
  | nil => intro y hy; exact .inl (List.mem_singleton.mp hy)
  | here =>
    intro y hy
    rcases List.mem_cons.mp hy with e | hy
    · exact .inl e
    · exact .inr (.tail _ hy)
  | @skip z e r r' hy _ ih =>
    intro y hy'
    rcases List.mem_cons.mp hy' with e | hy'
    · exact .inr (e ▸ .head _)
    · exact (ih y hy').imp_right fun h => .tail _ h
theorem Upd.nodup {x : Str} {d : D} {r r' : List (Str × D)} (u : Upd x d r r') : (r.map (·.1)).Nodup → (r'.map (·.1)).Nodup := by
  induction u with
  | nil => intro _; exact List.nodup_cons.mpr ⟨List.not_mem_nil, .nil⟩
  | here => exact id
  | @skip z e r r' hy u ih =>
    intro hn
    have h1 := List.nodup_cons.mp hn
    refine List.nodup_cons.mpr ⟨fun hm => ?_, ih h1.2⟩
    rcases u.names _ hm with q | q
    · exact hy q
    · exact h1.1 q

def own (env : Env) (σ : List (Addr × List D)) : List Addr := env.locals :: (env.cells.map (·.2) ++ σ.map (·.1))

structure St (G : Pg) (h₀ : Heap) (H₀ : List Addr) (env : Env) (ρ : List (Str × D)) (σ : List (Addr × List D)) (h : Heap) : Prop where
  base : Sub h₀ h
  nm : Nm G env ρ σ (own env σ ++ H₀) h
  fresh : ∀ a ∈ own env σ, h₀.get? a = none
  nodup : (own env σ).Nodup
  names : (ρ.map (·.1)).Nodup
  ns : ∃ m, h.Ns env.locals m
  cells : ∀ q ∈ env.cells, ∃ v, h.IsCell q.2 v
  apart : ∀ a ∈ own env σ, a ∉ H₀
variable {G : Pg} {h₀ : Heap} {H₀ : List Addr} {h h' : Heap}

theorem ns_unique {h : Heap} {a : Addr} {m m' : Str → Option Value} (x : h.Ns a m) (y : h.Ns a m') : m = m' := by
  obtain ⟨o, es, ep, ho, hd, _, hf⟩ := x
  obtain ⟨o', es', ep', ho', hd', _, hf'⟩ := y
  rw [ho] at ho'; cases ho'
  rw [hd] at hd'; cases hd'
  funext n
  rw [← hf n, ← hf' n]
theorem St.grow (S : St G h₀ H₀ env ρ σ h) (k : Sub h h') : St G h₀ H₀ env ρ σ h' where
  base := S.base.trans k
  nm := S.nm.grow k
  fresh := S.fresh
  nodup := S.nodup
  names := S.names
  ns := let ⟨m, n⟩ := S.ns; ⟨m, n.keeps k⟩
  cells := fun q hq => let ⟨v, c⟩ := S.cells q hq; ⟨v, c.keeps k⟩
  apart := S.apart
theorem St.locals_mem (S : St G h₀ H₀ env ρ σ h) : env.locals ∈ own env σ := .head _
theorem own_cell {q : Str × Addr} (hq : q ∈ env.cells) : q.2 ∈ own env σ := .tail _ (List.mem_append.mpr (.inl (List.mem_map.mpr ⟨q, hq, rfl⟩)))
theorem own_loc {p : Addr × List D} (hp : p ∈ σ) : p.1 ∈ own env σ := .tail _ (List.mem_append.mpr (.inr (List.mem_map.mpr ⟨p, hp, rfl⟩)))
theorem St.ne_cell (S : St G h₀ H₀ env ρ σ h) {q : Str × Addr} (hq : q ∈ env.cells) : env.locals ≠ q.2 := fun e =>
  (List.nodup_cons.mp S.nodup).1 (e ▸ List.mem_append.mpr (.inl (List.mem_map.mpr ⟨q, hq, rfl⟩)))
theorem St.ne_loc (S : St G h₀ H₀ env ρ σ h) {p : Addr × List D} (hp : p ∈ σ) : env.locals ≠ p.1 := fun e =>
  (List.nodup_cons.mp S.nodup).1 (e ▸ List.mem_append.mpr (.inr (List.mem_map.mpr ⟨p, hp, rfl⟩)))
theorem St.cell_ne_loc (S : St G h₀ H₀ env ρ σ h) {q : Str × Addr} (hq : q ∈ env.cells) {p : Addr × List D} (hp : p ∈ σ) : q.2 ≠ p.1 := fun e => by
  have := (List.nodup_append.mp (List.nodup_cons.mp S.nodup).2).2.2
  exact this _ (List.mem_map.mpr ⟨q, hq, rfl⟩) _ (List.mem_map.mpr ⟨p, hp, rfl⟩) e
theorem nodup_addr : ∀ {l : List (Str × Addr)}, (l.map (·.2)).Nodup → ∀ {n n' : Str} {c : Addr}, (n, c) ∈ l → (n', c) ∈ l → n = n'
  | x :: r, hn, n, n', c, h, h' => by
    have hn' := List.nodup_cons.mp hn
    rcases List.mem_cons.mp h with e | h <;> rcases List.mem_cons.mp h' with e' | h'
    · rw [← e'] at e; exact (Prod.mk.inj e).1
    · exact absurd (List.mem_map.mpr ⟨_, h', rfl⟩) (by rw [← e] at hn'; exact hn'.1)
    · exact absurd (List.mem_map.mpr ⟨_, h, rfl⟩) (by rw [← e'] at hn'; exact hn'.1)
    · exact nodup_addr hn'.2 h h'
theorem St.cell_inj (S : St G h₀ H₀ env ρ σ h) {n n' : Str} {c : Addr} (h1 : (n, c) ∈ env.cells) (h2 : (n', c) ∈ env.cells) : n = n' :=
  nodup_addr (List.nodup_append.mp (List.nodup_cons.mp S.nodup).2).1 h1 h2

/-- a store to one object of the frame's own keeps the view -/
theorem St.vis_same (S : St G h₀ H₀ env ρ σ h) {a : Addr} (ha : a ∈ own env σ) (hs : Heap.SameBut a h h') : Sub (vis (own env σ ++ H₀) h) (vis (own env σ ++ H₀) h') :=
  vis_sub fun b o hb e => (hs.2 b (fun q => hb (List.mem_append.mpr (.inl (q ▸ ha))))).trans e
theorem St.base_same (S : St G h₀ H₀ env ρ σ h) {a : Addr} (ha : a ∈ own env σ) (hs : Heap.SameBut a h h') : Sub h₀ h' := fun b o e =>
  (hs.2 b fun q => by have := S.fresh a ha; rw [← q, e] at this; cases this).trans (S.base b o e)
theorem St.bound_same (S : St G h₀ H₀ env ρ σ h) {a : Addr} (hs : Heap.SameBut a h h') (ho : ∃ o, h'.get? a = some o) : Bound (own env σ ++ H₀) h' := fun b hb => by
  by_cases q : b = a
  · exact q ▸ ho
  · obtain ⟨o, e⟩ := S.nm.bound b hb
    exact ⟨o, (hs.2 b q).trans e⟩

/-- a local is stored -/
theorem St.local (S : St G h₀ H₀ env ρ σ h) {x : Str} {v : Value} {d : D} {ρ' : List (Str × D)} {m : Str → Option Value} (hk : env.kindOf x = some .local) (hn : h.Ns env.locals m) (u : Upd x d ρ ρ') (rv : Rep (vis (own env σ ++ H₀) h) v d)
    (hn' : h'.Ns env.locals (fun y => if y = x then some v else m y)) (hs : Heap.SameBut env.locals h h') : St G h₀ H₀ env ρ' σ h' := by
  have ha : env.locals ∈ own env σ := .head _
  have hv := S.vis_same ha hs
  refine ⟨S.base_same ha hs, ⟨G.mono hv S.nm.prog, S.nm.fn, S.bound_same hs (let ⟨o, _, _, e, _⟩ := hn'; ⟨o, e⟩), fun p hp => ?_, fun p hp => ?_⟩, S.fresh, S.nodup, u.nodup S.names, ⟨_, hn'⟩, fun q hq => ?_, S.apart⟩
  · rcases u.mem S.names p hp with e | ⟨hne, hp⟩
    · subst e
      exact ⟨v, .inl ⟨hk, _, hn', by simp⟩, rv.mono hv⟩
    · obtain ⟨v', hh, rp⟩ := S.nm.names p hp
      refine ⟨v', ?_, rp.mono hv⟩
      rcases hh with ⟨a, m', n', e⟩ | ⟨a, c, l, n'⟩
      · have := ns_unique n' hn
        subst this
        exact .inl ⟨a, _, hn', by simpa [hne] using e⟩
      · exact .inr ⟨a, c, l, n'.sameBut hs (S.ne_cell (q := (p.1, c)) (mem_of_lookup l)).symm⟩
  · obtain ⟨vs, n, hl, rl⟩ := S.nm.locs p hp
    exact ⟨vs, n, (hs.2 _ (S.ne_loc hp).symm).trans hl, rl.mono hv⟩
  · obtain ⟨v', c⟩ := S.cells q hq
    exact ⟨v', c.sameBut hs (S.ne_cell hq).symm⟩
/-- a cell is stored -/
theorem St.cell (S : St G h₀ H₀ env ρ σ h) {x : Str} {v : Value} {d : D} {ρ' : List (Str × D)} {c : Addr} (hk : env.kindOf x = some .cell) (hc : env.cells.lookup x = some c) (u : Upd x d ρ ρ') (rv : Rep (vis (own env σ ++ H₀) h) v d)
    (hn' : h'.IsCell c (some v)) (hs : Heap.SameBut c h h') : St G h₀ H₀ env ρ' σ h' := by
  have hm : (x, c) ∈ env.cells := mem_of_lookup hc
  have ha : c ∈ own env σ := own_cell (q := (x, c)) hm
  have hv := S.vis_same ha hs
  refine ⟨S.base_same ha hs, ⟨G.mono hv S.nm.prog, S.nm.fn, S.bound_same hs (let ⟨o, e, _⟩ := hn'; ⟨o, e⟩), fun p hp => ?_, fun p hp => ?_⟩, S.fresh, S.nodup, u.nodup S.names, ?_, fun q hq => ?_, S.apart⟩
  · rcases u.mem S.names p hp with e | ⟨hne, hp⟩
    · subst e
      exact ⟨v, .inr ⟨.inl hk, c, hc, hn'⟩, rv.mono hv⟩
    · obtain ⟨v', hh, rp⟩ := S.nm.names p hp
      refine ⟨v', ?_, rp.mono hv⟩
      rcases hh with ⟨a, m', n', e⟩ | ⟨a, c', l, n'⟩
      · exact .inl ⟨a, m', n'.sameBut hs (S.ne_cell (q := (x, c)) hm), e⟩
      · refine .inr ⟨a, c', l, n'.sameBut hs fun q => hne ?_⟩
        subst q
        exact S.cell_inj (mem_of_lookup l) hm
  · obtain ⟨vs, n, hl, rl⟩ := S.nm.locs p hp
    exact ⟨vs, n, (hs.2 _ (S.cell_ne_loc (q := (x, c)) hm hp).symm).trans hl, rl.mono hv⟩
  · obtain ⟨m, n⟩ := S.ns
    exact ⟨m, n.sameBut hs (S.ne_cell (q := (x, c)) hm)⟩
  · obtain ⟨v', c'⟩ := S.cells q hq
    by_cases e : q.2 = c
    · exact ⟨some v, by rw [e]; exact hn'⟩
    · exact ⟨v', c'.sameBut hs e⟩
/-- one list of the frame's own is changed -/
theorem St.list (S : St G h₀ H₀ env ρ σ h) {a : Addr} {ds ds' : List D} {σ₁ σ₂ : List (Addr × List D)} {vs' : List Value} {n' : Nat} (e : σ = σ₁ ++ (a, ds) :: σ₂)
    (rl : RepL (vis (own env σ ++ H₀) h) vs' ds') (hl' : IsL h' a vs'.toArray n') (hs : Heap.SameBut a h h') : St G h₀ H₀ env ρ (σ₁ ++ (a, ds') :: σ₂) h' := by
  have hm : (a, ds) ∈ σ := by rw [e]; simp
  have ha : a ∈ own env σ := own_loc (p := (a, ds)) hm
  have hv := S.vis_same ha hs
  have eo : own env (σ₁ ++ (a, ds') :: σ₂) = own env σ := by subst e; simp [own]
  have hne : ∀ p ∈ σ₁ ++ σ₂, p.1 ≠ a := fun p hp q => by
    have := (List.nodup_append.mp (List.nodup_cons.mp S.nodup).2).2.1
    subst e
    rw [List.map_append, List.map_cons] at this
    obtain ⟨n1, n2, n3⟩ := List.nodup_append.mp this
    rcases List.mem_append.mp hp with hp | hp
    · exact n3 _ (List.mem_map.mpr ⟨p, hp, rfl⟩) _ (.head _) q
    · exact (List.nodup_cons.mp n2).1 (q ▸ List.mem_map.mpr ⟨p, hp, rfl⟩)
  refine ⟨S.base_same ha hs, ?_, by rw [eo]; exact S.fresh, by rw [eo]; exact S.nodup, S.names, ?_, fun q hq => ?_, by rw [eo]; exact S.apart⟩
  · rw [eo]
    refine ⟨G.mono hv S.nm.prog, S.nm.fn, S.bound_same hs ⟨_, hl'⟩, fun p hp => ?_, fun p hp => ?_⟩
    · obtain ⟨v', hh, rp⟩ := S.nm.names p hp
      refine ⟨v', ?_, rp.mono hv⟩
      rcases hh with ⟨b, m', n', e'⟩ | ⟨b, c', l, n'⟩
      · exact .inl ⟨b, m', n'.sameBut hs (S.ne_loc hm), e'⟩
      · exact .inr ⟨b, c', l, n'.sameBut hs (S.cell_ne_loc (q := (p.1, c')) (mem_of_lookup l) hm)⟩
    · have : p = (a, ds') ∨ p ∈ σ₁ ++ σ₂ := by
        rcases List.mem_append.mp hp with hp | hp
        · exact .inr (List.mem_append.mpr (.inl hp))
        · rcases List.mem_cons.mp hp with q | hp
          · exact .inl q
          · exact .inr (List.mem_append.mpr (.inr hp))
      rcases this with q | hp
      · subst q; exact ⟨vs', n', hl', rl.mono hv⟩
      · have hp' : p ∈ σ := by
          subst e
          rcases List.mem_append.mp hp with hp | hp
          · exact List.mem_append.mpr (.inl hp)
          · exact List.mem_append.mpr (.inr (.tail _ hp))
        obtain ⟨vs, n, hl, rl⟩ := S.nm.locs p hp'
        exact ⟨vs, n, (hs.2 _ (hne p hp)).trans hl, rl.mono hv⟩
  · obtain ⟨m, n⟩ := S.ns
    exact ⟨m, n.sameBut hs (S.ne_loc hm)⟩
  · obtain ⟨v', c'⟩ := S.cells q hq
    exact ⟨v', c'.sameBut hs (S.cell_ne_loc hq hm)⟩
/-- a new list becomes the frame's own -/
theorem St.adopt (S : St G h₀ H₀ env ρ σ h) {ds : List D} {vs : List Value} (rl : RepL (vis (own env σ ++ H₀) h) vs ds) :
    St G h₀ H₀ env ρ ((h.objs.size, ds) :: σ) (h.push { cls := .type "list", data := .seq vs.toArray }) := by
  have x := Sub.push h { cls := .type "list", data := .seq vs.toArray }
  have hf : h.objs.size ∉ own env σ ++ H₀ := S.nm.fresh
  have hnone : h.get? h.objs.size = none := by
    cases q : h.get? h.objs.size with
    | none => rfl
    | some o => exact absurd (Heap.lt_size q) (Nat.lt_irrefl _)
  have eo : ∀ b, b ∈ own env ((h.objs.size, ds) :: σ) ↔ b = h.objs.size ∨ b ∈ own env σ := fun b => by
    simp only [own, List.map_cons, List.mem_cons, List.mem_append]
    constructor
    · rintro (q | q | q | q)
      · exact .inr (.inl q)
      · exact .inr (.inr (.inl q))
      · exact .inl q
      · exact .inr (.inr (.inr q))
    · rintro (q | q | q | q)
      · exact .inr (.inr (.inl q))
      · exact .inl q
      · exact .inr (.inl q)
      · exact .inr (.inr (.inr q))
  have hv : Sub (vis (own env σ ++ H₀) h) (vis (own env ((h.objs.size, ds) :: σ) ++ H₀) (h.push { cls := .type "list", data := .seq vs.toArray })) := fun b o e =>
    vis_get (x _ _ (vis_of e)) fun hm => by
      rcases List.mem_append.mp hm with hm | hm
      · rcases (eo b).mp hm with q | hm
        · rw [q] at e; rw [vis_of e] at hnone; cases hnone
        · exact vis_not e (List.mem_append.mpr (.inl hm))
      · exact vis_not e (List.mem_append.mpr (.inr hm))
  refine ⟨S.base.trans x, ⟨G.mono hv S.nm.prog, S.nm.fn, fun a ha => ?_, fun p hp => ?_, fun p hp => ?_⟩, fun a ha => ?_, ?_, S.names, ?_, fun q hq => ?_, fun a ha => ?_⟩
  · rcases List.mem_append.mp ha with ha | ha
    · rcases (eo a).mp ha with q | ha
      · exact ⟨_, q ▸ IsL.new h vs.toArray⟩
      · obtain ⟨o, e⟩ := S.nm.bound a (List.mem_append.mpr (.inl ha)); exact ⟨o, x _ _ e⟩
    · obtain ⟨o, e⟩ := S.nm.bound a (List.mem_append.mpr (.inr ha)); exact ⟨o, x _ _ e⟩
  · obtain ⟨v', hh, rp⟩ := S.nm.names p hp
    exact ⟨v', hh.mono x, rp.mono hv⟩
  · rcases List.mem_cons.mp hp with q | hp
    · subst q; exact ⟨vs, 0, IsL.new h vs.toArray, rl.mono hv⟩
    · obtain ⟨vs', n, hl, rl'⟩ := S.nm.locs p hp
      exact ⟨vs', n, x _ _ hl, rl'.mono hv⟩
  · rcases (eo a).mp ha with q | ha
    · rw [q]
      cases q' : h₀.get? h.objs.size with
      | none => rfl
      | some o => rw [S.base _ _ q'] at hnone; cases hnone
    · exact S.fresh a ha
  · have hnd := S.nodup
    have hf' : h.objs.size ∉ own env σ := fun hm => hf (List.mem_append.mpr (.inl hm))
    simp only [own, List.map_cons, List.mem_cons, List.mem_append, not_or] at hf' ⊢
    obtain ⟨h1, h2, h3⟩ := hf'
    simp only [own] at hnd
    obtain ⟨n1, n2⟩ := List.nodup_cons.mp hnd
    obtain ⟨n3, n4, n5⟩ := List.nodup_append.mp n2
    refine List.nodup_cons.mpr ⟨fun hm => ?_, List.nodup_append.mpr ⟨n3, List.nodup_cons.mpr ⟨h3, n4⟩, fun a ha b hb => ?_⟩⟩
    · rcases List.mem_append.mp hm with hm | hm
      · exact n1 (List.mem_append.mpr (.inl hm))
      · rcases List.mem_cons.mp hm with q | hm
        · exact h1 q.symm
        · exact n1 (List.mem_append.mpr (.inr hm))
    · rcases List.mem_cons.mp hb with q | hb
      · intro e; exact h2 (q ▸ e ▸ ha)
      · exact n5 a ha b hb
  · obtain ⟨m, n⟩ := S.ns; exact ⟨m, n.keeps x⟩
  · obtain ⟨v', c'⟩ := S.cells q hq; exact ⟨v', c'.keeps x⟩
  · rcases (eo a).mp ha with q | ha
    · rw [q]; exact fun hm => hf (List.mem_append.mpr (.inr hm))
    · exact S.apart a ha
end
end

section
section
variable {prog : Program} {w : World} {G : Pg} {k : Nat} {env : Env} {ρ : List (Str × D)} {σ : List (Addr × List D)} {h₀ h h' : Heap} {H₀ : List Addr}

/-- the base may be all that is not the frame's own -/
theorem St.rebase (S : St G h₀ H₀ env ρ σ h) : St G (hideAll h (own env σ)) H₀ env ρ σ h :=
  ⟨fun _ _ e => of_hideAll _ e, S.nm, fun a ha => hideAll_none _ ha, S.nodup, S.names, S.ns, S.cells, S.apart⟩
theorem St.base_in (S : St G h₀ H₀ env ρ σ h) : Sub h₀ (hideAll h (own env σ)) := fun b o e =>
  hideAll_get _ (S.base b o e) fun hm => by have := S.fresh b hm; rw [e] at this; cases this
theorem St.unbase {h₁ : Heap} (S : St G h₁ H₀ env ρ σ h) (x : Sub h₀ h₁) : St G h₀ H₀ env ρ σ h :=
  ⟨x.trans S.base, S.nm, (fun a ha => by
    cases q : h₀.get? a with
    | none => rfl
    | some o => (have := S.fresh a ha); (rw [x _ _ q] at this); (cases this)), S.nodup, S.names, S.ns, S.cells, S.apart⟩
theorem St.hide (S : St G h₀ H₀ env ρ σ h) {I : Addr} (x : Sub h h') (hI : h.get? I = none) (hI' : ∃ o, h'.get? I = some o) : St G h₀ (I :: H₀) env ρ σ h' := by
  have hv : Sub (vis (own env σ ++ H₀) h) (vis (own env σ ++ I :: H₀) h') := fun b o e => vis_get (x _ _ (vis_of e)) fun hm => by
    rcases List.mem_append.mp hm with hm | hm
    · exact vis_not e (List.mem_append.mpr (.inl hm))
    · rcases List.mem_cons.mp hm with q | hm
      · rw [q] at e; rw [vis_of e] at hI; cases hI
      · exact vis_not e (List.mem_append.mpr (.inr hm))
  refine ⟨S.base.trans x, ⟨G.mono hv S.nm.prog, S.nm.fn, fun a ha => ?_, fun p hp => ?_, fun p hp => ?_⟩, S.fresh, S.nodup, S.names, let ⟨m, n⟩ := S.ns; ⟨m, n.keeps x⟩, fun q hq => let ⟨v, c⟩ := S.cells q hq; ⟨v, c.keeps x⟩, fun a ha hm => ?_⟩
  · rcases List.mem_append.mp ha with ha | ha
    · obtain ⟨o, e⟩ := S.nm.bound a (List.mem_append.mpr (.inl ha)); exact ⟨o, x _ _ e⟩
    · rcases List.mem_cons.mp ha with q | ha
      · rw [q]; exact hI'
      · obtain ⟨o, e⟩ := S.nm.bound a (List.mem_append.mpr (.inr ha)); exact ⟨o, x _ _ e⟩
  · obtain ⟨v', hh, rp⟩ := S.nm.names p hp
    exact ⟨v', hh.mono x, rp.mono hv⟩
  · obtain ⟨vs, n, hl, rl⟩ := S.nm.locs p hp
    exact ⟨vs, n, x _ _ hl, rl.mono hv⟩
  · rcases List.mem_cons.mp hm with q | hm
    · obtain ⟨o, e⟩ := S.nm.bound a (List.mem_append.mpr (.inl ha))
      rw [q, hI] at e; cases e
    · exact S.apart a ha hm
theorem own_hide_sub {I : Addr} {a : Addr} : a ∈ own env σ ++ H₀ → a ∈ own env σ ++ I :: H₀ := fun ha => by
  rcases List.mem_append.mp ha with ha | ha
  · exact List.mem_append.mpr (.inl ha)
  · exact List.mem_append.mpr (.inr (.tail _ ha))
theorem St.unhide {I : Addr} (S : St G h₀ (I :: H₀) env ρ σ h) : St G h₀ H₀ env ρ σ h := by
  have hv : Sub (vis (own env σ ++ I :: H₀) h) (vis (own env σ ++ H₀) h) := vis_more fun a ha => own_hide_sub ha
  exact ⟨S.base, ⟨G.mono hv S.nm.prog, S.nm.fn, fun a ha => S.nm.bound a (own_hide_sub ha), fun p hp => let ⟨v, a, b⟩ := S.nm.names p hp; ⟨v, a, b.mono hv⟩, fun p hp => let ⟨vs, n, a, b⟩ := S.nm.locs p hp; ⟨vs, n, a, b.mono hv⟩⟩,
    S.fresh, S.nodup, S.names, S.ns, S.cells, fun a ha hm => S.apart a ha (.tail _ hm)⟩
/-- a change of one hidden object that is not the frame's own -/
theorem St.tick {I : Addr} (S : St G h₀ H₀ env ρ σ h) (hI : I ∈ H₀) (ho : I ∉ own env σ) (hb : h₀.get? I = none) (hx : ∀ b o, b ≠ I → h.get? b = some o → h'.get? b = some o) (hI' : ∃ o, h'.get? I = some o) : St G h₀ H₀ env ρ σ h' := by
  have hv : Sub (vis (own env σ ++ H₀) h) (vis (own env σ ++ H₀) h') := vis_sub fun b o hb' e => hx b o (fun q => hb' (List.mem_append.mpr (.inr (q ▸ hI)))) e
  have hL : env.locals ≠ I := fun q => ho (q ▸ .head _)
  have hc : ∀ q ∈ env.cells, q.2 ≠ I := fun q hq e => ho (e ▸ own_cell hq)
  refine ⟨fun b o e => hx b o (fun q => by rw [q, hb] at e; cases e) (S.base b o e), ⟨G.mono hv S.nm.prog, S.nm.fn, fun a ha => ?_, fun p hp => ?_, fun p hp => ?_⟩, S.fresh, S.nodup, S.names, ?_, fun q hq => ?_, fun a ha hm => S.apart a ha hm⟩
  · by_cases q : a = I
    · rw [q]; exact hI'
    · obtain ⟨o, e⟩ := S.nm.bound a ha; exact ⟨o, hx _ _ q e⟩
  · obtain ⟨v', hh, rp⟩ := S.nm.names p hp
    refine ⟨v', ?_, rp.mono hv⟩
    rcases hh with ⟨a, m, ⟨o, es, ep, e, r⟩, em⟩ | ⟨a, c, l, o, e, r⟩
    · exact .inl ⟨a, m, ⟨o, es, ep, hx _ _ hL e, r⟩, em⟩
    · exact .inr ⟨a, c, l, o, hx _ _ (hc (p.1, c) (mem_of_lookup l)) e, r⟩
  · obtain ⟨vs, n, hl, rl⟩ := S.nm.locs p hp
    exact ⟨vs, n, hx _ _ (fun q => ho (q ▸ own_loc hp)) hl, rl.mono hv⟩
  · obtain ⟨m, o, es, ep, e, r⟩ := S.ns; exact ⟨m, o, es, ep, hx _ _ hL e, r⟩
  · obtain ⟨v', o, e, r⟩ := S.cells q hq; exact ⟨v', o, hx _ _ (hc q hq) e, r⟩

theorem St.dropHid {C : Addr} (S : St G h₀ (C :: H₀) env ρ σ h) (hC : C ∉ own env σ ++ H₀) (hb : h₀.get? C = none) (hx : ∀ b o, b ≠ C → h.get? b = some o → h'.get? b = some o) : St G h₀ H₀ env ρ σ h' := by
  have hCo : C ∉ own env σ := fun hm => hC (List.mem_append.mpr (.inl hm))
  have hv : Sub (vis (own env σ ++ C :: H₀) h) (vis (own env σ ++ H₀) h') := fun b o e => vis_get (hx b o (fun z => vis_not e (z ▸ List.mem_append.mpr (.inr (.head _)))) (vis_of e)) fun hm => vis_not e (own_hide_sub hm)
  have hL : env.locals ≠ C := fun q => hCo (q ▸ .head _)
  have hc : ∀ q ∈ env.cells, q.2 ≠ C := fun q hq e => hCo (e ▸ own_cell hq)
  refine ⟨fun b o e => hx b o (fun q => by rw [q, hb] at e; cases e) (S.base b o e), ⟨G.mono hv S.nm.prog, S.nm.fn, fun a ha => ?_, fun p hp => ?_, fun p hp => ?_⟩, S.fresh, S.nodup, S.names, ?_, fun q hq => ?_, fun a ha hm => S.apart a ha (.tail _ hm)⟩
  · obtain ⟨o, e⟩ := S.nm.bound a (own_hide_sub ha); exact ⟨o, hx _ _ (fun z => hC (z ▸ ha)) e⟩
  · obtain ⟨v', hh, rp⟩ := S.nm.names p hp
    refine ⟨v', ?_, rp.mono hv⟩
    rcases hh with ⟨a, m, ⟨o, es, ep, e, r⟩, em⟩ | ⟨a, c, l, o, e, r⟩
    · exact .inl ⟨a, m, ⟨o, es, ep, hx _ _ hL e, r⟩, em⟩
    · exact .inr ⟨a, c, l, o, hx _ _ (hc (p.1, c) (mem_of_lookup l)) e, r⟩
  · obtain ⟨vs, n, hl, rl⟩ := S.nm.locs p hp
    exact ⟨vs, n, hx _ _ (fun q => hCo (q ▸ own_loc hp)) hl, rl.mono hv⟩
  · obtain ⟨m, o, es, ep, e, r⟩ := S.ns; exact ⟨m, o, es, ep, hx _ _ hL e, r⟩
  · obtain ⟨v', o, e, r⟩ := S.cells q hq; exact ⟨v', o, hx _ _ (hc q hq) e, r⟩

/-- a name that may be stored -/
def Sto (env : Env) (x : Str) : Prop := env.kindOf x = some .local ∨ (env.kindOf x = some .cell ∧ ∃ c, env.cells.lookup x = some c)
theorem St.store {A : Around} {s : Shared} {Q : Unit → Shared → Prop} {E : Value → Shared → Prop} {x : Str} {v : Value} {d : D} {ρ' : List (Str × D)} (S : St G h₀ H₀ env ρ σ s.heap) (hx : Sto env x) (u : Upd x d ρ ρ') (rv : Rep (vis (own env σ ++ H₀) s.heap) v d)
    (q : ∀ h' tk, St G h₀ H₀ env ρ' σ h' → (∀ b o, b ∉ own env σ → s.heap.get? b = some o → h'.get? b = some o) → Q () { s with heap := h', toks := tk }) : wpAny (model prog w) A (storeName env x v) Q E s := by
  rcases hx with hk | ⟨hk, c, hc⟩
  · obtain ⟨m, hn⟩ := S.ns
    refine wpAny_storeName_local hk hn (fun h' hn' hs => q h' _ (S.local hk hn u rv hn' hs) fun b o hb e => (hs.2 b fun z => hb (z ▸ .head _)).trans e) (by rw [S.nm.fn]; rfl)
  · obtain ⟨v₀, hv⟩ := S.cells _ (mem_of_lookup hc)
    refine wpAny_storeName_cell S.nm.fn hk hc hv fun h' hv' hs => q h' s.toks (S.cell hk hc u rv hv' hs) fun b o hb e => (hs.2 b fun z => hb ?_).trans e
    exact z ▸ own_cell (q := (x, c)) (mem_of_lookup hc)

inductive Out where
  | next
  | brk
  | ret (d : D)
def FlowOf (H : List Addr) (o : Out) (fl : Flow) (h : Heap) : Prop := match o with
  | .next => fl = .next
  | .brk => fl = .brk
  | .ret d => ∃ v, fl = .ret v ∧ Rep (vis H h) v d
structure Osg (s s' : Shared) : Prop where
  os : s'.os = s.os
  gens : AllBare s.gens → AllBare s'.gens
theorem Osg.refl (s : Shared) : Osg s s := ⟨rfl, id⟩
theorem Osg.trans {a b c : Shared} (x : Osg a b) (y : Osg b c) : Osg a c := ⟨y.os.trans x.os, fun h => y.gens (x.gens h)⟩
theorem Ext.osg {s s' : Shared} (x : Ext s s') : Osg s s' := ⟨x.os, x.gens⟩
abbrev Post := Out → List (Str × D) → List (Addr × List D) → Prop
/-- statements, on plain data -/
def SX (prog : Program) (w : World) (G : Pg) (k : Nat) (env : Env) (ρ : List (Str × D)) (σ : List (Addr × List D)) (body : List Stmt) (R : Post) : Prop :=
  ∀ (h₀ : Heap) (H₀ : List Addr) (A : Around) (s : Shared) (Q : Flow → Shared → Prop) (E : Value → Shared → Prop), Room k A → St G h₀ H₀ env ρ σ s.heap →
    (∀ o fl ρ' σ' s', R o ρ' σ' → St G h₀ H₀ env ρ' σ' s'.heap → FlowOf (own env σ' ++ H₀) o fl s'.heap → Osg s s' → Q fl s') → wpAny (model prog w) A (execs body env) Q E s
/-- behind a statement -/
def Then (prog : Program) (w : World) (G : Pg) (k : Nat) (env : Env) (rest : List Stmt) (R : Post) : Post := fun o ρ' σ' => match o with
  | .next => SX prog w G k env ρ' σ' rest R
  | o => R o ρ' σ'
/-- one statement -/
def SO (prog : Program) (w : World) (G : Pg) (k : Nat) (env : Env) (ρ : List (Str × D)) (σ : List (Addr × List D)) (st : Stmt) (R : Post) : Prop :=
  ∀ (h₀ : Heap) (H₀ : List Addr) (A : Around) (s : Shared) (Q : Flow → Shared → Prop) (E : Value → Shared → Prop), Room k A → St G h₀ H₀ env ρ σ s.heap →
    (∀ o fl ρ' σ' s', R o ρ' σ' → St G h₀ H₀ env ρ' σ' s'.heap → FlowOf (own env σ' ++ H₀) o fl s'.heap → Osg s s' → Q fl s') → wpAny (model prog w) A (exec st env) Q E s
variable {R : Post}
theorem SX.nil (h : R .next ρ σ) : SX prog w G k env ρ σ [] R := fun h₀ H₀ A s Q E r S q => wpAny_execs_nil (q .next .next ρ σ s h S rfl (.refl s))
theorem SX.cons {st : Stmt} {rest : List Stmt} (h : SO prog w G k env ρ σ st (Then prog w G k env rest R)) : SX prog w G k env ρ σ (st :: rest) R := fun h₀ H₀ A s Q E r S q =>
  wpAny_execs_cons (h h₀ H₀ A s _ E r S fun o fl ρ' σ' s' hR S' hf x => by
    cases o with
    | next =>
      obtain rfl : fl = .next := hf
      exact hR h₀ H₀ A s' Q E r S' fun o fl ρ'' σ'' s'' hR' S'' hf' x' => q o fl ρ'' σ'' s'' hR' S'' hf' (x.trans x')
    | brk =>
      obtain rfl : fl = .brk := hf
      exact q .brk .brk ρ' σ' s' hR S' rfl x
    | ret d =>
      obtain ⟨v, rfl, rv⟩ := hf
      exact q (.ret d) (.ret v) ρ' σ' s' hR S' ⟨v, rfl, rv⟩ x)
theorem SX.mono {body : List Stmt} {R R' : Post} (h : SX prog w G k env ρ σ body R) (m : ∀ o ρ σ, R o ρ σ → R' o ρ σ) : SX prog w G k env ρ σ body R' := fun h₀ H₀ A s Q E r S q =>
  h h₀ H₀ A s Q E r S fun o fl ρ' σ' s' hR => q o fl ρ' σ' s' (m _ _ _ hR)

theorem SO.assign {x : Str} {p pos : Pos} {e : Expr} {d : D} {ρ' : List (Str × D)} (h : EV prog w G k env ρ σ e d) (hx : Sto env x) (u : Upd x d ρ ρ') (hR : R .next ρ' σ)
    (hs : swapsWith e (some (.Name x p)) pos.line env = pure false := by rfl) : SO prog w G k env ρ σ (.Assign [.Name x p] e pos) R := fun h₀ H₀ A s Q E r S q =>
  wpAny_Assign_Name (h A s _ _ E r S.nm fun v s₁ x₁ rv => (S.grow x₁.sub).store hx u rv fun h' tk S' _ => q .next .next _ _ _ hR S' rfl (x₁.osg.trans ⟨rfl, id⟩)) hs
theorem SO.ret {e : Expr} {pos : Pos} {d : D} (h : EV prog w G k env ρ σ e d) (hR : R (.ret d) ρ σ) : SO prog w G k env ρ σ (.Return (some e) pos) R := fun h₀ H₀ A s Q E r S q =>
  wpAny_Return_some (h A s _ _ E r S.nm fun v s₁ x₁ rv => q (.ret d) _ _ _ _ hR (S.grow x₁.sub) ⟨v, rfl, rv⟩ x₁.osg)
theorem SO.expr {e : Expr} {pos : Pos} {d : D} (h : EV prog w G k env ρ σ e d) (hR : R .next ρ σ) (hi : interactive env = false := by rfl) (hs : swapsWith e none pos.line env = pure false := by rfl) : SO prog w G k env ρ σ (.Expr e pos) R := fun h₀ H₀ A s Q E r S q =>
  wpAny_Expr_any (h A s _ _ E r S.nm fun v s₁ x₁ rv => q .next _ _ _ _ hR (S.grow x₁.sub) rfl x₁.osg) hi hs
theorem SO.brk {pos : Pos} (hR : R .brk ρ σ) : SO prog w G k env ρ σ (.Break pos) R := fun h₀ H₀ A s Q E r S q => by
  show wpAny _ A (do standAt pos; pure .brk) Q E s
  exact wpAny_bind (wpAny_standAt (wpAny_pure (q .brk _ _ _ _ hR S rfl (.refl s))))
theorem SO.ite {t : Expr} {b : Bool} {body orelse : List Stmt} {pos : Pos} (h : TV prog w G k env ρ σ t b) (h1 : b = true → SX prog w G k env ρ σ body R) (h2 : b = false → SX prog w G k env ρ σ orelse R) : SO prog w G k env ρ σ (.If t body orelse pos) R := fun h₀ H₀ A s Q E r S q =>
  wpAny_If (h A s _ _ E r S.nm fun s₁ x₁ => by
    cases b with
    | true => exact h1 rfl h₀ H₀ A s₁ Q E r (S.grow x₁.sub) fun o fl ρ' σ' s' hR S' hf x => q o fl ρ' σ' s' hR S' hf (x₁.osg.trans x)
    | false => exact h2 rfl h₀ H₀ A s₁ Q E r (S.grow x₁.sub) fun o fl ρ' σ' s' hR S' hf x => q o fl ρ' σ' s' hR S' hf (x₁.osg.trans x))
theorem SO.iteT {t : Expr} {body orelse : List Stmt} {pos : Pos} (h : TV prog w G k env ρ σ t true) (h1 : SX prog w G k env ρ σ body R) : SO prog w G k env ρ σ (.If t body orelse pos) R := .ite h (fun _ => h1) fun e => nomatch e
theorem SO.iteF {t : Expr} {body orelse : List Stmt} {pos : Pos} (h : TV prog w G k env ρ σ t false) (h2 : SX prog w G k env ρ σ orelse R) : SO prog w G k env ρ σ (.If t body orelse pos) R := .ite h (fun e => nomatch e) fun _ => h2
theorem SO.assert {t : Expr} {msg : Option Expr} {pos : Pos} (h : TV prog w G k env ρ σ t true) (hR : R .next ρ σ) : SO prog w G k env ρ σ (.Assert t msg pos) R := fun h₀ H₀ A s Q E r S q => by
  show wpAny _ A (do standAt pos; if ← isTrue t env (eval t env) then pure .next else assertFails t.pos (evalOpt msg env)) Q E s
  exact wpAny_bind (wpAny_standAt (wpAny_bind (h A s _ _ E r S.nm fun s₁ x₁ => wpAny_pure (q .next _ _ _ _ hR (S.grow x₁.sub) rfl x₁.osg))))

/-- a walk over the items of a value -/
structure Iter (prog : Program) (w : World) (k : Nat) (I : Addr) (g : Heap) (ds : List D) (At : Nat → Heap → Prop) (fp : List Addr) : Prop where
  ok : ∀ b ∈ fp, b = I ∨ ∃ o, g.get? b = some o
  frame : ∀ i h h', At i h → (∀ b ∈ fp, ∀ o, h.get? b = some o → h'.get? b = some o) → At i h'
  here : ∀ i h, At i h → ∃ o, h.get? I = some o
  item : ∀ i d (A : Around) (s : Shared) (Q : Option Value → Shared → Prop) (E : Value → Shared → Prop), Room k A → ds[i]? = some d → At i s.heap →
    (∀ v h' tk, Rep g v d → At (i + 1) h' → (∀ b o, b ≠ I → s.heap.get? b = some o → h'.get? b = some o) → Q (some v) { s with heap := h', toks := tk }) → wpAny (model prog w) A (pyNext (.ref I)) Q E s
  done : ∀ (A : Around) (s : Shared) (Q : Option Value → Shared → Prop) (E : Value → Shared → Prop), Room k A → At ds.length s.heap →
    (∀ h' tk, (∀ b o, b ≠ I → s.heap.get? b = some o → h'.get? b = some o) → Q none { s with heap := h', toks := tk }) → wpAny (model prog w) A (pyNext (.ref I)) Q E s
  self : ∀ i (A : Around) (s : Shared) (Q : Value → Shared → Prop) (E : Value → Shared → Prop), Room k A → At i s.heap → Q (.ref I) s → wpAny (model prog w) A (pyIter (.ref I)) Q E s
def IT (prog : Program) (w : World) (k : Nat) (d : D) (ds : List D) : Prop :=
  ∀ (A : Around) (s : Shared) (H : List Addr) (Q : Value → Shared → Prop) (E : Value → Shared → Prop) (v : Value), Room k A → Bound H s.heap → Rep (vis H s.heap) v d →
    (∀ I s' At fp, Ext s s' → s.heap.get? I = none → At 0 s'.heap → Iter prog w k I (vis (I :: H) s'.heap) ds At fp → Q (.ref I) s') → wpAny (model prog w) A (pyIter v) Q E s

theorem SO.forIn {x : Str} {px pos : Pos} {iter : Expr} {body orelse : List Stmt} {d : D} {ds : List D} (Inv : Nat → List (Str × D) → List (Addr × List D) → Prop)
    (hi : EV prog w G k env ρ σ iter d) (it : IT prog w k d ds) (hx : Sto env x) (h0 : Inv 0 ρ σ)
    (turn : ∀ i d ρ σ, ds[i]? = some d → Inv i ρ σ → ∃ ρ', Upd x d ρ ρ' ∧ SX prog w G k env ρ' σ body (fun o ρ'' σ'' => match o with | .next => Inv (i + 1) ρ'' σ'' | .brk => R .next ρ'' σ'' | .ret d => R (.ret d) ρ'' σ''))
    (done : ∀ ρ σ, Inv ds.length ρ σ → SX prog w G k env ρ σ orelse R)
    (hs : ∀ x, foldedSetIterable iter env x = pure x := by intro _; rfl) :
    SO prog w G k env ρ σ (.For (.Name x px) iter body orelse pos) R := fun h₀ H₀ A s Q E r S q => by
  refine wpAny_For (hi A s _ _ E r S.nm fun vi s₁ x₁ ri => it A s₁ _ _ E vi r (S.grow x₁.sub).nm.bound ri fun I s₂ At fp x₂ hI at0 J => ?_) hs
  have S2 : St G h₀ (I :: H₀) env ρ σ s₂.heap := (S.grow x₁.sub).hide x₂.sub hI (J.here 0 _ at0)
  have hIo : I ∉ own env σ := fun hm => by
    obtain ⟨o, e⟩ := (S.grow x₁.sub).nm.bound I (List.mem_append.mpr (.inl hm))
    rw [hI] at e; cases e
  have hIb : h₀.get? I = none := by
    cases z : h₀.get? I with
    | none => rfl
    | some o => rw [(S.grow x₁.sub).base _ _ z] at hI; cases hI
  have hg0 : Sub (vis (I :: (own env σ ++ H₀)) s₂.heap) (vis (own env σ ++ I :: H₀) s₂.heap) := vis_more fun a ha => by
    rcases List.mem_append.mp ha with ha | ha
    · exact .tail _ (List.mem_append.mpr (.inl ha))
    · rcases List.mem_cons.mp ha with z | ha
      · rw [z]; exact .head _
      · exact .tail _ (List.mem_append.mpr (.inr ha))
  generalize hg : vis (I :: (own env σ ++ H₀)) s₂.heap = g at J hg0
  refine codeAny_forLoop (fun n s' => ∃ i ρ σ, n = ds.length - i ∧ i ≤ ds.length ∧ Inv i ρ σ ∧ St G h₀ (I :: H₀) env ρ σ s'.heap ∧ At i s'.heap ∧ Sub g (vis (own env σ ++ I :: H₀) s'.heap) ∧ I ∉ own env σ ∧ Osg s s') ?_ ds.length
    ⟨0, ρ, σ, rfl, Nat.zero_le _, h0, S2, at0, hg0, hIo, (x₁.trans x₂).osg⟩
  rintro n s' ⟨i, ρ₁, σ₁, rfl, hle, hInv, S', at', hg', hI', os'⟩
  by_cases hlt : i < ds.length
  · have hd : ds[i]? = some ds[i] := List.getElem?_eq_getElem hlt
    refine J.item i _ A s' _ _ r hd at' fun v h₁ tk rv at₁ hk => ?_
    have S₁ : St G h₀ (I :: H₀) env ρ₁ σ₁ h₁ := S'.tick (.head _) hI' hIb hk (J.here _ _ at₁)
    have hg₁ : Sub g (vis (own env σ₁ ++ I :: H₀) h₁) := hg'.trans (vis_sub fun b o hb e => hk b o (fun z => hb (List.mem_append.mpr (.inr (z ▸ .head _)))) e)
    obtain ⟨ρ₂, u, hb⟩ := turn i _ ρ₁ σ₁ hd hInv
    refine wpAny_assign_Name (St.store (s := { s' with heap := h₁, toks := tk }) S₁ hx u (rv.mono hg₁) fun h₂ tk₂ S₂ hk₂ => ?_)
    have hnot : ∀ b o, g.get? b = some o → b ∉ own env σ₁ := fun b o e hm => vis_not (hg₁ b o e) (List.mem_append.mpr (.inl hm))
    have at₂ : At (i + 1) h₂ := J.frame _ _ _ at₁ fun b hb o e => by
      rcases J.ok b hb with z | ⟨o', z⟩
      · exact hk₂ b o (z ▸ hI') e
      · exact hk₂ b o (hnot b o' z) e
    have hg₂ : Sub g (vis (own env σ₁ ++ I :: H₀) h₂) := hg₁.trans (vis_sub fun b o hb e => hk₂ b o (fun z => hb (List.mem_append.mpr (.inl z))) e)
    refine hb _ (I :: H₀) A { s' with heap := h₂, toks := tk₂ } _ _ r S₂.rebase fun o fl ρ₃ σ₃ s₃ hR S₃ hf os₃ => ?_
    have S₃' : St G h₀ (I :: H₀) env ρ₃ σ₃ s₃.heap := S₃.unbase S₂.base_in
    have osg : Osg s s₃ := os'.trans ⟨os₃.os, os₃.gens⟩
    cases o with
    | next =>
      obtain rfl : fl = .next := hf
      refine ⟨ds.length - (i + 1), by omega, i + 1, ρ₃, σ₃, rfl, hlt, hR, S₃', ?_, ?_, ?_, osg⟩
      · refine J.frame _ _ _ at₂ fun b hb o e => S₃.base b o (hideAll_get _ e ?_)
        rcases J.ok b hb with z | ⟨o', z⟩
        · exact z ▸ hI'
        · exact hnot b o' z
      · intro b o e
        have e2 := hg₂ b o e
        have e3 : (hideAll h₂ (own env σ₁)).get? b = some o := hideAll_get _ (vis_of e2) fun hm => vis_not e2 (List.mem_append.mpr (.inl hm))
        refine vis_get (S₃.base b o e3) fun hm => ?_
        rcases List.mem_append.mp hm with hm | hm
        · have := S₃.fresh b hm; rw [e3] at this; cases this
        · exact vis_not e2 (List.mem_append.mpr (.inr hm))
      · intro hm
        have h1 := S₃.fresh I hm
        obtain ⟨oI, eI⟩ := J.here _ _ at₂
        rw [hideAll_get _ eI hI'] at h1; cases h1
    | brk =>
      obtain rfl : fl = .brk := hf
      exact q .next .next ρ₃ σ₃ s₃ hR S₃'.unhide rfl osg
    | ret d' =>
      obtain ⟨v', rfl, rv'⟩ := hf
      exact q (.ret d') _ ρ₃ σ₃ s₃ hR S₃'.unhide ⟨v', rfl, rv'.mono (vis_more fun a ha => own_hide_sub ha)⟩ osg
  · have hi' : i = ds.length := by omega
    subst hi'
    refine J.done A s' _ _ r at' fun h₁ tk hk => ?_
    have hIn : I ∉ own env σ₁ ++ H₀ := fun hm => by
      rcases List.mem_append.mp hm with hm | hm
      · exact hI' hm
      · obtain ⟨o, e⟩ := (S.grow x₁.sub).nm.bound I (List.mem_append.mpr (.inr hm))
        rw [hI] at e; cases e
    have S₁ : St G h₀ H₀ env ρ₁ σ₁ h₁ := S'.dropHid hIn hIb hk
    exact done ρ₁ σ₁ hInv h₀ H₀ A { s' with heap := h₁, toks := tk } _ _ r S₁ fun o fl ρ₂ σ₂ s₂ hR S₂ hf os₂ => q o fl ρ₂ σ₂ s₂ hR S₂ hf (os'.trans ⟨os₂.os, os₂.gens⟩)
end
end

section
section
variable {prog : Program} {w : World} {G : Pg} {k : Nat} {env : Env} {ρ : List (Str × D)} {σ : List (Addr × List D)} {R : Post}

def TS (prog : Program) (w : World) (G : Pg) (k : Nat) (env : Env) (ρ : List (Str × D)) (σ : List (Addr × List D)) (ifs : List Expr) (b : Bool) : Prop := match ifs with
  | [] => b = true
  | [c] => TV prog w G k env ρ σ c b
  | _ => False
theorem TS.run {ifs : List Expr} {b : Bool} (h : TS prog w G k env ρ σ ifs b) {A : Around} {s : Shared} {H : List Addr} {Q : Bool → Shared → Prop} {E : Value → Shared → Prop} (r : Room k A) (N : Nm G env ρ σ H s.heap) (q : ∀ s', Ext s s' → Q b s') :
    wpAny (model prog w) A (forIn ifs true fun c r => if r = true then do let ok ← isTrue c env (eval c env); pure (ForInStep.yield ok) else pure (ForInStep.yield r)) Q E s := by
  match ifs, h with
  | [], h => exact wpAny_tests_nil (h ▸ q s (.refl s))
  | [c], h => exact wpAny_tests_one (h A s H Q E r N q)

/-- what a comprehension's own frame sees of the frame around it: cells -/
structure Sees (env : Env) (scope : Scope) (cl : List (Str × Addr)) (x : Str) (ρ ρc : List (Str × D)) : Prop where
  clos : closureFor scope env = pure cl
  nocell : ∀ y ∈ scope.names, y.2 ≠ .cell
  kind : scope.kind = .function
  names : ∀ y ∈ scope.names, y.2 = .local → scope.names.lookup y.1 = some .local
  x : scope.names.lookup x = some .local
  free : ∀ q ∈ ρc, q ∈ ρ ∧ env.kindOf q.1 = some .cell ∧ (relabel scope env).names.lookup q.1 = some .cell ∧ cl.lookup q.1 = env.cells.lookup q.1

theorem comp_core {elt iter : Expr} {x : Str} {px : Pos} {ifs : List Expr} {scope : Scope} {cl : List (Str × Addr)} {pos : Pos} {ρc : List (Str × D)} {d : D} {ds : List D} (p : D → Bool) (f : D → D)
    (it : IT prog w k d ds) (se : Sees env scope cl x ρ ρc) (hz : ds.length ≤ sizeLine)
    (tests : ∀ C d, d ∈ ds → TS prog w G k (compEnvC scope cl C env) ((x, d) :: ρc) σ ifs (p d))
    (he : ∀ C d, d ∈ ds → p d = true → EV prog w G k (compEnvC scope cl C env) ((x, d) :: ρc) σ elt (f d))
    {A : Around} {s : Shared} {H : List Addr} {E : Value → Shared → Prop} {RR : Value → Addr → Result → Shared → Prop} {vi : Value} (r : Room k A) (N : Nm G env ρ σ H s.heap) (ri : Rep (vis H s.heap) vi d)
    (fin : ∀ D C s' m' ys n, Ext s s' → s.heap.get? D = none → s.heap.get? C = none → D ≠ C → s'.heap.Ns C m' → IsL s'.heap D (List.toArray ys) n → RepL (vis (C :: D :: H) s'.heap) ys ((ds.filter p).map f) → RR (.ref D) C (.ok .next) s') :
    wpAny (model prog w) A (pyIter vi) (fun it s₂ => wpAny (model prog w) A (newList []) (fun acc s₃ => wpAny (model prog w) A (newFunctionEnv scope env.globals cl [] env.qual none .none (some env)) (fun cenv s₄ =>
      codeAny (model prog w) A (.compStart (.ListComp elt [⟨.Name x px, iter, ifs, 0⟩] scope pos) 0 it acc { cenv with scope := relabel scope env }) (RR acc cenv.locals) s₄) E s₃) E s₂) E s := by
  refine it A s H _ E vi r N.bound ri fun I s₂ At fp x₂ hI at0 J => ?_
  refine wpAny_newObj_type (wpAny_newFunctionEnv se.nocell (by intro y hy; simp at hy) (fun h₁ hns₁ hsb₁ => ?_) se.kind)
  dsimp only at hns₁ hsb₁ ⊢
  generalize hH2 : s₂.heap.push { cls := .type "list", dict := none, data := .seq ([] : List Value).toArray } = H2 at hns₁ hsb₁ ⊢
  have hC : H2.objs.size = s₂.heap.objs.size + 1 := by rw [← hH2, Heap.size_push]
  generalize hD : s₂.heap.objs.size = D at *
  generalize hCe : H2.objs.size = C at *
  have hDC : D ≠ C := by omega
  have fresh : ∀ a, D ≤ a → s₂.heap.get? a = none := fun a ha => by
    cases e : s₂.heap.get? a with
    | none => rfl
    | some o' => exact absurd (Heap.lt_size e) (by rw [hD]; exact Nat.not_lt.mpr ha)
  have hDn := fresh D (Nat.le_refl _)
  have hCn := fresh C (by omega)
  have old : Sub s₂.heap h₁ := fun b o e => hsb₁.extBut b o (fun z => by rw [z, hCn] at e; cases e) (Heap.get?_push_of_some _ (hH2 ▸ Heap.get?_push_of_some _ e))
  have hacc : h₁.PlainList D #[] := ⟨_, hsb₁.extBut _ _ hDC (Heap.get?_push_of_some _ (by rw [← hH2, ← hD]; exact Heap.get?_push_size _ rfl))⟩
  obtain ⟨oI, eI⟩ := J.here 0 _ at0
  have hID : I ≠ D := fun z => by rw [z, hDn] at eI; cases eI
  have hIC : I ≠ C := fun z => by rw [z, hCn] at eI; cases eI
  have hfp : ∀ b ∈ fp, b ≠ D ∧ b ≠ C := fun b hb => by
    have : ∃ o, s₂.heap.get? b = some o := by
      rcases J.ok b hb with z | ⟨o, z⟩
      · exact ⟨oI, z ▸ eI⟩
      · exact ⟨o, vis_of z⟩
    obtain ⟨o, e⟩ := this
    exact ⟨fun z => (by rw [z, hDn] at e; cases e), fun z => (by rw [z, hCn] at e; cases e)⟩
  have N2 := N.grow x₂.sub
  have hCf : ∀ y ∈ [I, C, D], y ∉ H := fun y hy hm => by
    obtain ⟨o, e⟩ := N.bound y hm
    rcases List.mem_cons.mp hy with z | hy
    · rw [z, hI] at e; cases e
    · rcases List.mem_cons.mp hy with z | hy
      · have := x₂.sub _ _ e; rw [z, hCn] at this; cases this
      · rw [List.mem_singleton.mp hy] at e; have := x₂.sub _ _ e; rw [hDn] at this; cases this
  -- the loop's invariant: i turns are done
  have loop : ∀ s₃ : Shared, s₃ = { s₂ with heap := h₁, toks := s₂.toks + ([] : List (Str × Value)).length } →
      codeAny (model prog w) A (.compLoop (.ListComp elt [⟨.Name x px, iter, ifs, 0⟩] scope pos) 0 (.ref I) (.ref D) (compEnvC scope cl C env)) (RR (.ref D) C) s₃ := by
    rintro s₃ rfl
    refine codeAny_compLoop_tests (fun n s' => ∃ i m ys, n = ds.length - i ∧ i ≤ ds.length ∧ (s'.os = s.os ∧ (AllBare s.gens → AllBare s'.gens)) ∧ (∀ b o, b ≠ I → b ≠ C → b ≠ D → s₂.heap.get? b = some o → s'.heap.get? b = some o) ∧ At i s'.heap ∧ s'.heap.Ns C m ∧
      s'.heap.PlainList D (List.toArray ys) ∧ RepL (vis (I :: C :: D :: H) s'.heap) ys (((ds.take i).filter p).map f)) ?_ ds.length
      ⟨0, _, [], rfl, Nat.zero_le _, ⟨x₂.os, x₂.gens⟩, fun b o _ _ _ e => old b o e, J.frame _ _ _ at0 fun b _ o e => old b o e, hns₁, hacc, .nil⟩
    rintro n s' ⟨i, m, ys, rfl, hle, osg, hk, at', hns, hl, rl⟩
    by_cases hlt : i < ds.length
    · have hd : ds[i]? = some ds[i] := List.getElem?_eq_getElem hlt
      generalize ds[i] = dv at hd
      have hmem : dv ∈ ds := List.mem_of_getElem? hd
      refine J.item i _ A s' _ _ r hd at' fun v h₂ tk rv at₂ hk₂ => ?_
      have hns₂ : h₂.Ns C m := let ⟨o, es, ep, e, q⟩ := hns; ⟨o, es, ep, hk₂ _ _ hIC.symm e, q⟩
      refine wpAny_assign_Name (wpAny_storeName_local (lookup_relabel_local se.x) hns₂ (fun h₃ hn₃ hs₃ => ?_) (by simp [compEnvC, relabel, se.kind]))
      -- the frame of the comprehension at h₃
      have hk₃ : ∀ b o, b ≠ I → b ≠ C → b ≠ D → s₂.heap.get? b = some o → h₃.get? b = some o := fun b o h1 h2 h3 e => hs₃.extBut b o h2 (hk₂ b o h1 (hk b o h1 h2 h3 e))
      have hl₃ : h₃.PlainList D (List.toArray ys) := let ⟨n, e⟩ := hl; ⟨n, hs₃.extBut _ _ hDC (hk₂ _ _ hID.symm e)⟩
      have hvs : Sub (vis H s₂.heap) (vis (I :: C :: D :: H) s₂.heap) ∨ True := .inr trivial
      have gsub : ∀ {h'' : Heap}, (∀ b o, b ≠ I → b ≠ C → b ≠ D → s₂.heap.get? b = some o → h''.get? b = some o) → Sub (vis H s.heap) (vis (I :: C :: D :: H) h'') := fun {h''} hq b o e => by
        have e2 := x₂.sub _ _ (vis_of e)
        have nI : b ≠ I := fun z => by have := vis_of e; rw [z, hI] at this; cases this
        have nC : b ≠ C := fun z => by rw [z, hCn] at e2; cases e2
        have nD : b ≠ D := fun z => by rw [z, hDn] at e2; cases e2
        refine vis_get (hq b o nI nC nD e2) fun hm => ?_
        rcases List.mem_cons.mp hm with z | hm
        · exact nI z
        · rcases List.mem_cons.mp hm with z | hm
          · exact nC z
          · rcases List.mem_cons.mp hm with z | hm
            · exact nD z
            · exact vis_not e hm
      have gsubI : ∀ {h'' : Heap}, (∀ b o, b ≠ I → b ≠ C → b ≠ D → s₂.heap.get? b = some o → h''.get? b = some o) → Sub (vis (I :: H) s₂.heap) (vis (I :: C :: D :: H) h'') := fun {h''} hq b o e => by
        have e2 := vis_of e
        have nI : b ≠ I := fun z => vis_not e (z ▸ .head _)
        have nC : b ≠ C := fun z => by rw [z, hCn] at e2; cases e2
        have nD : b ≠ D := fun z => by rw [z, hDn] at e2; cases e2
        refine vis_get (hq b o nI nC nD e2) fun hm => ?_
        rcases List.mem_cons.mp hm with z | hm
        · exact nI z
        · rcases List.mem_cons.mp hm with z | hm
          · exact nC z
          · rcases List.mem_cons.mp hm with z | hm
            · exact nD z
            · exact vis_not e (.tail _ hm)
      have at₃ : At (i + 1) h₃ := J.frame _ _ _ at₂ fun b hb o e => hs₃.extBut b o (hfp b hb).2 e
      have rv₃ : Rep (vis (I :: C :: D :: H) h₃) v dv := rv.mono (gsubI hk₃)
      have nmC : Nm G (compEnvC scope cl C env) ((x, dv) :: ρc) σ (I :: C :: D :: H) h₃ := by
        refine ⟨G.mono (gsub hk₃) N.prog, by simp [compEnvC, relabel, se.kind], fun a ha => ?_, fun q hq => ?_, fun q hq => ?_⟩
        · rcases List.mem_cons.mp ha with z | ha
          · rw [z]; obtain ⟨o, e⟩ := J.here _ _ at₃; exact ⟨o, e⟩
          · rcases List.mem_cons.mp ha with z | ha
            · rw [z]; obtain ⟨o, es, ep, e, _⟩ := hn₃; exact ⟨o, e⟩
            · rcases List.mem_cons.mp ha with z | ha
              · rw [z]; obtain ⟨n, e⟩ := hl₃; exact ⟨_, e⟩
              · obtain ⟨o, e⟩ := N2.bound a ha
                exact ⟨o, hk₃ a o (fun z => hCf I (by simp) (z ▸ ha)) (fun z => hCf C (by simp) (z ▸ ha)) (fun z => hCf D (by simp) (z ▸ ha)) e⟩
        · rcases List.mem_cons.mp hq with z | hq
          · subst z
            exact ⟨v, .inl ⟨lookup_relabel_local se.x, _, hn₃, by simp⟩, rv₃⟩
          · obtain ⟨hρ, hkc, hrel, hcl⟩ := se.free q hq
            obtain ⟨v', hh, rp⟩ := N.names q hρ
            refine ⟨v', ?_, rp.mono (gsub hk₃)⟩
            rcases hh with ⟨a, _⟩ | ⟨a, c, l, o, e, dd⟩
            · rw [hkc] at a; cases a
            · have e2 := x₂.sub _ _ e
              exact .inr ⟨.inl hrel, c, hcl.trans l, o, hk₃ c o (fun z => by rw [z, hI] at e; cases e) (fun z => by rw [z, hCn] at e2; cases e2) (fun z => by rw [z, hDn] at e2; cases e2) e2, dd⟩
        · obtain ⟨vs, n, hl', rl'⟩ := N.locs q hq
          have e2 := x₂.sub _ _ hl'
          exact ⟨vs, n, hk₃ q.1 _ (fun z => by have e1 : s.heap.get? q.1 = some _ := hl'; rw [z, hI] at e1; cases e1) (fun z => by have e3 : s₂.heap.get? q.1 = some _ := e2; rw [z, hCn] at e3; cases e3) (fun z => by have e3 : s₂.heap.get? q.1 = some _ := e2; rw [z, hDn] at e3; cases e3) e2, rl'.mono (gsub hk₃)⟩
      refine (tests C dv hmem).run r (s := { s' with heap := h₃, toks := tk + 1 }) nmC fun s₄ x₄ => ?_
      have os₄ : s₄.os = s.os ∧ (AllBare s.gens → AllBare s₄.gens) := ⟨x₄.os.trans osg.1, fun h => x₄.gens (osg.2 h)⟩
      have htake : (ds.take (i + 1)).filter p = (ds.take i).filter p ++ (if p dv then [dv] else []) := by
        rw [List.take_add_one, hd]; simp [List.filter_append, List.filter_cons]
      have rl₃ : RepL (vis (I :: C :: D :: H) h₃) ys (((ds.take i).filter p).map f) := rl.mono (vis_sub fun b o hb e => hs₃.extBut b o (fun z => hb (by rw [z]; exact .tail _ (.head _))) (hk₂ b o (fun z => hb (by rw [z]; exact .head _)) e))
      cases hpv : p dv with
      | false =>
        simp only [Bool.false_eq_true, if_false]
        refine ⟨ds.length - (i + 1), by omega, i + 1, _, ys, rfl, hlt, os₄, fun b o h1 h2 h3 e => x₄.sub _ _ (hk₃ b o h1 h2 h3 e), J.frame _ _ _ at₃ fun b _ o e => x₄.sub b o e, hn₃.keeps x₄.sub, let ⟨n, e⟩ := hl₃; ⟨n, x₄.sub _ _ e⟩, ?_⟩
        rw [htake, hpv]
        simpa using rl₃.mono x₄.sub.vis
      | true =>
        simp only [if_true]
        refine (he C dv hmem hpv) A s₄ _ _ _ r (nmC.grow x₄.sub) fun y s₅ x₅ ry => ?_
        have x45 := x₄.trans x₅
        have hys : ys.length ≤ ds.length := by
          have := rl.length
          rw [List.length_map] at this
          rw [this]
          exact Nat.le_trans (List.length_filter_le _ _) (by rw [List.length_take]; omega)
        refine wpAny_list_append_plain (hsz := by rw [List.size_toArray]; omega) (items := List.toArray ys) (let ⟨n, e⟩ := hl₃; ⟨n, x45.sub _ _ e⟩) fun h₆ hl₆ hs₆ => ?_
        refine ⟨ds.length - (i + 1), by omega, i + 1, _, ys ++ [y], rfl, hlt, ⟨x₅.os.trans os₄.1, fun h => x₅.gens (os₄.2 h)⟩, fun b o h1 h2 h3 e => hs₆.extBut b o h3 (x45.sub _ _ (hk₃ b o h1 h2 h3 e)), ?_, (hn₃.keeps x45.sub).sameBut hs₆ hDC.symm, ?_, ?_⟩
        · exact J.frame _ _ _ at₃ fun b hb o e => hs₆.extBut b o (hfp b hb).1 (x45.sub b o e)
        · obtain ⟨n, e⟩ := hl₆; exact ⟨n, by simpa using e⟩
        · rw [htake, hpv]
          have hv6 : Sub (vis (I :: C :: D :: H) s₅.heap) (vis (I :: C :: D :: H) h₆) := vis_sub fun b o hb e => hs₆.extBut b o (fun z => hb (by rw [z]; exact .tail _ (.tail _ (.head _)))) e
          have := ((rl₃.mono x45.sub.vis).mono hv6).append (RepL.one (ry.mono hv6))
          simpa using this
    · have hi' : i = ds.length := by omega
      subst hi'
      refine J.done A s' _ _ r at' fun h₂ tk hk₂ => ?_
      obtain ⟨n, e⟩ := hl
      refine fin D C _ m ys n ⟨fun b o e => ?_, osg.1, osg.2⟩ ?_ ?_ hDC (let ⟨o, es, ep, e, q⟩ := hns; ⟨o, es, ep, hk₂ _ _ hIC.symm e, q⟩) (hk₂ _ _ hID.symm e) ?_
      · have e2 := x₂.sub _ _ e
        have nI : b ≠ I := fun z => by rw [z, hI] at e; cases e
        exact hk₂ b o nI (hk b o nI (fun z => by rw [z, hCn] at e2; cases e2) (fun z => by rw [z, hDn] at e2; cases e2) e2)
      · cases z : s.heap.get? D with
        | none => rfl
        | some o => have := x₂.sub _ _ z; rw [hDn] at this; cases this
      · cases z : s.heap.get? C with
        | none => rfl
        | some o => have := x₂.sub _ _ z; rw [hCn] at this; cases this
      · rw [List.take_length] at rl
        refine (rl.mono (vis_sub fun b o hb e => hk₂ b o (fun z => hb (by rw [z]; exact .head _)) e)).mono (vis_more fun a ha => .tail _ ha)
  exact codeAny_compStart_list (loop _ rfl) (J.self 0 A _ _ _ r (J.frame _ _ _ at0 fun b _ o e => old b o e) (loop _ rfl))

/-- a list comprehension -/
theorem EV.comp {elt iter : Expr} {x : Str} {px : Pos} {ifs : List Expr} {scope : Scope} {cl : List (Str × Addr)} {pos : Pos} {ρc : List (Str × D)} {d : D} {ds : List D} (p : D → Bool) (f : D → D)
    (hi : EV prog w G k env ρ σ iter d) (it : IT prog w k d ds) (se : Sees env scope cl x ρ ρc) (hz : ds.length ≤ sizeLine)
    (tests : ∀ C d, d ∈ ds → TS prog w G k (compEnvC scope cl C env) ((x, d) :: ρc) σ ifs (p d))
    (he : ∀ C d, d ∈ ds → p d = true → EV prog w G k (compEnvC scope cl C env) ((x, d) :: ρc) σ elt (f d))
    (hs : ∀ x, foldedSetIterable iter env x = pure x := by intro _; rfl) : EV prog w G k env ρ σ (.ListComp elt [⟨.Name x px, iter, ifs, 0⟩] scope pos) (.list ((ds.filter p).map f)) := fun A s H Q E r N q => by
  rw [eval_ListComp]
  refine wpAny_comprehension_free (use := Option.none) rfl hs se.clos se.kind se.names (hi A s H _ E r N fun vi s₁ x₁ ri => ?_)
  refine comp_core (RR := fun acc C => compPost (model prog w) A E Option.none Q acc C) p f it se hz tests he r (N.grow x₁.sub) ri ?_
  intro D C s' m' ys n x' hD hC hDC hns hl rl
  refine ⟨m', hns, fun h'' hs'' => ?_⟩
  have hCs : s₁.heap.get? C = Option.none := hC
  refine q _ _ (x₁.trans ⟨fun b o e => hs''.extBut b o (fun z => by rw [z, hCs] at e; cases e) (x'.sub b o e), x'.os, x'.gens⟩) (.list (vs := ys) (n := n) (vis_get (hs''.extBut _ _ hDC hl) fun hm => ?_) ?_)
  · obtain ⟨o, e⟩ := (N.grow x₁.sub).bound D hm
    rw [hD] at e; cases e
  · exact (rl.mono (vis_sub fun b o hb e => hs''.extBut b o (fun z => hb (by rw [z]; exact .head _)) e)).mono (vis_more fun a ha => .tail _ (.tail _ ha))

/-- a comprehension that is bound at once -/
theorem SO.assignComp {elt iter : Expr} {x y : Str} {px py : Pos} {ifs : List Expr} {scope : Scope} {cl : List (Str × Addr)} {pos spos : Pos} {ρc ρ' : List (Str × D)} {d : D} {ds : List D} (p : D → Bool) (f : D → D)
    (hi : EV prog w G k env ρ σ iter d) (it : IT prog w k d ds) (se : Sees env scope cl x ρ ρc) (hz : ds.length ≤ sizeLine)
    (tests : ∀ C d, d ∈ ds → TS prog w G k (compEnvC scope cl C env) ((x, d) :: ρc) σ ifs (p d))
    (he : ∀ C d, d ∈ ds → p d = true → EV prog w G k (compEnvC scope cl C env) ((x, d) :: ρc) σ elt (f d))
    (hy : Sto env y) (u : Upd y (.list ((ds.filter p).map f)) ρ ρ') (hR : R .next ρ' σ)
    (hsw : swapsWith (.ListComp elt [⟨.Name x px, iter, ifs, 0⟩] scope pos) (some (.Name y py)) spos.line env = pure true)
    (hs : ∀ x, foldedSetIterable iter env x = pure x := by intro _; rfl) :
    SO prog w G k env ρ σ (.Assign [.Name y py] (.ListComp elt [⟨.Name x px, iter, ifs, 0⟩] scope pos) spos) R := fun h₀ H₀ A s Q E r S q => by
  rw [exec_Assign_Name_used _ _ _ _ hsw]
  refine wpAny_bind (wpAny_standAt (wpAny_bind ?_))
  show wpAny _ A (do let _ ← comprehension (.ListComp elt [⟨.Name x px, iter, ifs, 0⟩] scope pos) scope env _ (newList []) false (eval iter env) (some (PySem.assign (.Name y py) env))) _ _ s
  refine wpAny_bind (wpAny_mono (wpAny_comprehension_free (use := some (PySem.assign (.Name y py) env)) (Q := fun _ s' => Q .next s') rfl hs se.clos se.kind se.names
    (hi A s _ _ E r S.nm fun vi s₁ x₁ ri => ?_)) (fun _ s' hq => wpAny_pure (wpAny_pure hq)) fun _ _ e => e)
  have S1 := S.grow x₁.sub
  refine comp_core (RR := fun acc C => compPost (model prog w) A E (some (PySem.assign (.Name y py) env)) (fun _ s' => Q .next s') acc C) p f it se hz tests he r S1.nm ri ?_
  intro D C s' m' ys n x' hD hC hDC hns hl rl
  have S2 := S1.grow x'.sub
  have hCo : C ∉ own env σ ++ H₀ := fun hm => by
    obtain ⟨o, e⟩ := S1.nm.bound C hm
    rw [hC] at e; cases e
  have hDo : D ∉ own env σ ++ H₀ := fun hm => by
    obtain ⟨o, e⟩ := S1.nm.bound D hm
    rw [hD] at e; cases e
  have hCo' : C ∉ own env σ := fun hm => hCo (List.mem_append.mpr (.inl hm))
  show wpAny _ A (PySem.assign (.Name y py) env (.ref D)) _ _ _
  -- the comprehension's own map is hidden till it is let go
  have S3 : St G h₀ (C :: H₀) env ρ σ s'.heap := S1.hide x'.sub hC (let ⟨o, es, ep, e, _⟩ := hns; ⟨o, e⟩)
  have rD : Rep (vis (own env σ ++ C :: H₀) s'.heap) (.ref D) (.list ((ds.filter p).map f)) := .list (vs := ys) (n := n) (vis_get hl fun hm => by
      rcases List.mem_append.mp hm with hm | hm
      · exact hDo (List.mem_append.mpr (.inl hm))
      · rcases List.mem_cons.mp hm with z | hm
        · exact hDC z
        · exact hDo (List.mem_append.mpr (.inr hm))) (rl.mono (vis_more fun a ha => by
      rcases List.mem_append.mp ha with ha | ha
      · exact .tail _ (.tail _ (List.mem_append.mpr (.inl ha)))
      · rcases List.mem_cons.mp ha with z | ha
        · rw [z]; exact .head _
        · exact .tail _ (.tail _ (List.mem_append.mpr (.inr ha)))))
  refine wpAny_assign_Name (S3.store hy u rD fun h₂ tk₂ S₄ hk₂ => ?_)
  refine ⟨m', let ⟨o, es, ep, e, z⟩ := hns; ⟨o, es, ep, hk₂ _ _ hCo' e, z⟩, fun h₃ hs₃ => ?_⟩
  have hCb : h₀.get? C = none := by
    cases z : h₀.get? C with
    | none => rfl
    | some o => have := S1.base _ _ z; rw [hC] at this; cases this
  have S₅ : St G h₀ H₀ env ρ' σ h₃ := S₄.dropHid hCo hCb fun b o hb e => (hs₃.2 b hb).trans e
  exact q .next .next _ _ _ hR S₅ rfl ⟨(x₁.trans x').os, (x₁.trans x').gens⟩
end
end

section
section
variable {prog : Program} {w : World} {G : Pg} {κ : Kn} {k : Nat} {env : Env} {ρ : List (Str × D)} {σ : List (Addr × List D)} {R : Post}

theorem none_size (h : Heap) : h.get? h.objs.size = none := by
  cases q : h.get? h.objs.size with
  | none => rfl
  | some o => exact absurd (Heap.lt_size q) (Nat.lt_irrefl _)
theorem iter_of {I : Addr} {g : Heap} {ds : List D} {fp : List Addr} {n : Nat} {P : Nat → Value → Prop} {At : Nat → Heap → Prop} (W : ∀ A' : Around, A'.handled = none → Walks prog w A' I fp [I] n P At) (hn : n = ds.length)
    (hP : ∀ i v, P i v → ∀ d, ds[i]? = some d → Rep g v d) (ok : ∀ b ∈ fp, b = I ∨ ∃ o, g.get? b = some o) (here : ∀ i h, At i h → ∃ o, h.get? I = some o) : Iter prog w k I g ds At fp where
  ok := ok
  frame := (W { handled := none } rfl).frame
  here := here
  item := fun i d A s Q E r hd at' q => (W A r.handled).item i s Q E (by rw [hn]; exact (List.getElem?_eq_some_iff.mp hd).1) at' fun v h' tk hv at₁ hk => q v h' tk (hP i v hv d hd) at₁ fun b o hb e => hk b o (fun hm => hb (List.mem_singleton.mp hm)) e
  done := fun A s Q E r at' q => (W A r.handled).done s Q E (hn ▸ at') fun h' tk hk => q h' tk fun b o hb e => hk b o (fun hm => hb (List.mem_singleton.mp hm)) e
  self := fun i A s Q E r at' q => (W A r.handled).self i s Q E at' q
theorem vis_push_new {H : List Addr} {h : Heap} {o : Obj} {b : Addr} {ob : Obj} (e : (vis H h).get? b = some ob) : (vis (h.objs.size :: H) (h.push o)).get? b = some ob :=
  vis_get (Heap.get?_push_of_some _ (vis_of e)) fun hm => by
    rcases List.mem_cons.mp hm with z | hm
    · rw [z] at e; have := vis_of e; rw [none_size] at this; cases this
    · exact vis_not e hm
theorem IT.list {ds : List D} : IT prog w k (.list ds) ds := fun A s H Q E v r b rv q => by
  cases rv with
  | list hl rl =>
    rename_i a vs n
    have hl' : IsL s.heap a vs.toArray n := vis_of hl
    have hne : a ≠ s.heap.objs.size := Nat.ne_of_lt (Heap.lt_size hl')
    have ga := vis_push_new (o := { cls := .type "list_iterator", data := .fields #[.ref a, .int 0 0] }) hl
    refine wpAny_pyIter_list hl'.isList (q _ _ (fun i h => h.IsListIter s.heap.objs.size a i ∧ h.IsList a vs.toArray) [s.heap.objs.size, a] (.of s s.toks (Sub.push _ _)) (none_size _)
      ⟨⟨_, Heap.get?_push_size _ rfl, rfl, rfl⟩, hl'.isList.push _⟩ (iter_of (fun A' hA => Walks.list hA _ a hne vs.toArray) (by rw [List.size_toArray, rl.length]) (fun i v hv d hd => ?_) (fun b hb => ?_) fun i h hh => ?_))
    · obtain ⟨v', e, rv⟩ := rl.get hd
      have hv' : vs[i]? = some v := by simpa using hv
      rw [hv'] at e
      rw [Option.some.inj e]
      exact rv.mono fun b o e => vis_push_new e
    · rcases List.mem_cons.mp hb with z | hb
      · exact .inl z
      · exact .inr ⟨_, by rw [List.mem_singleton.mp hb]; exact ga⟩
    · obtain ⟨⟨o, e, _⟩, _⟩ := hh; exact ⟨o, e⟩
def sgn (x : Str) : List D := x.cps.toList.map fun c => .str ⟨#[c]⟩
theorem IT.str {x : Str} : IT prog w k (.str x) (sgn x) := fun A s H Q E v r b rv q => by
  cases rv with
  | str _ t =>
    have hsz : x.cps.size = (sgn x).length := by simp [sgn]
    have hP : ∀ (T : String) i v, SignAt x i v → ∀ d, (sgn x)[i]? = some d → Rep (vis (s.heap.objs.size :: H) (s.heap.push { cls := .type T, data := .fields #[.str x t, .int 0 0] })) v d := fun T i v hv d hd => by
      obtain ⟨c, u, e, rfl⟩ := hv
      have e' : (sgn x)[i]? = some (.str ⟨#[c]⟩) := by simp [sgn, e]
      rw [e'] at hd
      rw [← Option.some.inj hd]
      exact .str _ _
    cases ha : x.cps.all (· < 128) with
    | false => exact wpAny_pyIter_wide ha (q _ _ _ [s.heap.objs.size] (.of s s.toks (Sub.push _ _)) (none_size _) ⟨_, Heap.get?_push_size _ rfl, rfl, rfl⟩
        (iter_of (fun A' hA => Walks.strWide hA _ x t) hsz (hP _) (fun b hb => .inl (List.mem_singleton.mp hb)) fun i h hh => let ⟨o, e, _⟩ := hh; ⟨o, e⟩))
    | true => exact wpAny_pyIter_ascii ha (q _ _ _ [s.heap.objs.size] (.of s s.toks (Sub.push _ _)) (none_size _) ⟨_, Heap.get?_push_size _ rfl, rfl, rfl⟩
        (iter_of (fun A' hA => Walks.strAscii hA _ x t) hsz (hP _) (fun b hb => .inl (List.mem_singleton.mp hb)) fun i h hh => let ⟨o, e, _⟩ := hh; ⟨o, e⟩))
theorem rsize_one {a b : Int} (h : a ≤ b) : Builtin.Range.rangeSize a b 1 = b - a := by
  rw [rangeSize_one]; split <;> omega
def rngL (a c : Int) (n : Nat) : List D := (List.range n).map fun (i : Nat) => D.int (a + (i : Int) * c)
theorem IT.rng {a b c : Int} {n : Nat} (hs : Builtin.Range.small a b c = true) (hn : Builtin.Range.rangeSize a b c = (n : Int)) : IT prog w k (.rng a b c) (rngL a c n) := fun A s H Q E v r bd rv q => by
  cases rv with
  | rng hr =>
    have hr' : IsRange s.heap _ a b c _ _ _ := vis_of hr
    refine wpAny_pyIter_range hr' hs (q _ _ (fun i h => IsRangeIter h s.heap.objs.size (a + (i : Nat) * c) ((n : Int) - (i : Nat)) c) [s.heap.objs.size] (.of s s.toks (Sub.push _ _)) (none_size _) ?_
      (iter_of (fun A' hA => Walks.range hA _ a c n) (by simp [rngL]) (fun i v hv d hd => ?_) (fun b hb => .inl (List.mem_singleton.mp hb)) fun i h hh => ⟨_, hh⟩))
    · show IsRangeIter _ _ _ _ _
      rw [hn]
      simpa using Heap.get?_push_size s.heap rfl
    · obtain ⟨t, rfl⟩ := hv
      have : d = .int (a + (i : Int) * c) := by
        unfold rngL at hd
        rw [List.getElem?_map] at hd
        cases e : (List.range n)[i]? with
        | none => rw [e] at hd; cases hd
        | some j =>
          rw [e] at hd
          have hj : j = i := by
            have := List.getElem?_eq_some_iff.mp e
            obtain ⟨hlt, hg⟩ := this
            simpa using hg.symm
          subst hj
          exact (Option.some.inj hd).symm
      rw [this]; exact .int _ _

-- built-in functions
theorem BN.len_list {ds : List D} (hz : ds.length < 2 ^ 62) : BN prog w k (.builtin "len") [.list ds] (.int ds.length) := fun A s H Q E vs r b rv q => by
  cases rv with
  | cons h hr => cases hr; cases h with
    | list hl rl =>
      have e := rl.length
      refine Calls.call_len_list (IsL.isList (vis_of hl)) (by rw [List.size_toArray, e]; omega) ?_
      have := q (.int ds.length (s.toks + 1)) _ (.tok s (s.toks + 1 + 1)) (.int _ _)
      simpa [e] using this
theorem BN.len_str {x : Str} (hz : x.length < 2 ^ 62) : BN prog w k (.builtin "len") [.str x] (.int x.length) := fun A s H Q E vs r b rv q => by
  cases rv with
  | cons h hr => cases hr; cases h with
    | str _ t => exact P.len_str (by omega) (q _ _ (.tok s (s.toks + 1 + 1)) (.int _ _))
theorem ints_of {g : Heap} : ∀ {ns : List Int} {vs : List Value}, RepL g vs (ns.map .int) → IntsAre vs ns
  | [], _, .nil => .nil
  | n :: ns, _, .cons h r => by cases h; exact .cons _ _ (ints_of r)
theorem BN.sum {ns : List Int} : BN prog w k (.builtin "sum") [.list (ns.map .int)] (.int ns.sum) := fun A s H Q E vs r b rv q => by
  cases rv with
  | cons h hr => cases hr; cases h with
    | list hl rl =>
      have hi := ints_of rl
      obtain ⟨xs, e⟩ := hi.allInts.items
      have hl' := IsL.isList (vis_of hl)
      rw [e] at hl'
      refine sum_intListG r.handled hl' fun h' tk t' hk => ?_
      have hs : preSum (numAt xs) xs.size = ns.sum := by
        rw [preSum_eq, List.take_of_length_le (by simp), ← nums_intItems, ← e]
        show (numsOf _).sum = _
        rw [hi.numsOf]
      rw [hs]
      exact q _ _ (.of s tk hk) (.int _ _)
theorem BN.range1 {n : Int} : BN prog w k (.type "range") [.int n] (.rng 0 n 1) := fun A s H Q E vs r b rv q => by
  cases rv with
  | cons h hr => cases hr; cases h with
    | int _ t => exact call_range_1 (q _ _ (.of s _ (Sub.push _ _)) (.rng (vis_get (IsRange.new ..) b.fresh)))
theorem BN.range3 {a b c : Int} (hc : c ≠ 0) (hc' : c.natAbs < 1073741824) : BN prog w k (.type "range") [.int a, .int b, .int c] (.rng a b c) := fun A s H Q E vs r bd rv q => by
  cases rv with
  | cons h hr => cases hr with
    | cons h2 hr => cases hr with
      | cons h3 hr => cases hr; cases h; cases h2; cases h3
                      exact call_range_3 hc (q _ _ (.of s _ (Sub.push _ _)) (.rng (vis_get (IsRange.new ..) bd.fresh))) (.inl (PyProof.noPylong_small hc'))
theorem EV.tcall {f e : Expr} {es : List Expr} {pos : Pos} {T : String} {ds : List D} {d : D} (hf : EV prog w G k env ρ σ f (.val (.type T))) (h : EVS prog w G k env ρ σ (e :: es) ds) (fn : BN prog w k (.type T) ds d)
    (hp : ∀ e', (backTo pos (starEach (e :: es) e')).any (·.1) = false := by intro _; rfl) (he : starEach (e :: es) env = (false, eval e env) :: starEach es env := by rfl)
    (hc : ∀ e', eval (.Call f (e :: es) [] pos) e' = (do callWith pos (← eval f e') [] (backTo pos (starEach (e :: es) e')) (backToKw pos (keywordEach [] e'))) := by intro _; rfl) :
    EV prog w G k env ρ σ (.Call f (e :: es) [] pos) d := fun A s H Q E r N q => by
  rw [hc]
  refine wpAny_bind (hf A s H _ E r N fun vf s₁ x₁ rf => ?_)
  cases rf
  refine PyProof.Rows.callWith_type (hp _) (evalArgs_EVS h he r (N.grow x₁.sub) fun vs s₂ x₂ rv => ?_)
  exact fn A s₂ H Q E vs r (N.grow (x₁.trans x₂).sub).bound rv fun v s₃ x₃ rv' => q v s₃ ((x₁.trans x₂).trans x₃) rv'

-- methods
def GMD (prog : Program) (w : World) (d : D) (name : Str) (id : String) : Prop :=
  ∀ (pl : Sem Bool) (A : Around) (s : Shared) (H : List Addr) (Q : Value × List Value → Shared → Prop) (E : Value → Shared → Prop) (v : Value), Rep (vis H s.heap) v d → Q (.builtin id, [v]) s → wpAny (model prog w) A (getMethod v name pl) Q E s
theorem mCall {prog : Program} {w : World} {A : Around} {E : Value → Shared → Prop} {s : Shared} {env : Env} {o : Expr} {name : Str} {apos pos : Pos} {args : List Expr} {Q : Value → Shared → Prop}
    (hbase : attributeBase o name env (eval o env) = eval o env)
    (hfew : methodCallForm (args.length + ([] : List Keyword).length) (backTo pos (starEach args env)) (backToKw pos (keywordEach [] env)) = true) (hline : (apos.endLine == pos.line) = true)
    (h : wpAny (model prog w) A (eval o env) (fun ov s₁ => wpAny (model prog w) A (getMethod ov name (do return (← importBound o env).getD true)) (fun fx s₂ => wpAny (model prog w) A (callWith pos fx.1 fx.2 (backTo pos (starEach args env)) []) Q E s₂) E s₁) E s) :
    wpAny (model prog w) A (eval (.Call (.Attribute o name apos) args [] pos) env) Q E s := by
  rw [arm_eval_Call, hbase]
  refine wpAny_bind (wpAny_mono h (fun ov s₁ h₁ => ?_) fun _ _ e => e)
  refine wpAny_bind (wpAny_standAt ?_)
  have hpos : methodCallPos true o env apos pos = pure pos := by unfold methodCallPos; simp [hline]
  unfold methodCall
  rw [hfew]
  refine wpAny_bind (wpAny_holding (wpAny_mono h₁ (fun fx s₂ h₂ => ?_) fun _ _ e => e))
  exact wpAny_bind (wpAny_of_eq hpos h₂)
theorem EV.mcall {o e : Expr} {es : List Expr} {name : Str} {apos pos : Pos} {id : String} {da d : D} {ds : List D} (ho : EV prog w G k env ρ σ o da) (gm : GMD prog w da name id) (h : EVS prog w G k env ρ σ (e :: es) ds) (fn : BN prog w k (.builtin id) (da :: ds) d)
    (hp : (backTo pos (starEach es env)).any (·.1) = false := by rfl) (he : starEach (e :: es) env = (false, eval e env) :: starEach es env := by rfl)
    (hbase : attributeBase o name env (eval o env) = eval o env := by rfl)
    (hfew : methodCallForm ((e :: es).length + ([] : List Keyword).length) (backTo pos (starEach (e :: es) env)) (backToKw pos (keywordEach [] env)) = true := by rfl) (hline : (apos.endLine == pos.line) = true := by rfl) :
    EV prog w G k env ρ σ (.Call (.Attribute o name apos) (e :: es) [] pos) d := fun A s H Q E r N q => by
  refine mCall hbase hfew hline (ho A s H _ E r N fun vo s₁ x₁ ro => gm _ A s₁ H _ E vo ro ?_)
  refine callWith_method1 (h A s₁ H _ E pos r (N.grow x₁.sub) fun vs s₂ x₂ rv => ?_) he hp
  exact fn A s₂ H Q E (vo :: vs) r (N.grow (x₁.trans x₂).sub).bound (.cons (ro.mono x₂.sub.vis) rv) fun v s₃ x₃ rv' => q v s₃ ((x₁.trans x₂).trans x₃) rv'
theorem GMD.join {x : Str} : GMD prog w (.str x) "join" "str.join" := fun pl A s H Q E v rv q => by cases rv; exact GM.join q
theorem GMD.index {x : Str} : GMD prog w (.str x) "index" "str.index" := fun pl A s H Q E v rv q => by cases rv; exact GM.index q
theorem GMD.find {x : Str} : GMD prog w (.str x) "find" "str.find" := fun pl A s H Q E v rv q => by cases rv; exact GM.find q
theorem GMD.replace {x : Str} : GMD prog w (.str x) "replace" "str.replace" := fun pl A s H Q E v rv q => by cases rv; exact GM.replace q
theorem strs_of {g : Heap} : ∀ {xs : List Str} {vs : List Value}, RepL g vs (xs.map .str) → ∃ l : List (Str × Tok), vs = strValues l ∧ l.map (·.1) = xs
  | [], _, .nil => ⟨[], rfl, rfl⟩
  | x :: xs, _, .cons h r => by
    cases h with
    | str _ t =>
      obtain ⟨l, rfl, rfl⟩ := strs_of r
      exact ⟨(x, t) :: l, rfl, rfl⟩
theorem BN.join {x : Str} {xs : List Str} (hok : JoinOk x xs = true) : BN prog w k (.builtin "str.join") [.str x, .list (xs.map .str)] (.str (Txt.join x xs)) := fun A s H Q E vs r b rv q => by
  cases rv with
  | cons h hr => cases hr with
    | cons h2 hr => cases hr; cases h; cases h2 with
      | list hl rl =>
        obtain ⟨l, rfl, e⟩ := strs_of rl
        exact SC.join (IsL.isList (vis_of hl)) e hok fun t' k' => q _ _ (.tok s k') (.str _ _)
theorem BN.index {x y : Str} {i : Nat} {rest : List Nat} (ho : Builtin.Str.occurrences x y 0 x.length 1 = i :: rest) : BN prog w k (.builtin "str.index") [.str x, .str y] (.int i) := fun A s H Q E vs r b rv q => by
  cases rv with
  | cons h hr => cases hr with
    | cons h2 hr => cases hr; cases h; cases h2
                    exact SC.index ho (q _ _ (.tok s (s.toks + 1)) (.int _ _))
theorem BN.replace {x y z : Str} (ho : (Builtin.Str.occurrences x y 0 x.length (x.length + 1)).isEmpty = true) : BN prog w k (.builtin "str.replace") [.str x, .str y, .str z] (.str x) := fun A s H Q E vs r b rv q => by
  cases rv with
  | cons h hr => cases hr with
    | cons h2 hr => cases hr with
      | cons h3 hr =>
        cases hr; cases h; cases h2; cases h3
        rename_i t u v
        refine call_gives F.slot_str_replace (typeIs_str _ _ _) F.entry_str_replace (F.args_str_replace_3 _ _ _) (gives_str_replace x y z t u v fun hh => by rw [ho] at hh; cases hh) ?_
        rw [ho]
        exact q _ _ (.refl s) (.str _ _)
end
end

section
section
variable {prog : Program} {w : World} {G : Pg} {κ : Kn} {k : Nat} {env : Env} {ρ : List (Str × D)} {σ : List (Addr × List D)} {R : Post}

theorem bindL_out {K : Str → Option NameKind} {x : Str} : ∀ (bs : List (Str × Value)) (m : Str → Option Value), x ∉ bs.map (·.1) → bindL K bs m x = m x
  | [], m, _ => rfl
  | (n, v) :: r, m, h => by
    have h' : x ≠ n ∧ x ∉ r.map (·.1) := ⟨fun e => h (e ▸ .head _), fun e => h (.tail _ e)⟩
    rw [bindL, bindL_out r _ h'.2]
    split
    · exact if_neg h'.1
    · rfl
theorem bindL_in {K : Str → Option NameKind} {x : Str} {v : Value} (hk : K x = some .local) : ∀ (bs : List (Str × Value)) (m : Str → Option Value), (bs.map (·.1)).Nodup → (x, v) ∈ bs → bindL K bs m x = some v
  | [], m, _, h => nomatch h
  | (n, v') :: r, m, hn, h => by
    have hn' := List.nodup_cons.mp (by simpa using hn : (n :: r.map (·.1)).Nodup)
    rw [bindL]
    rcases List.mem_cons.mp h with e | h
    · cases e
      rw [bindL_out r _ hn'.1, if_pos hk, if_pos rfl]
    · exact bindL_in hk r _ hn'.2 h
theorem bindC_out {K : Str → Option NameKind} {x : Str} : ∀ (bs : List (Str × Value)) (m : Str → Option Value), x ∉ bs.map (·.1) → bindC K bs m x = m x
  | [], m, _ => rfl
  | (n, v) :: r, m, h => by
    have h' : x ≠ n ∧ x ∉ r.map (·.1) := ⟨fun e => h (e ▸ .head _), fun e => h (.tail _ e)⟩
    rw [bindC, bindC_out r _ h'.2]
    split
    · rfl
    · exact if_neg h'.1
theorem bindC_in {K : Str → Option NameKind} {x : Str} {v : Value} (hk : K x = some .cell) : ∀ (bs : List (Str × Value)) (m : Str → Option Value), (bs.map (·.1)).Nodup → (x, v) ∈ bs → bindC K bs m x = some v
  | [], m, _, h => nomatch h
  | (n, v') :: r, m, hn, h => by
    have hn' := List.nodup_cons.mp (by simpa using hn : (n :: r.map (·.1)).Nodup)
    rw [bindC]
    rcases List.mem_cons.mp h with e | h
    · cases e
      rw [bindC_out r _ hn'.1, if_neg (by rw [hk]; intro q; cases q), if_pos rfl]
    · exact bindC_in hk r _ hn'.2 h

theorem RepL.zip {g : Heap} : ∀ {vs : List Value} {ds : List D}, RepL g vs ds → ∀ {xs : List Str} {p : Str × D}, p ∈ xs.zip ds → ∃ v, (p.1, v) ∈ xs.zip vs ∧ Rep g v p.2
  | _, _, .nil, xs, p, h => by simp at h
  | _, _, .cons h r, [], p, q => by simp at q
  | _, _, .cons (v := v) (d := d) h r, x :: xs, p, q => by
    rw [List.zip_cons_cons] at q
    rcases List.mem_cons.mp q with e | q
    · rw [e]; exact ⟨v, by rw [List.zip_cons_cons]; exact .head _, h⟩
    · obtain ⟨v', a, b⟩ := RepL.zip r q
      exact ⟨v', by rw [List.zip_cons_cons]; exact .tail _ a, b⟩

/-- a function of the program, as it lies in the written part -/
structure Fn (K : Params → Frag) (a : Addr) where
  name : Str
  params : Arguments
  body : List Stmt
  scope : Scope
  pm : Value
  c : Addr
  vs : Array Value
  t : Tok
  look : ∀ P, (K P).lookup a = some { cls := .type "function", data := .func (docDef name params body scope pm (.ref c) .none) }
  code : ∀ P, (K P).lookup c = some { cls := .type "code", data := .fields vs }
  qual : vs[1]? = some (.str name t)
def Fn.en {K : Params → Frag} {a : Addr} (f : Fn K a) (L : Addr) : Env := envOfC f.name f.scope L a (.ref f.c)
/-- the state at the entry of a call -/
theorem St.entry {name : Str} {scope : Scope} {a : Addr} {cd : Value} {xs : List Str} {vs : List Value} {ds : List D} {g h₁ : Heap} {H : List Addr} (hk : scope.kind = .function)
    (F : Fr g g.objs.size h₁ (bindL (envOfC name scope g.objs.size a cd).kindOf (xs.zip vs) fun _ => none))
    (C : Cl g.objs.size (cellsFrom (g.objs.size + 1) scope.names []) h₁ (bindC (envOfC name scope g.objs.size a cd).kindOf (xs.zip vs) fun _ => none))
    (hcn : ∀ L, ∀ q ∈ cellsFrom L scope.names [], (cellsFrom L scope.names []).lookup q.1 = some q.2) (hx : xs.Nodup)
    (hkind : ∀ x ∈ xs, scope.names.lookup x = some .local ∨ (scope.names.lookup x = some .cell ∧ ∀ L, ∃ c, (cellsFrom L scope.names []).lookup x = some c))
    (hP : G.P (vis H g)) (hB : Bound H g) (hl : RepL (vis H g) vs ds) : St G g H (envOfC name scope g.objs.size a cd) (xs.zip ds) [] h₁ := by
  have hown : ∀ b ∈ own (envOfC name scope g.objs.size a cd) [], g.get? b = none := fun b hb => by
    have : g.objs.size ≤ b := by
      rcases List.mem_cons.mp hb with z | hb
      · rw [z]; exact Nat.le_refl _
      · rcases List.mem_append.mp hb with hb | hb
        · obtain ⟨q, hq, rfl⟩ := List.mem_map.mp hb
          exact Nat.le_of_lt (C.above q.1 q.2 hq)
        · exact nomatch hb
    cases z : g.get? b with
    | none => rfl
    | some o => exact absurd (Heap.lt_size z) (Nat.not_lt.mpr this)
  have hv : Sub (vis H g) (vis (own (envOfC name scope g.objs.size a cd) [] ++ H) h₁) := fun b o e => vis_get (F.keep b o (vis_of e)) fun hm => by
    rcases List.mem_append.mp hm with hm | hm
    · have := hown b hm; rw [vis_of e] at this; cases this
    · exact vis_not e hm
  have hzn : (List.map (·.1) (xs.zip vs)).Nodup ∧ (List.map (·.1) (xs.zip ds)).Nodup := by
    have key : ∀ {β : Type} (l : List β), (List.map (·.1) (xs.zip l)).Nodup := fun l => by
      refine List.Sublist.nodup ?_ hx
      clear hx hkind F C hown hv
      induction xs generalizing l with
      | nil => simp
      | cons x xs ih => cases l with
        | nil => simp
        | cons y l => simpa using ih l
    exact ⟨key _, key _⟩
  refine ⟨F.keep, ⟨G.mono hv hP, hk, fun b hb => ?_, fun p hp => ?_, fun p hp => (nomatch hp)⟩, hown, ?_, hzn.2, ⟨_, F.ns⟩, fun q hq => ⟨_, C.cell q.1 q.2 (hcn _ q hq)⟩, fun a ha hm => by
    obtain ⟨o, e⟩ := hB a hm; rw [hown a ha] at e; cases e⟩
  · rcases List.mem_append.mp hb with hb | hb
    · rcases List.mem_cons.mp hb with z | hb
      · rw [z]; obtain ⟨o, es, ep, e, _⟩ := F.ns; exact ⟨o, e⟩
      · rcases List.mem_append.mp hb with hb | hb
        · obtain ⟨q, hq, rfl⟩ := List.mem_map.mp hb
          obtain ⟨o, e, _⟩ := C.cell q.1 q.2 (hcn _ q hq); exact ⟨o, e⟩
        · exact nomatch hb
    · obtain ⟨o, e⟩ := hB b hb; exact ⟨o, F.keep _ _ e⟩
  · obtain ⟨v, hm, rv⟩ := hl.zip hp
    refine ⟨v, ?_, rv.mono hv⟩
    have hxm : p.1 ∈ xs := (List.of_mem_zip hp).1
    rcases hkind _ hxm with hkl | ⟨hkc, hc⟩
    · exact .inl ⟨hkl, _, F.ns, bindL_in hkl _ _ hzn.1 hm⟩
    · obtain ⟨c, hc⟩ := hc (g.objs.size + 1)
      refine .inr ⟨.inl hkc, c, hc, ?_⟩
      have := C.cell _ _ hc
      rwa [bindC_in hkc _ _ hzn.1 hm] at this
  · have : (List.map (·.2) (cellsFrom (g.objs.size + 1) scope.names [])).Nodup := by
      rw [List.Nodup, List.pairwise_map]; exact C.apart
    refine List.nodup_cons.mpr ⟨fun hm => ?_, by rw [List.map_nil, List.append_nil]; exact this⟩
    rcases List.mem_append.mp hm with hm | hm
    · obtain ⟨q, hq, e⟩ := List.mem_map.mp hm
      have := C.above q.1 q.2 hq
      rw [e] at this
      exact Nat.lt_irrefl _ this
    · exact nomatch hm

theorem FN.body {K : Params → Frag} {P : Params} {a : Addr} {mg mb : Str → Option Value} (f : Fn K a) (xs : List Str) {ds : List D} {d : D} (hlen : xs.length = ds.length := by rfl)
    (h : ∀ L, SX prog w (Kn.mk (K P) mg mb).pg k (f.en L) (xs.zip ds) [] f.body (fun o _ _ => o = .ret d))
    (hb : ∀ vs : List Value, vs.length = xs.length → bindArgs (docDef f.name f.params f.body f.scope f.pm (.ref f.c) .none) ⟨vs, []⟩ = pure (xs.zip vs))
    (hx : xs.Nodup) (hkind : ∀ x ∈ xs, f.scope.names.lookup x = some .local ∨ (f.scope.names.lookup x = some .cell ∧ ∀ L, ∃ c, (cellsFrom L f.scope.names []).lookup x = some c))
    (hcn : ∀ L, ∀ q ∈ cellsFrom L f.scope.names [], (cellsFrom L f.scope.names []).lookup q.1 = some q.2)
    (hco : f.scope.isCoroutine = false := by rfl) (hgen : f.scope.isGenerator = false := by rfl) (hk : f.scope.kind = .function := by rfl) : FN prog w (Kn.mk (K P) mg mb).pg (k + 1) a ds d := fun A s H Q E vs r hP hB hl q => by
  have hPl := hP
  obtain ⟨hK, hg, hbn, hlim⟩ := hP
  have hvl : vs.length = xs.length := by rw [hl.length, hlen]
  refine wpAny_call (call_cells_ret r.lim (vis_of (hK _ _ (f.look P))) rfl (hlim.keeps (vis_le _ _)) ⟨f.c, _, f.vs, f.t, rfl, vis_of (hK _ _ (f.code P)), rfl, f.qual⟩ (hb vs hvl) (fun x hx' => ?_) (fun h₁ tk F C => ?_) hco hgen hk)
  · have hm : x.1 ∈ xs := (List.of_mem_zip hx').1
    rcases hkind _ hm with e | ⟨e, e'⟩
    · exact .inl e
    · obtain ⟨c, hc⟩ := e' (s.heap.objs.size + 1)
      exact .inr ⟨e, by rw [hc]; rfl⟩
  · have S := St.entry hk F C hcn hx hkind hPl hB hl
    refine h _ s.heap H _ { s with heap := h₁, toks := tk } _ _ (r.deeper _) S fun o fl ρ' σ' s' hR S' hf os => ?_
    subst hR
    obtain ⟨v, rfl, rv⟩ := hf
    exact q v s' ⟨S'.base, os.os, os.gens⟩ (rv.mono (vis_more fun a ha => List.mem_append.mpr (.inr ha)))
end
end

section
section
variable {prog : Program} {w : World} {G : Pg} {κ : Kn} {k : Nat} {env : Env} {ρ : List (Str × D)} {σ : List (Addr × List D)} {R : Post}

def leS (a b : Str) : Bool := !decide (b.cps.toList < a.cps.toList)
def gtS (a b : Str) : Bool := decide (b.cps.toList < a.cps.toList)
def inS (y x : Str) : Bool := !(Builtin.Str.occurrences x y 0 x.length 1).isEmpty
theorem CP.le_str {a b : Str} : CP prog w k .LtE (.str a) (.str b) (leS a b) := fun A s H Q E va vb r _ ra rb q => by
  cases ra; cases rb; exact P.le_str (q _ (.refl _))
theorem CP.gt_str {a b : Str} : CP prog w k .Gt (.str a) (.str b) (gtS a b) := fun A s H Q E va vb r _ ra rb q => by
  cases ra; cases rb; exact P.gt_str (q _ (.refl _))
theorem CP.in_str {y x : Str} : CP prog w k .In (.str y) (.str x) (inS y x) := fun A s H Q E va vb r _ ra rb q => by
  cases ra; cases rb; exact P.in_str (q _ (.refl _))
theorem CP.notIn_str {y x : Str} : CP prog w k .NotIn (.str y) (.str x) (!inS y x) := fun A s H Q E va vb r _ ra rb q => by
  cases ra; cases rb; exact P.notIn_str (q _ (.refl _))
theorem CP.eq_str_none {a : Str} : CP prog w k .Eq (.str a) .none false := fun A s H Q E va vb r _ ra rb q => by
  cases ra; cases rb; exact EqNone.eq_str_none (q _ (.refl _))
theorem CP.eq_none_none : CP prog w k .Eq .none .none true := fun A s H Q E va vb r _ ra rb q => by
  cases ra; cases rb; exact EqNone.eq_none_none (q _ (.refl _))
def isNone : D → Bool
  | .none => true
  | _ => false
theorem CP.is_none {d : D} (h : d = .none ∨ ∃ x, d = .str x) : CP prog w k .Is d .none (isNone d) := fun A s H Q E va vb r _ ra rb q => by
  rcases h with rfl | ⟨x, rfl⟩
  · cases ra; cases rb
    show wpAny _ A (do return .bool (← isSame .none .none)) Q E s
    exact wpAny_bind (wpAny_pure (wpAny_pure (q _ (.refl _))))
  · cases ra; cases rb
    show wpAny _ A (do return .bool (← isSame (.str _ _) .none)) Q E s
    exact wpAny_bind (wpAny_pure (wpAny_pure (q _ (.refl _))))
theorem CP.isnot_none {d : D} (h : d = .none ∨ ∃ x, d = .str x) : CP prog w k .IsNot d .none (!isNone d) := fun A s H Q E va vb r _ ra rb q => by
  rcases h with rfl | ⟨x, rfl⟩
  · cases ra; cases rb
    show wpAny _ A (do return .bool (!(← isSame .none .none))) Q E s
    exact wpAny_bind (wpAny_pure (wpAny_pure (q _ (.refl _))))
  · cases ra; cases rb
    show wpAny _ A (do return .bool (!(← isSame (.str _ _) .none))) Q E s
    exact wpAny_bind (wpAny_pure (wpAny_pure (q _ (.refl _))))
theorem TR.str {x : Str} (hz : x.length < 2 ^ 62) : TR prog w k (.str x) ((x.length : Int) != 0) := fun A s H Q E v r _ rv q => by
  cases rv; exact P.truthy_str (by omega) (q _ (.tok s _))
theorem TR.list {ds : List D} (hz : ds.length < 2 ^ 62) : TR prog w k (.list ds) (!ds.isEmpty) := fun A s H Q E v r _ rv q => by
  cases rv with
  | list hl rl =>
    have hl' : IsL s.heap _ _ _ := vis_of hl
    rename_i a vs n
    refine wpAny_truthy_list hl'.isList (by rw [List.size_toArray, rl.length]; omega) ?_
    have : (!(Array.isEmpty (List.toArray vs))) = !ds.isEmpty := by
      rw [List.isEmpty_toArray]
      cases rl <;> rfl
    rw [this]
    exact q _ (.tok s _)
theorem strsT {g : Heap} : ∀ {xs : List Str} {vs : List Value}, RepL g vs (xs.map .str) → StrsAre vs xs
  | [], _, .nil => .nil
  | x :: xs, _, .cons h r => by cases h; exact .cons _ _ (strsT r)
theorem CP.in_tuple {x : Str} {ys : List Str} : CP prog w k .In (.str x) (.tup (ys.map .str)) (ys.any (· == x)) := fun A s H Q E va vb r _ ra rb q => by
  cases ra; cases rb with
  | tup hl rl => exact in_tuple_strs ⟨_, vis_of hl, rfl, _, rfl⟩ (by simpa using strsT rl) (q _ (.refl _))

def isB (b : Bool) : Value → Bool
  | .bool a => a == b
  | _ => false
theorem eqB {g : Heap} (b : Bool) : ∀ {bs : List Bool} {vs : List Value}, RepL g vs (bs.map .bool) → ∀ y, y ∈ vs → MeetsSeq.EqGives y (.bool b) (isB b y)
  | [], _, .nil, y, h => nomatch h
  | x :: xs, _, .cons h r, y, hy => by
    rcases List.mem_cons.mp hy with e | hy
    · subst e
      cases h
      exact fun prog w A E s Q h => SeqAt.EqAt.bool_bool x b prog w E Q h
    · exact eqB b r y hy
theorem any_isB {g : Heap} (b : Bool) : ∀ {bs : List Bool} {vs : List Value}, RepL g vs (bs.map .bool) → vs.any (isB b) = bs.any (· == b)
  | [], _, .nil => rfl
  | x :: xs, _, .cons h r => by cases h; rw [List.any_cons, List.any_cons, any_isB b r]; rfl
theorem get_isB {g : Heap} (b : Bool) : ∀ {bs : List Bool} {vs : List Value}, RepL g vs (bs.map .bool) → ∀ (i : Nat) (h : i < vs.length) (h' : i < bs.length), isB b vs[i] = (bs[i] == b)
  | x :: xs, _, .cons h r, 0, _, _ => by cases h; rfl
  | x :: xs, _, .cons h r, i + 1, h1, h2 => get_isB b r i (by simpa using h1) (by simpa using h2)
theorem CP.in_listB {b : Bool} {bs : List Bool} : CP prog w k .In (.bool b) (.list (bs.map .bool)) (bs.any (· == b)) := fun A s H Q E va vb r _ ra rb q => by
  cases ra; cases rb with
  | list hl rl =>
    have hl' : IsL s.heap _ _ _ := vis_of hl
    refine SeqInW.in_listW (isB b) (fun y hy => eqB b rl y (by simpa using hy)) hl'.isList ?_
    rw [← Array.any_toList, List.toList_toArray, any_isB b rl]
    exact q _ (.refl _)
theorem GMD.lindex {ds : List D} : GMD prog w (.list ds) "index" "list.index" := fun pl A s H Q E v rv q => by
  cases rv with
  | list hl rl =>
    have hl' : IsL s.heap _ _ _ := vis_of hl
    exact getMethod_list_of F.slot_list_index F.type_list_index hl'.isList ⟨_, hl', rfl⟩ q
theorem BN.indexB {b : Bool} {bs : List Bool} (hz : bs.length < 2 ^ 62) (hb : b ∈ bs) : BN prog w k (.builtin "list.index") [.list (bs.map .bool), .bool b] (.int (bs.idxOf b)) := fun A s H Q E vs r b' rv q => by
  cases rv with
  | cons h hr => cases hr with
    | cons h2 hr => cases hr; cases h2; cases h with
      | list hl rl =>
        rename_i l vs n
        have hl' : IsL s.heap _ _ _ := vis_of hl
        have hlen := rl.length
        rw [List.length_map] at hlen
        have hj : bs.idxOf b < bs.length := List.idxOf_lt_length_iff.mpr hb
        refine call_meets F.slot_list_index hl'.isList.typeIs F.entry_list_index (F.args_list_index_2 _ _)
          (MeetsSeq.list_index l vs.toArray n (.bool b) (isB b) (fun y hy => eqB b rl y (by simpa using hy)) (bs.idxOf b) (by rw [List.size_toArray, hlen]; exact hj) (by omega) ?_ ?_) ⟨hl', q _ _ (.tok s _) (.int _ _)⟩
        · show isB b vs[bs.idxOf b] = true
          rw [get_isB b rl _ (by omega) hj, List.getElem_idxOf hj]
          exact beq_self_eq_true b
        · intro j hjs hlt
          show isB b vs[j] = false
          rw [get_isB b rl j (by simpa using hjs) (by omega)]
          have := List.not_of_lt_findIdx (p := (· == b)) (xs := bs) (i := j) hlt
          simpa using this
end
end

section
section
variable {prog : Program} {w : World} {G : Pg} {κ : Kn} {k : Nat} {env : Env} {ρ ρ' : List (Str × D)} {σ : List (Addr × List D)} {R : Post} {h₀ h h' : Heap} {H₀ : List Addr}

/-- the frame's own list, seen as a plain one -/
inductive Fz (a : Addr) (ds : List D) : List (Str × D) → List (Str × D) → Prop
  | nil : Fz a ds [] []
  | same {p : Str × D} {r r' : List (Str × D)} : Fz a ds r r' → Fz a ds (p :: r) (p :: r')
  | here {x : Str} {r r' : List (Str × D)} : Fz a ds r r' → Fz a ds ((x, .loc a) :: r) ((x, .list ds) :: r')
theorem Fz.mem {a : Addr} {ds : List D} {r r' : List (Str × D)} (f : Fz a ds r r') : ∀ p ∈ r', p ∈ r ∨ ((p.1, D.loc a) ∈ r ∧ p.2 = .list ds) := by
  induction f with
  | nil => intro p hp; exact nomatch hp
  | same _ ih =>
    intro p hp
    rcases List.mem_cons.mp hp with e | hp
    · exact .inl (e ▸ .head _)
    · exact (ih p hp).imp (fun h => .tail _ h) fun h => ⟨.tail _ h.1, h.2⟩
  | here _ ih =>
    intro p hp
    rcases List.mem_cons.mp hp with e | hp
    · rw [e]; exact .inr ⟨.head _, rfl⟩
    · exact (ih p hp).imp (fun h => .tail _ h) fun h => ⟨.tail _ h.1, h.2⟩
theorem Fz.names {a : Addr} {ds : List D} {r r' : List (Str × D)} (f : Fz a ds r r') : r'.map (·.1) = r.map (·.1) := by
  induction f with
  | nil => rfl
  | same _ ih => rw [List.map_cons, List.map_cons, ih]
  | here _ ih => rw [List.map_cons, List.map_cons, ih]
theorem Nm.see {H H' : List Addr} {a : Addr} {ds : List D} (N : Nm G env ρ σ H h) (f : Fz a ds ρ ρ') (hm : (a, ds) ∈ σ) (hs : ∀ b ∈ H', b ∈ H) (ha : a ∉ H') : Nm G env ρ' σ H' h := by
  have hv : Sub (vis H h) (vis H' h) := vis_more hs
  obtain ⟨vs, n, hl, rl⟩ := N.locs _ hm
  refine ⟨G.mono hv N.prog, N.fn, fun b hb => N.bound b (hs b hb), fun p hp => ?_, fun p hp => let ⟨vs, n, a, b⟩ := N.locs p hp; ⟨vs, n, a, b.mono hv⟩⟩
  rcases f.mem p hp with hp | ⟨hp, e⟩
  · obtain ⟨v, hh, rv⟩ := N.names p hp
    exact ⟨v, hh, rv.mono hv⟩
  · obtain ⟨v, hh, rv⟩ := N.names _ hp
    cases rv
    exact ⟨_, hh, by rw [e]; exact .list (vis_get hl ha) (rl.mono hv)⟩
theorem Nm.fewer {H : List Addr} {σ' : List (Addr × List D)} (N : Nm G env ρ σ H h) (hs : ∀ p ∈ σ', p ∈ σ) : Nm G env ρ σ' H h := ⟨N.prog, N.fn, N.bound, N.names, fun p hp => N.locs p (hs p hp)⟩
def flat : D → Prop
  | .none | .bool _ | .int _ | .str _ => True
  | _ => False
theorem Rep.flat {g g' : Heap} {v : Value} {d : D} (h : Rep g v d) (hd : flat d) : Rep g' v d := by
  cases h <;> first | exact hd.elim | constructor
theorem EV.peek {a : Addr} {ds : List D} {e : Expr} {d : D} (f : Fz a ds ρ ρ') (hm : (a, ds) ∈ σ) (h : EV prog w G k env ρ' σ e d) (hd : flat d) : EV prog w G k env ρ σ e d := fun A s H Q E r N q =>
  h A s (H.filter (· ≠ a)) Q E r (N.see f hm (fun b hb => (List.mem_filter.mp hb).1) fun hb => by simp at hb) fun v s' x rv => q v s' x (rv.flat hd)
theorem TV.peek {a : Addr} {ds : List D} {e : Expr} {b : Bool} (f : Fz a ds ρ ρ') (hm : (a, ds) ∈ σ) (h : TV prog w G k env ρ' σ e b) : TV prog w G k env ρ σ e b := fun A s H Q E r N q =>
  h A s (H.filter (· ≠ a)) Q E r (N.see f hm (fun b hb => (List.mem_filter.mp hb).1) fun hb => by simp at hb) fun s' x => q s' x

theorem own_sub {σ₁ σ₂ : List (Addr × List D)} {p : Addr × List D} {b : Addr} (hb : b ∈ own env (σ₁ ++ σ₂)) : b ∈ own env (σ₁ ++ p :: σ₂) := by
  simp only [own, List.map_append, List.map_cons, List.mem_cons, List.mem_append] at hb ⊢
  rcases hb with q | q | q | q
  · exact .inl q
  · exact .inr (.inl q)
  · exact .inr (.inr (.inl q))
  · exact .inr (.inr (.inr (.inr q)))
theorem own_nodup {σ₁ σ₂ : List (Addr × List D)} {p : Addr × List D} (hn : (own env (σ₁ ++ p :: σ₂)).Nodup) : (own env (σ₁ ++ σ₂)).Nodup ∧ p.1 ∉ own env (σ₁ ++ σ₂) := by
  have e1 : own env (σ₁ ++ p :: σ₂) = (env.locals :: (env.cells.map (·.2) ++ σ₁.map (·.1))) ++ p.1 :: σ₂.map (·.1) := by simp [own]
  have e2 : own env (σ₁ ++ σ₂) = (env.locals :: (env.cells.map (·.2) ++ σ₁.map (·.1))) ++ σ₂.map (·.1) := by simp [own]
  rw [e1] at hn
  rw [e2]
  generalize env.locals :: (env.cells.map (·.2) ++ σ₁.map (·.1)) = X at hn ⊢
  obtain ⟨n1, n2, n3⟩ := List.nodup_append.mp hn
  obtain ⟨n4, n5⟩ := List.nodup_cons.mp n2
  refine ⟨List.nodup_append.mpr ⟨n1, n5, fun a ha b hb => n3 a ha b (.tail _ hb)⟩, fun hm => ?_⟩
  rcases List.mem_append.mp hm with hm | hm
  · exact n3 _ hm _ (.head _) rfl
  · exact n4 hm
/-- an own list is let stand as it is -/
theorem St.freeze {a : Addr} {ds : List D} {σ₁ σ₂ : List (Addr × List D)} (S : St G h₀ H₀ env ρ (σ₁ ++ (a, ds) :: σ₂) h) (f : Fz a ds ρ ρ') : St G h₀ H₀ env ρ' (σ₁ ++ σ₂) h := by
  obtain ⟨n1, n2⟩ := own_nodup S.nodup
  have ha : a ∈ own env (σ₁ ++ (a, ds) :: σ₂) := own_loc (p := (a, ds)) (by simp)
  refine ⟨S.base, ((S.nm.see (H' := own env (σ₁ ++ σ₂) ++ H₀) f (by simp) (fun b hb => ?_) fun hm => ?_).fewer fun p hp => ?_), fun b hb => S.fresh b (own_sub hb), n1, f.names ▸ S.names, S.ns, S.cells, fun b hb => S.apart b (own_sub hb)⟩
  · rcases List.mem_append.mp hb with hb | hb
    · exact List.mem_append.mpr (.inl (own_sub hb))
    · exact List.mem_append.mpr (.inr hb)
  · rcases List.mem_append.mp hm with hm | hm
    · exact n2 hm
    · exact S.apart a ha hm
  · rcases List.mem_append.mp hp with hp | hp
    · exact List.mem_append.mpr (.inl hp)
    · exact List.mem_append.mpr (.inr (.tail _ hp))
theorem SX.freeze {a : Addr} {ds : List D} {σ₁ σ₂ : List (Addr × List D)} {body : List Stmt} (f : Fz a ds ρ ρ') (h : SX prog w G k env ρ' (σ₁ ++ σ₂) body R) : SX prog w G k env ρ (σ₁ ++ (a, ds) :: σ₂) body R := fun h₀ H₀ A s Q E r S q =>
  h h₀ H₀ A s Q E r (S.freeze f) q
theorem SX.freeze1 {a : Addr} {ds : List D} {body : List Stmt} (f : Fz a ds ρ ρ') (h : SX prog w G k env ρ' σ body R) : SX prog w G k env ρ ((a, ds) :: σ) body R := SX.freeze (σ₁ := []) f h

/-- an expression whose value is a new list -/
def EF (prog : Program) (w : World) (G : Pg) (k : Nat) (env : Env) (ρ : List (Str × D)) (σ : List (Addr × List D)) (e : Expr) (ds : List D) : Prop :=
  ∀ (A : Around) (s : Shared) (H : List Addr) (Q : Value → Shared → Prop) (E : Value → Shared → Prop), Room k A → Nm G env ρ σ H s.heap →
    (∀ s' vs, Ext s s' → RepL (vis H s'.heap) vs ds → Q (.ref s'.heap.objs.size) { s' with heap := s'.heap.push { cls := .type "list", data := .seq vs.toArray } }) → wpAny (model prog w) A (eval e env) Q E s
theorem EF.list {es : List Expr} {pos : Pos} {ds : List D} (h : EVS prog w G k env ρ σ es ds) (hz : ds.length ≤ sizeLine := by exact Nat.le_of_ble_eq_true rfl) : EF prog w G k env ρ σ (.List es pos) ds := fun A s H Q E r N q =>
  List_ (h A s H _ E pos r N fun vs s₁ x₁ rv => wpAny_newObj_type (q s₁ vs x₁ rv) (by
    show vs.toArray.size ≤ sizeLine
    rw [List.size_toArray, rv.length]; exact hz))
theorem EF.add {l r : Expr} {pos : Pos} {ds es : List D} (hl : EV prog w G k env ρ σ l (.list ds)) (hr : EV prog w G k env ρ σ r (.list es)) (hz : ds.length + es.length ≤ sizeLine) :
    EF prog w G k env ρ σ (.BinOp l .Add r pos) (ds ++ es) := fun A s H Q E r N q =>
  wpAny_BinOp (hl A s H _ E r N fun va s₁ x₁ ra => hr A s₁ H _ E r (N.grow x₁.sub) fun vb s₂ x₂ rb => by
    have ra' := ra.mono x₂.sub.vis
    cases ra' with
    | list hl rl => cases rb with
      | list hl' rl' =>
        refine P.add_list (vis_of hl) (vis_of hl') ?_ (by simp only [List.size_toArray, rl.length, rl'.length]; exact hz)
        have := q s₂ _ (x₁.trans x₂) (rl.append rl')
        simpa only [← List.append_toArray] using this)
theorem SO.assignOwn {ρ'' : Addr → List (Str × D)} {x : Str} {p pos : Pos} {e : Expr} {ds : List D} (h : EF prog w G k env ρ σ e ds) (hx : Sto env x) (u : ∀ a, Upd x (.loc a) ρ (ρ'' a)) (hR : ∀ a, R .next (ρ'' a) ((a, ds) :: σ))
    (hs : swapsWith e (some (.Name x p)) pos.line env = pure false := by rfl) : SO prog w G k env ρ σ (.Assign [.Name x p] e pos) R := fun h₀ H₀ A s Q E r S q =>
  wpAny_Assign_Name (h A s _ _ E r S.nm fun s₁ vs x₁ rl => by
    have S1 := (S.grow x₁.sub).adopt rl
    exact St.store (s := { s₁ with heap := s₁.heap.push { cls := .type "list", data := .seq vs.toArray } }) S1 hx (u _) (.loc _) fun h' tk S' _ => q .next .next _ _ _ (hR _) S' rfl (x₁.osg.trans ⟨rfl, id⟩)) hs

theorem own_get {H : List Addr} {a : Addr} {ds : List D} (N : Nm G env ρ σ H h) (hm : (a, ds) ∈ σ) : ∃ vs n, IsL h a (List.toArray vs) n ∧ RepL (vis H h) vs ds := N.locs _ hm
theorem SO.append {x : Str} {e : Expr} {d : D} {ds : List D} {a : Addr} {σ₁ σ₂ : List (Addr × List D)} {px pa pc pos : Pos} (hx : EV prog w G k env ρ (σ₁ ++ (a, ds) :: σ₂) (.Name x px) (.loc a)) (he : EV prog w G k env ρ (σ₁ ++ (a, ds) :: σ₂) e d)
    (hR : R .next ρ (σ₁ ++ (a, ds ++ [d]) :: σ₂)) (hz : ds.length < sizeLine)
    (hi : interactive env = false := by rfl) (hs : swapsWith (.Call (.Attribute (.Name x px) "append" pa) [e] [] pc) none pos.line env = pure false := by rfl)
    (hse : starEach [e] env = (false, eval e env) :: starEach [] env := by rfl)
    (hfew : methodCallForm ([e].length + ([] : List Keyword).length) (backTo pc (starEach [e] env)) (backToKw pc (keywordEach [] env)) = true := by rfl) (hline : (pa.endLine == pc.line) = true := by rfl) :
    SO prog w G k env ρ (σ₁ ++ (a, ds) :: σ₂) (.Expr (.Call (.Attribute (.Name x px) "append" pa) [e] [] pc) pos) R := fun h₀ H₀ A s Q E r S q => by
  refine wpAny_Expr_any ?_ hi hs
  refine mCall rfl hfew hline (hx A s _ _ E r S.nm fun vo s₁ x₁ ro => ?_)
  cases ro
  have S1 := S.grow x₁.sub
  obtain ⟨vs, n, hl, rl⟩ := own_get S1.nm (by simp : (a, ds) ∈ σ₁ ++ (a, ds) :: σ₂)
  refine Calls.getMethod_list_append hl rfl rfl (callWith_method1 ((EVS.cons he EVS.nil hse) A s₁ _ _ E pc r S1.nm fun ws s₂ x₂ rv => ?_) hse rfl)
  have S2 := S1.grow x₂.sub
  cases rv with
  | cons rv r0 => cases r0 with
    | nil =>
      rename_i v
      have hl2 : IsL s₂.heap a (List.toArray vs) n := x₂.sub _ _ hl
      have rl2 := rl.mono x₂.sub.vis
      refine wpAny_list_append_plain (items := List.toArray vs) ⟨n, hl2⟩ (fun h' hl' hs' => ?_) (by rw [List.size_toArray, rl.length]; omega)
      obtain ⟨n', hl'⟩ := hl'
      have hl'' : IsL h' a (vs ++ [v]).toArray n' := by simpa using hl'
      have S3 := S2.list rfl (rl2.append (.one rv)) hl'' hs'
      exact q .next .next _ _ _ hR S3 rfl ((x₁.trans x₂).osg.trans ⟨rfl, id⟩)
end
end

section
section
variable {prog : Program} {w : World} {G : Pg} {κ : Kn} {k : Nat} {env : Env} {ρ ρ' : List (Str × D)} {σ : List (Addr × List D)} {R : Post} {h₀ h h' : Heap} {H₀ : List Addr}

theorem SO.while {test : Expr} {body orelse : List Stmt} {pos : Pos} (Inv : Nat → List (Str × D) → List (Addr × List D) → Prop) (n : Nat) (h0 : Inv n ρ σ)
    (turn : ∀ n ρ σ, Inv n ρ σ → ∃ b, TV prog w G k env ρ σ test b ∧
      (b = true → SX prog w G k env ρ σ body (fun o ρ' σ' => match o with | .next => ∃ m, m < n ∧ Inv m ρ' σ' | .brk => R .next ρ' σ' | .ret d => R (.ret d) ρ' σ')) ∧
      (b = false → SX prog w G k env ρ σ orelse R)) :
    SO prog w G k env ρ σ (.While test body orelse pos) R := fun h₀ H₀ A s Q E r S q => by
  refine wpAny_While ?_
  refine codeAny_whileLoop (fun n s' => ∃ ρ σ, Inv n ρ σ ∧ St G h₀ H₀ env ρ σ s'.heap ∧ Osg s s') ?_ n ⟨ρ, σ, h0, S, .refl s⟩
  rintro n s' ⟨ρ₁, σ₁, hI, S₁, os₁⟩
  obtain ⟨b, ht, hb, he⟩ := turn n ρ₁ σ₁ hI
  refine ht A s' _ _ _ r S₁.nm fun s₂ x₂ => ?_
  have S₂ := S₁.grow x₂.sub
  have os₂ := os₁.trans x₂.osg
  cases b with
  | true =>
    simp only [if_true]
    refine hb rfl h₀ H₀ A s₂ _ _ r S₂ fun o fl ρ₃ σ₃ s₃ hR S₃ hf os₃ => ?_
    cases o with
    | next =>
      obtain rfl : fl = .next := hf
      obtain ⟨m, hm, hI'⟩ := hR
      exact ⟨m, hm, ρ₃, σ₃, hI', S₃, os₂.trans os₃⟩
    | brk =>
      obtain rfl : fl = .brk := hf
      exact q .next .next _ _ _ hR S₃ rfl (os₂.trans os₃)
    | ret d =>
      obtain ⟨v, rfl, rv⟩ := hf
      exact q (.ret d) _ _ _ _ hR S₃ ⟨v, rfl, rv⟩ (os₂.trans os₃)
  | false =>
    simp only [Bool.false_eq_true, if_false]
    exact he rfl h₀ H₀ A s₂ _ _ r S₂ fun o fl ρ₃ σ₃ s₃ hR S₃ hf os₃ => q o fl ρ₃ σ₃ s₃ hR S₃ hf (os₂.trans os₃)

/-- an update in place of a whole number -/
theorem SO.augAdd {x : Str} {px pos : Pos} {e : Expr} {a b : Int} (hl : ρ.lookup x = some (.int a)) (he : EV prog w G k env ρ σ e (.int b))
    (hsx : Sto env x) (u : Upd x (.int (a + b)) ρ ρ') (hR : R .next ρ' σ) : SO prog w G k env ρ σ (.AugAssign (.Name x px) .Add e pos) R := fun h₀ H₀ A s Q E r S q => by
  refine wpAny_AugAssign_Name ?_
  obtain ⟨v, hv, rv⟩ := S.nm.names _ (mem_of_lookupD hl)
  have fin : wpAny (model prog w) A (eval e env) (fun v₁ s₂ => wpAny (model prog w) A (inplaceOp .Add v v₁) (fun r s₃ => wpAny (model prog w) A (storeName env x r) (fun _ => Q .next) E s₃) E s₂) E s := by
    refine he A s _ _ E r S.nm fun v₁ s₁ x₁ r₁ => ?_
    cases rv; cases r₁
    refine wpAny_iadd_int ?_
    exact St.store (s := { s₁ with toks := s₁.toks + 1 }) (S.grow x₁.sub) hsx u (.int _ _) fun h' tk S' _ => q .next .next _ _ _ hR S' rfl (x₁.osg.trans ⟨rfl, id⟩)
  rcases hv with ⟨a, m, n, e⟩ | ⟨a | a, c, l, n⟩
  · exact wpAny_loadName_local S.nm.fn a n e fin
  · exact wpAny_loadName_cell S.nm.fn a l n fin
  · rcases hsx with z | ⟨z, _⟩ <;> rw [z] at a <;> cases a

/-- several stores, one behind the other -/
inductive Sts (prog : Program) (w : World) (env : Env) : List (Value → Sem Unit) → List D → List (Str × D) → List (Str × D) → Prop
  | nil {ρ : List (Str × D)} : Sts prog w env [] [] ρ ρ
  | cons {f : Value → Sem Unit} {fs : List (Value → Sem Unit)} {x : Str} {d : D} {ds : List D} {ρ ρ₁ ρ₂ : List (Str × D)} :
      (∀ (A : Around) (s : Shared) (Q : Unit → Shared → Prop) (E : Value → Shared → Prop) (v : Value), wpAny (model prog w) A (storeName env x v) Q E s → wpAny (model prog w) A (f v) Q E s) →
      Sto env x → Upd x d ρ ρ₁ → Sts prog w env fs ds ρ₁ ρ₂ → Sts prog w env (f :: fs) (d :: ds) ρ ρ₂
theorem Sts.run {fs : List (Value → Sem Unit)} {ds : List D} {ρ ρ' : List (Str × D)} (t : Sts prog w env fs ds ρ ρ') : ∀ {A : Around} {s : Shared} {Q : Unit → Shared → Prop} {E : Value → Shared → Prop} {vs : List Value}, St G h₀ H₀ env ρ σ s.heap → RepL (vis (own env σ ++ H₀) s.heap) vs ds →
    (∀ s', St G h₀ H₀ env ρ' σ s'.heap → Osg s s' → Q () s') → wpAny (model prog w) A (assignInOrder fs vs) Q E s := by
  induction t with
  | nil => intro A s Q E vs S rl q; exact assignInOrder_nil (q s S (.refl s))
  | cons hf hx u _ ih =>
    intro A s Q E vs S rl q
    cases rl with
    | cons rv rl =>
      refine assignInOrder_cons (hf _ _ _ _ _ (S.store hx u rv fun h' tk S' hk => ?_))
      refine ih S' (rl.mono (vis_sub fun b o hb e => hk b o (fun hm => hb (List.mem_append.mpr (.inl hm))) e)) fun s' S'' os => q s' S'' ⟨os.os, os.gens⟩
theorem SO.unpack {elts : List Expr} {kk : Nat} {tpos pos : Pos} {e : Expr} {ds : List D} (he : EV prog w G k env ρ σ e (.tup ds)) (t : Sts prog w env ((assignEach elts env).map (·.2)) ds ρ ρ') (hR : R .next ρ' σ)
    (hn : (assignEach elts env).length = ds.length := by rfl) (hstar : (assignEach elts env).findIdx? (·.1) = none := by rfl)
    (hs : swapsWithSole [.Tuple elts kk tpos] e pos.line env = pure false := by rfl)
    (hw : swappedStores [.Tuple elts kk tpos] e env = pure none := by rfl) : SO prog w G k env ρ σ (.Assign [.Tuple elts kk tpos] e pos) R := fun h₀ H₀ A s Q E r S q =>
  Assign_Tuple (he A s _ _ E r S.nm fun v s₁ x₁ rv => by
    cases rv with
    | tup hl rl =>
      have hl' := vis_of hl
      refine wpAny_assign_Tuple r.handled (⟨_, hl', rfl, _, rfl⟩ : s₁.heap.IsTuple _ _) (by rw [hn, List.size_toArray, rl.length]) hstar fun h' hx => ?_
      have sub : Sub s₁.heap h' := fun b o e => hx b o (Nat.ne_of_lt (Heap.lt_size e)) e
      rw [List.toList_toArray]
      exact t.run (s := { s₁ with heap := h' }) ((S.grow x₁.sub).grow sub) (rl.mono sub.vis) fun s' S' os => q .next .next _ _ _ hR S' rfl (x₁.osg.trans ⟨os.os, os.gens⟩)) hs hw
theorem SO.swapped {elts : List Expr} {kk : Nat} {tpos pos : Pos} {e : Expr} {ds : List D} {names : List Str} (he : EV prog w G k env ρ σ e (.tup ds)) (t : Sts prog w env (names.reverse.map fun n => bindName env n) ds.reverse ρ ρ') (hR : R .next ρ' σ)
    (hn : names.length = ds.length := by rfl)
    (hs : swapsWithSole [.Tuple elts kk tpos] e pos.line env = pure false := by rfl)
    (hw : swappedStores [.Tuple elts kk tpos] e env = pure (some names) := by rfl) : SO prog w G k env ρ σ (.Assign [.Tuple elts kk tpos] e pos) R := fun h₀ H₀ A s Q E r S q =>
  Assign_Tuple_swapped (he A s _ _ E r S.nm fun v s₁ x₁ rv => by
    cases rv with
    | tup hl rl =>
      rename_i a vs n
      have hl' := vis_of hl
      have hsz : names.length = vs.toArray.size := by rw [hn, List.size_toArray, rl.length]
      rw [hsz]
      refine unpackItems_tuple r.handled (⟨_, hl', rfl, _, rfl⟩ : IsTup s₁.heap _ _) fun h' hx => ?_
      have sub : Sub s₁.heap h' := fun b o e => hx b o (Nat.ne_of_lt (Heap.lt_size e)) e
      rw [List.toList_toArray]
      have rrev : ∀ {g : Heap} {vs : List Value} {ds : List D}, RepL g vs ds → RepL g vs.reverse ds.reverse := by
        intro g vs ds h
        induction vs generalizing ds with
        | nil => cases h; exact .nil
        | cons v vs ih =>
          cases h with
          | cons h r =>
            rw [List.reverse_cons, List.reverse_cons]
            exact (ih r).append (.one h)
      exact t.run (s := { s₁ with heap := h' }) ((S.grow x₁.sub).grow sub) (rrev (rl.mono sub.vis)) fun s' S' os => q .next .next _ _ _ hR S' rfl (x₁.osg.trans ⟨os.os, os.gens⟩)) hs hw
theorem Sts.name {x : Str} {p : Pos} {fs : List (Value → Sem Unit)} {d : D} {ds : List D} {ρ ρ₁ ρ₂ : List (Str × D)} (hx : Sto env x) (u : Upd x d ρ ρ₁) (t : Sts prog w env fs ds ρ₁ ρ₂) : Sts prog w env (PySem.assign (.Name x p) env :: fs) (d :: ds) ρ ρ₂ :=
  .cons (fun A s Q E v h => assign_Name h) hx u t
theorem Sts.bind {x : Str} {fs : List (Value → Sem Unit)} {d : D} {ds : List D} {ρ ρ₁ ρ₂ : List (Str × D)} (hx : Sto env x) (u : Upd x d ρ ρ₁) (t : Sts prog w env fs ds ρ₁ ρ₂) : Sts prog w env (bindName env x :: fs) (d :: ds) ρ ρ₂ :=
  .cons (fun A s Q E v h => wpAny_bindName h) hx u t
end
end

section
noncomputable def f48 : Fn heapF 48 := { name := _, params := _, body := _, scope := _, pm := _, c := _, vs := _, t := _, look := fun _ => rfl, code := fun _ => rfl, qual := rfl }
noncomputable def f55 : Fn heapF 55 := { name := _, params := _, body := _, scope := _, pm := _, c := _, vs := _, t := _, look := fun _ => rfl, code := fun _ => rfl, qual := rfl }
noncomputable def f62 : Fn heapF 62 := { name := _, params := _, body := _, scope := _, pm := _, c := _, vs := _, t := _, look := fun _ => rfl, code := fun _ => rfl, qual := rfl }
noncomputable def f69 : Fn heapF 69 := { name := _, params := _, body := _, scope := _, pm := _, c := _, vs := _, t := _, look := fun _ => rfl, code := fun _ => rfl, qual := rfl }
noncomputable def f76 : Fn heapF 76 := { name := _, params := _, body := _, scope := _, pm := _, c := _, vs := _, t := _, look := fun _ => rfl, code := fun _ => rfl, qual := rfl }
noncomputable def f83 : Fn heapF 83 := { name := _, params := _, body := _, scope := _, pm := _, c := _, vs := _, t := _, look := fun _ => rfl, code := fun _ => rfl, qual := rfl }
noncomputable def f90 : Fn heapF 90 := { name := _, params := _, body := _, scope := _, pm := _, c := _, vs := _, t := _, look := fun _ => rfl, code := fun _ => rfl, qual := rfl }
noncomputable def f97 : Fn heapF 97 := { name := _, params := _, body := _, scope := _, pm := _, c := _, vs := _, t := _, look := fun _ => rfl, code := fun _ => rfl, qual := rfl }
noncomputable def f104 : Fn heapF 104 := { name := _, params := _, body := _, scope := _, pm := _, c := _, vs := _, t := _, look := fun _ => rfl, code := fun _ => rfl, qual := rfl }
noncomputable def f111 : Fn heapF 111 := { name := _, params := _, body := _, scope := _, pm := _, c := _, vs := _, t := _, look := fun _ => rfl, code := fun _ => rfl, qual := rfl }
noncomputable def f118 : Fn heapF 118 := { name := _, params := _, body := _, scope := _, pm := _, c := _, vs := _, t := _, look := fun _ => rfl, code := fun _ => rfl, qual := rfl }
noncomputable def f125 : Fn heapF 125 := { name := _, params := _, body := _, scope := _, pm := _, c := _, vs := _, t := _, look := fun _ => rfl, code := fun _ => rfl, qual := rfl }
noncomputable def f130 : Fn heapF 130 := { name := _, params := _, body := _, scope := _, pm := _, c := _, vs := _, t := _, look := fun _ => rfl, code := fun _ => rfl, qual := rfl }
noncomputable def f137 : Fn heapF 137 := { name := _, params := _, body := _, scope := _, pm := _, c := _, vs := _, t := _, look := fun _ => rfl, code := fun _ => rfl, qual := rfl }
noncomputable def f144 : Fn heapF 144 := { name := _, params := _, body := _, scope := _, pm := _, c := _, vs := _, t := _, look := fun _ => rfl, code := fun _ => rfl, qual := rfl }
noncomputable def f151 : Fn heapF 151 := { name := _, params := _, body := _, scope := _, pm := _, c := _, vs := _, t := _, look := fun _ => rfl, code := fun _ => rfl, qual := rfl }
noncomputable def f156 : Fn heapF 156 := { name := _, params := _, body := _, scope := _, pm := _, c := _, vs := _, t := _, look := fun _ => rfl, code := fun _ => rfl, qual := rfl }
noncomputable def f163 : Fn heapF 163 := { name := _, params := _, body := _, scope := _, pm := _, c := _, vs := _, t := _, look := fun _ => rfl, code := fun _ => rfl, qual := rfl }
noncomputable def f170 : Fn heapF 170 := { name := _, params := _, body := _, scope := _, pm := _, c := _, vs := _, t := _, look := fun _ => rfl, code := fun _ => rfl, qual := rfl }

noncomputable abbrev kap (P : Params) (mg mb : Str → Option Value) : Kn := Kn.mk (heapF P) mg mb
/-- the program's names -/
structure GB (P : Params) (mg mb : Str → Option Value) : Prop where
  g : ∀ n v, nsIn (heapF P) mainGlobals n = some (some v) → mg n = some v
  n : ∀ n, nsIn (heapF P) mainGlobals n = some none → mg n = none
  b : ∀ x : Str, x ≠ "__name__" → mb x = bootBuiltins x
section
variable {prog : Program} {w : World} {k : Nat} {P : Params} {mg mb : Str → Option Value}
theorem fn_add {a b : Int} : FN prog w (kap P mg mb).pg (k + 1) 62 [.int a, .int b] (.int (a + b)) :=
  FN.body f62 ["a", "b"] (h := fun L => .cons (.ret (.bin (.name rfl) (.name rfl) .add) rfl)) (hb := fun vs h => match vs, h with | [u, v], _ => rfl) (hx := by decide) (hkind := fun x hx => .inl (by revert x; decide)) (hcn := fun L q hq => nomatch hq)
theorem fn_and {a b : Int} : FN prog w (kap P mg mb).pg (k + 1) 69 [.int a, .int b] (.int (Builtin.bitAnd a b)) :=
  FN.body f69 ["a", "b"] (h := fun L => .cons (.ret (.bin (.name rfl) (.name rfl) .and) rfl)) (hb := fun vs h => match vs, h with | [u, v], _ => rfl) (hx := by decide) (hkind := fun x hx => .inl (by revert x; decide)) (hcn := fun L q hq => nomatch hq)
theorem fn_lshift {a b : Int} (h0 : 0 ≤ b) (hz : (Builtin.Int.intBits a : Int) + b ≤ 2 ^ 27) : FN prog w (kap P mg mb).pg (k + 1) 76 [.int a, .int b] (.int (a * 2 ^ b.toNat)) :=
  FN.body f76 ["a", "b"] (h := fun L => .cons (.ret (.bin (.name rfl) (.name rfl) (.shl h0 hz)) rfl)) (hb := fun vs h => match vs, h with | [u, v], _ => rfl) (hx := by decide) (hkind := fun x hx => .inl (by revert x; decide)) (hcn := fun L q hq => nomatch hq)
theorem fn_mul {a b : Int} (hz : IntMulOk a b) : FN prog w (kap P mg mb).pg (k + 1) 83 [.int a, .int b] (.int (a * b)) :=
  FN.body f83 ["a", "b"] (h := fun L => .cons (.ret (.bin (.name rfl) (.name rfl) (.mul hz)) rfl)) (hb := fun vs h => match vs, h with | [u, v], _ => rfl) (hx := by decide) (hkind := fun x hx => .inl (by revert x; decide)) (hcn := fun L q hq => nomatch hq)
theorem fn_or {a b : Int} : FN prog w (kap P mg mb).pg (k + 1) 90 [.int a, .int b] (.int (Builtin.bitOr a b)) :=
  FN.body f90 ["a", "b"] (h := fun L => .cons (.ret (.bin (.name rfl) (.name rfl) .or) rfl)) (hb := fun vs h => match vs, h with | [u, v], _ => rfl) (hx := by decide) (hkind := fun x hx => .inl (by revert x; decide)) (hcn := fun L q hq => nomatch hq)
theorem fn_rshift {a b : Int} (h0 : 0 ≤ b) : FN prog w (kap P mg mb).pg (k + 1) 97 [.int a, .int b] (.int (a.fdiv (2 ^ b.toNat))) :=
  FN.body f97 ["a", "b"] (h := fun L => .cons (.ret (.bin (.name rfl) (.name rfl) (.shr h0)) rfl)) (hb := fun vs h => match vs, h with | [u, v], _ => rfl) (hx := by decide) (hkind := fun x hx => .inl (by revert x; decide)) (hcn := fun L q hq => nomatch hq)

variable {env : Env} {ρ ρ' : List (Str × D)} {σ : List (Addr × List D)} {R : Post}
theorem EV.gcall (B : GB P mg mb) {a : Addr} (f : Fn heapF a) {x : Str} {px pos : Pos} {e : Expr} {es : List Expr} {ds : List D} {d : D} (h : EVS prog w (kap P mg mb).pg k env ρ σ (e :: es) ds) (fn : FN prog w (kap P mg mb).pg k a ds d)
    (hn : nsIn (heapF P) mainGlobals x = some (some (.ref a)) := by kernel_rfl) (hx : env.kindOf x = some .globalImplicit := by rfl) (hg : env.globals = mainGlobals := by rfl) (hd' : (x == ("__debug__" : Str)) = false := by decide) (he : starEach (e :: es) env = (false, eval e env) :: starEach es env := by rfl)
    (hc : ∀ e', eval (.Call (.Name x px) (e :: es) [] pos) e' = (do callWith pos (← eval (.Name x px) e') [] (backTo pos (starEach (e :: es) e')) (backToKw pos (keywordEach [] e'))) := by intro _; rfl) :
    EV prog w (kap P mg mb).pg k env ρ σ (.Call (.Name x px) (e :: es) [] pos) d :=
  EV.call (EV.gname hx hg (B.g _ _ hn) hd') h fn ⟨_, _, f.look P, rfl⟩ he hc
theorem EV.gcall0 (B : GB P mg mb) {a : Addr} (f : Fn heapF a) {x : Str} {px pos : Pos} {d : D} (fn : FN prog w (kap P mg mb).pg k a [] d)
    (hn : nsIn (heapF P) mainGlobals x = some (some (.ref a)) := by kernel_rfl) (hx : env.kindOf x = some .globalImplicit := by rfl) (hg : env.globals = mainGlobals := by rfl) (hd' : (x == ("__debug__" : Str)) = false := by decide)
    (hc : ∀ e', eval (.Call (.Name x px) [] [] pos) e' = (do callWith pos (← eval (.Name x px) e') [] (backTo pos (starEach [] e')) (backToKw pos (keywordEach [] e'))) := by intro _; rfl) :
    EV prog w (kap P mg mb).pg k env ρ σ (.Call (.Name x px) [] [] pos) d :=
  EV.call0 (EV.gname hx hg (B.g _ _ hn) hd') fn ⟨_, _, f.look P, rfl⟩ hc
/-- a call of a built-in name -/
theorem EV.bncall (B : GB P mg mb) {x : Str} {id : String} {px pos : Pos} {e : Expr} {es : List Expr} {ds : List D} {d : D} (h : EVS prog w (kap P mg mb).pg k env ρ σ (e :: es) ds) (fn : BN prog w k (.builtin id) ds d)
    (hb : bootBuiltins x = some (.builtin id) := by kernel_rfl) (hn : nsIn (heapF P) mainGlobals x = some Option.none := by kernel_rfl) (hx : env.kindOf x = some .globalImplicit := by rfl) (hg : env.globals = mainGlobals := by rfl) (hbn : env.builtins = builtinsNs := by rfl) (hx' : x ≠ "__name__" := by decide) (hd' : (x == ("__debug__" : Str)) = false := by decide)
    (hp : ∀ e', (backTo pos (starEach (e :: es) e')).any (·.1) = false := by intro _; rfl) (he : starEach (e :: es) env = (false, eval e env) :: starEach es env := by rfl)
    (hc : ∀ e', eval (.Call (.Name x px) (e :: es) [] pos) e' = (do callWith pos (← eval (.Name x px) e') [] (backTo pos (starEach (e :: es) e')) (backToKw pos (keywordEach [] e'))) := by intro _; rfl) :
    EV prog w (kap P mg mb).pg k env ρ σ (.Call (.Name x px) (e :: es) [] pos) d :=
  EV.bcall (EV.bname hx hg hbn (B.n _ hn) ((B.b _ hx').trans hb) hd') h fn hp he hc
theorem EV.tncall (B : GB P mg mb) {x : Str} {T : String} {px pos : Pos} {e : Expr} {es : List Expr} {ds : List D} {d : D} (h : EVS prog w (kap P mg mb).pg k env ρ σ (e :: es) ds) (fn : BN prog w k (.type T) ds d)
    (hb : bootBuiltins x = some (.type T) := by kernel_rfl) (hn : nsIn (heapF P) mainGlobals x = some Option.none := by kernel_rfl) (hx : env.kindOf x = some .globalImplicit := by rfl) (hg : env.globals = mainGlobals := by rfl) (hbn : env.builtins = builtinsNs := by rfl) (hx' : x ≠ "__name__" := by decide) (hd' : (x == ("__debug__" : Str)) = false := by decide)
    (hp : ∀ e', (backTo pos (starEach (e :: es) e')).any (·.1) = false := by intro _; rfl) (he : starEach (e :: es) env = (false, eval e env) :: starEach es env := by rfl)
    (hc : ∀ e', eval (.Call (.Name x px) (e :: es) [] pos) e' = (do callWith pos (← eval (.Name x px) e') [] (backTo pos (starEach (e :: es) e')) (backToKw pos (keywordEach [] e'))) := by intro _; rfl) :
    EV prog w (kap P mg mb).pg k env ρ σ (.Call (.Name x px) (e :: es) [] pos) d :=
  EV.tcall (EV.bname hx hg hbn (B.n _ hn) ((B.b _ hx').trans hb) hd') h fn hp he hc

theorem fn_field (B : GB P mg mb) {a b : Int} (h0 : 0 ≤ b) (hm : IntMulOk 16 b) : FN prog w (kap P mg mb).pg (k + 2) 170 [.int a, .int b] (.int (Builtin.bitAnd (a.fdiv (2 ^ (16 * b).toNat)) 65535)) :=
  FN.body f170 ["number", "k"] (h := fun L => .cons (.ret (.gcall B f69 (.cons (.gcall B f97 (.cons (.name rfl) (.cons (.bin .int (.name rfl) (.mul hm)) .nil)) (fn_rshift (by omega))) (.cons .int .nil)) fn_and) rfl))
    (hb := fun vs h => match vs, h with | [u, v], _ => rfl) (hx := by decide) (hkind := fun x hx => .inl (by revert x; decide)) (hcn := fun L q hq => nomatch hq)
end
end

section
/-- the sign at a place -/
def at1 (x : Str) (i : Int) : Option Str := ((seqIndex? i x.length).bind (x.cps[·]?)).map fun c => ⟨#[c]⟩
section
variable {prog : Program} {w : World} {k : Nat} {P : Params} {mg mb : Str → Option Value} {G : Pg}
variable {env : Env} {ρ ρ' : List (Str × D)} {σ : List (Addr × List D)} {R : Post}
theorem IX.at1 {x y : Str} {i : Int} (h : Fm.at1 x i = some y) (h0 : -(2 ^ 62) ≤ i := by decide) (h1 : i < 2 ^ 62 := by decide) : IX prog w k (.str x) (.int i) (.str y) := by
  unfold Fm.at1 at h
  cases e : (seqIndex? i x.length).bind (x.cps[·]?) with
  | none => rw [e] at h; cases h
  | some c =>
    rw [e] at h
    rw [← Option.some.inj h]
    exact IX.str h0 h1 e

def dotted (sign : Str) : Str := if sign == "." then "\\." else sign
def takesIn (inner sign : Str) (barred : Bool) : Option Bool :=
  if cutS inner (some 1) (some 2) none == "-" then do
    let c0 ← at1 inner 0
    let c2 ← at1 inner 2
    return (leS c0 sign && leS sign c2) != barred
  else some (inS sign inner != barred)
def takesF (part sign : Str) : Option Bool :=
  if part == "." then some true else
  if part == "(?!)" then some false else do
  let c ← at1 part 0
  if c != "[" then return (part == dotted sign) else
    let inner := cutS part (some 1) (some (-1)) none
    let i0 ← at1 inner 0
    if i0 == "^" then takesIn (cutS inner (some 1) none none) sign true else takesIn inner sign false

theorem sx_takesIn {L : Addr} {part sign inner : Str} {barred b : Bool} (h : takesIn inner sign barred = some b) (hz : inner.length ≤ 1000) {body : List Stmt} {R : Post} (hR : ∀ ρ σ, R (.ret (.bool b)) ρ σ) (hb : body = f125.body.drop 6) :
    SX prog w G k (f125.en L) [("part", .str part), ("sign", .str sign), ("inner", .str inner), ("barred", .bool barred)] [] body R := by
  subst hb
  have hz' : inner.length ≤ sizeLine := Nat.le_trans hz (by decide)
  refine .cons (.ite (.cmp (.slice_str (.name rfl) (l := some 1) (u := some 2) (t := none) .int .int trivial (by decide) hz') .str .eq_str) (fun e => ?_) (fun e => .nil ?_))
  · unfold takesIn at h
    rw [if_pos e] at h
    cases h0 : at1 inner 0 with
    | none => rw [h0] at h; cases h
    | some c0 =>
      cases h2 : at1 inner 2 with
      | none => rw [h0, h2] at h; cases h
      | some c2 =>
        rw [h0, h2] at h
        have hb := Option.some.inj h
        refine .cons (.ret (.cmp (.chain (.sub (.name rfl) .int (.at1 h0)) (.name rfl) (.sub (.name rfl) .int (.at1 h2)) .le_str .le_str) (.name rfl) .ne_bool) ?_)
        exact hb ▸ hR _ _
  · unfold takesIn at h
    rw [if_neg (by rw [e]; decide)] at h
    have hb := Option.some.inj h
    refine .cons (.ret (.cmp (.cmp (.name rfl) (.name rfl) .in_str) (.name rfl) .ne_bool) ?_)
    exact hb ▸ hR _ _
theorem cutS_len {x : Str} {lo hi st : Option Int} {n : Nat} (h0 : st ≠ some 0) (h : x.length ≤ n) : (cutS x lo hi st).length ≤ n := Nat.le_trans (cutS_le x lo hi st h0) h
theorem fn_takes {part sign : Str} {b : Bool} (h : takesF part sign = some b) (hz : part.length ≤ 1000) : FN prog w (kap P mg mb).pg (k + 1) 125 [.str part, .str sign] (.bool b) := by
  have hz' : part.length ≤ sizeLine := Nat.le_trans hz (by decide)
  refine FN.body f125 ["part", "sign"] (h := fun L => ?_) (hb := fun vs h => match vs, h with | [u, v], _ => rfl) (hx := by decide) (hkind := fun x hx => .inl (by revert x; decide)) (hcn := fun L q hq => nomatch hq)
  refine .cons (.ite (.cmp (.name rfl) .str .eq_str) (fun e1 => .cons (.ret .bool ?_)) (fun e1 => .nil ?_))
  · unfold takesF at h; rw [if_pos e1] at h; rw [Option.some.inj h]; rfl
  unfold takesF at h; rw [if_neg (by rw [e1]; decide)] at h
  refine .cons (.ite (.cmp (.name rfl) .str .eq_str) (fun e2 => .cons (.ret .bool ?_)) (fun e2 => .nil ?_))
  · rw [if_pos e2] at h; rw [Option.some.inj h]; rfl
  rw [if_neg (by rw [e2]; decide)] at h
  cases h0 : at1 part 0 with
  | none => rw [h0] at h; cases h
  | some c =>
    rw [h0] at h
    refine .cons (.ite (.cmp (.sub (.name rfl) .int (.at1 h0)) .str .ne_str) (fun e3 => ?_) (fun e3 => .nil ?_))
    · replace h : (if (c != "[") = true then some (part == dotted sign) else _) = some b := h
      rw [if_pos e3] at h
      refine .cons (.ret (.cmp (.name rfl) (db := .str (dotted sign)) (.ite (.cmp (.name rfl) .str .eq_str) (fun e => ?_) fun e => ?_) .eq_str) ?_)
      · unfold dotted; rw [if_pos e]; exact .str
      · unfold dotted; rw [if_neg (by rw [e]; decide)]; exact .name rfl
      · rw [← Option.some.inj h]; rfl
    · replace h : (if (c != "[") = true then some (part == dotted sign) else _) = some b := h
      rw [if_neg (by rw [e3]; decide)] at h
      refine .cons (.assign (.slice_str (.name rfl) (l := some 1) (u := some (-1)) (t := none) .int (.neg .int) trivial (by decide) hz') (.inl rfl) (.skip (by decide) (.skip (by decide) .nil)) ?_)
      have hin : (cutS part (some 1) (some (-1)) none).length ≤ 1000 := cutS_len (by decide) hz
      generalize cutS part (some 1) (some (-1)) none = inner at h hin ⊢
      cases h1 : at1 inner 0 with
      | none =>
        rw [h1] at h; cases h
      | some i0 =>
        rw [h1] at h
        refine .cons (.assign (.cmp (.sub (.name rfl) .int (.at1 h1)) .str .eq_str) (.inl rfl) (.skip (by decide) (.skip (by decide) (.skip (by decide) .nil))) ?_)
        cases e5 : (i0 == ("^" : Str)) with
        | true =>
          replace h : (if (i0 == ("^" : Str)) = true then takesIn (cutS inner (some 1) none none) sign true else _) = some b := h
          rw [if_pos e5] at h
          refine .cons (.iteT (.of (.name rfl) .bool) (.cons (.assign (.slice_str (.name rfl) (l := some 1) (u := none) (t := none) .int trivial trivial (by decide) (Nat.le_trans hin (by decide))) (.inl rfl) (.skip (by decide) (.skip (by decide) .here)) (.nil ?_))))
          exact sx_takesIn h (cutS_len (by decide) hin) (fun _ _ => rfl) rfl
        | false =>
          replace h : (if (i0 == ("^" : Str)) = true then _ else takesIn inner sign false) = some b := h
          rw [if_neg (by rw [e5]; decide)] at h
          refine .cons (.iteF (.of (.name rfl) .bool) (.nil ?_))
          exact sx_takesIn h hin (fun _ _ => rfl) rfl
end
end

section
inductive Tl (x : Str) : List (Str × D) → Prop
  | nil : Tl x []
  | one (d : D) : Tl x [(x, d)]
theorem Tl.upd {x : Str} {d : D} {tl : List (Str × D)} (t : Tl x tl) : Upd x d tl [(x, d)] := by
  cases t with
  | nil => exact .nil
  | one => exact .here
def partD : Option Str → D
  | none => .none
  | some x => .str x
def tk (p s : Str) : Bool := (takesF p s).getD false
def OkPart (p : Str) : Prop := p.length ≤ 1000 ∧ ∀ s ∈ (["a", "b", "."] : List Str), takesF p s = some (tk p s)
structure Mk where
  stays : Int
  g0 : Int
  g1 : Int
  g2 : Int
  at' : Nat
def fld (k : Nat) : Int := 65535 * 2 ^ (16 * (k : Int)).toNat
def Mk.step (m : Mk) : Option Str → Mk
  | none => { m with stays := Builtin.bitOr m.stays (fld m.at') }
  | some p => { m with
      g0 := if tk p "a" then Builtin.bitOr m.g0 (fld (m.at' + 1)) else m.g0
      g1 := if tk p "b" then Builtin.bitOr m.g1 (fld (m.at' + 1)) else m.g1
      g2 := if tk p "." then Builtin.bitOr m.g2 (fld (m.at' + 1)) else m.g2
      at' := m.at' + 1 }
def masks (parts : List (Option Str)) : Mk := parts.foldl Mk.step ⟨0, 0, 0, 0, 0⟩
theorem Mk.step_at (m : Mk) (p : Option Str) : (m.step p).at' ≤ m.at' + 1 := by
  cases p with
  | none => exact Nat.le_succ _
  | some p => exact Nat.le_refl _
theorem masks_at (parts : List (Option Str)) (i : Nat) : (masks (parts.take i)).at' ≤ i := by
  unfold masks
  have : ∀ (l : List (Option Str)) (m : Mk), (l.foldl Mk.step m).at' ≤ m.at' + l.length := by
    intro l
    induction l with
    | nil => intro m; exact Nat.le_refl _
    | cons p l ih =>
      intro m
      have := ih (m.step p)
      have := m.step_at p
      simp only [List.foldl_cons, List.length_cons]
      omega
  have h := this (parts.take i) ⟨0, 0, 0, 0, 0⟩
  have h2 := List.length_take_le i parts
  simp only at h
  omega
section
variable {prog : Program} {w : World} {k : Nat} {P : Params} {mg mb : Str → Option Value} {G : Pg}
variable {env : Env} {ρ ρ' : List (Str × D)} {σ : List (Addr × List D)} {R : Post}
theorem shl_ok {n : Int} (h0 : 0 ≤ n) (h : n ≤ 100000) : (Builtin.Int.intBits 65535 : Int) + n ≤ 2 ^ 27 := by
  have : Builtin.Int.intBits 65535 = 16 := by decide
  omega
theorem mul16 {b : Int} : IntMulOk 16 b := .of_left (by decide)
abbrev rhoM (parts : List (Option Str)) (m : Mk) (tl : List (Str × D)) : List (Str × D) :=
  ("parts", .list (parts.map partD)) :: ("stays", .int m.stays) :: ("goes", .list [.int m.g0, .int m.g1, .int m.g2]) :: ("at", .int m.at') :: tl
theorem cells_one {n : Str} {c : Addr} {l : List (Str × Addr)} (h : l = [(n, c)]) : ∀ q ∈ l, l.lookup q.1 = some q.2 := by
  subst h
  intro q hq
  rcases List.mem_cons.mp hq with rfl | hq
  · simp
  · exact nomatch hq
theorem fn_masks (B : GB P mg mb) {parts : List (Option Str)} (hp : ∀ p ∈ parts, ∀ x, p = some x → OkPart x) (hz : parts.length ≤ 1000) :
    FN prog w (kap P mg mb).pg (k + 3) 130 [.list (parts.map partD)] (.tup [.int (masks parts).stays, .list [.int (masks parts).g0, .int (masks parts).g1, .int (masks parts).g2], .int (masks parts).at']) := by
  refine FN.body f130 ["parts"] (h := fun L => ?_) (hb := fun vs h => match vs, h with | [u], _ => rfl) (hx := by decide) (hkind := fun x hx => .inl (by revert x; decide)) (hcn := fun L q hq => ?_)
  rotate_left
  · have h3 : cellsFrom L f130.scope.names [] = ([("part", L + 1 + 1), ("at", L + 1), ("goes", L)] : List (Str × Addr)) := rfl
    rw [h3] at hq ⊢
    rcases List.mem_cons.mp hq with rfl | hq
    · rfl
    · rcases List.mem_cons.mp hq with rfl | hq
      · rfl
      · rcases List.mem_cons.mp hq with rfl | hq
        · rfl
        · exact nomatch hq
  refine .cons (.assign .int (.inl rfl) (.skip (by decide) .nil) ?_)
  refine .cons (.assign (.list (.cons .int (.cons .int (.cons .int .nil)))) (.inr ⟨rfl, _, rfl⟩) (.skip (by decide) (.skip (by decide) .nil)) ?_)
  refine .cons (.assign .int (.inr ⟨rfl, _, rfl⟩) (.skip (by decide) (.skip (by decide) (.skip (by decide) .nil))) ?_)
  refine .cons (.forIn (ds := parts.map partD) (fun i ρ σ => ∃ tl, Tl "part" tl ∧ σ = [] ∧ ρ = rhoM parts (masks (parts.take i)) tl) (.name rfl) .list (.inr ⟨rfl, _, rfl⟩) ⟨[], .nil, rfl, rfl⟩ ?_ ?_)
  · rintro i d ρ σ hd ⟨tl, ht, rfl, rfl⟩
    refine ⟨_, .skip (by decide) (.skip (by decide) (.skip (by decide) (.skip (by decide) ht.upd))), ?_⟩
    rw [List.getElem?_map] at hd
    cases e : parts[i]? with
    | none => rw [e] at hd; cases hd
    | some p =>
      rw [e] at hd
      obtain rfl := Option.some.inj hd
      have hnext : masks (parts.take (i + 1)) = (masks (parts.take i)).step p := by
        unfold masks
        rw [List.take_add_one, e]
        simp [List.foldl_append]
      have hat := masks_at parts i
      have hil : i < parts.length := (List.getElem?_eq_some_iff.mp e).1
      generalize masks (parts.take i) = m at hnext hat ⊢
      cases p with
      | none =>
        refine .cons (.iteT (.cmp (.name rfl) .none (.is_none (.inl rfl))) (.cons (.assign (.gcall B f90 (.cons (.name rfl) (.cons (.gcall B f76 (.cons .int (.cons (.bin .int (.name rfl) (.mul mul16)) .nil)) (fn_lshift (by omega) (shl_ok (by omega) (by omega)))) .nil)) fn_or) (.inl rfl) (.skip (by decide) .here) (.nil (.nil ?_)))))
        exact ⟨_, .one _, rfl, by rw [hnext]; rfl⟩
      | some x =>
        obtain ⟨hx1, hx2⟩ := hp _ (List.mem_of_getElem? e) x rfl
        refine .cons (.iteF (.cmp (.name rfl) .none (.is_none (.inr ⟨x, rfl⟩))) (.cons (.assign (.bin (.name rfl) .int .add) (.inr ⟨rfl, _, rfl⟩) (.skip (by decide) (.skip (by decide) (.skip (by decide) .here))) ?_)))
        refine .cons (.assign (.comp (ρc := [("part", .str x), ("goes", .list [.int m.g0, .int m.g1, .int m.g2]), ("at", .int (m.at' + 1))]) (ds := rngL 0 1 3) (fun _ => true) (fun d => match d with
          | .int 0 => .int (m.step (some x)).g0
          | .int 1 => .int (m.step (some x)).g1
          | .int 2 => .int (m.step (some x)).g2
          | _ => .none) (.tncall B (.cons .int .nil) .range1) (.rng (by decide) (by decide)) ⟨by rfl, by decide, rfl, by decide, rfl, ?_⟩ (by decide) ?_ ?_) (.inr ⟨rfl, _, rfl⟩) (.skip (by decide) (.skip (by decide) .here)) ?_)
        · intro q hq
          rcases List.mem_cons.mp hq with rfl | hq
          · exact ⟨by simp [partD], rfl, rfl, rfl⟩
          · rcases List.mem_cons.mp hq with rfl | hq
            · exact ⟨by simp, rfl, rfl, rfl⟩
            · rcases List.mem_cons.mp hq with rfl | hq
              · exact ⟨by simp, rfl, rfl, rfl⟩
              · exact nomatch hq
        · exact fun _ _ _ => rfl
        · intro C d hd _
          have hd' : d = .int 0 ∨ d = .int 1 ∨ d = .int 2 := by
            simp only [rngL, List.range, List.range.loop, List.map_cons, List.map_nil, List.mem_cons, List.not_mem_nil, or_false] at hd
            simpa using hd
          rcases hd' with rfl | rfl | rfl
          · refine .ite (c := tk x "a") (.of (.gcall B f125 (.cons (.name rfl) (.cons (.sub .str (.name rfl) (.at1 (y := "a") (by decide))) .nil)) (fn_takes (hx2 _ (by decide)) hx1)) .bool) (fun e => ?_) (fun e => ?_)
            · have : (m.step (some x)).g0 = Builtin.bitOr m.g0 (fld (m.at' + 1)) := if_pos e
              rw [this]
              exact .gcall B f90 (.cons (.sub (.name rfl) (.name rfl) (.list (by decide) (by decide) rfl)) (.cons (.gcall B f76 (.cons .int (.cons (.bin .int (.name rfl) (.mul mul16)) .nil)) (fn_lshift (by omega) (shl_ok (by omega) (by omega)))) .nil)) fn_or
            · have : (m.step (some x)).g0 = m.g0 := if_neg (by rw [e]; decide)
              rw [this]
              exact .sub (.name rfl) (.name rfl) (.list (by decide) (by decide) rfl)
          · refine .ite (c := tk x "b") (.of (.gcall B f125 (.cons (.name rfl) (.cons (.sub .str (.name rfl) (.at1 (y := "b") (by decide))) .nil)) (fn_takes (hx2 _ (by decide)) hx1)) .bool) (fun e => ?_) (fun e => ?_)
            · have : (m.step (some x)).g1 = Builtin.bitOr m.g1 (fld (m.at' + 1)) := if_pos e
              rw [this]
              exact .gcall B f90 (.cons (.sub (.name rfl) (.name rfl) (.list (by decide) (by decide) rfl)) (.cons (.gcall B f76 (.cons .int (.cons (.bin .int (.name rfl) (.mul mul16)) .nil)) (fn_lshift (by omega) (shl_ok (by omega) (by omega)))) .nil)) fn_or
            · have : (m.step (some x)).g1 = m.g1 := if_neg (by rw [e]; decide)
              rw [this]
              exact .sub (.name rfl) (.name rfl) (.list (by decide) (by decide) rfl)
          · refine .ite (c := tk x ".") (.of (.gcall B f125 (.cons (.name rfl) (.cons (.sub .str (.name rfl) (.at1 (y := ".") (by decide))) .nil)) (fn_takes (hx2 _ (by decide)) hx1)) .bool) (fun e => ?_) (fun e => ?_)
            · have : (m.step (some x)).g2 = Builtin.bitOr m.g2 (fld (m.at' + 1)) := if_pos e
              rw [this]
              exact .gcall B f90 (.cons (.sub (.name rfl) (.name rfl) (.list (by decide) (by decide) rfl)) (.cons (.gcall B f76 (.cons .int (.cons (.bin .int (.name rfl) (.mul mul16)) .nil)) (fn_lshift (by omega) (shl_ok (by omega) (by omega)))) .nil)) fn_or
            · have : (m.step (some x)).g2 = m.g2 := if_neg (by rw [e]; decide)
              rw [this]
              exact .sub (.name rfl) (.name rfl) (.list (by decide) (by decide) rfl)
        · exact .nil (.nil ⟨_, .one _, rfl, by rw [hnext]; rfl⟩)
  · rintro ρ σ ⟨tl, ht, rfl, rfl⟩
    refine .nil (.cons (.ret (.tup (.cons (.name rfl) (.cons (.name rfl) (.cons (.name rfl) .nil))) (by show (3 : Nat) ≤ sizeLine; decide)) ?_))
    rw [List.length_map, List.take_length]
    rfl
end
end

section
def signC : Fin 3 → Nat
  | 0 => 97
  | 1 => 98
  | 2 => 46
def signS (i : Fin 3) : Str := ⟨#[signC i]⟩
def nameS (l : List (Fin 3)) : Str := ⟨(l.map signC).toArray⟩
theorem sgn_name (l : List (Fin 3)) : sgn (nameS l) = l.map fun i => .str (signS i) := by
  simp [sgn, nameS, signS]
def onStep (st : Int) (g : Fin 3 → Int) (c : Int) (i : Fin 3) : Int := Builtin.bitAnd (c * 2 ^ (16 : Int).toNat) (g i) + Builtin.bitAnd c st
def onC (st : Int) (g : Fin 3 → Int) (l : List (Fin 3)) : Int := l.foldl (onStep st g) 1
def bkStep (st : Int) (g : Fin 3 → Int) (c : Int) (i : Fin 3) : Int := (Builtin.bitAnd c (g i)).fdiv (2 ^ (16 : Int).toNat) + Builtin.bitAnd c st
def bkR (st : Int) (g : Fin 3 → Int) (size : Nat) (l : List (Fin 3)) : Int := l.foldl (bkStep st g) (1 * 2 ^ (16 * (size : Int)).toNat)
def goesD (g : Fin 3 → Int) : D := .list [.int (g 0), .int (g 1), .int (g 2)]
theorem Fz.refl {a : Addr} {ds : List D} : ∀ (r : List (Str × D)), Fz a ds r r
  | [] => .nil
  | _ :: r => .same (Fz.refl r)
theorem take_succ_get {α : Type} {l : List α} {i : Nat} {x : α} (e : l[i]? = some x) : l.take (i + 1) = l.take i ++ [x] := by rw [List.take_add_one, e]; rfl
section
variable {prog : Program} {w : World} {k : Nat} {P : Params} {mg mb : Str → Option Value} {G : Pg}
variable {env : Env} {ρ ρ' : List (Str × D)} {σ : List (Addr × List D)} {R : Post}
theorem idx_sign (i : Fin 3) : Builtin.Str.occurrences "ab." (signS i) 0 (("ab." : Str)).length 1 = [i.val] := by revert i; decide +kernel
theorem EV.goes {g : Fin 3 → Int} {i : Fin 3} {pg p4 : Pos} {e : Expr} (hg : ρ.lookup ("goes" : Str) = some (goesD g)) (he : EV prog w G k env ρ σ e (.int i.val)) (hs : ∀ o v, subscripted e false o v = operate [o, v] (getItem o v) := by intro _ _; rfl) :
    EV prog w G k env ρ σ (.Subscript (.Name "goes" pg) e p4) (.int (g i)) := by
  refine .sub (.name hg) he (.list ?_ ?_ ?_) hs
  · omega
  · have := i.isLt; omega
  · match i with
    | 0 => rfl
    | 1 => rfl
    | 2 => rfl
abbrev rhoO (st : Int) (g : Fin 3 → Int) (l : List (Fin 3)) (c : Int) (a : Addr) (tl : List (Str × D)) : List (Str × D) :=
  ("stays", .int st) :: ("goes", goesD g) :: ("name", .str (nameS l)) :: ("count", .int c) :: ("told", .loc a) :: tl
theorem fn_onward (B : GB P mg mb) {st : Int} {g : Fin 3 → Int} {l : List (Fin 3)} (hl : l.length ≤ 1000) (hb : ∀ i, (Builtin.Int.intBits (onC st g (l.take i)) : Int) + 16 ≤ 2 ^ 27) :
    FN prog w (kap P mg mb).pg (k + 2) 137 [.int st, goesD g, .str (nameS l)] (.list ((List.range (l.length + 1)).map fun j => .int (onC st g (l.take j)))) := by
  refine FN.body f137 ["stays", "goes", "name"] (h := fun L => ?_) (hb := fun vs h => match vs, h with | [u, v, w], _ => rfl) (hx := by decide) (hkind := fun x hx => .inl (by revert x; decide)) (hcn := fun L q hq => nomatch hq)
  refine .cons (.assign .int (.inl rfl) (.skip (by decide) (.skip (by decide) (.skip (by decide) .nil))) ?_)
  refine .cons (.assignOwn (.list (.cons (.name rfl) .nil)) (.inl rfl) (fun a => .skip (by decide) (.skip (by decide) (.skip (by decide) (.skip (by decide) .nil)))) fun a => ?_)
  refine .cons (.forIn (ds := l.map fun i => .str (signS i)) (fun i ρ σ => ∃ tl, Tl "sign" tl ∧ ρ = rhoO st g l (onC st g (l.take i)) a tl ∧ σ = [(a, (List.range (i + 1)).map fun j => .int (onC st g (l.take j)))])
    (.name rfl) (sgn_name l ▸ .str) (.inl rfl) ⟨[], .nil, rfl, rfl⟩ ?_ ?_)
  · rintro i d ρ σ hd ⟨tl, ht, rfl, rfl⟩
    refine ⟨_, .skip (by decide) (.skip (by decide) (.skip (by decide) (.skip (by decide) (.skip (by decide) ht.upd)))), ?_⟩
    rw [List.getElem?_map] at hd
    cases e : l[i]? with
    | none => rw [e] at hd; cases hd
    | some sg =>
      rw [e] at hd
      obtain rfl := Option.some.inj hd
      have hil : i < l.length := (List.getElem?_eq_some_iff.mp e).1
      have hnext : onC st g (l.take (i + 1)) = onStep st g (onC st g (l.take i)) sg := by
        unfold onC
        rw [take_succ_get e, List.foldl_append]
        rfl
      refine .cons (.assign (.gcall B f62 (.cons (.gcall B f69 (.cons (.gcall B f76 (.cons (.name rfl) (.cons .int .nil)) (fn_lshift (by decide) (hb i))) (.cons (.goes rfl (.mcall (name := "index") .str .index (.cons (.name rfl) .nil) (.index (idx_sign sg)))) .nil)) fn_and) (.cons (.gcall B f69 (.cons (.name rfl) (.cons (.name rfl) .nil)) fn_and) .nil)) fn_add) (.inl rfl)
        (.skip (by decide) (.skip (by decide) (.skip (by decide) .here))) ?_)
      refine .cons (.append (σ₁ := []) (σ₂ := []) (.name rfl) (.name rfl) (.nil ?_) ?_)
      · refine ⟨[("sign", .str (signS sg))], .one _, ?_, ?_⟩
        · rw [hnext]; rfl
        · rw [List.range_succ (n := i + 1), List.map_append, List.map_singleton, hnext]; rfl
      · rw [List.length_map, List.length_range]; exact Nat.lt_of_lt_of_le (by omega : _ < 2000) (by decide)
  · rintro ρ σ ⟨tl, ht, rfl, rfl⟩
    refine .nil (.freeze1 (.same (.same (.same (.same (.here (.refl tl)))))) (.cons (.ret (.name rfl) ?_)))
    rw [List.length_map]
    rfl
end
end

section
section
variable {prog : Program} {w : World} {k : Nat} {P : Params} {mg mb : Str → Option Value} {G : Pg}
variable {env : Env} {ρ ρ' : List (Str × D)} {σ : List (Addr × List D)} {R : Post}
theorem shl1_ok {n : Int} (h0 : 0 ≤ n) (h : n ≤ 100000) : (Builtin.Int.intBits 1 : Int) + n ≤ 2 ^ 27 := by
  have : Builtin.Int.intBits 1 = 1 := by decide
  omega
abbrev rhoB (st : Int) (g : Fin 3 → Int) (size : Nat) (l : List (Fin 3)) (c : Int) (told : List D) (tl : List (Str × D)) : List (Str × D) :=
  ("stays", .int st) :: ("goes", goesD g) :: ("size", .int size) :: ("name", .str (nameS l)) :: ("count", .int c) :: ("told", .list told) :: tl
def toldB (st : Int) (g : Fin 3 → Int) (size : Nat) (r : List (Fin 3)) (n : Nat) : List D := (List.range n).reverse.map fun j => .int (bkR st g size (r.take j))
theorem fn_backward (B : GB P mg mb) {st : Int} {g : Fin 3 → Int} {size : Nat} {l : List (Fin 3)} (hl : l.length ≤ 1000) (hsz : size ≤ 1000) (hrev : cutS (nameS l) none none (some (-1)) = nameS l.reverse) :
    FN prog w (kap P mg mb).pg (k + 2) 144 [.int st, goesD g, .int size, .str (nameS l)] (.list (toldB st g size l.reverse (l.length + 1))) := by
  have hl' : l.reverse.length ≤ 1000 := by rw [List.length_reverse]; exact hl
  have hll : l.length = l.reverse.length := by rw [List.length_reverse]
  rw [hll]
  have hnz : (nameS l).length ≤ sizeLine := by
    have : (nameS l).length = l.length := by show (List.toArray _).size = _; simp
    rw [this]; exact Nat.le_trans hl (by decide)
  generalize hr : l.reverse = r at hrev hl' ⊢
  refine FN.body f144 ["stays", "goes", "size", "name"] (h := fun L => ?_) (hb := fun vs h => match vs, h with | [u, v, w, z], _ => rfl) (hx := by decide) (hkind := fun x hx => .inl (by revert x; decide)) (hcn := fun L q hq => nomatch hq)
  refine .cons (.assign (.gcall B f76 (.cons .int (.cons (.bin .int (.name rfl) (.mul mul16)) .nil)) (fn_lshift (by omega) (shl1_ok (by omega) (by omega)))) (.inl rfl) (.skip (by decide) (.skip (by decide) (.skip (by decide) (.skip (by decide) .nil)))) ?_)
  refine .cons (.assign (.list (.cons (.name rfl) .nil)) (.inl rfl) (.skip (by decide) (.skip (by decide) (.skip (by decide) (.skip (by decide) (.skip (by decide) .nil))))) ?_)
  refine .cons (.forIn (ds := r.map fun i => .str (signS i)) (fun i ρ σ => ∃ tl, Tl "sign" tl ∧ ρ = rhoB st g size l (bkR st g size (r.take i)) (toldB st g size r (i + 1)) tl ∧ σ = [])
    (.slice_str (.name rfl) (l := none) (u := none) (t := some (-1)) trivial trivial (.neg .int) (by decide) hnz) (hrev ▸ sgn_name r ▸ .str) (.inl rfl) ⟨[], .nil, rfl, rfl⟩ ?_ ?_)
  · rintro i d ρ σ hd ⟨tl, ht, rfl, rfl⟩
    refine ⟨_, .skip (by decide) (.skip (by decide) (.skip (by decide) (.skip (by decide) (.skip (by decide) (.skip (by decide) ht.upd))))), ?_⟩
    rw [List.getElem?_map] at hd
    cases e : r[i]? with
    | none => rw [e] at hd; cases hd
    | some sg =>
      rw [e] at hd
      obtain rfl := Option.some.inj hd
      have hil : i < r.length := (List.getElem?_eq_some_iff.mp e).1
      have hnext : bkR st g size (r.take (i + 1)) = bkStep st g (bkR st g size (r.take i)) sg := by
        unfold bkR
        rw [take_succ_get e, List.foldl_append]
        rfl
      refine .cons (.assign (.gcall B f62 (.cons (.gcall B f97 (.cons (.gcall B f69 (.cons (.name rfl) (.cons (.goes rfl (.mcall (name := "index") .str .index (.cons (.name rfl) .nil) (.index (idx_sign sg)))) .nil)) fn_and) (.cons .int .nil)) (fn_rshift (by decide))) (.cons (.gcall B f69 (.cons (.name rfl) (.cons (.name rfl) .nil)) fn_and) .nil)) fn_add) (.inl rfl)
        (.skip (by decide) (.skip (by decide) (.skip (by decide) (.skip (by decide) .here)))) ?_)
      refine .cons (.assign (.bin (.list (.cons (.name rfl) .nil)) (.name rfl) (.addL ?_)) (.inl rfl) (.skip (by decide) (.skip (by decide) (.skip (by decide) (.skip (by decide) (.skip (by decide) .here))))) (.nil ?_))
      · have : (toldB st g size r (i + 1)).length = i + 1 := by simp [toldB]
        rw [this]
        exact Nat.le_trans (by simp; omega : _ ≤ 2000) (by decide)
      · refine ⟨[("sign", .str (signS sg))], .one _, ?_, rfl⟩
        have : toldB st g size r (i + 1 + 1) = .int (bkR st g size (r.take (i + 1))) :: toldB st g size r (i + 1) := by
          unfold toldB
          rw [List.range_succ (n := i + 1), List.reverse_append]
          rfl
        rw [this, hnext]
        rfl
  · rintro ρ σ ⟨tl, ht, rfl, rfl⟩
    refine .nil (.cons (.ret (.name rfl) ?_))
    rw [List.length_map]
    rfl
end
end

section
theorem fm_range {α : Type} (ds : List α) : ∀ n, (List.range n).filterMap (ds[·]?) = ds.take n
  | 0 => by simp
  | n + 1 => by
    rw [List.range_succ, List.filterMap_append, fm_range ds n, List.take_add_one]
    cases e : ds[n]? <;> simp [e]
theorem range_up (n : Nat) : sliceRange 0 (n : Int) 1 = List.range n := by
  have := sliceRange_one 0 n
  simpa using this
theorem pickD_upto (ds : List D) (m : Nat) : pickD ds none (some (m : Int)) none = ds.take m := by
  have hb : sliceBounds none (some (m : Int)) none ds.length = (0, ((min m ds.length : Nat) : Int), 1) := by
    unfold sliceBounds
    have h0 : ¬ ((m : Int) < 0) := by omega
    simp only [Option.getD, h0, if_false]
    refine Prod.ext rfl (Prod.ext ?_ rfl)
    dsimp only
    split <;> omega
  unfold pickD
  rw [hb]
  show (sliceRange 0 _ 1).filterMap _ = _
  rw [range_up, fm_range]
  rcases Nat.le_total m ds.length with h | h
  · rw [Nat.min_eq_left h]
  · rw [Nat.min_eq_right h, List.take_of_length_le (Nat.le_refl _), List.take_of_length_le h]
theorem pickD_init (ds : List D) (hn : ds ≠ []) : pickD ds none (some (-1)) none = ds.dropLast := by
  have hpos : 0 < ds.length := List.length_pos_iff.mpr hn
  have hb : sliceBounds none (some (-1)) none ds.length = (0, ((ds.length - 1 : Nat) : Int), 1) := by
    unfold sliceBounds
    simp only [Option.getD]
    refine Prod.ext rfl (Prod.ext ?_ rfl)
    dsimp only
    split <;> split <;> omega
  unfold pickD
  rw [hb]
  show (sliceRange 0 _ 1).filterMap _ = _
  rw [range_up, fm_range, List.dropLast_eq_take]
def evens {α : Type} (ds : List α) : List α := (List.range ((ds.length + 1) / 2)).filterMap fun k => ds[2 * k]?
theorem pickD_even (ds : List D) : pickD ds none none (some 2) = evens ds := by
  have hb : sliceBounds none none (some 2) ds.length = (0, (ds.length : Int), 2) := rfl
  unfold pickD evens
  rw [hb]
  show (sliceRange 0 _ 2).filterMap _ = _
  unfold sliceRange
  rw [if_pos (by decide), List.filterMap_map]
  have : (if (0 : Int) < (ds.length : Int) then ((ds.length : Int) - 0 + 2 - 1) / 2 else 0).toNat = (ds.length + 1) / 2 := by
    split <;> omega
  rw [this]
  congr 1
  funext j
  show ds[(0 + 2 * (j : Int)).toNat]? = ds[2 * j]?
  congr 1
  omega

def starStep (s : List Bool) (x : Str) : List Bool := if x == "*" then s.dropLast ++ [true] else s ++ [false]
def starsP (row : List Str) : List Bool := row.foldl starStep [false]
def itemsP (row : List Str) : List Str := row.filter (fun x => !(x == "*"))
theorem stars_ne (row : List Str) : starsP row ≠ [] := by
  unfold starsP
  have : ∀ (l : List Str) (s : List Bool), s ≠ [] → l.foldl starStep s ≠ [] := by
    intro l
    induction l with
    | nil => exact fun s h => h
    | cons x l ih =>
      intro s h
      refine ih _ ?_
      unfold starStep
      split <;> simp
  exact this _ _ (by simp)
theorem stars_len (row : List Str) : (starsP row).length ≤ row.length + 1 := by
  unfold starsP
  have : ∀ (l : List Str) (s : List Bool), s ≠ [] → (l.foldl starStep s).length ≤ s.length + l.length := by
    intro l
    induction l with
    | nil => exact fun s h => Nat.le_refl _
    | cons x l ih =>
      intro s h
      have hp : 0 < s.length := List.length_pos_iff.mpr h
      have h1 : starStep s x ≠ [] := by unfold starStep; split <;> simp
      have h2 : (starStep s x).length ≤ s.length + 1 := by
        unfold starStep
        split <;> simp <;> omega
      have := ih _ h1
      rw [List.foldl_cons, List.length_cons]
      omega
  have := this row [false] (by simp)
  simp only [List.length_singleton] at this
  omega
section
variable {prog : Program} {w : World} {k : Nat} {P : Params} {mg mb : Str → Option Value} {G : Pg}
variable {env : Env} {ρ ρ' : List (Str × D)} {σ : List (Addr × List D)} {R : Post}
theorem drop_map {α β : Type} (f : α → β) (l : List α) : (l.map f).dropLast = l.dropLast.map f := by rw [List.map_dropLast]
theorem EV.slice_listE {e : Expr} {lo hi st : Option Expr} {p pos : Pos} {ds ds' : List D} {l u t : Option Int} (h : EV prog w G k env ρ σ e (.list ds)) (hl : PT prog w G k env ρ σ lo l) (hu : PT prog w G k env ρ σ hi u) (ht : PT prog w G k env ρ σ st t)
    (h0 : t ≠ some 0) (hz : ds.length ≤ sizeLine) (he : pickD ds l u t = ds') (hs : ∀ o v, ∃ ops, subscripted (.Slice lo hi st p) false o v = operate ops (getItem o v) := by intro _ _; exact ⟨_, rfl⟩) : EV prog w G k env ρ σ (.Subscript e (.Slice lo hi st p) pos) (.list ds') :=
  he ▸ EV.slice_list h hl hu ht h0 hz hs
abbrev rhoI (row : List Str) (a b : Addr) (tl : List (Str × D)) : List (Str × D) := ("row", .list (row.map .str)) :: ("items", .loc a) :: ("stars", .loc b) :: tl
theorem fn_items {row : List Str} (hz : row.length ≤ 1000) :
    FN prog w (kap P mg mb).pg (k + 1) 151 [.list (row.map .str)] (.tup [.list ((itemsP row).map .str), .list ((starsP row).map .bool)]) := by
  refine FN.body f151 ["row"] (h := fun L => ?_) (hb := fun vs h => match vs, h with | [u], _ => rfl) (hx := by decide) (hkind := fun x hx => .inl (by revert x; decide)) (hcn := fun L q hq => nomatch hq)
  refine .cons (.assignOwn (.list .nil) (.inl rfl) (fun a => .skip (by decide) .nil) fun a => ?_)
  refine .cons (.assignOwn (.list (.cons .bool .nil)) (.inl rfl) (fun b => .skip (by decide) (.skip (by decide) .nil)) fun b => ?_)
  refine .cons (.forIn (ds := row.map .str) (fun i ρ σ => ∃ b tl, Tl "signs" tl ∧ ρ = rhoI row a b tl ∧ σ = [(b, (starsP (row.take i)).map .bool), (a, (itemsP (row.take i)).map .str)])
    (.name rfl) .list (.inl rfl) ⟨b, [], .nil, rfl, rfl⟩ ?_ ?_)
  · rintro i d ρ σ hd ⟨b, tl, ht, rfl, rfl⟩
    refine ⟨_, .skip (by decide) (.skip (by decide) (.skip (by decide) ht.upd)), ?_⟩
    rw [List.getElem?_map] at hd
    cases e : row[i]? with
    | none => rw [e] at hd; cases hd
    | some x =>
      rw [e] at hd
      obtain rfl := Option.some.inj hd
      have hil : i < row.length := (List.getElem?_eq_some_iff.mp e).1
      have hsl := stars_len (row.take i)
      have htl := List.length_take_le i row
      have hs : starsP (row.take (i + 1)) = starStep (starsP (row.take i)) x := by
        unfold starsP; rw [take_succ_get e, List.foldl_append]; rfl
      have hi : itemsP (row.take (i + 1)) = itemsP (row.take i) ++ (if !(x == "*") then [x] else []) := by
        unfold itemsP; rw [take_succ_get e, List.filter_append]; simp [List.filter_cons]
      have hil2 : (itemsP (row.take i)).length ≤ i := Nat.le_trans (List.length_filter_le _ _) htl
      have hne := stars_ne (row.take i)
      generalize starsP (row.take i) = sb at hs hsl hne ⊢
      generalize itemsP (row.take i) = it at hi hil2 ⊢
      refine .cons (.ite (.cmp (.name rfl) .str .eq_str) (fun e1 => ?_) (fun e1 => ?_))
      · refine .freeze1 (.same (.same (.here (.refl _)))) ?_
        have hne' : sb.map D.bool ≠ [] := by simpa using hne
        have hz3 : (sb.map D.bool).length ≤ sizeLine := by rw [List.length_map]; exact Nat.le_trans (by omega : _ ≤ 2000) (by decide)
        have hz4 : (sb.dropLast.map D.bool).length + [D.bool true].length ≤ sizeLine := by rw [List.length_map, List.length_dropLast]; exact Nat.le_trans (by simp; omega : _ ≤ 2000) (by decide)
        refine .cons (.assignOwn (.add (.slice_listE (.name rfl) (l := none) (u := some (-1)) (t := none) trivial (.neg .int) trivial (by decide) hz3 ((pickD_init _ hne').trans (drop_map _ _))) (.list (.cons .bool .nil)) hz4) (.inl rfl) (fun b => .skip (by decide) (.skip (by decide) .here)) fun b' => .nil (.nil ⟨b', _, .one _, rfl, ?_⟩))
        rw [hs, hi, e1]
        unfold starStep
        rw [if_pos e1]
        simp
      · have hz1 : (it.map D.str).length < sizeLine := by rw [List.length_map]; exact Nat.lt_of_lt_of_le (by omega : _ < 2000) (by decide)
        have hz2 : (sb.map D.bool).length < sizeLine := by rw [List.length_map]; exact Nat.lt_of_lt_of_le (by omega : _ < 2000) (by decide)
        refine .cons (.append (σ₁ := [(b, sb.map D.bool)]) (σ₂ := []) (.name rfl) (.name rfl) ?_ hz1)
        refine .cons (.append (σ₁ := []) (σ₂ := [(a, it.map D.str ++ [.str x])]) (.name rfl) .bool (.nil (.nil ⟨b, _, .one _, rfl, ?_⟩)) hz2)
        rw [hs, hi, e1]
        unfold starStep
        rw [if_neg (by rw [e1]; decide)]
        simp
  · rintro ρ σ ⟨b, tl, ht, rfl, rfl⟩
    refine .nil (.freeze1 (.same (.same (.here (.refl tl)))) (.freeze1 (.same (.here (.same (.refl tl)))) (.cons (.ret (.tup (.cons (.name rfl) (.cons (.name rfl) .nil))) ?_))))
    rw [List.length_map, List.take_length]
    rfl
end
end

section
def walkD (w : List Nat) : D := .list (w.map fun (n : Nat) => D.int (n : Int))
def intN : D → Nat
  | .int i => i.toNat
  | _ => 0
def unW : D → List Nat
  | .list l => l.map intN
  | _ => []
theorem unW_walk (w : List Nat) : unW (walkD w) = w := by
  show List.map intN (List.map _ w) = w
  rw [List.map_map]
  conv => rhs; rw [← List.map_id w]
  exact List.map_congr_left fun n _ => by show (n : Int).toNat = n; omega
def lastW (w : List Nat) : Nat := w.getLastD 0
def onW (items : List Str) (sign : Str) (ws : List (List Nat)) : List (List Nat) :=
  (ws.filter fun w => decide (lastW w < items.length) && inS sign (items.getD (lastW w) "")).map fun w => w ++ [lastW w + 1]
def stayW (stars : List Bool) (ws : List (List Nat)) : List (List Nat) := (ws.filter fun w => stars.getD (lastW w) false).map fun w => w ++ [lastW w]
def stepW (items : List Str) (stars : List Bool) (ws : List (List Nat)) (i : Fin 3) : List (List Nat) := stayW stars ws ++ onW items (signS i) ws
def walksP (items : List Str) (stars : List Bool) (l : List (Fin 3)) : List (List Nat) := l.foldl (stepW items stars) [[0]]
theorem lastW_snoc (w : List Nat) (n : Nat) : lastW (w ++ [n]) = n := by simp [lastW]
theorem stepW_ok {items : List Str} {stars : List Bool} {ws : List (List Nat)} (i : Fin 3) (h : ∀ w ∈ ws, w ≠ [] ∧ lastW w ≤ items.length) : ∀ w ∈ stepW items stars ws i, w ≠ [] ∧ lastW w ≤ items.length := by
  intro w hw
  rcases List.mem_append.mp hw with hw | hw
  · obtain ⟨v, hv, rfl⟩ := List.mem_map.mp hw
    rw [lastW_snoc]
    exact ⟨by simp, (h v (List.mem_filter.mp hv).1).2⟩
  · obtain ⟨v, hv, rfl⟩ := List.mem_map.mp hw
    rw [lastW_snoc]
    have := (List.mem_filter.mp hv).2
    rw [Bool.and_eq_true, decide_eq_true_eq] at this
    exact ⟨by simp, this.1⟩
theorem walksP_ok (items : List Str) (stars : List Bool) (l : List (Fin 3)) : ∀ w ∈ walksP items stars l, w ≠ [] ∧ lastW w ≤ items.length := by
  unfold walksP
  have : ∀ (l : List (Fin 3)) ws, (∀ w ∈ ws, w ≠ [] ∧ lastW w ≤ items.length) → ∀ w ∈ l.foldl (stepW items stars) ws, w ≠ [] ∧ lastW w ≤ items.length := by
    intro l
    induction l with
    | nil => exact fun ws h => h
    | cons i l ih => exact fun ws h => ih _ (stepW_ok i h)
  refine this l _ fun w hw => ?_
  rw [List.mem_singleton.mp hw]
  exact ⟨by simp, by simp [lastW]⟩
theorem walksP_len (items : List Str) (stars : List Bool) (l : List (Fin 3)) : (walksP items stars l).length ≤ 2 ^ l.length := by
  unfold walksP
  have h1 : ∀ ws i, (stepW items stars ws i).length ≤ 2 * ws.length := by
    intro ws i
    unfold stepW stayW onW
    rw [List.length_append, List.length_map, List.length_map]
    have := List.length_filter_le (fun w => stars.getD (lastW w) false) ws
    have := List.length_filter_le (fun w => decide (lastW w < items.length) && inS (signS i) (items.getD (lastW w) "")) ws
    omega
  have : ∀ (l : List (Fin 3)) (ws : List (List Nat)), (l.foldl (stepW items stars) ws).length ≤ 2 ^ l.length * ws.length := by
    intro l
    induction l with
    | nil => intro ws; simp
    | cons i l ih =>
      intro ws
      have a := ih (stepW items stars ws i)
      have b := h1 ws i
      rw [List.foldl_cons, List.length_cons, Nat.pow_succ]
      calc _ ≤ 2 ^ l.length * (stepW items stars ws i).length := a
        _ ≤ 2 ^ l.length * (2 * ws.length) := Nat.mul_le_mul_left _ b
        _ = _ := by rw [Nat.mul_assoc]
  simpa using this l [[0]]
section
variable {prog : Program} {w : World} {k : Nat} {P : Params} {mg mb : Str → Option Value} {G : Pg}
variable {env : Env} {ρ ρ' : List (Str × D)} {σ : List (Addr × List D)} {R : Post}

/-- a comprehension over items of one kind -/
theorem EV.compT {α : Type} (rep : α → D) (dec : D → α) (hdec : ∀ x, dec (rep x) = x) {elt iter : Expr} {x : Str} {px : Pos} {ifs : List Expr} {scope : Scope} {cl : List (Str × Addr)} {pos : Pos} {ρc : List (Str × D)} {d : D} {xs : List α} (p : α → Bool) (f : α → D)
    (hi : EV prog w G k env ρ σ iter d) (it : IT prog w k d (xs.map rep)) (se : Sees env scope cl x ρ ρc) (hz : xs.length ≤ sizeLine)
    (tests : ∀ C y, y ∈ xs → TS prog w G k (compEnvC scope cl C env) ((x, rep y) :: ρc) σ ifs (p y))
    (he : ∀ C y, y ∈ xs → p y = true → EV prog w G k (compEnvC scope cl C env) ((x, rep y) :: ρc) σ elt (f y))
    (hs : ∀ x, foldedSetIterable iter env x = pure x := by intro _; rfl) : EV prog w G k env ρ σ (.ListComp elt [⟨.Name x px, iter, ifs, 0⟩] scope pos) (.list ((xs.filter p).map f)) := by
  have h := EV.comp (pos := pos) (px := px) (fun d => p (dec d)) (fun d => f (dec d)) hi it se (by rw [List.length_map]; exact hz) (fun C d hd => by
    obtain ⟨y, hy, rfl⟩ := List.mem_map.mp hd
    rw [hdec]
    exact tests C y hy) (fun C d hd hp => by
    obtain ⟨y, hy, rfl⟩ := List.mem_map.mp hd
    rw [hdec] at hp ⊢
    exact he C y hy hp) hs
  have e : ((xs.map rep).filter fun d => p (dec d)).map (fun d => f (dec d)) = (xs.filter p).map f := by
    rw [List.filter_map, List.map_map]
    have e1 : (fun d => p (dec d)) ∘ rep = p := funext fun y => by simp [hdec]
    have e2 : (fun d => f (dec d)) ∘ rep = f := funext fun y => by simp [hdec]
    rw [e1, e2]
  exact e ▸ h
theorem SO.assignCompT {α : Type} (rep : α → D) (dec : D → α) (hdec : ∀ x, dec (rep x) = x) {elt iter : Expr} {x y : Str} {px py : Pos} {ifs : List Expr} {scope : Scope} {cl : List (Str × Addr)} {pos spos : Pos} {ρc ρ' : List (Str × D)} {d : D} {xs : List α} (p : α → Bool) (f : α → D)
    (hi : EV prog w G k env ρ σ iter d) (it : IT prog w k d (xs.map rep)) (se : Sees env scope cl x ρ ρc) (hz : xs.length ≤ sizeLine)
    (tests : ∀ C y, y ∈ xs → TS prog w G k (compEnvC scope cl C env) ((x, rep y) :: ρc) σ ifs (p y))
    (he : ∀ C y, y ∈ xs → p y = true → EV prog w G k (compEnvC scope cl C env) ((x, rep y) :: ρc) σ elt (f y))
    (hy : Sto env y) (u : Upd y (.list ((xs.filter p).map f)) ρ ρ') (hR : R .next ρ' σ)
    (hsw : swapsWith (.ListComp elt [⟨.Name x px, iter, ifs, 0⟩] scope pos) (some (.Name y py)) spos.line env = pure true := by rfl)
    (hs : ∀ x, foldedSetIterable iter env x = pure x := by intro _; rfl) :
    SO prog w G k env ρ σ (.Assign [.Name y py] (.ListComp elt [⟨.Name x px, iter, ifs, 0⟩] scope pos) spos) R := by
  have e : ((xs.map rep).filter fun d => p (dec d)).map (fun d => f (dec d)) = (xs.filter p).map f := by
    rw [List.filter_map, List.map_map]
    have e1 : (fun d => p (dec d)) ∘ rep = p := funext fun y => by simp [hdec]
    have e2 : (fun d => f (dec d)) ∘ rep = f := funext fun y => by simp [hdec]
    rw [e1, e2]
  exact SO.assignComp (fun d => p (dec d)) (fun d => f (dec d)) hi it se (by rw [List.length_map]; exact hz) (fun C d hd => by
    obtain ⟨y, hy, rfl⟩ := List.mem_map.mp hd
    rw [hdec]
    exact tests C y hy) (fun C d hd hp => by
    obtain ⟨y, hy, rfl⟩ := List.mem_map.mp hd
    rw [hdec] at hp ⊢
    exact he C y hy hp) hy (e ▸ u) hR hsw hs
theorem TV.and2 {c1 c2 : Expr} {pos : Pos} {a b : Bool} (h1 : TV prog w G k env ρ σ c1 a) (h2 : a = true → TV prog w G k env ρ σ c2 b) : TV prog w G k env ρ σ (.BoolOp .And [c1, c2] pos) (a && b) := by
  cases a with
  | false => exact .and_false h1
  | true =>
    refine .and_true h1 ?_
    cases b with
    | false => exact .and_false (h2 rfl)
    | true => exact .and_true (h2 rfl) .and_nil
theorem TV.or2 {c1 c2 : Expr} {pos : Pos} {a b : Bool} (h1 : TV prog w G k env ρ σ c1 a) (h2 : a = false → TV prog w G k env ρ σ c2 b) : TV prog w G k env ρ σ (.BoolOp .Or [c1, c2] pos) (a || b) := by
  cases a with
  | true => exact .or_true h1
  | false =>
    refine .or_false h1 ?_
    cases b with
    | true => exact .or_true (h2 rfl)
    | false => exact .or_false (h2 rfl) .or_nil
/-- the last item of a walk -/
theorem EV.lastW {e : Expr} {p1 p2 p3 : Pos} {v : List Nat} (h : EV prog w G k env ρ σ e (walkD v)) (hn : v ≠ []) (hz : v.length ≤ 1000) (hs : ∀ o v, subscripted (.UnaryOp .USub (.Constant (.int 1) 0 p1) p2) false o v = operate [o, v] (getItem o v) := by intro _ _; rfl) :
    EV prog w G k env ρ σ (.Subscript e (.UnaryOp .USub (.Constant (.int 1) 0 p1) p2) p3) (.int (Fm.lastW v)) := by
  have hp : 0 < v.length := List.length_pos_iff.mpr hn
  refine .sub h (.neg .int) (.list_neg (by decide) ?_ (by decide) ?_) hs
  · rw [List.length_map]; omega
  · have : (-1 + ((v.map fun (n : Nat) => D.int (n : Int)).length : Int)).toNat = v.length - 1 := by rw [List.length_map]; omega
    rw [this, List.getElem?_map]
    have : v[v.length - 1]? = some (Fm.lastW v) := by
      unfold Fm.lastW
      rw [List.getLastD_eq_getLast?, List.getLast?_eq_getElem?]
      have : v[v.length - 1]? = some (v[v.length - 1]'(by omega)) := List.getElem?_eq_getElem _
      rw [this]; rfl
    rw [this]; rfl
end
end

section
section
variable {prog : Program} {w : World} {k : Nat} {P : Params} {mg mb : Str → Option Value} {G : Pg}
variable {env : Env} {ρ ρ' : List (Str × D)} {σ : List (Addr × List D)} {R : Post}
theorem OP.addW {v u : List Nat} (hz : v.length + u.length ≤ sizeLine) : OP prog w k .Add (walkD v) (walkD u) (walkD (v ++ u)) := by
  have h := OP.addL (prog := prog) (w := w) (k := k) (ds := v.map fun (n : Nat) => D.int (n : Int)) (es := u.map fun (n : Nat) => D.int (n : Int)) (by rw [List.length_map, List.length_map]; exact hz)
  rw [← List.map_append] at h
  exact h
def walksD (ws : List (List Nat)) : D := .list (ws.map walkD)
abbrev rhoW (items : List Str) (stars : List Bool) (l : List (Fin 3)) (ws : List (List Nat)) (a : Addr) (tl : List (Str × D)) : List (Str × D) :=
  ("items", .list (items.map .str)) :: ("stars", .list (stars.map .bool)) :: ("name", .str (nameS l)) :: ("walks", walksD ws) :: ("fronts", .loc a) :: tl
inductive Tl2 (x y : Str) : List (Str × D) → Prop
  | nil : Tl2 x y []
  | two (d e : D) : Tl2 x y [(x, d), (y, e)]
theorem Tl2.upd {x y : Str} {d : D} {tl : List (Str × D)} (t : Tl2 x y tl) : ∃ tl', Upd x d tl ((x, d) :: tl') ∧ (tl' = [] ∨ ∃ e, tl' = [(y, e)]) := by
  cases t with
  | nil => exact ⟨_, .nil, .inl rfl⟩
  | two d e => exact ⟨_, .here, .inr ⟨e, rfl⟩⟩
theorem wl_bound (items : List Str) (stars : List Bool) (l : List (Fin 3)) (hl : l.length ≤ 10) (i : Nat) : (walksP items stars (l.take i)).length ≤ 1024 := by
  have h := walksP_len items stars (l.take i)
  have h2 : (l.take i).length ≤ 10 := Nat.le_trans (List.length_take_le' i l) hl
  exact Nat.le_trans h (Nat.le_trans (Nat.pow_le_pow_right (by decide) h2) (by decide))
theorem walksP_each (items : List Str) (stars : List Bool) (l : List (Fin 3)) : ∀ w ∈ walksP items stars l, w.length = l.length + 1 := by
  unfold walksP
  have : ∀ (l : List (Fin 3)) ws n, (∀ w ∈ ws, List.length w = n) → ∀ w ∈ l.foldl (stepW items stars) ws, w.length = n + l.length := by
    intro l
    induction l with
    | nil => exact fun ws n h => h
    | cons i l ih =>
      intro ws n h w hw
      have := ih (stepW items stars ws i) (n + 1) (fun v hv => by
        rcases List.mem_append.mp hv with hv | hv
        · obtain ⟨u, hu, rfl⟩ := List.mem_map.mp hv
          rw [List.length_append, h u (List.mem_filter.mp hu).1]; rfl
        · obtain ⟨u, hu, rfl⟩ := List.mem_map.mp hv
          rw [List.length_append, h u (List.mem_filter.mp hu).1]; rfl) w hw
      rw [this, List.length_cons]; omega
  intro w hw
  rw [this l [[0]] 1 (fun v hv => by rw [List.mem_singleton.mp hv]; rfl) w hw]
  omega
theorem fn_walks (B : GB P mg mb) {items : List Str} {stars : List Bool} {l : List (Fin 3)} (hl : l.length ≤ 10) (hs : stars.length = items.length + 1) (hi : items.length ≤ 1000) :
    FN prog w (kap P mg mb).pg (k + 1) 156 [.list (items.map .str), .list (stars.map .bool), .str (nameS l)] (.list ((List.range (l.length + 1)).map fun j => walksD (walksP items stars (l.take j)))) := by
  refine FN.body f156 ["items", "stars", "name"] (h := fun L => ?_) (hb := fun vs h => match vs, h with | [u, v, w], _ => rfl) (hx := by decide) (hkind := fun x hx => ?_) (hcn := fun L q hq => ?_)
  rotate_left
  · rcases List.mem_cons.mp hx with rfl | hx
    · exact .inr ⟨rfl, fun L => ⟨_, rfl⟩⟩
    · rcases List.mem_cons.mp hx with rfl | hx
      · exact .inr ⟨rfl, fun L => ⟨_, rfl⟩⟩
      · rw [List.mem_singleton.mp hx]
        exact .inl rfl
  · have h3 : cellsFrom L f156.scope.names [] = ([("sign", L + 1 + 1), ("stars", L + 1), ("items", L)] : List (Str × Addr)) := rfl
    rw [h3] at hq ⊢
    rcases List.mem_cons.mp hq with rfl | hq
    · rfl
    · rcases List.mem_cons.mp hq with rfl | hq
      · rfl
      · rcases List.mem_cons.mp hq with rfl | hq
        · rfl
        · exact nomatch hq
  refine .cons (.assign (d := walksD [[0]]) (.list (.cons (.list (.cons .int .nil)) .nil)) (.inl rfl) (.skip (by decide) (.skip (by decide) (.skip (by decide) .nil))) ?_)
  refine .cons (.assignOwn (.list (.cons (.name rfl) .nil)) (.inl rfl) (fun a => .skip (by decide) (.skip (by decide) (.skip (by decide) (.skip (by decide) .nil)))) fun a => ?_)
  refine .cons (.forIn (ds := l.map fun i => .str (signS i)) (fun i ρ σ => ∃ tl, Tl2 "sign" "on" tl ∧ ρ = rhoW items stars l (walksP items stars (l.take i)) a tl ∧ σ = [(a, (List.range (i + 1)).map fun j => walksD (walksP items stars (l.take j)))])
    (.name rfl) (sgn_name l ▸ .str) (.inr ⟨rfl, _, rfl⟩) ⟨[], .nil, rfl, rfl⟩ ?_ ?_)
  · rintro i d ρ σ hd ⟨tl, ht, rfl, rfl⟩
    obtain ⟨tl', hu, ht'⟩ := ht.upd (d := d)
    refine ⟨_, .skip (by decide) (.skip (by decide) (.skip (by decide) (.skip (by decide) (.skip (by decide) hu)))), ?_⟩
    rw [List.getElem?_map] at hd
    cases e : l[i]? with
    | none => rw [e] at hd; cases hd
    | some sg =>
      rw [e] at hd
      obtain rfl := Option.some.inj hd
      have hil : i < l.length := (List.getElem?_eq_some_iff.mp e).1
      have hnext : walksP items stars (l.take (i + 1)) = stepW items stars (walksP items stars (l.take i)) sg := by
        unfold walksP
        rw [take_succ_get e, List.foldl_append]
        rfl
      have hok := walksP_ok items stars (l.take i)
      have hlen := wl_bound items stars l hl i
      have hlen' := wl_bound items stars l hl (i + 1)
      have hea := walksP_each items stars (l.take i)
      have htl := List.length_take_le i l
      generalize walksP items stars (l.take i) = ws at hnext hok hlen hea ⊢
      rw [hnext] at hlen'
      have hu2 : Upd "on" (.list ((ws.filter fun w => decide (lastW w < items.length) && inS (signS sg) (items.getD (lastW w) "")).map fun w => walkD (w ++ [lastW w + 1]))) (("sign", .str (signS sg)) :: tl')
          [("sign", .str (signS sg)), ("on", walksD (onW items (signS sg) ws))] := by
        have e : D.list ((ws.filter fun w => decide (lastW w < items.length) && inS (signS sg) (items.getD (lastW w) "")).map fun w => walkD (w ++ [lastW w + 1])) = walksD (onW items (signS sg) ws) := by
          unfold walksD onW
          rw [List.map_map]; rfl
        rw [e]
        rcases ht' with rfl | ⟨d, rfl⟩
        · exact .skip (by decide) .nil
        · exact .skip (by decide) .here
      refine .cons (.assignCompT walkD unW unW_walk (ρc := [("items", .list (items.map .str)), ("sign", .str (signS sg))]) (xs := ws) (fun w => decide (lastW w < items.length) && inS (signS sg) (items.getD (lastW w) "")) (fun w => walkD (w ++ [lastW w + 1]))
        (.name rfl) .list ⟨by rfl, by decide, rfl, by decide, rfl, ?_⟩ (Nat.le_trans hlen (by decide)) ?_ ?_ (.inl rfl) (.skip (by decide) (.skip (by decide) (.skip (by decide) (.skip (by decide) (.skip (by decide) hu2))))) ?_)
      · intro q hq
        rcases List.mem_cons.mp hq with rfl | hq
        · exact ⟨by simp, rfl, rfl, rfl⟩
        · rw [List.mem_singleton.mp hq]
          exact ⟨by simp, rfl, rfl, rfl⟩
      · intro C v hv
        have hvl : v.length ≤ 1000 := by rw [hea v hv]; omega
        refine .and2 (.cmp (.lastW (.name rfl) (hok v hv).1 hvl) (.bncall B (.cons (.name rfl) .nil) (.len_list (by rw [List.length_map]; omega))) ?_) fun hlt => ?_
        · have : decide (lastW v < items.length) = decide ((lastW v : Int) < ((items.map D.str).length : Int)) := by
            rw [List.length_map]; exact decide_eq_decide.mpr (by omega)
          rw [this]; exact .lt_int
        · have hlt' := of_decide_eq_true hlt
          have hg : items.getD (lastW v) "" = items[lastW v] := by rw [List.getD_eq_getElem?_getD, List.getElem?_eq_getElem hlt']; rfl
          refine .cmp (.name rfl) (.sub (.name rfl) (.lastW (.name rfl) (hok v hv).1 hvl) (.list (by omega) (by omega) ?_)) .in_str
          rw [Int.toNat_natCast, List.getElem?_map, List.getElem?_eq_getElem hlt', hg]; rfl
      · intro C v hv _
        have hvl : v.length ≤ 1000 := by rw [hea v hv]; omega
        refine .bin (.name rfl) (.list (.cons (.bin (.lastW (.name rfl) (hok v hv).1 hvl) .int .add) .nil)) (.addW (u := [lastW v + 1]) ?_)
        exact Nat.le_trans (by simp; omega : _ ≤ 2000) (by decide)
      · have hz2 : (stayW stars ws).length + (onW items (signS sg) ws).length ≤ 2000 := by
          unfold stepW at hlen'
          rw [List.length_append] at hlen'
          omega
        have hz3 : (((List.range (i + 1)).map fun j => walksD (walksP items stars (l.take j)))).length < sizeLine := by
          rw [List.length_map, List.length_range]; exact Nat.lt_of_lt_of_le (by omega : _ < 2000) (by decide)
        refine .cons (.assign (d := walksD (stepW items stars ws sg)) (.bin (.compT walkD unW unW_walk (ρc := [("stars", .list (stars.map .bool))]) (xs := ws) (fun w => stars.getD (lastW w) false) (fun w => walkD (w ++ [lastW w]))
          (.name rfl) .list ⟨by rfl, by decide, rfl, by decide, rfl, ?_⟩ (Nat.le_trans hlen (by decide)) ?_ ?_) (.name rfl) ?_) (.inl rfl) (.skip (by decide) (.skip (by decide) (.skip (by decide) .here))) ?_)
        · intro q hq
          rw [List.mem_singleton.mp hq]
          exact ⟨by simp, rfl, rfl, rfl⟩
        · intro C v hv
          have hvl : v.length ≤ 1000 := by rw [hea v hv]; omega
          have hvo := (hok v hv).2
          have hlt : lastW v < stars.length := by omega
          have hg : stars.getD (lastW v) false = stars[lastW v] := by rw [List.getD_eq_getElem?_getD, List.getElem?_eq_getElem hlt]; rfl
          refine .of (.sub (.name rfl) (.lastW (.name rfl) (hok v hv).1 hvl) (.list (d := .bool (stars.getD (lastW v) false)) (by omega) (by omega) ?_)) .bool
          rw [Int.toNat_natCast, List.getElem?_map, List.getElem?_eq_getElem hlt, hg]; rfl
        · intro C v hv _
          have hvl : v.length ≤ 1000 := by rw [hea v hv]; omega
          refine .bin (.name rfl) (.list (.cons (.lastW (.name rfl) (hok v hv).1 hvl) .nil)) (.addW (u := [lastW v]) ?_)
          exact Nat.le_trans (by simp; omega : _ ≤ 2000) (by decide)
        · have e : walksD (stepW items stars ws sg) = .list ((ws.filter fun w => stars.getD (lastW w) false).map (fun w => walkD (w ++ [lastW w])) ++ (onW items (signS sg) ws).map walkD) := by
            unfold walksD stepW stayW
            rw [List.map_append, List.map_map]; rfl
          rw [e]
          refine .addL ?_
          unfold stayW at hz2
          rw [List.length_map] at hz2 ⊢
          rw [List.length_map]
          exact Nat.le_trans hz2 (by decide)
        · refine .cons (.append (σ₁ := []) (σ₂ := []) (.name rfl) (.name rfl) (.nil ⟨[("sign", .str (signS sg)), ("on", walksD (onW items (signS sg) ws))], .two _ _, ?_, ?_⟩) hz3)
          · rw [hnext]
          · rw [List.range_succ (n := i + 1), List.map_append, List.map_singleton, hnext]; rfl
  · rintro ρ σ ⟨tl, ht, rfl, rfl⟩
    refine .nil (.freeze1 (.same (.same (.same (.same (.here (.refl tl)))))) (.cons (.ret (.name rfl) ?_)))
    rw [List.length_map]
    rfl
end
end

section
def pieces : List (Str × Str) := [("a", "a"), ("b", "b"), (".", "."), ("?", "ab."), ("*", "*"), ("*", "*"), ("**", "*"), ("[ab]", "ab"), ("[!a]", "b."), ("[.-a]", ".a"), ("[b-a]", ""), ("[!b-a]", "ab."), ("[!.b]", "a"), ("[a.]", "a."), ("[.-b]", "ab."), ("[a-a]", "a")]
def pairD (p : Str × Str) : D := .list [.str p.1, .str p.2]
section
variable {prog : Program} {w : World} {k : Nat} {P : Params} {mg mb : Str → Option Value} {G : Pg}
variable {env : Env} {ρ ρ' : List (Str × D)} {σ : List (Addr × List D)} {R : Post}
theorem FN.bodyG {K : Params → Frag} {P : Params} {a : Addr} {mg mb : Str → Option Value} (f : Fn K a) (xs : List Str) {ds : List D} {d : D} (hlen : xs.length = ds.length)
    (h : ∀ L b, b = f.body → SX prog w (Kn.mk (K P) mg mb).pg k (f.en L) (xs.zip ds) [] b (fun o _ _ => o = .ret d))
    (hb : ∀ vs : List Value, vs.length = xs.length → bindArgs (docDef f.name f.params f.body f.scope f.pm (.ref f.c) .none) ⟨vs, []⟩ = pure (xs.zip vs))
    (hx : xs.Nodup) (hkind : ∀ x ∈ xs, f.scope.names.lookup x = some .local ∨ (f.scope.names.lookup x = some .cell ∧ ∀ L, ∃ c, (cellsFrom L f.scope.names []).lookup x = some c))
    (hcn : ∀ L, ∀ q ∈ cellsFrom L f.scope.names [], (cellsFrom L f.scope.names []).lookup q.1 = some q.2)
    (hco : f.scope.isCoroutine = false) (hgen : f.scope.isGenerator = false) (hk : f.scope.kind = .function) : FN prog w (Kn.mk (K P) mg mb).pg (k + 1) a ds d :=
  FN.body f xs hlen (fun L => h L _ rfl) hb hx hkind hcn hco hgen hk
theorem b118 (L : Addr) (b : List Stmt) (hb : b = f118.body) : SX prog w (kap P mg mb).pg k (f118.en L) [] [] b (fun o _ _ => o = .ret (.list (pieces.map pairD))) := by
  rw [hb]
  refine .cons ?_
  refine @SO.ret _ _ _ _ _ _ _ _ _ _ (.list (pieces.map pairD)) ?_ rfl
  refine @EV.list _ _ _ _ _ _ _ _ _ (pieces.map pairD) ?_ (Nat.le_of_ble_eq_true rfl)
  iterate 16 (refine @EVS.cons _ _ _ _ _ _ _ _ _ _ _ (.list (.cons .str (.cons .str .nil))) ?_ rfl)
  exact EVS.nil
theorem hb118 (vs : List Value) (h : vs.length = ([] : List Str).length) : bindArgs (docDef f118.name f118.params f118.body f118.scope f118.pm (.ref f118.c) .none) ⟨vs, []⟩ = pure (([] : List Str).zip vs) := by
  match vs, h with
    | [], _ => rfl
theorem fn_pieces : FN prog w (kap P mg mb).pg (k + 1) 118 [] (.list (pieces.map pairD)) :=
  @FN.bodyG prog w k _ P 118 mg mb f118 [] [] (.list (pieces.map pairD)) rfl b118 hb118 .nil (fun x hx => nomatch hx) (fun L q hq => nomatch hq) rfl rfl rfl
def cnt (l : List (Option Str)) : Nat := l.countP (·.isNone)
abbrev rhoC (parts : List (Option Str)) (c : Nat) (tl : List (Str × D)) : List (Str × D) := ("a", .list (parts.map partD)) :: ("b", .none) :: ("count", .int c) :: tl
theorem TV.hit {x y : Str} {p : Option Str} {pp p1 p2 p3 p4 p5 p6 : Pos} (hx : ρ.lookup x = some (partD p)) (hy : ρ.lookup y = some .none) (h1 : (x == ("__debug__" : Str)) = false) (h2 : (x == ("__classdict__" : Str)) = false) (h3 : (y == ("__debug__" : Str)) = false) (h4 : (y == ("__classdict__" : Str)) = false) :
    TV prog w G k env ρ σ (.BoolOp .Or [.Compare (.Name x p1) [.Is] [.Name y p2] p3, .Compare (.Name x p4) [.Eq] [.Name y p5] p6] pp) p.isNone := by
  cases p with
  | none => exact .or2 (a := true) (b := true) (.cmp (.name hx h1 h2) (.name hy h3 h4) (.is_none (.inl rfl))) (fun e => nomatch e)
  | some x => exact .or2 (a := false) (b := false) (.cmp (.name hx h1 h2) (.name hy h3 h4) (.is_none (.inr ⟨x, rfl⟩))) (fun _ => .cmp (.name hx h1 h2) (.name hy h3 h4) .eq_str_none)
theorem fn_countOf {parts : List (Option Str)} : FN prog w (kap P mg mb).pg (k + 1) 104 [.list (parts.map partD), .none] (.int (cnt parts)) := by
  refine FN.body f104 ["a", "b"] (h := fun L => ?_) (hb := fun vs h => match vs, h with | [u, v], _ => rfl) (hx := by decide) (hkind := fun x hx => .inl (by revert x; decide)) (hcn := fun L q hq => nomatch hq)
  refine .cons (.assign .int (.inl rfl) (.skip (by decide) (.skip (by decide) .nil)) ?_)
  refine .cons (.forIn (ds := parts.map partD) (fun i ρ σ => ∃ tl, Tl "i" tl ∧ ρ = rhoC parts (cnt (parts.take i)) tl ∧ σ = []) (.name rfl) .list (.inl rfl) ⟨[], .nil, rfl, rfl⟩ ?_ ?_)
  · rintro i d ρ σ hd ⟨tl, ht, rfl, rfl⟩
    refine ⟨_, .skip (by decide) (.skip (by decide) (.skip (by decide) ht.upd)), ?_⟩
    rw [List.getElem?_map] at hd
    cases e : parts[i]? with
    | none => rw [e] at hd; cases hd
    | some p =>
      rw [e] at hd
      obtain rfl := Option.some.inj hd
      have hnext : cnt (parts.take (i + 1)) = cnt (parts.take i) + (if p.isNone then 1 else 0) := by
        unfold cnt; rw [take_succ_get e, List.countP_append]; simp [List.countP_cons]
      refine .cons (.ite (.hit rfl rfl (by decide) (by decide) (by decide) (by decide)) (fun h => ?_) fun h => ?_)
      · refine .cons (.augAdd (b := 1) rfl .int (.inl rfl) (.skip (by decide) (.skip (by decide) .here)) (.nil (.nil ⟨[("i", partD p)], .one _, ?_, rfl⟩)))
        rw [hnext, h]; rfl
      · refine .nil (.nil ⟨[("i", partD p)], .one _, ?_, rfl⟩)
        rw [hnext, h]; rfl
  · rintro ρ σ ⟨tl, ht, rfl, rfl⟩
    refine .nil (.cons (.ret (.name rfl) ?_))
    rw [List.length_map, List.take_length]
    rfl
end
end

section
section
variable {M : Model} {A : Around} {E : Value → Shared → Prop} {s : Shared}
/-- a new exception is noted in its first frame -/
theorem noteNewW {base h : Heap} {env : Env} {outer : List Env} {L e : Addr} {cls : Value} {args : List Value} {Q : Unit → Shared → Prop}
    (hfr : A.frames = some (env :: outer)) (hf : env.frame = some L) (hkb : base.StaysIn h) (hl : h.FunFrames base (env :: outer)) (hx : Heap.MadeExcOf h s.heap e cls args)
    (hQ : ∀ h' a0, Heap.HeldW base (env :: outer) e cls a0 L h' → s.heap.UpToSlots h' → Q () { s with heap := h' }) : wpAny M A (noteFrame (.ref e) env) Q E s := by
  obtain ⟨t, he, htn, ht⟩ := hx.there
  have fresh : ∀ b, h.get? b = none → base.get? b = none := fun b hb => by
    cases hq : base.get? b with
    | none => rfl
    | some o' => have := hkb b o' hq; rw [hb] at this; cases this
  unfold noteFrame
  simp only [hf]
  refine wpAny_bind (wpAny_field (x := Value.none) he rfl rfl ?_)
  rw [if_neg (show ¬ ((Value.none != Value.none) = true) from by decide)]
  refine wpAny_entryW hfr (hl.of_keeps fun b o hb _ => ⟨o, hx.keeps b o hb, rfl⟩) hf he (fun b o hb => hx.keeps b o (hkb b o hb)) (fresh e hx.new) rfl (by simp) rfl fun h' hL => ?_
  obtain ⟨k1, k2, k3, k4⟩ := hL
  exact hQ h' (.ref t) ⟨k1, fresh e hx.new, k2, k3⟩ k4
theorem cameBackW {base : Heap} {env : Env} {l : List Env} {L e : Addr} {cls a0 : Value} (hh : Heap.HeldW base l e cls a0 L s.heap) (hf : env.frame = some L)
    (hQ : ∀ h', Heap.HeldW base l e cls a0 L h' → s.heap.UpToSlots h' → E (.ref e) { s with heap := h' }) : cameBackBy M A env E (.ref e) s := by
  obtain ⟨hkb, hen, hl, ht⟩ := hh
  obtain ⟨oe, vs, T, oT, ts, he, hcls, hd, h1, hnT, hTe, hT, hdT, h3⟩ := ht
  have hsz3 : 3 < ts.size := (Array.getElem?_eq_some_iff.mp h3).1
  have other : ∀ b, b ≠ T → (s.heap.update T (Obj.mapFields (·.setIfInBounds 3 (env.frame.elim Value.none fun f => rawInt f)))).get? b = s.heap.get? b :=
    fun b hb => Heap.get?_update_other _ _ (Ne.symm hb)
  have noRecord : ∀ b o, s.heap.get? b = some o → (∀ vs, o.data ≠ .fields vs) → b ≠ T := fun b o hb hnf q => by
    rw [q, hT] at hb; injection hb with hb; subst hb; exact hnf ts hdT
  unfold cameBackBy
  refine wpAny_bind (wpAny_field he hd h1 ?_)
  rw [if_neg (by simp)]
  unfold setFlight
  refine wpAny_bind (wpAny_field he hd h1 ?_)
  rw [if_pos (show (Value.ref T != Value.none) = true from by simp)]
  refine wpAny_setField hT hdT hsz3 (hQ _ ⟨(fun b o hbo => (other b fun q => by rw [q, hnT] at hbo; cases hbo).trans (hkb b o hbo)), hen,
    (hl.of_keeps fun b o hb hnf => ⟨o, (other b (noRecord b o hb hnf)).trans hb, rfl⟩), ?_⟩ fun b o hb hnf => ⟨o.slots, (other b (noRecord b o hb hnf)).trans hb⟩)
  refine ⟨oe, vs, T, _, _, (other e (Ne.symm hTe)).trans he, hcls, hd, h1, hnT, hTe, Heap.get?_update_self _ hT (Obj.isFreed_of_fields (Obj.data_mapFields hdT _)), Obj.data_mapFields hdT _, ?_⟩
  rw [hf]
  simp [hsz3]
end
section
variable {prog : Program} {w : World} {G : Pg} {k : Nat} {env : Env} {ρ : List (Str × D)} {σ : List (Addr × List D)} {h₀ h h' : Heap} {H₀ : List Addr}
/-- changes of hidden objects that are not the frame's own -/
theorem St.ticks {T : List Addr} (S : St G h₀ H₀ env ρ σ h) (hT : ∀ I ∈ T, I ∈ H₀ ∧ I ∉ own env σ ∧ h₀.get? I = none ∧ ∃ o, h'.get? I = some o) (hx : ∀ b o, b ∉ T → h.get? b = some o → h'.get? b = some o) : St G h₀ H₀ env ρ σ h' := by
  have hv : Sub (vis (own env σ ++ H₀) h) (vis (own env σ ++ H₀) h') := vis_sub fun b o hb' e => hx b o (fun q => hb' (List.mem_append.mpr (.inr (hT b q).1))) e
  have hL : env.locals ∉ T := fun q => (hT _ q).2.1 (.head _)
  have hc : ∀ q ∈ env.cells, q.2 ∉ T := fun q hq e => (hT _ e).2.1 (own_cell hq)
  refine ⟨fun b o e => hx b o (fun q => by rw [(hT b q).2.2.1] at e; cases e) (S.base b o e), ⟨G.mono hv S.nm.prog, S.nm.fn, fun a ha => ?_, fun p hp => ?_, fun p hp => ?_⟩, S.fresh, S.nodup, S.names, ?_, fun q hq => ?_, S.apart⟩
  · by_cases q : a ∈ T
    · exact (hT a q).2.2.2
    · obtain ⟨o, e⟩ := S.nm.bound a ha; exact ⟨o, hx _ _ q e⟩
  · obtain ⟨v', hh, rp⟩ := S.nm.names p hp
    refine ⟨v', ?_, rp.mono hv⟩
    rcases hh with ⟨a, m, ⟨o, es, ep, e, r⟩, em⟩ | ⟨a, c, l, o, e, r⟩
    · exact .inl ⟨a, m, ⟨o, es, ep, hx _ _ hL e, r⟩, em⟩
    · exact .inr ⟨a, c, l, o, hx _ _ (hc (p.1, c) (mem_of_lookup l)) e, r⟩
  · obtain ⟨vs, n, hl, rl⟩ := S.nm.locs p hp
    exact ⟨vs, n, hx _ _ (fun q => (hT _ q).2.1 (own_loc hp)) hl, rl.mono hv⟩
  · obtain ⟨m, o, es, ep, e, r⟩ := S.ns; exact ⟨m, o, es, ep, hx _ _ hL e, r⟩
  · obtain ⟨v', o, e, r⟩ := S.cells q hq; exact ⟨v', o, hx _ _ (hc q hq) e, r⟩
end
end

section
section
variable {prog : Program} {w : World} {k : Nat} {P : Params} {mg mb : Str → Option Value} {G : Pg}
variable {env : Env} {ρ ρ' : List (Str × D)} {σ : List (Addr × List D)} {R : Post}

theorem St.hides {h₀ h h' : Heap} {H₀ : List Addr} (S : St G h₀ H₀ env ρ σ h) {T : List Addr} (x : Sub h h') (hT : ∀ I ∈ T, h.get? I = none ∧ ∃ o, h'.get? I = some o) : St G h₀ (T ++ H₀) env ρ σ h' := by
  have hv : Sub (vis (own env σ ++ H₀) h) (vis (own env σ ++ (T ++ H₀)) h') := fun b o e => vis_get (x _ _ (vis_of e)) fun hm => by
    rcases List.mem_append.mp hm with hm | hm
    · exact vis_not e (List.mem_append.mpr (.inl hm))
    · rcases List.mem_append.mp hm with q | hm
      · have := (hT b q).1; rw [vis_of e] at this; cases this
      · exact vis_not e (List.mem_append.mpr (.inr hm))
  refine ⟨S.base.trans x, ⟨G.mono hv S.nm.prog, S.nm.fn, fun a ha => ?_, fun p hp => ?_, fun p hp => ?_⟩, S.fresh, S.nodup, S.names, let ⟨m, n⟩ := S.ns; ⟨m, n.keeps x⟩, fun q hq => let ⟨v, c⟩ := S.cells q hq; ⟨v, c.keeps x⟩, fun a ha hm => ?_⟩
  · rcases List.mem_append.mp ha with ha | ha
    · obtain ⟨o, e⟩ := S.nm.bound a (List.mem_append.mpr (.inl ha)); exact ⟨o, x _ _ e⟩
    · rcases List.mem_append.mp ha with q | ha
      · exact (hT a q).2
      · obtain ⟨o, e⟩ := S.nm.bound a (List.mem_append.mpr (.inr ha)); exact ⟨o, x _ _ e⟩
  · obtain ⟨v', hh, rp⟩ := S.nm.names p hp
    exact ⟨v', hh.mono x, rp.mono hv⟩
  · obtain ⟨vs, n, hl, rl⟩ := S.nm.locs p hp
    exact ⟨vs, n, x _ _ hl, rl.mono hv⟩
  · rcases List.mem_append.mp hm with q | hm
    · obtain ⟨o, e⟩ := S.nm.bound a (List.mem_append.mpr (.inl ha))
      rw [(hT a q).1] at e; cases e
    · exact S.apart a ha hm
theorem call_enum {f e : Expr} {pos : Pos} {ds : List D} (hf : EV prog w G k env ρ σ f (.val (.type "enumerate"))) (he : EV prog w G k env ρ σ e (.list ds))
    {A : Around} {s : Shared} {H : List Addr} {Q : Value → Shared → Prop} {E : Value → Shared → Prop} (r : Room k A) (N : Nm G env ρ σ H s.heap)
    (q : ∀ s₁ l vs n h', Ext s s₁ → (vis H s₁.heap).get? l = some { cls := .type "list", dict := Option.none, data := .seq (List.toArray vs) n, slots := #[] } → RepL (vis H s₁.heap) vs ds →
      IsEnum h' (s₁.heap.objs.size + 1) s₁.heap.objs.size 0 .none → h'.IsListIter s₁.heap.objs.size l 0 → h'.objs.size = s₁.heap.objs.size + 2 → Sub s₁.heap h' → Q (.ref (s₁.heap.objs.size + 1)) { s₁ with heap := h' })
    (hp : ∀ e', (backTo pos (starEach [e] e')).any (·.1) = false := by intro _; rfl) (hse : starEach [e] env = (false, eval e env) :: starEach [] env := by rfl)
    (hc : ∀ e', eval (.Call f [e] [] pos) e' = (do callWith pos (← eval f e') [] (backTo pos (starEach [e] e')) (backToKw pos (keywordEach [] e'))) := by intro _; rfl) :
    wpAny (model prog w) A (eval (.Call f [e] [] pos) env) Q E s := by
  rw [hc]
  refine wpAny_bind (hf A s H _ E r N fun vf s₁ x₁ rf => ?_)
  cases rf
  refine PyProof.Rows.callWith_type (hp _) (evalArgs_EVS (EVS.cons he EVS.nil hse) hse r (N.grow x₁.sub) fun vs s₂ x₂ rv => ?_)
  cases rv with
  | cons rv r0 => cases r0; cases rv with
    | list hl rl =>
      have hl' : IsL s₂.heap _ _ _ := vis_of hl
      exact call_enumerate_list hl'.isList fun h' a b c d => q s₂ _ _ _ h' (x₁.trans x₂) hl rl a b c d

abbrev rhoX (parts : List (Option Str)) (tl : List (Str × D)) : List (Str × D) := ("a", .list (parts.map partD)) :: ("b", .none) :: tl
theorem Tl2.upd2 {x y : Str} {d e : D} {tl : List (Str × D)} (t : Tl2 x y tl) (hxy : x ≠ y) : ∃ tl', Upd x d tl tl' ∧ Upd y e tl' [(x, d), (y, e)] := by
  cases t with
  | nil => exact ⟨_, .nil, .skip hxy .nil⟩
  | two a b => exact ⟨_, .here, .skip hxy .here⟩
theorem hide_none {H : List Addr} {h : Heap} {b : Addr} (e : h.get? b = none) : (hideAll h H).get? b = none := by
  cases q : (hideAll h H).get? b with
  | none => rfl
  | some o => rw [of_hideAll _ q] at e; cases e
theorem idx_run (B : GB P mg mb) {parts : List (Option Str)} {A : Around} {outer : List Env} {base g : Heap} {L : Addr} {H : List Addr} {s : Shared} {Q : Flow → Shared → Prop} {E : Value → Shared → Prop}
    (r : Room k A) (hfr : A.frames = some (f111.en L :: outer)) (hkb : base.StaysIn g) (hL0 : base.get? L = none) (hfo : g.FunFrames base outer)
    (S : St (kap P mg mb).pg g H (f111.en L) (rhoX parts []) [] s.heap)
    (hQ : ∀ j t s', parts.findIdx? (·.isNone) = some j → Sub g s'.heap → Osg s s' → Q (.ret (.int j t)) s')
    (hE : (∀ p ∈ parts, p.isNone = false) → ∀ e a0 s', Heap.HeldW base (f111.en L :: outer) e (.type "ValueError") a0 L s'.heap → g.UpToSlots s'.heap → Osg s s' → E (.ref e) s') :
    wpAny (model prog w) A (execs f111.body (f111.en L)) Q E s := by
  refine wpAny_execs_cons ?_
  refine wpAny_For ?_
  refine call_enum (EV.bname (κ := kap P mg mb) rfl rfl rfl (B.n _ (by kernel_rfl)) ((B.b _ (by decide)).trans (by kernel_rfl))) (.name rfl) r S.nm fun s₁ l vs n h₁ x₁ hl rl he hit hsz hsub => ?_
  refine wpAny_pyIter_enum he ?_
  have S1 := S.grow x₁.sub
  generalize hi0 : s₁.heap.objs.size = it at he hit hsz
  have hitn : s₁.heap.get? it = Option.none := hi0 ▸ none_size _
  have hen : s₁.heap.get? (it + 1) = Option.none := by
    cases q : s₁.heap.get? (it + 1) with
    | none => rfl
    | some o => exact absurd (Heap.lt_size q) (by rw [hi0]; exact Nat.not_lt.mpr (Nat.le_succ _))
  have hne : it + 1 ≠ it := Nat.succ_ne_self it
  have S2 : St (kap P mg mb).pg g ([it + 1, it] ++ H) (f111.en L) (rhoX parts []) [] h₁ := S1.hides hsub fun I hI => by
    rcases List.mem_cons.mp hI with rfl | hI
    · exact ⟨hen, _, he⟩
    · rw [List.mem_singleton.mp hI]
      obtain ⟨o, e, _⟩ := hit
      exact ⟨hitn, o, e⟩
  have hown : ∀ I ∈ [it + 1, it], I ∉ own (f111.en L) [] ∧ g.get? I = Option.none := fun I hI => by
    have hn : s₁.heap.get? I = Option.none := by
      rcases List.mem_cons.mp hI with rfl | hI
      · exact hen
      · rw [List.mem_singleton.mp hI]; exact hitn
    refine ⟨fun hm => ?_, ?_⟩
    · obtain ⟨o, e⟩ := S1.nm.bound I (List.mem_append.mpr (.inl hm))
      rw [hn] at e; cases e
    · cases q : g.get? I with
      | none => rfl
      | some o => rw [S1.base _ _ q] at hn; cases hn
  have hgl0 : Sub (vis (own (f111.en L) [] ++ H) s₁.heap) (vis (own (f111.en L) [] ++ ([it + 1, it] ++ H)) h₁) := fun b o e => by
    refine vis_get (hsub _ _ (vis_of e)) fun hm => ?_
    rcases List.mem_append.mp hm with hm | hm
    · exact vis_not e (List.mem_append.mpr (.inl hm))
    · rcases List.mem_append.mp hm with hm | hm
      · rcases List.mem_cons.mp hm with rfl | hm
        · have := vis_of e; rw [hen] at this; cases this
        · rw [List.mem_singleton.mp hm] at e; have := vis_of e; rw [hitn] at this; cases this
      · exact vis_not e (List.mem_append.mpr (.inr hm))
  generalize hg : vis (own (f111.en L) [] ++ H) s₁.heap = gl at hl rl hgl0
  have hvl : vs.length = parts.length := by rw [rl.length, List.length_map]
  refine codeAny_forLoop_any (fun n' s' => ∃ i old tl, n' = parts.length + 1 - i ∧ i ≤ parts.length ∧ (∀ p ∈ parts.take i, p.isNone = false) ∧ Tl2 "i" "j" tl ∧
    St (kap P mg mb).pg g ([it + 1, it] ++ H) (f111.en L) (rhoX parts tl) [] s'.heap ∧ IsEnum s'.heap (it + 1) it ((i : Nat) : Int) old ∧ s'.heap.IsListIter it l i ∧ Sub gl (vis (own (f111.en L) [] ++ ([it + 1, it] ++ H)) s'.heap) ∧ Osg s s') ?_ (parts.length + 1)
    ⟨0, .none, [], rfl, Nat.zero_le _, (fun p hp => nomatch hp), .nil, S2, he, hit, hgl0, x₁.osg.trans ⟨rfl, id⟩⟩
  rintro n' s' ⟨i, old, tl, rfl, hle, hno, ht, S', he', hit', hg', os'⟩
  have hl' : s'.heap.IsList l (List.toArray vs) := ⟨_, vis_of (hg' _ _ hl), rfl, _, rfl⟩
  by_cases hlt : i < parts.length
  · have hv : vs[i]? = some vs[i] := List.getElem?_eq_getElem (by omega)
    obtain ⟨d, hd, rv⟩ := rl.getV hv
    generalize vs[i] = v at hv rv
    rw [List.getElem?_map, List.getElem?_eq_getElem hlt] at hd
    have hp : parts[i]? = some parts[i] := List.getElem?_eq_getElem hlt
    generalize parts[i] = p at hd hp
    obtain rfl : partD p = d := Option.some.inj hd
    refine wpAny_pyNext_enum_item he' hit' hl' (by simpa using hv) hne fun h2 heo hit2 ht2 hsz2 hk2 => ?_
    refine wpAny_letOwnedTupleGo_enum heo fun h3 he3 hs3 => ?_
    replace hs3 : Heap.SameBut (it + 1) h2 h3 := hs3
    have hesz : it + 1 < s'.heap.objs.size := Heap.lt_size he'
    have ht3 : h3.IsTuple s'.heap.objs.size #[.int i s'.toks, v] := ⟨_, (hs3.2 _ (Nat.ne_of_gt hesz)).trans ht2, rfl, _, rfl⟩
    refine wpAny_assign_Tuple r.handled ht3 rfl rfl fun h4 hx4 => ?_
    replace hx4 : Heap.ExtBut h3.objs.size h3 h4 := hx4
    have up3 : ∀ b o, h3.get? b = some o → h4.get? b = some o := fun b o e => hx4 b o (Nat.ne_of_lt (Heap.lt_size e)) e
    have up : ∀ b o, b ∉ [it + 1, it] → s'.heap.get? b = some o → h4.get? b = some o := fun b o hb e => by
      have b1 : b ≠ it + 1 := fun q => hb (q ▸ .head _)
      have b2 : b ≠ it := fun q => hb (q ▸ .tail _ (.head _))
      exact up3 b o ((hs3.2 b b1).trans (hk2 b o b1 b2 e))
    obtain ⟨oi2, hoi2, hoi3⟩ := hit2
    have hi4 : h4.get? it = some oi2 := up3 _ _ ((hs3.2 it (Ne.symm hne)).trans hoi2)
    have S4 : St (kap P mg mb).pg g ([it + 1, it] ++ H) (f111.en L) (rhoX parts tl) [] h4 := S'.ticks (T := [it + 1, it]) (fun I hI => ⟨List.mem_append.mpr (.inl hI), (hown I hI).1, (hown I hI).2, by
      rcases List.mem_cons.mp hI with rfl | hI
      · exact ⟨_, up3 _ _ he3⟩
      · rw [List.mem_singleton.mp hI]; exact ⟨_, hi4⟩⟩) up
    have hX : ∀ b, b ∉ own (f111.en L) [] ++ ([it + 1, it] ++ H) → b ∉ [it + 1, it] := fun b hb hm => hb (List.mem_append.mpr (.inr (List.mem_append.mpr (.inl hm))))
    have hg4 : Sub gl (vis (own (f111.en L) [] ++ ([it + 1, it] ++ H)) h4) := hg'.trans (vis_sub fun b o hb e => up b o (hX b hb) e)
    obtain ⟨tl', hu1, hu2⟩ := ht.upd2 (d := .int i) (e := partD p) (by decide)
    have own4 : ∀ b o, b ∉ own (f111.en L) [] → h4.get? b = some o → (hideAll h4 (own (f111.en L) [])).get? b = some o := fun b o hb e => hideAll_get _ e hb
    refine (Sts.name (.inl rfl) (.skip (by decide) (.skip (by decide) hu1)) (.name (.inl rfl) (.skip (by decide) (.skip (by decide) hu2)) .nil)).run (s := { s' with heap := h4, toks := s'.toks + 1 }) S4.rebase (.cons (.int _ _) (.cons (rv.mono hg4) .nil)) fun s5 S5 os5 => ?_
    have body : SX prog w (kap P mg mb).pg k (f111.en L) (rhoX parts [("i", .int i), ("j", partD p)]) [] (match f111.body with | .For _ _ b _ _ :: _ => b | _ => []) (fun o ρ σ => (o = .ret (.int i) ∧ p.isNone = true) ∨ (o = .next ∧ p.isNone = false ∧ ρ = rhoX parts [("i", .int i), ("j", partD p)] ∧ σ = [])) := by
      refine .cons (.ite (.hit rfl rfl (by decide) (by decide) (by decide) (by decide)) (fun h => ?_) fun h => ?_)
      · exact .cons (.ret (.name rfl) (.inl ⟨rfl, h⟩))
      · exact .nil (.nil (.inr ⟨rfl, h, rfl, rfl⟩))
    refine body _ _ A s5 _ _ r S5 fun o fl ρ6 σ6 s6 hR S6 hf os6 => ?_
    have os6' : Osg s s6 := os'.trans ⟨os6.os.trans os5.os, fun h => os6.gens (os5.gens h)⟩
    rcases hR with ⟨rfl, hpn⟩ | ⟨rfl, hpn, rfl, rfl⟩
    · obtain ⟨v', rfl, rv'⟩ := hf
      cases rv'
      refine hQ i _ s6 ?_ (fun b o e => S6.base _ _ (own4 b o (fun hm => by have := S4.fresh b hm; rw [e] at this; cases this) (S4.base _ _ e))) os6'
      rw [List.findIdx?_eq_some_iff_getElem]
      refine ⟨hlt, ?_, fun j hj => ?_⟩
      · have := (List.getElem?_eq_some_iff.mp hp).2
        rw [this]; exact hpn
      · have := hno (parts[j]) (by rw [List.mem_take_iff_getElem]; exact ⟨j, by omega, rfl⟩)
        rw [this]; decide
    · obtain rfl : fl = .next := hf
      refine ⟨parts.length + 1 - (i + 1), by omega, i + 1, v, _, rfl, hlt, fun q hq => ?_, .two _ _, S6.unbase S4.base_in, ?_, ?_, ?_, os6'⟩
      · rw [take_succ_get hp] at hq
        rcases List.mem_append.mp hq with hq | hq
        · exact hno q hq
        · rw [List.mem_singleton.mp hq]; exact hpn
      · have : ((i + 1 : Nat) : Int) = (i : Int) + 1 := by push_cast; rfl
        rw [this]
        exact S6.base _ _ (own4 _ _ (hown _ (.head _)).1 (up3 _ _ he3))
      · exact ⟨oi2, S6.base _ _ (own4 _ _ (hown _ (.tail _ (.head _))).1 hi4), hoi3⟩
      · intro b o e
        have e4 := hg4 b o e
        exact vis_get (S6.base _ _ (own4 _ _ (fun hm => vis_not e4 (List.mem_append.mpr (.inl hm))) (vis_of e4))) (vis_not e4)
  · have hi' : i = parts.length := by omega
    subst hi'
    refine wpAny_pyNext_enum_end r.handled he' hit' hl' (by simp; omega) fun h2 hx2 => ?_
    replace hx2 : Heap.ExtBut it s'.heap h2 := hx2
    have Sx : St (kap P mg mb).pg g (it :: H) (f111.en L) (rhoX parts tl) [] s'.heap := St.unhide (I := it + 1) S'
    have Se : St (kap P mg mb).pg g H (f111.en L) (rhoX parts tl) [] h2 := Sx.dropHid (fun hm => by
      rcases List.mem_append.mp hm with hm | hm
      · exact (hown it (.tail _ (.head _))).1 hm
      · obtain ⟨o, e⟩ := S1.nm.bound it (List.mem_append.mpr (.inr hm))
        rw [hitn] at e; cases e) (hown it (.tail _ (.head _))).2 (fun b o hb e => hx2 b o hb e)
    have hall : ∀ p ∈ parts, p.isNone = false := by rw [List.take_length] at hno; exact hno
    refine wpAny_execs_cons (Raise_madeB F.excCall_ValueError F.excRaise_ValueError r.handled ?_)
    refine EV.bname (v := .type "ValueError") (κ := kap P mg mb) (k := k) (ρ := rhoX parts tl) (σ := []) rfl rfl rfl (B.n _ (by kernel_rfl)) ((B.b _ (by decide)).trans (by kernel_rfl)) (by decide) A { s' with heap := h2 } _ _ _ r Se.nm fun v s3 x3 rv => ?_
    cases rv
    refine ⟨rfl, ?_⟩
    refine EVS.cons (prog := prog) (w := w) (G := (kap P mg mb).pg) (k := k) (ρ := rhoX parts tl) (σ := []) EV.str EVS.nil rfl A s3 _ _ _ _ r (Se.grow x3.sub).nm fun vs4 s4 x4 rv4 => ?_
    refine ⟨by rw [rv4.length]; exact Nat.le_of_ble_eq_true rfl, fun h5 e5 hx5 => ?_⟩
    have S4 := (Se.grow x3.sub).grow x4.sub
    obtain ⟨m4, o4, es4, ep4, ho4, hd4, _⟩ := S4.ns
    have hkb4 : base.StaysIn s4.heap := fun b o e => S4.base _ _ (hkb b o e)
    have hfo4 : s4.heap.FunFrames base (f111.en L :: outer) := ⟨fun q => (nomatch q), ⟨L, o4, rfl, hL0, ho4, fun vs q => by rw [hd4] at q; cases q⟩, hfo.of_keeps fun b o e _ => ⟨o, S4.base _ _ e, rfl⟩⟩
    refine noteNewW (s := { s4 with heap := h5 }) hfr rfl hkb4 hfo4 (Heap.MadeExc.of hx5) fun h6 a0 hh6 up6 => ?_
    refine cameBackW (s := { s4 with heap := h6 }) hh6 rfl fun h7 hh7 up7 => ?_
    refine hE hall e5 a0 _ hh7 ?_ ⟨(x4.os.trans x3.os).trans os'.os, fun h => x4.gens (x3.gens (os'.gens h))⟩
    exact (((Heap.UpToSlots.of_keeps S4.base).trans (Heap.UpToSlots.of_keeps hx5.keeps)).trans up6).trans up7
end
end

section
section
variable {prog : Program} {w : World} {k : Nat} {P : Params} {mg mb : Str → Option Value} {G : Pg}
def firstP (parts : List (Option Str)) : Int := match parts.findIdx? (·.isNone) with
  | some j => j
  | none => -1
theorem hcn0 {s : Scope} (h : ∀ L, cellsFrom L s.names [] = []) : ∀ L, ∀ q ∈ cellsFrom L s.names [], (cellsFrom L s.names []).lookup q.1 = some q.2 := fun L q hq => by rw [h] at hq; exact nomatch hq
/-- the call of indexOf in `_law_first` -/
theorem first_inner (B : GB P mg mb) {parts : List (Option Str)} {A : Around} {outer : List Env} {base g : Heap} {L1 : Addr} {H : List Addr} {s : Shared} {Q : Value → Shared → Prop} {E : Value → Shared → Prop} {pf pos p1 p2 : Pos} {n : Nat}
    (r : Room (k + 1) A) (hfr : A.frames = some (f163.en L1 :: outer)) (hkb : base.StaysIn g) (hbL1 : base.get? L1 = Option.none) (hfo : g.FunFrames base outer) (hL1 : g.objs.size = L1)
    (S : St (kap P mg mb).pg g H (f163.en L1) [("parts", .list (parts.map partD))] [] s.heap)
    (hQ : ∀ t s', Sub g s'.heap → s'.os = s.os → (AllBare s.gens → AllBare s'.gens) → Q (.int (firstP parts) t) s')
    (hE : ∀ e a0 s', Heap.FlyingW base (f163.en L1 :: outer) e (.type "ValueError") a0 s'.heap → g.UpToSlots s'.heap → Osg s s' → firstP parts = -1 → E (.ref e) s') :
    wpAny (model prog w) A (eval (.Call (.Name "indexOf" pf) [.Name "parts" p1, .Constant .none n p2] [] pos) (f163.en L1)) Q E s := by
  have hc : ∀ e', eval (.Call (.Name "indexOf" pf) [.Name "parts" p1, .Constant .none n p2] [] pos) e' = (do callWith pos (← eval (.Name "indexOf" pf) e') [] (backTo pos (starEach [.Name "parts" p1, .Constant .none n p2] e')) (backToKw pos (keywordEach [] e'))) := by intro _; rfl
  rw [hc]
  refine wpAny_bind (EV.gname (κ := kap P mg mb) (k := k) (ρ := [("parts", .list (parts.map partD))]) (σ := []) (v := .ref 111) rfl rfl (B.g _ _ (by kernel_rfl)) (by decide) A s _ _ E (r.le (Nat.le_succ _)) S.nm fun vf s₁ x₁ rf => ?_)
  cases rf
  have S1 := S.grow x₁.sub
  refine Calls.callWith_function (o := { cls := .type "function", data := .func (docDef f111.name f111.params f111.body f111.scope f111.pm (.ref f111.c) .none) }) (fd := docDef f111.name f111.params f111.body f111.scope f111.pm (.ref f111.c) .none) (evalArgs_EVS (EVS.cons (.name rfl) (EVS.cons .none EVS.nil)) rfl (r.le (Nat.le_succ _)) S1.nm fun vs s₂ x₂ rv => ?_)
  have S2 := S1.grow x₂.sub
  have hK2 := S2.nm.prog.1
  refine ⟨⟨vis_of (hK2 _ _ (f111.look P)), rfl⟩, ?_⟩
  have hvl : vs.length = (["a", "b"] : List Str).length := rv.length
  have hlim := S2.nm.prog.2.2.2
  refine wpAny_call (call_cells r.lim (vis_of (hK2 _ _ (f111.look P))) rfl (hlim.keeps (vis_le _ _)) ⟨f111.c, _, f111.vs, f111.t, rfl, vis_of (hK2 _ _ (f111.code P)), rfl, f111.qual⟩
    (binds := (["a", "b"] : List Str).zip vs) (by match vs, hvl with | [u, v], _ => rfl) (fun x hx' => .inl (by
      have hm : x.1 ∈ (["a", "b"] : List Str) := (List.of_mem_zip hx').1
      rcases List.mem_cons.mp hm with q | hm
      · rw [q]; rfl
      · rw [List.mem_singleton.mp hm]; rfl)) (fun h₁ tk F C => ?_) rfl rfl rfl)
  have Si := St.entry (G := (kap P mg mb).pg) (ds := [.list (parts.map partD), .none]) (xs := ["a", "b"]) rfl F C (fun L q hq => nomatch hq) (by decide) (fun x hx => .inl (by
      rcases List.mem_cons.mp hx with q | hm
      · rw [q]; rfl
      · rw [List.mem_singleton.mp hm]; rfl)) S2.nm.prog S2.nm.bound rv
  generalize hL2 : s₂.heap.objs.size = L2 at *
  have hL2n : s₂.heap.get? L2 = Option.none := hL2 ▸ none_size _
  have hkb2 : base.StaysIn s₂.heap := fun b o e => S2.base _ _ (hkb _ _ e)
  have hbL2 : base.get? L2 = Option.none := by
    cases q : base.get? L2 with
    | none => rfl
    | some o => rw [hkb2 _ _ q] at hL2n; cases hL2n
  obtain ⟨m4, o4, es4, ep4, ho4, hd4, _⟩ := S2.ns
  have hfo2 : s₂.heap.FunFrames base (f163.en L1 :: outer) := ⟨fun q => (nomatch q), ⟨L1, o4, rfl, hbL1, ho4, fun vs q => by rw [hd4] at q; cases q⟩, hfo.of_keeps fun b o e _ => ⟨o, S2.base _ _ e, rfl⟩⟩
  have os2 := x₁.osg.trans x₂.osg
  have hfr2 : (A.deeper (f111.en L2)).frames = some (f111.en L2 :: f163.en L1 :: outer) := by show A.frames.map _ = _; rw [hfr]; rfl
  refine idx_run B (r.deeper _) hfr2 hkb2 hbL2 hfo2 Si (fun j t s' hj sub os => ?_) (fun hall e a0 s' hh up os => ?_)
  · have : firstP parts = j := by unfold firstP; rw [hj]
    exact this ▸ hQ t s' (S2.base.trans sub) (os.os.trans os2.os) (fun h => os.gens (os2.gens h))
  · have hfp : firstP parts = -1 := by
      unfold firstP
      have : parts.findIdx? (·.isNone) = Option.none := List.findIdx?_eq_none_iff.mpr hall
      rw [this]
    show wpAny _ _ (leaving (f111.en L2) (.ref e)) _ _ s'
    unfold leaving
    refine wpAny_bind (wpAny_noteFrame_againW rfl hh.2.2.2 ?_)
    refine wpAny_landsW hh fun h' hfl up' => ?_
    obtain ⟨k1, k2, ⟨_, _, k3⟩, k4⟩ := hfl
    exact hE e a0 _ ⟨k1, k2, k3, k4⟩ (((Heap.UpToSlots.of_keeps S2.base).trans up).trans up') ⟨os.os.trans os2.os, fun h => os.gens (os2.gens h)⟩ hfp
theorem first_call (B : GB P mg mb) {parts : List (Option Str)} {A : Around} {outer : List Env} {base : Heap} {H : List Addr} {s : Shared} {Q : Value → Shared → Prop} {E : Value → Shared → Prop} {vs : List Value}
    (r : Room (k + 2) A) (hfr : A.frames = some outer) (hkb : base.StaysIn s.heap) (hfo : s.heap.FunFrames base outer) (hPb : (kap P mg mb).pg.P base)
    (hP : (kap P mg mb).pg.P (vis H s.heap)) (hB : Bound H s.heap) (hl : RepL (vis H s.heap) vs [.list (parts.map partD)])
    (hQ : ∀ t s', base.StaysIn s'.heap → s.heap.UpToSlots s'.heap → Osg s s' → Q (.int (firstP parts) t) s') :
    wpAny (model prog w) A (call (.ref 163) vs) Q E s := by
  have hPl := hP
  obtain ⟨hK, hg, hbn, hlim⟩ := hP
  have hvl : vs.length = (["parts"] : List Str).length := hl.length
  refine wpAny_call (call_cells_ret r.lim (vis_of (hK _ _ (f163.look P))) rfl (hlim.keeps (vis_le _ _)) ⟨f163.c, _, f163.vs, f163.t, rfl, vis_of (hK _ _ (f163.code P)), rfl, f163.qual⟩
    (binds := (["parts"] : List Str).zip vs) (by match vs, hvl with | [u], _ => rfl) (fun x hx' => .inl (by
      have hm : x.1 ∈ (["parts"] : List Str) := (List.of_mem_zip hx').1
      rw [List.mem_singleton.mp hm]; rfl)) (fun h₁ tk F C => ?_) rfl rfl rfl)
  have S := St.entry (G := (kap P mg mb).pg) (ds := [.list (parts.map partD)]) (xs := ["parts"]) rfl F C (fun L q hq => nomatch hq) (by decide) (fun x hx => .inl (by rw [List.mem_singleton.mp hx]; rfl)) hPl hB hl
  generalize hL1 : s.heap.objs.size = L1 at *
  have hL1n : s.heap.get? L1 = Option.none := hL1 ▸ none_size _
  have hbL1 : base.get? L1 = Option.none := by
    cases q : base.get? L1 with
    | none => rfl
    | some o => rw [hkb _ _ q] at hL1n; cases hL1n
  refine wpAny_execs_cons (wpAny_Try_except ?_)
  have r1 : Room (k + 1) (A.deeper (f163.en L1)) := r.deeper _
  refine wpAny_execs_cons (wpAny_Return_some ?_)
  refine first_inner B r1 (by show A.frames.map _ = _; rw [hfr]; rfl) (base := base) hkb hbL1 hfo hL1 S (fun t s' a b c => ?_) (fun e a0 s' fl up os hf1 => ?_)
  · exact hQ t s' (fun b o e => a _ _ (hkb _ _ e)) (Heap.UpToSlots.of_keeps a) ⟨b, c⟩
  · have hfr1 : (A.deeper (f163.en L1)).frames = some (f163.en L1 :: outer) := by show A.frames.map _ = _; rw [hfr]; rfl
    refine wpAny_looks_onW (A := A.deeper (f163.en L1)) hfr1 rfl fl fun h2 hh up2 => ?_
    refine wpAny_landsW hh fun h3 fl3 up3 => ?_
    have hPb' := hPb
    obtain ⟨bK, bg, bb, bl⟩ := hPb
    have stay3 : base.StaysIn h3 := fl3.1
    refine wpAny_handleBy_builtin (X := "ValueError") (T := "ValueError") (b := true) (isSubtype_of_subB (by decide +kernel)) (isSubtype_of_subB (by decide +kernel)) (isSubtype_of_subB (by decide +kernel)) ?_
    refine Calls.Name_function_global rfl rfl (Calls.loadGlobal_builtin (bg.keeps stay3) (B.n _ (by kernel_rfl)) (bb.keeps stay3) ((B.b _ (by decide)).trans (by kernel_rfl)) ⟨rfl, ?_, ?_⟩) (by decide)
    · obtain ⟨ob, e1, e2⟩ := fl3.there
      exact ⟨ob, e1, e2⟩
    · rw [if_pos rfl]
      obtain ⟨q1, q2, q3, q4⟩ := fl3
      refine wpAny_setFlight_noneW q1 q3 q4.at fun h4 k1 k2 k3 k4 => ?_
      refine wpAny_execs_cons (wpAny_Return_some (UnaryOp_ (wpAny_Constant_int (neg_int ?_))))
      have hup : s.heap.UpToSlots h4 := ((up.trans up2).trans up3).trans fun b o hb hn => ⟨o.slots, k4 b o hb hn⟩
      have hq := hQ
      rw [hf1] at hq
      exact hq _ _ k1 hup ⟨os.os, os.gens⟩
end
end

section
/-- a table of the program, as it lies in the written part -/
structure Dt (K : Params → Frag) (a : Addr) where
  es : List DictEntry
  ep : Nat
  look : ∀ P, (K P).lookup a = some { cls := .type "dict", data := .dict es.toArray ep }
noncomputable def d38 : Dt heapF 38 := { es := _, ep := _, look := fun _ => rfl }
def intKey (e : DictEntry) : Bool := match e.key with
  | .int i _ => e.hash == hashInt i
  | _ => false
theorem d38_ok : d38.es.all intKey = true := by kernel_rfl
theorem intKey_of {e : DictEntry} (h : intKey e = true) : ∃ k, Value.isInt k e.key = true ∧ e.hash = hashInt k := by
  unfold intKey at h
  split at h
  · rename_i i t hk
    exact ⟨i, by rw [hk]; simp [Value.isInt], eq_of_beq h⟩
  · cases h
section
variable {prog : Program} {w : World} {k : Nat} {P : Params} {mg mb : Str → Option Value} {G : Pg}
variable {env : Env} {ρ ρ' : List (Str × D)} {σ : List (Addr × List D)} {R : Post}
theorem map38 {h : Heap} (hK : (heapF P).In h) : h.MapOf (intKind prog w) 38 (findBy Value.isInt d38.es.toArray) :=
  ⟨_, _, _, hK _ _ (d38.look P), ⟨rfl, rfl, rfl⟩, rfl, fun e he => intKey_of (List.all_eq_true.mp d38_ok e (by simpa using he)), fun k => rfl⟩
theorem look38_a : findBy Value.isInt d38.es.toArray 97 = none := by kernel_rfl
theorem look38_b : findBy Value.isInt d38.es.toArray 98 = none := by kernel_rfl
theorem look38_dot : ∃ t, findBy Value.isInt d38.es.toArray 46 = some (.str "\\." t) := ⟨_, rfl⟩


theorem tl_missing {A : Around} {s : Shared} {c : Nat} {Q : Builtin.Str.Mapped → Shared → Prop} {E : Value → Shared → Prop} (hh : A.handled = none) (hK : (heapF P).In s.heap) (hf : findBy Value.isInt d38.es.toArray (c : Int) = Option.none)
    (hQ : ∀ s', Ext s s' → Q .keep s') : wpAny (model prog w) A (Builtin.Str.tableLookup (.ref 38) c) Q E s := by
  unfold Builtin.Str.tableLookup
  refine wpAny_bind (wpAny_attempt (wpAny_bind (wpAny_mkInt ?_)))
  refine wpAny_getItem_missing_of (knd := intKind prog w) (k := (c : Int)) (by simp [intKind, Value.isInt]) (by decide) hh (map38 (by exact hK)) hf fun h' e hx => ?_
  obtain ⟨ob, t, e1, e2, e3⟩ := hx.there
  refine wpAny_bind (wpAny_isInstance (T := "KeyError") (b := true) ⟨ob, e1, e2⟩ (isSubtype_of_subB (by decide +kernel)) ?_)
  rw [if_pos rfl]
  refine wpAny_bind (wpAny_rule (wpAny_pure ?_))
  exact hQ _ (.of s _ hx.keeps)
theorem tl_found {A : Around} {s : Shared} {c : Nat} {y : Str} {t : Tok} {Q : Builtin.Str.Mapped → Shared → Prop} {E : Value → Shared → Prop} (hK : (heapF P).In s.heap) (hf : findBy Value.isInt d38.es.toArray (c : Int) = some (.str y t))
    (hQ : ∀ s', Ext s s' → Q (.text y) s') : wpAny (model prog w) A (Builtin.Str.tableLookup (.ref 38) c) Q E s := by
  unfold Builtin.Str.tableLookup
  refine wpAny_bind (wpAny_attempt (wpAny_bind (wpAny_mkInt ?_)))
  refine wpAny_getItem_of (knd := intKind prog w) (k := (c : Int)) (by simp [intKind, Value.isInt]) (map38 (by exact hK)) hf ?_
  refine wpAny_bind (wpAny_of_eq (show asInt? (.str y t) = pure Option.none from rfl) ?_)
  refine wpAny_bind (wpAny_of_eq (show asStr? (.str y t) = pure (some y) from rfl) (wpAny_pure ?_))
  exact hQ _ (.tok s _)
theorem tr_keep {A : Around} {s : Shared} {c : Nat} {t : Tok} {E : Value → Shared → Prop} {Q : Value → Shared → Prop} (hc : c < 128) (hh : A.handled = none) (hK : (heapF P).In s.heap) (hf : findBy Value.isInt d38.es.toArray (c : Int) = Option.none)
    (hQ : ∀ t s', Ext s s' → Q (.str ⟨#[c]⟩ t) s') : wpAny (model prog w) A (call (.builtin "str.translate") [.str ⟨#[c]⟩ t, .ref 38]) Q E s := by
  refine wpAny_call_entry F.slot_str_translate (typeIs_str _ _ _) F.entry_str_translate ?_ (F.args_str_translate_2 _ _)
  unfold Builtin.«str.translate»
  refine wpAny_bind (wpAny_of_eq (show Builtin.Str.strOneArg "translate" ⟨[.str ⟨#[c]⟩ t, .ref 38], []⟩ = pure (.str ⟨#[c]⟩ t, ⟨#[c]⟩, .ref 38) from rfl) ?_)
  have e1 : ((⟨#[c]⟩ : Str).cps.all fun x => decide (x < 128)) = true := by simp [hc]
  have e2 : ((⟨#[c]⟩ : Str).length == 0) = false := rfl
  simp only [e1, e2, Bool.false_eq_true, if_false]
  refine wpAny_bind ?_
  rw [show (#[c] : Array Nat) = [c].toArray from rfl, List.forIn_toArray, List.forIn_cons]
  simp only [List.forIn_nil]
  have e3 : Builtin.Str.tooLong 0 = false := by decide
  simp only [e3, Bool.false_eq_true, if_false, if_true, List.lookup_nil]
  refine wpAny_bind (wpAny_bind (tl_missing (A := A.in1) hh hK hf fun s' x => ?_))
  dsimp only
  refine wpAny_bind (wpAny_pure (wpAny_pure ?_))
  dsimp only
  refine wpAny_pure ?_
  have e4 : Builtin.Str.tooLong 1 = false := by decide
  simp only [Nat.zero_add, e4, Bool.false_eq_true, if_false]
  have e5 : (⟨List.foldl (fun acc p => acc ++ p.cps) #[] ([(⟨#[c]⟩ : Str)].reverse)⟩ : Str) = ⟨#[c]⟩ := by simp
  rw [e5]
  exact wpAny_bind (wpAny_mkStr (wpAny_pure ⟨_, rfl, hQ _ _ (x.trans (.tok _ _))⟩) (by show (1 : Nat) ≤ sizeLine; decide))
theorem tr_text {A : Around} {s : Shared} {c : Nat} {y : Str} {t u : Tok} {E : Value → Shared → Prop} {Q : Value → Shared → Prop} (hc : c < 128) (hy : (y.length == 1) = false) (hyl : y.length ≤ 1000) (hK : (heapF P).In s.heap) (hf : findBy Value.isInt d38.es.toArray (c : Int) = some (.str y u))
    (hQ : ∀ t s', Ext s s' → Q (.str y t) s') : wpAny (model prog w) A (call (.builtin "str.translate") [.str ⟨#[c]⟩ t, .ref 38]) Q E s := by
  refine wpAny_call_entry F.slot_str_translate (typeIs_str _ _ _) F.entry_str_translate ?_ (F.args_str_translate_2 _ _)
  unfold Builtin.«str.translate»
  refine wpAny_bind (wpAny_of_eq (show Builtin.Str.strOneArg "translate" ⟨[.str ⟨#[c]⟩ t, .ref 38], []⟩ = pure (.str ⟨#[c]⟩ t, ⟨#[c]⟩, .ref 38) from rfl) ?_)
  have e1 : ((⟨#[c]⟩ : Str).cps.all fun x => decide (x < 128)) = true := by simp [hc]
  have e2 : ((⟨#[c]⟩ : Str).length == 0) = false := rfl
  simp only [e1, e2, Bool.false_eq_true, if_false]
  refine wpAny_bind ?_
  rw [show (#[c] : Array Nat) = [c].toArray from rfl, List.forIn_toArray, List.forIn_cons]
  simp only [List.forIn_nil]
  have e3 : Builtin.Str.tooLong 0 = false := by decide
  simp only [e3, Bool.false_eq_true, if_false, if_true, List.lookup_nil]
  refine wpAny_bind (wpAny_bind (tl_found (A := A.in1) hK hf fun s' x => ?_))
  simp only [hy, Bool.false_and, Bool.false_eq_true, if_false]
  refine wpAny_bind (wpAny_pure (wpAny_bind (wpAny_rule (wpAny_bind (tl_found (A := A.in1) (fun a o e => x.sub _ _ (hK a o e)) hf fun s₂ x₂ => ?_)))))
  refine wpAny_pure ?_
  dsimp only
  refine wpAny_pure ?_
  have e4 : Builtin.Str.tooLong y.length = false := by
    unfold Builtin.Str.tooLong
    have : (1000 : Nat) ≤ sizeLine := by decide
    exact decide_eq_false (by omega)
  simp only [Nat.zero_add, e4, Bool.false_eq_true, if_false]
  have e5 : (⟨List.foldl (fun acc p => acc ++ p.cps) #[] ([y].reverse)⟩ : Str) = y := by simp
  rw [e5]
  exact wpAny_bind (wpAny_mkStr (wpAny_pure ⟨_, rfl, hQ _ _ ((x.trans x₂).trans (.tok _ _))⟩) (Nat.le_trans hyl (by decide)))

/-- what `escape` makes of one sign -/
def Esc (c : Nat) (y : Str) : Prop := c < 128 ∧ ((y = ⟨#[c]⟩ ∧ findBy Value.isInt d38.es.toArray (c : Int) = Option.none) ∨ ((y.length == 1) = false ∧ y.length ≤ 1000 ∧ ∃ t, findBy Value.isInt d38.es.toArray (c : Int) = some (.str y t)))
theorem esc_a : Esc 97 "a" := ⟨by decide, .inl ⟨rfl, look38_a⟩⟩
theorem esc_b : Esc 98 "b" := ⟨by decide, .inl ⟨rfl, look38_b⟩⟩
theorem esc_dot : Esc 46 "\\." := ⟨by decide, .inr ⟨by decide, by decide, look38_dot⟩⟩
theorem EV.translate {o e : Expr} {ap pos : Pos} {c : Nat} {y : Str} (ho : EV prog w (kap P mg mb).pg k env ρ σ o (.str ⟨#[c]⟩)) (he : EV prog w (kap P mg mb).pg k env ρ σ e (.val (.ref 38))) (hy : Esc c y)
    (hse : starEach [e] env = (false, eval e env) :: starEach [] env := by rfl) (hbase : attributeBase o "translate" env (eval o env) = eval o env := by rfl)
    (hfew : methodCallForm ([e].length + ([] : List Keyword).length) (backTo pos (starEach [e] env)) (backToKw pos (keywordEach [] env)) = true := by rfl) (hline : (ap.endLine == pos.line) = true := by rfl) :
    EV prog w (kap P mg mb).pg k env ρ σ (.Call (.Attribute o "translate" ap) [e] [] pos) (.str y) := fun A s H Q E r N q => by
  refine mCall (name := "translate") hbase hfew hline (ho A s H _ E r N fun vo s₁ x₁ ro => ?_)
  cases ro
  rename_i t
  refine GM.of (name := "translate") (.str ⟨#[c]⟩ t) (typeIs_str _ _ _) F.slot_str_translate F.type_str_translate GM.noRef ?_
  refine callWith_method1 ((EVS.cons he EVS.nil hse) A s₁ H _ E pos r (N.grow x₁.sub) fun vs s₂ x₂ rv => ?_) hse rfl
  cases rv with
  | cons rv r0 =>
    cases r0
    cases rv
    have hK : (heapF P).In s₂.heap := fun a o e => vis_of ((N.grow (x₁.trans x₂).sub).prog.1 a o e)
    obtain ⟨hc, ⟨rfl, hf⟩ | ⟨h1, h2, u, hf⟩⟩ := hy
    · exact tr_keep hc r.handled hK hf fun t' s₃ x₃ => q _ _ ((x₁.trans x₂).trans x₃) (.str _ _)
    · exact tr_text hc h1 h2 hK hf fun t' s₃ x₃ => q _ _ ((x₁.trans x₂).trans x₃) (.str _ _)
theorem BN.isStr {x : Str} : BN prog w k (.builtin "isinstance") [.str x, .val (.type "str")] (.bool true) := fun A s H Q E vs r b rv q => by
  cases rv with
  | cons h hr => cases hr with
    | cons h2 hr => cases hr; cases h; cases h2
                    exact IsiPair.str_str (q _ _ (.refl s) (.bool _))
theorem fn_escape (B : GB P mg mb) {c : Nat} {y : Str} (hy : Esc c y) : FN prog w (kap P mg mb).pg (k + 1) 48 [.str ⟨#[c]⟩] (.str y) := by
  refine FN.body f48 ["pattern"] (h := fun L => ?_) (hb := fun vs h => match vs, h with | [u], _ => rfl) (hx := by decide) (hkind := fun x hx => .inl (by revert x; decide)) (hcn := fun L q hq => nomatch hq)
  refine .cons (.iteT (.of (.bncall B (.cons (.name rfl) (.cons (.bname rfl rfl rfl (B.n _ (by kernel_rfl)) ((B.b _ (by decide)).trans (by kernel_rfl))) .nil)) .isStr) .bool) (.cons (.ret (.translate (.name rfl) (.gname rfl rfl (B.g _ _ (by kernel_rfl))) hy) rfl)))
end
end

section
structure Rt (K : Params → Frag) (a : Addr) where
  fs : Array Value
  look : ∀ P, (K P).lookup a = some { cls := .type "re.Pattern", data := .fields fs }
noncomputable def r36 : Rt heapF 36 := { fs := _, look := fun _ => rfl }
structure Tt (K : Params → Frag) (a : Addr) where
  vs : Array Value
  look : ∀ P, (K P).lookup a = some { cls := .type "tuple", data := .seq vs }
noncomputable def t35 : Tt heapF 35 := { vs := _, look := fun _ => rfl }
theorem r36_5 : r36.fs.getD 5 .none = .ref 35 := rfl
noncomputable def code35 : Array Nat := (t35.vs.map Builtin.Re.reRawOf).map (·.toNat)
def dr : Nat → Sre.M → Option Sre.M
  | 0, _ => none
  | n + 1, m => if (m.runFor Builtin.Re.reTurnSteps).outcome.isSome then some (m.runFor Builtin.Re.reTurnSteps) else dr n (m.runFor Builtin.Re.reTurnSteps)
/-- nothing is found -/
noncomputable def Miss (x : Str) : Prop := (dr 100 (Sre.forSearch code35 x.cps 1 0 x.cps.size false)).map (·.outcome) = some (some .failed)
theorem s1 : Miss "ab" := by unfold Miss; kernel_rfl
theorem s2 : Miss "!a" := by unfold Miss; kernel_rfl
theorem s3 : Miss ".-a" := by unfold Miss; kernel_rfl
theorem s4 : Miss "" := by unfold Miss; kernel_rfl
theorem s5 : Miss "!" := by unfold Miss; kernel_rfl
theorem s6 : Miss "!.b" := by unfold Miss; kernel_rfl
theorem s7 : Miss "a." := by unfold Miss; kernel_rfl
theorem s8 : Miss ".-b" := by unfold Miss; kernel_rfl
theorem s9 : Miss "a-a" := by unfold Miss; kernel_rfl
section
variable {prog : Program} {w : World} {A : Around} {E : Value → Shared → Prop} {s : Shared}
theorem drive_ok : ∀ (n turns : Nat) (m m' : Sre.M) {Q : Sre.M → Shared → Prop}, dr n m = some m' → n ≤ turns → Q m' s → wpAny (model prog w) A (Builtin.Re.reDrive turns m) Q E s
  | 0, _, _, _, _, h, _, _ => nomatch h
  | n + 1, 0, _, _, _, _, h, _ => absurd h (by omega)
  | n + 1, t + 1, m, m', Q, h, ht, hq => by
    unfold dr at h
    unfold Builtin.Re.reDrive
    split at h
    · rename_i hs
      show wpAny _ _ (if _ then _ else _) _ _ _
      rw [if_pos hs]
      rw [Option.some.inj h]
      exact wpAny_pure hq
    · rename_i hs
      show wpAny _ _ (if _ then _ else _) _ _ _
      rw [if_neg hs]
      exact wpAny_bind (wpAny_rule (drive_ok n t _ _ h (by omega) hq))
theorem rules_ok {c : Nat → Bool} {t : Nat → String} {Q : PUnit → Shared → Prop} : ∀ (l : List Nat), Q ⟨⟩ s → wpAny (model prog w) A (forIn l PUnit.unit fun i r => (if c i = true then (do rule (t i); pure (ForInStep.yield PUnit.unit)) else pure (ForInStep.yield PUnit.unit) : Sem (ForInStep PUnit))) Q E s
  | [], h => by rw [List.forIn_nil]; exact wpAny_pure h
  | i :: l, h => by
    rw [List.forIn_cons]
    refine wpAny_bind ?_
    split
    · exact wpAny_bind (wpAny_rule (wpAny_pure (rules_ok l h)))
    · exact wpAny_pure (rules_ok l h)
theorem miss_ok {x : Str} (hm : Miss x) {Q : Option Sre.M → Shared → Prop} (hq : Q none s) : wpAny (model prog w) A (Builtin.Re.reRunToEnd (Sre.forSearch code35 x.cps 1 0 x.cps.size false)) Q E s := by
  unfold Miss at hm
  cases e : dr 100 (Sre.forSearch code35 x.cps 1 0 x.cps.size false) with
  | none => rw [e] at hm; cases hm
  | some m =>
    rw [e] at hm
    have ho : m.outcome = some .failed := Option.some.inj hm
    unfold Builtin.Re.reRunToEnd
    refine wpAny_bind (drive_ok 100 _ _ _ e (by decide) ?_)
    refine wpAny_bind ?_
    refine rules_ok _ ?_
    rw [ho]
    exact wpAny_pure hq
end
end

section
theorem plainAttrs_re : PlainAttrs "re.Pattern" :=
  ⟨⟨"object.__getattribute__", by rw [typeLookup_type, builtinLookup_eq_fast]; kernel_rfl, by decide +kernel⟩, by rw [typeLookup_type, builtinLookup_eq_fast]; kernel_rfl⟩
theorem slot_re_sub : Slot "re.Pattern" "sub" "re.Pattern.sub" :=
  .of (owner := "re.Pattern") (n := "sub") (by rw [typeLookup_type, builtinLookup_eq_fast]; kernel_rfl) (by decide +kernel) (by decide +kernel) (by decide +kernel)
    (by first | exact .inl (by decide +kernel) | exact .inr (by decide +kernel)) (by rw [isSubtype_type]; kernel_rfl)
theorem type_re_sub : typeOf (.builtin "re.Pattern.sub") = pure (.type "method_descriptor") := by show builtinType _ = _; rw [builtinType_eq_fast]; kernel_rfl
theorem entry_re_sub : entryFor table "re.Pattern.sub" = some Builtin.«re.Pattern.sub» := entryFor_of_tree (by kernel_rfl)
theorem entry_re_loop : entryFor table "re.Pattern.sub.loop" = some Builtin.«re.Pattern.sub.loop» := entryFor_of_tree (by kernel_rfl)
theorem call_fn : typeLookup (.type "function") "__call__" = pure (some (.builtin "function.__call__")) := by rw [typeLookup_type, builtinLookup_eq_fast]; kernel_rfl
theorem owner_re : Manifest.owners.lookup (String.ofList ['n', 'r', 'e', 't', 't', 'a', 'P', '.', 'e', 'r'].reverse) = some Manifest.sig_re_Pattern := by kernel_rfl
theorem args_re_sub (a b c : Value) : argsOk "re.Pattern.sub" ⟨[a, b, c], []⟩ := by
  unfold argsOk; rw [signature?_of (id := "re.Pattern.sub") (n := ['b', 'u', 's']) (o := ['n', 'r', 'e', 't', 't', 'a', 'P', '.', 'e', 'r']) (by kernel_rfl) owner_re]; kernel_rfl
end

section
section
variable {prog : Program} {w : World} {A : Around} {E : Value → Shared → Prop} {s : Shared} {P : Params}
theorem whole_ok {x : Str} {t : Tok} {Q : Builtin.Re.ReTarget → Shared → Prop} (hK : (heapF P).In s.heap)
    (hQ : Q { pattern := .ref 36, string := .str x t, code := code35, text := x.cps, kind := 0, groups := 1, pos := 0, lim := x.cps.size } s) : wpAny (model prog w) A (Builtin.Re.reWholeTarget (.ref 36) (.str x t)) Q E s := by
  unfold Builtin.Re.reWholeTarget
  refine wpAny_bind (wpAny_fieldsOf (hK _ _ (r36.look P)) rfl ?_)
  refine wpAny_bind (wpAny_of_eq (show Builtin.Re.reTextOf (.str x t) = pure (x.cps, 0) from rfl) ?_)
  dsimp only
  have e1 : Builtin.Re.reRawNat (r36.fs.getD 6 .none) = 0 := rfl
  rw [e1]
  rw [if_neg (by decide), if_neg (by decide)]
  refine wpAny_bind (wpAny_of_eq (show Builtin.Re.reNoCollectionInside (.str x t) 0 = pure () from rfl) ?_)
  rw [r36_5]
  unfold Builtin.Re.reRawItems seqItems?
  refine wpAny_bind (wpAny_bind (wpAny_bind (wpAny_load (hK _ _ (t35.look P)) (wpAny_pure (wpAny_pure (wpAny_pure ?_))))))
  have e2 : Builtin.Re.reRawNat (r36.fs.getD 2 .none) = 1 := rfl
  rw [e2]
  exact hQ
theorem re_sub {x : Str} {t : Tok} {f : Addr} {Q : Value → Shared → Prop} (hh : A.handled = none) (hK : (heapF P).In s.heap) (hf : s.TypeIs (.ref f) "function") (hm : Miss x) (hx : x.length ≤ 1000)
    (hQ : ∀ t' s', Ext s s' → Q (.str x t') s') : wpAny (model prog w) A (call (.builtin "re.Pattern.sub") [.ref 36, .ref f, .str x t]) Q E s := by
  have hT : s.TypeIs (.ref 36) "re.Pattern" := ⟨_, hK _ _ (r36.look P), rfl⟩
  refine wpAny_call (codeAny_call_builtin slot_re_sub.plain entry_re_sub (slot_re_sub.check _ _ _ _ _ _ _ _ hT (args_re_sub _ _ _) ?_))
  unfold Builtin.«re.Pattern.sub» Builtin.Re.reSubstitute
  dsimp only
  refine wpAny_bind (wpAny_of_eq (show Builtin.Re.reNamed "re.Pattern.sub" "sub" ["repl", "string", "count"] 2 [.ref f, .str x t] [] = pure [some (.ref f), some (.str x t), Option.none] from rfl) ?_)
  dsimp only
  refine wpAny_bind (wpAny_pure ?_)
  refine wpAny_bind (wpAny_specialOf hf call_fn ?_)
  dsimp only [Option.isSome]
  refine wpAny_bind (wpAny_pure ?_)
  refine wpAny_bind (wpAny_pure ?_)
  refine wpAny_bind (wpAny_holding (whole_ok hK ?_))
  dsimp only
  rw [if_pos (by decide)]
  have n1 : isSubtype (.type "str") (.type "bytearray") = pure false := isSubtype_of_subB (by decide +kernel)
  unfold Builtin.Re.reNotHeld
  refine wpAny_bind (wpAny_bind (wpAny_isInstance (typeIs_str _ _ _) n1 ?_))
  rw [if_neg (by decide)]
  refine wpAny_pure ?_
  refine wpAny_bind (wpAny_newObj_type ?_ (by show (0 : Nat) ≤ sizeLine; decide))
  refine wpAny_pure ⟨Code.quiet_builtin _ (by decide +kernel), codeAny_builtin entry_re_loop ?_⟩
  unfold Builtin.«re.Pattern.sub.loop»
  dsimp only [rawInt]
  have hK2 : (heapF P).In (s.heap.push { cls := .type "list", data := .seq ([] : List Value).toArray }) := fun a o e => Heap.get?_push_of_some _ (hK a o e)
  refine wpAny_bind (whole_ok (s := { s with heap := s.heap.push { cls := .type "list", data := .seq ([] : List Value).toArray } }) hK2 ?_)
  rw [if_neg (by decide)]
  dsimp only
  refine wpAny_bind ?_
  rw [if_neg (by decide)]
  refine miss_ok (x := x) hm ?_
  dsimp only
  generalize A.under _ = A'
  have en : (⟨x.cps.extract 0 0⟩ : Str) = Str.empty := by
    show (⟨x.cps.extract 0 0⟩ : Str) = ⟨#[]⟩
    congr 1
    apply Array.ext
    · simp
    · intro i h1 h2; simp at h1
  by_cases h0 : 0 < x.cps.size
  · rw [if_pos (by simpa using h0)]
    have ef : (⟨x.cps.extract 0 x.cps.size⟩ : Str) = x := by rw [Array.extract_size]
    have r1 : ∀ b e, Builtin.Re.reSlice x.cps 0 b e = mkStr ⟨x.cps.extract b e⟩ := fun b e => rfl
    rw [r1, r1, show Int.toNat 0 = 0 from rfl, ef, en]
    refine wpAny_bind (wpAny_mkStr ?_ (Nat.le_trans hx (by decide)))
    refine wpAny_bind (wpAny_updateSeq (xs := (#[] : Array Value)) (n := 0) (Heap.get?_push_size _ rfl) rfl ?_ (by decide) (by simp))
    refine wpAny_bind (wpAny_mkStr ?_ (by decide))
    generalize hH : (s.heap.push { cls := .type "list", data := .seq ([] : List Value).toArray }).update s.heap.objs.size (Obj.mapSeq fun y => y.push (.str x s.toks)) = H
    have hl : IsL H s.heap.objs.size #[.str x s.toks] 1 := by
      rw [← hH]
      exact IsL.update (n := 0) (items := #[]) (Heap.get?_push_size _ rfl) (fun y => y.push (.str x s.toks))
    have hsub : Sub s.heap H := fun b o e => by
      rw [← hH, Heap.get?_update_other _ _ (Nat.ne_of_gt (Heap.lt_size e))]
      exact Heap.get?_push_of_some _ e
    unfold seqItems?
    refine wpAny_bind (wpAny_bind (wpAny_load hl (wpAny_pure ?_)))
    rw [if_neg (by simp)]
    refine wpAny_bind ?_
    rw [if_pos (by decide)]
    refine SC.join (l := [(x, s.toks)]) (texts := [x]) hl.isList rfl (by
      unfold JoinOk Builtin.Str.tooLong
      have : (1000 : Nat) ≤ sizeLine := by decide
      simp [Str.empty, Str.length]
      have := hx
      unfold Str.length at this
      omega) fun t' k' => ?_
    rw [if_neg (by decide)]
    refine wpAny_pure ?_
    have ej : Txt.join Str.empty [x] = x := by simp [Txt.join, Builtin.Str.glued, Str.empty]
    rw [ej]
    exact hQ _ _ (.of s _ hsub)
  · rw [if_neg (by simpa using h0)]
    have r1 : ∀ b e, Builtin.Re.reSlice x.cps 0 b e = mkStr ⟨x.cps.extract b e⟩ := fun b e => rfl
    have hx0 : x = Str.empty := by
      cases x with
      | mk c =>
        have : c = #[] := Array.eq_empty_of_size_eq_zero (by simpa using h0)
        rw [this]; rfl
    rw [r1, en]
    refine wpAny_bind (wpAny_mkStr ?_ (by decide))
    unfold seqItems?
    refine wpAny_bind (wpAny_bind (wpAny_load (Heap.get?_push_size _ rfl) (wpAny_pure ?_)))
    rw [if_pos (by simp)]
    refine wpAny_bind (wpAny_pure ?_)
    rw [if_neg (by decide)]
    refine wpAny_pure ?_
    rw [hx0] at hQ
    exact hQ _ _ (.of s _ (Sub.push _ _))
end
end

section
def findV (x y : Str) (i j : Nat) : Int := match Builtin.Str.occurrences x y i (min j x.length) 1 with
  | k :: _ => (k : Int)
  | [] => -1
section
variable {prog : Program} {w : World} {k : Nat} {P : Params} {mg mb : Str → Option Value} {G : Pg}
variable {env : Env} {ρ ρ' : List (Str × D)} {σ : List (Addr × List D)} {R : Post}
theorem gives_find4 (x y : Str) (i j : Nat) (t u v w : Tok) : Gives (Builtin.«str.find» ⟨[.str x t, .str y u, .int i v, .int j w], []⟩) (.int (findV x y i j)) := by
  have a : ∀ n : Nat, (max 0 (if (n : Int) < 0 then (n : Int) + x.length else n)).toNat = n := fun n => by
    rw [if_neg (by omega)]; omega
  show Gives (match Builtin.Str.occurrences x y ((max 0 (if (i : Int) < 0 then (i : Int) + x.length else i)).toNat) (min ((max 0 (if (j : Int) < 0 then (j : Int) + x.length else j)).toNat) x.length) 1 with | k :: _ => retInt k | [] => (do rule "str.find.not-found"; retInt (-1))) _
  rw [a, a]
  unfold findV
  cases Builtin.Str.occurrences x y i (min j x.length) 1 with
  | nil => exact .rule (.of_eq rfl)
  | cons k _ => exact .of_eq rfl
theorem BN.find4 {x y : Str} {i j : Nat} : BN prog w k (.builtin "str.find") [.str x, .str y, .int i, .int j] (.int (findV x y i j)) := fun A s H Q E vs r b rv q => by
  cases rv with
  | cons h1 rv => cases rv with
    | cons h2 rv => cases rv with
      | cons h3 rv => cases rv with
        | cons h4 rv =>
          cases rv; cases h1; cases h2; cases h3; cases h4
          exact call_gives F.slot_str_find (typeIs_str _ _ _) F.entry_str_find (F.args_str_find_4 _ _ _ _) (gives_find4 x y i j _ _ _ _) (q _ _ (.tok s _) (.int _ _))
end
end

section
theorem slot_md_get : Slot "method_descriptor" "__get__" "method_descriptor.__get__" :=
  .of (owner := "method_descriptor") (n := "__get__") (by rw [typeLookup_type, builtinLookup_eq_fast]; kernel_rfl) (by decide +kernel) (by decide +kernel) (by decide +kernel)
    (by first | exact .inl (by decide +kernel) | exact .inr (by decide +kernel)) (by rw [isSubtype_type]; kernel_rfl)
theorem lk_md_set : typeLookup (.type "method_descriptor") "__set__" = pure Option.none := by rw [typeLookup_type, builtinLookup_eq_fast]; kernel_rfl
theorem lk_md_del : typeLookup (.type "method_descriptor") "__delete__" = pure Option.none := by rw [typeLookup_type, builtinLookup_eq_fast]; kernel_rfl
theorem entry_md_get : entryFor table "method_descriptor.__get__" = some Builtin.«method_descriptor.__get__» := entryFor_of_tree (by kernel_rfl)
theorem args_md_get (a b c : Value) : argsOk "method_descriptor.__get__" ⟨[a, b, c], []⟩ := by unfold argsOk; kernel_rfl
section
variable {prog : Program} {w : World} {A : Around} {E : Value → Shared → Prop} {h : Heap} {g : Array GenState} {d : Drawn} {t : Nat} {os : OsState} {a : Addr} {o : Obj}
theorem owner_append : (".".intercalate ("list.append".cutAt '.').dropLast) = "list" := by
  have e0 : "list.append".cutAt '.' = ["list", "append"] := by first | rfl | decide +kernel
  rw [e0]; decide +kernel
theorem sub_append_owner : isSubtype (.type "list") (.type (".".intercalate ("list.append".cutAt '.').dropLast)) = pure true := by
  rw [owner_append, isSubtype_type]; kernel_rfl
theorem append_get {R : Result → Shared → Prop} {xs : Array Value} {n : Nat} (hx : IsL h a xs n)
    (hq : R (.ok (.ret (.ref h.objs.size))) ⟨h.push { cls := .type "builtin_function_or_method", data := .fields #[.builtin "list.append", .ref a] }, g, d, t, os⟩) :
    codeAny (model prog w) A (.call (.builtin "method_descriptor.__get__") ⟨[.builtin "list.append", .ref a, .type "list"], []⟩) R ⟨h, g, d, t, os⟩ := by
  have hT : (⟨h, g, d, t, os⟩ : Shared).TypeIs (.ref a) "list" := ⟨_, hx, rfl⟩
  have hT5 : (⟨h, g, d, t, os⟩ : Shared).TypeIs (.builtin "list.append") "method_descriptor" := F.type_list_append
  have f8 := sub_append_owner
  refine codeAny_call_builtin slot_md_get.plain entry_md_get (slot_md_get.check _ _ _ _ _ _ _ _ hT5 (args_md_get _ _ _) ?_)
  unfold Builtin.«method_descriptor.__get__»
  repeat (any_goals (first | assumption | wp_step))
theorem append_entry {xs : Array Value} {n : Nat} {tk : Tok} {Q : Fin → Shared → Prop} (hx : IsL h a xs n)
    (hq : Q (.done (.ret (.ref h.objs.size))) ⟨h.push { cls := .type "builtin_function_or_method", data := .fields #[.builtin "list.append", .ref a] }, g, d, t, os⟩) :
    wpAny (model prog w) A (Builtin.«object.__getattribute__» ⟨[.ref a, .str "append" tk], []⟩) Q E ⟨h, g, d, t, os⟩ := by
  have hT : (⟨h, g, d, t, os⟩ : Shared).TypeIs (.ref a) "list" := ⟨_, hx, rfl⟩
  have f4 := F.slot_list_append.lookup
  have f5 := F.type_list_append
  have f6 := slot_md_get.lookup
  have f7 := lk_md_set
  have f8 := lk_md_del
  unfold Builtin.«object.__getattribute__»
  repeat (any_goals (first | assumption | wp_step))
  refine append_get hx ?_
  repeat (any_goals (first | assumption | wp_step))
end
end

section
section
variable {prog : Program} {w : World} {A : Around} {E : Value → Shared → Prop} {h : Heap} {g : Array GenState} {d : Drawn} {t : Nat} {os : OsState} {a : Addr} {o : Obj}
theorem append_call {xs : Array Value} {n : Nat} {tk : Tok} {R : Result → Shared → Prop} (hx : IsL h a xs n)
    (hq : R (.ok (.ret (.ref h.objs.size))) ⟨h.push { cls := .type "builtin_function_or_method", data := .fields #[.builtin "list.append", .ref a] }, g, d, t, os⟩) :
    codeAny (model prog w) A (.call (.builtin "list.__getattribute__") ⟨[.ref a, .str "append" tk], []⟩) R ⟨h, g, d, t, os⟩ :=
  codeAny_call_builtin F.slot_list_getattribute.plain F.entry_list_ga (F.slot_list_getattribute.check _ _ _ _ _ _ _ _ (show (⟨h, g, d, t, os⟩ : Shared).TypeIs (.ref a) "list" from ⟨_, hx, rfl⟩) (F.args_list_getattribute_2 _ _) (append_entry hx hq))
theorem append_by {xs : Array Value} {n : Nat} {tk : Tok} {Q : Value → Shared → Prop} (hx : IsL h a xs n)
    (hq : Q (.ref h.objs.size) ⟨h.push { cls := .type "builtin_function_or_method", data := .fields #[.builtin "list.append", .ref a] }, g, d, t, os⟩) :
    wpAny (model prog w) A (getAttrBy (.ref a) (.str "append" tk) true true) Q E ⟨h, g, d, t, os⟩ := by
  have hT : (⟨h, g, d, t, os⟩ : Shared).TypeIs (.ref a) "list" := ⟨_, hx, rfl⟩
  have f2 := F.slot_list_getattribute.lookup
  have f3 := F.slot_list_getattribute.bind (.ref a)
  repeat (any_goals (first | assumption | wp_step))
  refine append_call hx ?_
  repeat (any_goals (first | assumption | wp_step))
theorem append_attr {xs : Array Value} {n : Nat} {Q : Value → Shared → Prop} (hx : IsL h a xs n)
    (hq : Q (.ref h.objs.size) ⟨h.push { cls := .type "builtin_function_or_method", data := .fields #[.builtin "list.append", .ref a] }, g, d, t + 1, os⟩) :
    wpAny (model prog w) A (getAttr (.ref a) "append" true) Q E ⟨h, g, d, t, os⟩ := by
  unfold getAttr
  exact wpAny_bind (wpAny_mkText (append_by hx hq))
end
end

section
theorem sig_append : ∃ sig, Manifest.signature? "list.append" = some sig ∧ ∀ x y : Value, Bind.checkArgs "list.append" { sig with full := "list.append" } ⟨[x, y], []⟩ = pure () :=
  ⟨_, by rw [signature?_of (id := "list.append") (n := ['d', 'n', 'e', 'p', 'p', 'a']) (o := ['t', 's', 'i', 'l']) (by kernel_rfl) F.owner_list]; rfl, fun x y => by kernel_rfl⟩
section
variable {prog : Program} {w : World} {A : Around} {E : Value → Shared → Prop} {s : Shared}
theorem check_append {a : Addr} {v : Value} {xs : Array Value} {n : Nat} {Q : Unit → Shared → Prop} (hl : IsL s.heap a xs n) (hq : Q () s) : wpAny (model prog w) A (checkBoundCall "list.append" ⟨[.ref a, v], []⟩) Q E s := by
  obtain ⟨sig, h1, h2⟩ := sig_append
  have hT : s.TypeIs (.ref a) "list" := ⟨_, hl, rfl⟩
  unfold checkBoundCall
  rw [h1]
  have hk : builtinKind "list.append" = some .method := by decide +kernel
  rw [hk]
  dsimp only
  rw [if_neg (by decide)]
  refine wpAny_bind (wpAny_isInstance hT (isSubtype_of_subB (by decide +kernel) : isSubtype (.type "list") (.type "module") = pure false) ?_)
  rw [if_neg (by decide +kernel)]
  refine wpAny_bind ?_
  unfold isType
  refine wpAny_bind (wpAny_load hl (wpAny_pure ?_))
  dsimp only
  rw [if_neg (by decide)]
  refine wpAny_bind (wpAny_typeOf hT ?_)
  dsimp only
  have e1 : toString (Bind.lastOf "list") ++ toString "." ++ toString (Bind.lastOf "list.append") = "list.append" := by decide +kernel
  rw [e1]
  exact wpAny_of_eq (h2 _ _) hq
theorem call_bound {b a : Addr} {v : Value} {xs : Array Value} {n : Nat} {Q : Value → Shared → Prop} (hb : s.heap.get? b = some { cls := .type "builtin_function_or_method", dict := Option.none, data := .fields #[.builtin "list.append", .ref a], slots := #[] })
    (hl : IsL s.heap a xs n) (hz : xs.size < sizeLine) (hQ : ∀ h' n', IsL h' a (xs.push v) n' → Heap.SameBut a s.heap h' → Q .none { s with heap := h' }) : wpAny (model prog w) A (call (.ref b) [v]) Q E s := by
  refine wpAny_call (codeAny_of_tree ?_)
  show wpAny _ _ (callAny (.ref b) ⟨[v], []⟩) _ _ s
  simp only [callAny]
  refine wpAny_bind (wpAny_load hb ?_)
  dsimp only
  rw [if_pos (by decide)]
  show wpAny _ _ (if (Value.type "builtin_function_or_method" != Value.type "method") = true then (do
      checkBoundCall "list.append" ⟨[.ref a, v], []⟩
      again (.builtin "list.append" ⟨[.ref a, v], []⟩)) else _) _ _ s
  rw [if_pos (by decide)]
  refine wpAny_bind (check_append hl ?_)
  refine wpAny_pure ⟨Code.quiet_builtin _ (by decide +kernel), codeAny_builtin entry_list_append ?_⟩
  show wpAny _ _ (updateSeq a (·.push v) >>= fun _ => ret .none) _ _ s
  refine wpAny_bind (wpAny_updateSeq hl rfl (wpAny_pure (hQ _ (n + 1) ?_ (Heap.SameBut.update ..))) (by omega) (by simp; omega))
  show Heap.get? _ _ = _
  rw [Heap.get?_update_self _ hl (by rw [Obj.mapSeq_push_plain]; rfl), Obj.mapSeq_push_plain]
theorem callWith_bound {pos : Pos} {b : Addr} {vs : Array Value} {t : Sem Value} {Q : Value → Shared → Prop}
    (h : wpAny (model prog w) A t (fun v s₁ => s₁.heap.get? b = some { cls := .type "builtin_function_or_method", dict := Option.none, data := .fields vs, slots := #[] } ∧ wpAny (model prog w) A (call (.ref b) [v]) Q E s₁) E s) :
    wpAny (model prog w) A (callWith pos (.ref b) [] [(false, t)] []) Q E s := by
  unfold callWith
  refine wpAny_bind (wpAny_holding (Calls.evalArgs_plain (Calls.spliced_cons (wpAny_mono h (fun v s₁ h₁ => Calls.spliced_nil (wpAny_bind (wpAny_standAt ?_))) fun _ _ x => x))))
  refine wpAny_bind (m := keeperOf (.ref b)) ?_
  unfold keeperOf
  refine wpAny_bind (wpAny_load h₁.1 ?_)
  dsimp only
  rw [if_pos (by decide), if_pos (by decide)]
  refine wpAny_pure ?_
  refine wpAny_bind (wpAny_mono h₁.2 (fun r s₂ hr => wpAny_bind (wpAny_holding (wpAny_point (wpAny_pure hr)))) fun _ _ x => x)
end
section
variable {prog : Program} {w : World} {k : Nat} {P : Params} {mg mb : Str → Option Value} {G : Pg}
variable {env : Env} {ρ ρ' : List (Str × D)} {σ : List (Addr × List D)} {R : Post}
/-- the bound method of an own list is kept under a name -/
theorem SO.assignMeth {x y : Str} {px pa py pos : Pos} {a : Addr} {ds : List D} (hx : EV prog w G k env ρ σ (.Name x px) (.loc a)) (hm : (a, ds) ∈ σ) (hy : Sto env y) (u : Upd y (.meth "list.append" a) ρ ρ') (hR : R .next ρ' σ)
    (hs : swapsWith (.Attribute (.Name x px) "append" pa) (some (.Name y py)) pos.line env = pure false := by rfl) : SO prog w G k env ρ σ (.Assign [.Name y py] (.Attribute (.Name x px) "append" pa) pos) R := fun h₀ H₀ A s Q E r S q =>
  wpAny_Assign_Name (Attribute_name (hx A s _ _ E r S.nm fun v s₁ x₁ rv => by
    cases rv
    have S1 := S.grow x₁.sub
    obtain ⟨vs, n, hl, rl⟩ := S1.nm.locs _ hm
    obtain ⟨h, g, d, t, os⟩ := s₁
    refine append_attr hl ?_
    have xp := Sub.push h { cls := .type "builtin_function_or_method", data := .fields #[.builtin "list.append", .ref a] }
    have S2 := S1.grow xp
    refine St.store (s := ⟨h.push { cls := .type "builtin_function_or_method", data := .fields #[.builtin "list.append", .ref a] }, g, d, t + 1, os⟩) S2 hy u (.meth (vis_get (Heap.get?_push_size _ rfl) S1.nm.fresh)) fun h' tk S' _ => q .next .next _ _ _ hR S' rfl (x₁.osg.trans ⟨rfl, id⟩))) hs
/-- an item is put behind an own list by its bound method -/
theorem SO.appendVia {x : Str} {e : Expr} {d : D} {ds : List D} {a : Addr} {σ₁ σ₂ : List (Addr × List D)} {px pc pos : Pos} (hx : EV prog w G k env ρ (σ₁ ++ (a, ds) :: σ₂) (.Name x px) (.meth "list.append" a)) (he : EV prog w G k env ρ (σ₁ ++ (a, ds) :: σ₂) e d)
    (hR : R .next ρ (σ₁ ++ (a, ds ++ [d]) :: σ₂)) (hz : ds.length < sizeLine)
    (hi : interactive env = false := by rfl) (hs : swapsWith (.Call (.Name x px) [e] [] pc) none pos.line env = pure false := by rfl)
    (hse : backTo pc (starEach [e] env) = [(false, eval e env)] := by rfl)
    (hc : ∀ e', eval (.Call (.Name x px) [e] [] pc) e' = (do callWith pc (← eval (.Name x px) e') [] (backTo pc (starEach [e] e')) (backToKw pc (keywordEach [] e'))) := by intro _; rfl) :
    SO prog w G k env ρ (σ₁ ++ (a, ds) :: σ₂) (.Expr (.Call (.Name x px) [e] [] pc) pos) R := fun h₀ H₀ A s Q E r S q => by
  refine wpAny_Expr_any ?_ hi hs
  rw [hc]
  refine wpAny_bind (hx A s _ _ E r S.nm fun vo s₁ x₁ ro => ?_)
  cases ro with
  | meth hb =>
    rename_i b
    have S1 := S.grow x₁.sub
    rw [hse]
    refine callWith_bound (vs := #[.builtin "list.append", .ref a]) (he A s₁ _ _ E r S1.nm fun v s₂ x₂ rv => ?_)
    have S2 := S1.grow x₂.sub
    have hb2 := x₂.sub _ _ (vis_of hb)
    obtain ⟨vs, n, hl, rl⟩ := own_get S2.nm (by simp : (a, ds) ∈ σ₁ ++ (a, ds) :: σ₂)
    refine ⟨hb2, call_bound hb2 hl (by rw [List.size_toArray, rl.length]; exact hz) fun h' n' hl' hs' => ?_⟩
    have hl'' : IsL h' a (vs ++ [v]).toArray n' := by simpa using hl'
    exact q .next .next _ _ _ hR (S2.list rfl (rl.append (.one rv)) hl'' hs') rfl ((x₁.trans x₂).osg.trans ⟨rfl, id⟩)
end
end

section
section
variable {prog : Program} {w : World} {A : Around} {E : Value → Shared → Prop} {s : Shared}
/-- an item of a plain list is stored, the object told exactly -/
theorem setItem_exact {l : Addr} {items : Array Value} {n j : Nat} {t : Tok} {v : Value} {Q : Unit → Shared → Prop} (hl : IsL s.heap l items n) (hj : j < items.size) (hz : items.size ≤ 1000)
    (hQ : ∀ h' n', IsL h' l (items.setIfInBounds j v) n' → Heap.SameBut l s.heap h' → Q () { s with heap := h' }) : wpAny (model prog w) A (setItem (.ref l) (.int (j : Int) t) v) Q E s :=
  ki_setAt hl (by omega) (by omega) (by omega) (hQ _ _ (IsL.update hl (·.setIfInBounds j v)) (Heap.SameBut.update ..))
end
section
variable {prog : Program} {w : World} {k : Nat} {P : Params} {mg mb : Str → Option Value} {G : Pg}
variable {env : Env} {ρ ρ' : List (Str × D)} {σ : List (Addr × List D)} {R : Post}
theorem SO.setItem {e o i : Expr} {po pos : Pos} {a : Addr} {j : Nat} {d : D} {ds : List D} {σ₁ σ₂ : List (Addr × List D)} (he : EV prog w G k env ρ (σ₁ ++ (a, ds) :: σ₂) e d) (ho : EV prog w G k env ρ (σ₁ ++ (a, ds) :: σ₂) o (.loc a)) (hi : EV prog w G k env ρ (σ₁ ++ (a, ds) :: σ₂) i (.int (j : Int)))
    (hj : j < ds.length) (hz : ds.length ≤ 1000) (hR : R .next ρ (σ₁ ++ (a, ds.set j d) :: σ₂)) (hs : swapsWith e (some (.Subscript o i po)) pos.line env = pure false := by rfl) :
    SO prog w G k env ρ (σ₁ ++ (a, ds) :: σ₂) (.Assign [.Subscript o i po] e pos) R := fun h₀ H₀ A s Q E r S q =>
  wpAny_Assign_Subscript (he A s _ _ E r S.nm fun v s₁ x₁ rv => ho A s₁ _ _ E r (S.grow x₁.sub).nm fun vo s₂ x₂ ro => hi A s₂ _ _ E r ((S.grow x₁.sub).grow x₂.sub).nm fun vi s₃ x₃ ri => by
    have S3 := ((S.grow x₁.sub).grow x₂.sub).grow x₃.sub
    cases ro; cases ri
    obtain ⟨vs, n, hl, rl⟩ := own_get S3.nm (by simp : (a, ds) ∈ σ₁ ++ (a, ds) :: σ₂)
    refine setItem_exact hl (by rw [List.size_toArray, rl.length]; exact hj) (by rw [List.size_toArray, rl.length]; exact hz) fun h' n' hl' hs' => ?_
    have hl'' : IsL h' a (vs.set j v).toArray n' := by simpa using hl'
    exact q .next .next _ _ _ hR (S3.list rfl (rl.set j (rv.mono (x₂.trans x₃).sub.vis)) hl'' hs') rfl (((x₁.trans x₂).trans x₃).osg.trans ⟨rfl, id⟩)) hs
theorem seqIndex_nat {j n : Nat} (h : j < n) : seqIndex? (j : Int) n = some j := by
  unfold seqIndex?
  have h0 : ¬ ((j : Int) < 0) := by omega
  simp only [h0, if_false]
  split <;> simp_all <;> omega
theorem SO.delItem {o i : Expr} {po pos : Pos} {a : Addr} {j : Nat} {ds : List D} {σ₁ σ₂ : List (Addr × List D)} (ho : EV prog w G k env ρ (σ₁ ++ (a, ds) :: σ₂) o (.loc a)) (hi : EV prog w G k env ρ (σ₁ ++ (a, ds) :: σ₂) i (.int (j : Int)))
    (hj : j < ds.length) (hz : ds.length ≤ 1000) (hR : R .next ρ (σ₁ ++ (a, ds.eraseIdx j) :: σ₂)) :
    SO prog w G k env ρ (σ₁ ++ (a, ds) :: σ₂) (.Delete [.Subscript o i po] pos) R := fun h₀ H₀ A s Q E r S q => by
  refine wpAny_Delete (wpAny_deleteEach_cons (wpAny_delete_Subscript (ho A s _ _ E r S.nm fun vo s₁ x₁ ro => hi A s₁ _ _ E r (S.grow x₁.sub).nm fun vi s₂ x₂ ri => ?_)))
  have S2 := (S.grow x₁.sub).grow x₂.sub
  cases ro; cases ri
  obtain ⟨vs, n, hl, rl⟩ := own_get S2.nm (by simp : (a, ds) ∈ σ₁ ++ (a, ds) :: σ₂)
  have hlen := rl.length
  refine wpAny_delItem_plain (items := vs.toArray) (k := j) ⟨n, hl⟩ (fitsIndex_of (by omega) (by omega)) (seqIndex_nat (by rw [List.size_toArray, hlen]; exact hj)) (fun h' hl' hs' => wpAny_deleteEach_nil ?_) (by rw [List.size_toArray, hlen]; exact Nat.le_trans hz (by decide))
  obtain ⟨n', hl'⟩ := hl'
  have hl'' : IsL h' a (vs.eraseIdx j).toArray n' := by simpa using hl'
  exact q .next .next _ _ _ hR (S2.list rfl (rl.eraseIdx j) hl'' hs') rfl ((x₁.trans x₂).osg.trans ⟨rfl, id⟩)
theorem EV.brk {e : Expr} {x : Str} {p1 p2 p3 p4 : Pos} {n m : Nat} {a b : Str} (he : EV prog w G k env ρ σ e (.str x)) (hz : a.length + x.length + b.length ≤ 1000)
    (hev : evalEach [.Constant (.str a) n p1, .FormattedValue e (-1) Option.none p2, .Constant (.str b) m p3] env = [eval (.Constant (.str a) n p1) env, eval (.FormattedValue e (-1) Option.none p2) env, eval (.Constant (.str b) m p3) env] := by rfl) :
    EV prog w G k env ρ σ (.JoinedStr [.Constant (.str a) n p1, .FormattedValue e (-1) Option.none p2, .Constant (.str b) m p3] p4) (.str (a ++ x ++ b)) := fun A s H Q E r N q => by
  refine wpAny_JoinedStr ?_
  rw [hev]
  have hz' : (1000 : Nat) ≤ sizeLine := by decide
  have la : ∀ (u v : Str), (u ++ v).length = u.length + v.length := strLen_append
  have le : Str.empty.length = 0 := rfl
  refine Calls.Constant_str ⟨a, _, rfl, by rw [la, le]; omega, ?_⟩
  refine wpAny_FormattedValue_plain (he A _ H _ E r (N.grow (Ext.tok s (s.toks + 1)).sub) fun v s₁ x₁ rv => ?_)
  cases rv
  have hx1 : x.length ≤ sizeLine := by omega
  have fin : ∀ (t : Tok) (s₂ : Shared), Ext s s₂ → ∃ y t', Value.str x t = .str y t' ∧ ((Str.empty ++ a) ++ y).length ≤ sizeLine ∧ Joins (model prog w) A E [eval (.Constant (.str b) m p3) env] ((Str.empty ++ a) ++ y) (fun out s₁ => out.length ≤ sizeLine ∧ Q (.str out s₁.toks) { s₁ with toks := s₁.toks + 1 }) s₂ := fun t s₂ x₂ => by
    refine ⟨x, t, rfl, by rw [la, la, le]; omega, ?_⟩
    refine Calls.Constant_str ⟨b, _, rfl, by rw [la, la, la, le]; omega, by rw [la, la, la, le]; omega, ?_⟩
    have ee : Str.empty ++ a ++ x ++ b = a ++ x ++ b := by
      have : Str.empty ++ a = a := by
        cases a with
        | mk c =>
          show (⟨#[] ++ c⟩ : Str) = ⟨c⟩
          rw [Array.empty_append]
      rw [this]
    rw [ee]
    exact q _ _ (x₂.trans ((Ext.tok s₂ _).trans (.tok _ _))) (.str _ _)
  exact wpAny_formatField_str (fin _ _ ((Ext.tok s _).trans x₁)) (fin _ _ (((Ext.tok s _).trans x₁).trans (.tok _ _))) hx1
end
end

section
/-- the table of code objects that a function's code keeps: hidden, and it may grow -/
structure TB (mg : Str → Option Value) (c T : Addr) (h₀ : Heap) (H₀ : List Addr) (env : Env) (σ : List (Addr × List D)) (h : Heap) : Prop where
  hid : T ∈ H₀
  base : h₀.get? T = none
  code : CodeHd h₀ c T
  bi : h₀.BuiltinsAt mg T
  notown : T ∉ own env σ
  tab : ∃ ps, h.get? T = some (tabObj ps) ∧ TriplesOk ps.toList
section
variable {prog : Program} {w : World} {G : Pg} {k : Nat} {env : Env} {ρ ρ' : List (Str × D)} {σ : List (Addr × List D)} {R : Post} {mg : Str → Option Value} {c T : Addr} {h₀ h h' : Heap} {H₀ : List Addr}
theorem TB.grow (t : TB mg c T h₀ H₀ env σ h) (x : Sub h h') : TB mg c T h₀ H₀ env σ h' := ⟨t.hid, t.base, t.code, t.bi, t.notown, let ⟨ps, a, b⟩ := t.tab; ⟨ps, x _ _ a, b⟩⟩
def SXT (prog : Program) (w : World) (G : Pg) (mg : Str → Option Value) (c T : Addr) (k : Nat) (env : Env) (ρ : List (Str × D)) (σ : List (Addr × List D)) (body : List Stmt) (R : Post) : Prop :=
  ∀ (h₀ : Heap) (H₀ : List Addr) (A : Around) (s : Shared) (Q : Flow → Shared → Prop) (E : Value → Shared → Prop), Room k A → St G h₀ H₀ env ρ σ s.heap → TB mg c T h₀ H₀ env σ s.heap →
    (∀ o fl ρ' σ' s', R o ρ' σ' → St G h₀ H₀ env ρ' σ' s'.heap → TB mg c T h₀ H₀ env σ' s'.heap → FlowOf (own env σ' ++ H₀) o fl s'.heap → Osg s s' → Q fl s') → wpAny (model prog w) A (execs body env) Q E s
def SOT (prog : Program) (w : World) (G : Pg) (mg : Str → Option Value) (c T : Addr) (k : Nat) (env : Env) (ρ : List (Str × D)) (σ : List (Addr × List D)) (st : Stmt) (R : Post) : Prop :=
  ∀ (h₀ : Heap) (H₀ : List Addr) (A : Around) (s : Shared) (Q : Flow → Shared → Prop) (E : Value → Shared → Prop), Room k A → St G h₀ H₀ env ρ σ s.heap → TB mg c T h₀ H₀ env σ s.heap →
    (∀ o fl ρ' σ' s', R o ρ' σ' → St G h₀ H₀ env ρ' σ' s'.heap → TB mg c T h₀ H₀ env σ' s'.heap → FlowOf (own env σ' ++ H₀) o fl s'.heap → Osg s s' → Q fl s') → wpAny (model prog w) A (exec st env) Q E s
def ThenT (prog : Program) (w : World) (G : Pg) (mg : Str → Option Value) (c T : Addr) (k : Nat) (env : Env) (rest : List Stmt) (R : Post) : Post := fun o ρ' σ' => match o with
  | .next => SXT prog w G mg c T k env ρ' σ' rest R
  | o => R o ρ' σ'
/-- what a plain statement leaves of the table -/
theorem TB.after {σ' : List (Addr × List D)} (t : TB mg c T h₀ H₀ env σ h) (S : St G (hideAll h (own env σ)) H₀ env ρ' σ' h') : TB mg c T h₀ H₀ env σ' h' := by
  obtain ⟨ps, a, b⟩ := t.tab
  have e := hideAll_get _ a t.notown
  refine ⟨t.hid, t.base, t.code, t.bi, fun hm => ?_, ps, S.base _ _ e, b⟩
  have := S.fresh T hm
  rw [e] at this
  cases this
theorem SXT.of {body : List Stmt} (h : SX prog w G k env ρ σ body R) : SXT prog w G mg c T k env ρ σ body R := fun h₀ H₀ A s Q E r S t q =>
  h _ H₀ A s Q E r S.rebase fun o fl ρ' σ' s' hR S' hf os => q o fl ρ' σ' s' hR (S'.unbase S.base_in) (t.after S') hf os
theorem SOT.of {st : Stmt} (h : SO prog w G k env ρ σ st R) : SOT prog w G mg c T k env ρ σ st R := fun h₀ H₀ A s Q E r S t q =>
  h _ H₀ A s Q E r S.rebase fun o fl ρ' σ' s' hR S' hf os => q o fl ρ' σ' s' hR (S'.unbase S.base_in) (t.after S') hf os
theorem SXT.nil (h : R .next ρ σ) : SXT prog w G mg c T k env ρ σ [] R := fun h₀ H₀ A s Q E r S t q => wpAny_execs_nil (q .next .next ρ σ s h S t rfl (.refl s))
theorem SXT.cons {st : Stmt} {rest : List Stmt} (h : SOT prog w G mg c T k env ρ σ st (ThenT prog w G mg c T k env rest R)) : SXT prog w G mg c T k env ρ σ (st :: rest) R := fun h₀ H₀ A s Q E r S t q =>
  wpAny_execs_cons (h h₀ H₀ A s _ E r S t fun o fl ρ' σ' s' hR S' t' hf x => by
    cases o with
    | next =>
      obtain rfl : fl = .next := hf
      exact hR h₀ H₀ A s' Q E r S' t' fun o fl ρ'' σ'' s'' hR' S'' t'' hf' x' => q o fl ρ'' σ'' s'' hR' S'' t'' hf' (x.trans x')
    | brk =>
      obtain rfl : fl = .brk := hf
      exact q .brk .brk ρ' σ' s' hR S' t' rfl x
    | ret d =>
      obtain ⟨v, rfl, rv⟩ := hf
      exact q (.ret d) (.ret v) ρ' σ' s' hR S' t' ⟨v, rfl, rv⟩ x)
/-- a plain statement, then more -/
theorem SXT.cons1 {st : Stmt} {rest : List Stmt} {R' : Post} (h : SO prog w G k env ρ σ st R') (hm : ∀ o ρ σ, R' o ρ σ → ThenT prog w G mg c T k env rest R o ρ σ) : SXT prog w G mg c T k env ρ σ (st :: rest) R :=
  .cons (.of fun h₀ H₀ A s Q E r S q => h h₀ H₀ A s Q E r S fun o fl ρ' σ' s' hR => q o fl ρ' σ' s' (hm _ _ _ hR))
theorem SOT.ite {t : Expr} {b : Bool} {body orelse : List Stmt} {pos : Pos} (h : TV prog w G k env ρ σ t b) (h1 : b = true → SXT prog w G mg c T k env ρ σ body R) (h2 : b = false → SXT prog w G mg c T k env ρ σ orelse R) : SOT prog w G mg c T k env ρ σ (.If t body orelse pos) R := fun h₀ H₀ A s Q E r S tb q =>
  wpAny_If (h A s _ _ E r S.nm fun s₁ x₁ => by
    cases b with
    | true => exact h1 rfl h₀ H₀ A s₁ Q E r (S.grow x₁.sub) (tb.grow x₁.sub) fun o fl ρ' σ' s' hR S' t' hf x => q o fl ρ' σ' s' hR S' t' hf (x₁.osg.trans x)
    | false => exact h2 rfl h₀ H₀ A s₁ Q E r (S.grow x₁.sub) (tb.grow x₁.sub) fun o fl ρ' σ' s' hR S' t' hf x => q o fl ρ' σ' s' hR S' t' hf (x₁.osg.trans x))
theorem SOT.while {test : Expr} {body orelse : List Stmt} {pos : Pos} (Inv : Nat → List (Str × D) → List (Addr × List D) → Prop) (n : Nat) (h0 : Inv n ρ σ)
    (turn : ∀ n ρ σ, Inv n ρ σ → ∃ b, TV prog w G k env ρ σ test b ∧
      (b = true → SXT prog w G mg c T k env ρ σ body (fun o ρ' σ' => match o with | .next => ∃ m, m < n ∧ Inv m ρ' σ' | .brk => R .next ρ' σ' | .ret d => R (.ret d) ρ' σ')) ∧
      (b = false → SXT prog w G mg c T k env ρ σ orelse R)) :
    SOT prog w G mg c T k env ρ σ (.While test body orelse pos) R := fun h₀ H₀ A s Q E r S tb q => by
  refine wpAny_While ?_
  refine codeAny_whileLoop (fun n s' => ∃ ρ σ, Inv n ρ σ ∧ St G h₀ H₀ env ρ σ s'.heap ∧ TB mg c T h₀ H₀ env σ s'.heap ∧ Osg s s') ?_ n ⟨ρ, σ, h0, S, tb, .refl s⟩
  rintro n s' ⟨ρ₁, σ₁, hI, S₁, tb₁, os₁⟩
  obtain ⟨b, ht, hb, he⟩ := turn n ρ₁ σ₁ hI
  refine ht A s' _ _ _ r S₁.nm fun s₂ x₂ => ?_
  have S₂ := S₁.grow x₂.sub
  have os₂ := os₁.trans x₂.osg
  have tb₂ := tb₁.grow x₂.sub
  cases b with
  | true =>
    simp only [if_true]
    refine hb rfl h₀ H₀ A s₂ _ _ r S₂ tb₂ fun o fl ρ₃ σ₃ s₃ hR S₃ tb₃ hf os₃ => ?_
    cases o with
    | next =>
      obtain rfl : fl = .next := hf
      obtain ⟨m, hm, hI'⟩ := hR
      exact ⟨m, hm, ρ₃, σ₃, hI', S₃, tb₃, os₂.trans os₃⟩
    | brk =>
      obtain rfl : fl = .brk := hf
      exact q .next .next _ _ _ hR S₃ tb₃ rfl (os₂.trans os₃)
    | ret d =>
      obtain ⟨v, rfl, rv⟩ := hf
      exact q (.ret d) _ _ _ _ hR S₃ tb₃ ⟨v, rfl, rv⟩ (os₂.trans os₃)
  | false =>
    simp only [Bool.false_eq_true, if_false]
    exact he rfl h₀ H₀ A s₂ _ _ r S₂ tb₂ fun o fl ρ₃ σ₃ s₃ hR S₃ tb₃ hf os₃ => q o fl ρ₃ σ₃ s₃ hR S₃ tb₃ hf (os₂.trans os₃)
theorem triples_snoc {ps : List Value} {a b : Int} {t u : Tok} {v : Value} (h : TriplesOk ps) : TriplesOk (ps ++ [.int a t, .int b u, v]) := by
  match ps, h with
  | [], _ => trivial
  | .int _ _ :: .int _ _ :: _ :: rest, h => exact triples_snoc (ps := rest) h
/-- a lambda is made -/
theorem lam_make {params : Arguments} {body : Expr} {scope : Scope} {pos : Pos} {A : Around} {s : Shared} {Q : Value → Shared → Prop} {E : Value → Shared → Prop}
    (hdef : defaultsOf params env = ([], []) := by rfl) (hcl : closureFor scope env = pure [] := by rfl) (hge : env.globals = mainGlobals := by rfl) (hcode : env.code = .ref c := by rfl)
    (S : St G h₀ H₀ env ρ σ s.heap) (tb : TB mg c T h₀ H₀ env σ s.heap) (hg : s.heap.Ns mainGlobals mg) (hgT : mainGlobals ≠ T)
    (hQ : ∀ f s', St G h₀ H₀ env ρ σ s'.heap → TB mg c T h₀ H₀ env σ s'.heap → (∀ b o, b ≠ T → s.heap.get? b = some o → s'.heap.get? b = some o) → s'.TypeIs (.ref f) "function" → Osg s s' → Q (.ref f) s') :
    wpAny (model prog w) A (eval (.Lambda params body scope pos) env) Q E s := by
  refine kla_eval hdef ?_
  obtain ⟨ps, hps, htr⟩ := tb.tab
  have C : CodeHd s.heap c T := tb.code.keeps S.base
  have hb : s.heap.BuiltinsAt mg T := tb.bi.keeps S.base
  cases hf : codeAmong pos ps.toList with
  | some cv =>
    refine kla_makeFunctionHit hcl hge hg hcode C hps htr hf hb fun ctv h' tk hk hsz => ?_
    have sub : Sub s.heap (h'.push { cls := .type "function", data := .func (kla_fn "<lambda>" (env.qual ++ "<lambda>") params body scope [] ((mg "__name__").getD .none) cv ctv) }) := fun b o e => Heap.get?_push_of_some _ (hk b o e)
    exact hQ _ _ (S.grow sub) (tb.grow sub) (fun b o _ e => sub b o e) ⟨_, Heap.get?_push_size _ rfl, rfl⟩ ⟨rfl, id⟩
  | none =>
    refine kla_makeFunction hcl hge hg hcode C hps htr hf hgT hb fun c' ctv h' tk hx hge' hlt hrec htab => ?_
    have keep : ∀ b o, b ∉ [T] → s.heap.get? b = some o → (h'.push (kla_obj "<lambda>" (env.qual ++ "<lambda>") params body scope [] ((mg "__name__").getD .none) c' ctv)).get? b = some o := fun b o hb e =>
      Heap.get?_push_of_some _ (hx b o (fun q => hb (q ▸ .head _)) e)
    have hT2 := Heap.get?_push_of_some (kla_obj "<lambda>" (env.qual ++ "<lambda>") params body scope [] ((mg "__name__").getD .none) c' ctv) htab
    have S2 := S.ticks (T := [T]) (fun I hI => by
      rw [List.mem_singleton.mp hI]
      exact ⟨tb.hid, tb.notown, tb.base, _, hT2⟩) keep
    refine hQ _ _ S2 ⟨tb.hid, tb.base, tb.code, tb.bi, tb.notown, _, hT2, ?_⟩ (fun b o hb e => keep b o (by simpa using hb) e) ⟨_, Heap.get?_push_size _ rfl, rfl⟩ ⟨rfl, id⟩
    rw [Array.toList_append]
    exact triples_snoc htr
end
end

section
section
variable {prog : Program} {w : World} {k : Nat} {P : Params} {mg mb : Str → Option Value} {c T : Addr}
variable {env : Env} {ρ ρ' : List (Str × D)} {σ : List (Addr × List D)} {R : Post}
theorem SOT.sub {x y : Str} {px py p1 ap pos lpos spos : Pos} {params : Arguments} {body : Expr} {scope : Scope} {z : Str} (hgT : mainGlobals ≠ T)
    (hre : EV prog w (kap P mg mb).pg k env ρ σ (.Name "_twin_re_1" p1) (.val (.ref 36))) (hx : EV prog w (kap P mg mb).pg k env ρ σ (.Name x px) (.str z)) (hm : Miss z) (hz : z.length ≤ 1000)
    (hy : Sto env y) (u : Upd y (.str z) ρ ρ') (hR : R .next ρ' σ)
    (hdef : defaultsOf params env = ([], []) := by rfl) (hcl : closureFor scope env = pure [] := by rfl) (hge : env.globals = mainGlobals := by rfl) (hcode : env.code = .ref c := by rfl)
    (hs : swapsWith (.Call (.Attribute (.Name "_twin_re_1" p1) "sub" ap) [.Lambda params body scope lpos, .Name x px] [] pos) (some (.Name y py)) spos.line env = pure false := by rfl)
    (hse : starEach [.Lambda params body scope lpos, .Name x px] env = (false, eval (.Lambda params body scope lpos) env) :: starEach [.Name x px] env := by rfl) (hse2 : starEach [.Name x px] env = (false, eval (.Name x px) env) :: starEach [] env := by rfl)
    (hpl : (backTo pos (starEach [.Name x px] env)).any (·.1) = false := by rfl)
    (hfew : methodCallForm (2 + ([] : List Keyword).length) (backTo pos (starEach [.Lambda params body scope lpos, .Name x px] env)) (backToKw pos (keywordEach [] env)) = true := by rfl) (hline : (ap.endLine == pos.line) = true := by rfl) :
    SOT prog w (kap P mg mb).pg mg c T k env ρ σ (.Assign [.Name y py] (.Call (.Attribute (.Name "_twin_re_1" p1) "sub" ap) [.Lambda params body scope lpos, .Name x px] [] pos) spos) R := fun h₀ H₀ A s Q E r S tb q => by
  refine wpAny_Assign_Name (mCall (name := "sub") rfl hfew hline (hre A s _ _ E r S.nm fun vo s₁ x₁ ro => ?_)) hs
  cases ro
  have S1 := S.grow x₁.sub
  have tb1 := tb.grow x₁.sub
  have h36 := vis_of (S1.nm.prog.1 _ _ (r36.look P))
  refine getMethod_builtin ⟨_, h36, rfl⟩ plainAttrs_re slot_re_sub type_re_sub (fun a e => by cases e; exact ⟨_, h36, rfl⟩) ?_
  refine callWith_method1 ?_ hse hpl
  rw [hse]
  show wpAny _ A (spliced ((false, eval (.Lambda params body scope lpos) env) :: backTo pos (starEach [.Name x px] env))) _ _ s₁
  refine Calls.spliced_cons (lam_make hdef hcl hge hcode S1 tb1 (S1.nm.prog.2.1.keeps (vis_le _ _)) hgT fun f s₂ S2 tb2 keep hf os2 => ?_)
  refine (EVS.cons hx EVS.nil hse2) A s₂ _ _ E pos r S2.nm fun vs s₃ x₃ rv => ?_
  cases rv with
  | cons rv r0 =>
    cases r0; cases rv
    have S3 := S2.grow x₃.sub
    have tb3 := tb2.grow x₃.sub
    have hf3 : s₃.TypeIs (.ref f) "function" := by obtain ⟨o, e1, e2⟩ := hf; exact ⟨o, x₃.sub _ _ e1, e2⟩
    refine re_sub r.handled (fun a o e => vis_of (S3.nm.prog.1 a o e)) hf3 hm hz fun t' s₄ x₄ => ?_
    have S4 := S3.grow x₄.sub
    have tb4 := tb3.grow x₄.sub
    refine St.store S4 hy u (.str _ _) fun h' tk S' hk => ?_
    obtain ⟨ps, e1, e2⟩ := tb4.tab
    exact q .next .next _ _ _ hR S' ⟨tb4.hid, tb4.base, tb4.code, tb4.bi, tb4.notown, ps, hk _ _ tb4.notown e1, e2⟩ rfl ⟨((x₄.os.trans x₃.os).trans os2.os).trans x₁.os, fun h => x₄.gens (x₃.gens (os2.gens (x₁.gens h)))⟩
end
end

section
def NoOcc (a y : Str) : Prop := (Builtin.Str.occurrences y a 0 y.length (y.length + 1)).isEmpty = true
section
variable {prog : Program} {w : World} {A : Around} {E : Value → Shared → Prop} {s : Shared}
theorem rep_step {Q : Value → Shared → Prop} {y a b : Str} {t u v : Tok} (ho : NoOcc a y) (h : Q (.str y t) s) : wpAny (model prog w) A (call (.builtin "str.replace") [.str y t, .str a u, .str b v]) Q E s := by
  unfold NoOcc at ho
  refine call_gives F.slot_str_replace (typeIs_str _ _ _) F.entry_str_replace (F.args_str_replace_3 _ _ _) (gives_str_replace y a b t u v fun hh => by rw [ho] at hh; cases hh) ?_
  rw [ho]
  exact h
theorem rep_eval {Q : Value → Shared → Prop} {env : Env} {o : Expr} {n1 n2 : Nat} {p1 p2 ap pos : Pos} {y a b : Str} {t : Tok} (ho : NoOcc a y)
    (h : wpAny (model prog w) A (eval o env) (fun v s₁ => v = .str y t ∧ ∀ tk, Q (.str y t) { s₁ with toks := tk }) E s)
    (hse : starEach [.Constant (.str a) n1 p1, .Constant (.str b) n2 p2] env = (false, eval (.Constant (.str a) n1 p1) env) :: starEach [.Constant (.str b) n2 p2] env) (hse2 : starEach [.Constant (.str b) n2 p2] env = (false, eval (.Constant (.str b) n2 p2) env) :: starEach [] env)
    (hnil : backTo pos (starEach [] env) = []) (hpl : (backTo pos (starEach [.Constant (.str b) n2 p2] env)).any (·.1) = false)
    (hbase : attributeBase o "replace" env (eval o env) = eval o env)
    (hfew : methodCallForm ([Expr.Constant (.str a) n1 p1, .Constant (.str b) n2 p2].length + ([] : List Keyword).length) (backTo pos (starEach [.Constant (.str a) n1 p1, .Constant (.str b) n2 p2] env)) (backToKw pos (keywordEach [] env)) = true) (hline : (ap.endLine == pos.line) = true) :
    wpAny (model prog w) A (eval (.Call (.Attribute o "replace" ap) [.Constant (.str a) n1 p1, .Constant (.str b) n2 p2] [] pos) env) Q E s := by
  refine mCall (name := "replace") hbase hfew hline (wpAny_mono h (fun v s₁ h₁ => ?_) fun _ _ e => e)
  obtain ⟨rfl, hq⟩ := h₁
  refine GM.replace (callWith_method1 ?_ hse hpl)
  rw [hse]
  show wpAny _ A (spliced ((false, eval (.Constant (.str a) n1 p1) env) :: backTo pos (starEach [.Constant (.str b) n2 p2] env))) _ _ s₁
  refine Calls.spliced_cons (Calls.Constant_str ?_)
  rw [hse2]
  show wpAny _ A (spliced ((false, eval (.Constant (.str b) n2 p2) env) :: backTo pos (starEach [] env))) _ _ _
  refine Calls.spliced_cons (Calls.Constant_str ?_)
  rw [hnil]
  exact Calls.spliced_nil (rep_step ho (hq _))
end
section
variable {prog : Program} {w : World} {k : Nat} {P : Params} {mg mb : Str → Option Value} {c T : Addr}
variable {env : Env} {ρ ρ' : List (Str × D)} {σ : List (Addr × List D)} {R : Post}
theorem SOT.join {y x : Str} {py ap pos gpos spos px p1 : Pos} {n1 : Nat} {sep : Str} {elt iter : Expr} {scope : Scope} {xs : List Str} (hgT : mainGlobals ≠ T)
    (hi : EV prog w (kap P mg mb).pg k env ρ σ iter (.list (xs.map .str))) (hz : xs.length ≤ 1000) (hok : JoinOk sep xs = true)
    (helt : ∀ (C : Addr) (code : Value) (A' : Around) E' (a : Str) (t : Tok) (s₂ : Shared) m₂, a ∈ xs → s₂.heap.Ns (genEnv scope [] C code builtinsNs env).locals m₂ → m₂ x = some (.str a t) →
      wpAny (model prog w) A' (eval elt (genEnv scope [] C code builtinsNs env)) (fun v s₃ => v = .str a t ∧ Keeps s₂ s₃) E' s₂)
    (hy : Sto env y) (u : Upd y (.str (Txt.join sep xs)) ρ ρ') (hR : R .next ρ' σ)
    (hco : scope.isCoroutine = false := by rfl) (hclos : closureFor scope env = pure [] := by rfl) (hcell : ∀ y ∈ scope.names, y.2 ≠ .cell := by decide) (h0 : scope.names.lookup (".0" : Str) = some NameKind.local := by rfl)
    (hxl : scope.names.lookup x = some .local := by rfl) (hkind : scope.kind = .function := by rfl) (hge : env.globals = mainGlobals := by rfl) (hcode : env.code = .ref c := by rfl)
    (hgf : ∀ v, genFold iter env v = pure v := by intro _; rfl)
    (hs : swapsWith (.Call (.Attribute (.Constant (.str sep) n1 p1) "join" ap) [.GeneratorExp elt [⟨.Name x px, iter, [], 0⟩] scope gpos] [] pos) (some (.Name y py)) spos.line env = pure false := by rfl)
    (hse : starEach [.GeneratorExp elt [⟨.Name x px, iter, [], 0⟩] scope gpos] env = (false, eval (.GeneratorExp elt [⟨.Name x px, iter, [], 0⟩] scope gpos) env) :: starEach [] env := by rfl)
    (hnil : backTo pos (starEach [] env) = [] := by rfl)
    (hfew : methodCallForm (1 + ([] : List Keyword).length) (backTo pos (starEach [.GeneratorExp elt [⟨.Name x px, iter, [], 0⟩] scope gpos] env)) (backToKw pos (keywordEach [] env)) = true := by rfl) (hline : (ap.endLine == pos.line) = true := by rfl) :
    SOT prog w (kap P mg mb).pg mg c T k env ρ σ (.Assign [.Name y py] (.Call (.Attribute (.Constant (.str sep) n1 p1) "join" ap) [.GeneratorExp elt [⟨.Name x px, iter, [], 0⟩] scope gpos] [] pos) spos) R := fun h₀ H₀ A s Q E r S tb q => by
  refine wpAny_Assign_Name (mCall (name := "join") rfl hfew hline (Calls.Constant_str (GM.join (callWith_method1 ?_ hse (by rw [hnil]; rfl))))) hs
  rw [hse]
  show wpAny _ A (spliced ((false, eval (.GeneratorExp elt [⟨.Name x px, iter, [], 0⟩] scope gpos) env) :: backTo pos (starEach [] env))) _ _ _
  have x0 := Ext.tok s (s.toks + 1)
  have S0 := S.grow x0.sub
  refine Calls.spliced_cons (wpAny_GeneratorExp_walksQ r.handled hco hclos hcell h0 hxl hkind r.lim (hi A { s with toks := s.toks + 1 } _ _ E r S0.nm fun xv s₁ x₁ rx => ?_) hgf)
  have S1 := S0.grow x₁.sub
  have tb1 := (tb.grow x0.sub).grow x₁.sub
  cases rx with
  | list hl rl =>
    rename_i l vs n
    have hl1 : IsL s₁.heap l vs.toArray n := vis_of hl
    refine wpAny_pyIter_list hl1.isList ?_
    have hnl : s₁.heap.NoLimit := S1.nm.prog.2.2.2.keeps (vis_le _ _)
    refine ⟨hnl.keeps (Sub.push _ _), ?_⟩
    have hT1 : T < s₁.heap.objs.size := by obtain ⟨ps, e, _⟩ := tb1.tab; exact Heap.lt_size e
    have hlT : l ≠ T := fun e => vis_not hl (e ▸ List.mem_append.mpr (.inr tb1.hid))
    have hll : l < s₁.heap.objs.size := Heap.lt_size hl1
    have hlen : vs.length = xs.length := by rw [rl.length, List.length_map]
    have hcs : cStatics < s₁.heap.objs.size := by obtain ⟨_, hn, _⟩ := hnl; exact hn.lt
    generalize hI : s₁.heap.objs.size = I at hT1 hll hcs
    generalize hh2 : s₁.heap.push { cls := .type "list_iterator", data := .fields #[.ref l, .int 0 0] } = h2
    have sub2 : Sub s₁.heap h2 := hh2 ▸ Sub.push _ _
    have hI2 : h2.IsListIter I l 0 := by rw [← hh2, ← hI]; exact ⟨_, Heap.get?_push_size _ rfl, rfl, rfl⟩
    have S2 := S1.grow sub2
    have hIn : s₁.heap.get? I = Option.none := hI ▸ none_size _
    have S2' : St (kap P mg mb).pg h₀ (I :: H₀) env ρ σ h2 := S1.hide sub2 hIn (let ⟨o, e, _⟩ := hI2; ⟨o, e⟩)
    have hIown : I ∉ own env σ ++ H₀ := fun hm => by
      obtain ⟨o, e⟩ := S1.nm.bound I hm
      rw [hIn] at e; cases e
    have hIb : h₀.get? I = Option.none := by
      cases z : h₀.get? I with
      | none => rfl
      | some o => rw [S1.base _ _ z] at hIn; cases hIn
    have tb2 := tb1.grow sub2
    obtain ⟨ps, hps, htr⟩ := tb2.tab
    have C2 : CodeHd h2 c T := tb2.code.keeps S2.base
    refine wpAny_mono (Q := fun code s₃ => ∃ h3 tk, s₃ = { s₁ with heap := h3, toks := tk } ∧ (∀ b o, b ≠ T → h2.get? b = some o → h3.get? b = some o) ∧ ∃ ps', h3.get? T = some (tabObj ps') ∧ TriplesOk ps'.toList) ?_ (fun code s₃ h3' => ?_) fun _ _ e => e
    · cases hf : codeAmong gpos ps.toList with
      | some cv => exact wpAny_genexprCode_hit hcode (C2.code hps htr) hf ⟨h2, _, rfl, fun b o _ e => e, ps, hps, htr⟩
      | none =>
        refine wpAny_genexprCodeX hcode (C2.code hps htr) (C2.tab hps) hf fun c' h' tk hx hge' hlt hic hrec htab _ => ⟨h', tk, rfl, fun b o hb e => hx b o hb e, _, htab.2, ?_⟩
        rw [Array.toList_append]
        exact triples_snoc htr
    obtain ⟨h3, tk3, rfl, keep3, ps3, hps3, htr3⟩ := h3'
    have S3 : St (kap P mg mb).pg h₀ H₀ env ρ σ h3 := S2.ticks (T := [T]) (fun J hJ => by
      rw [List.mem_singleton.mp hJ]
      exact ⟨tb2.hid, tb2.notown, tb2.base, _, hps3⟩) (fun b o hb e => keep3 b o (by simpa using hb) e)
    have S3' : St (kap P mg mb).pg h₀ (I :: H₀) env ρ σ h3 := S2'.ticks (T := [T]) (fun J hJ => by
      rw [List.mem_singleton.mp hJ]
      exact ⟨.tail _ tb2.hid, tb2.notown, tb2.base, _, hps3⟩) (fun b o hb e => keep3 b o (by simpa using hb) e)
    obtain ⟨bm, ob, hbm, hne0, _, hneP, hbo, hcls, hdict, hdata⟩ := tb2.bi
    refine wpAny_builtinsFor (m := mg) (hge ▸ S3.nm.prog.2.1.keeps (vis_le _ _)) hbm hne0 (S3.base _ _ hbo) hcls hdict hdata ?_
    have hIT : I ≠ T := Nat.ne_of_gt hT1
    obtain ⟨oI, hoI, hoI'⟩ := hI2
    have hI3 : h3.get? I = some oI := keep3 _ _ hIT hoI
    have hl3 : IsL h3 l vs.toArray n := keep3 _ _ hlT (sub2 _ _ hl1)
    refine ⟨I, [I, l], [I], vs.toArray.size, fun i v => vs.toArray[i]? = some v, fun i h => h.IsListIter I l i ∧ h.IsList l vs.toArray, fun _ => true, fun i v => ∃ t, v = .str (xs.getD i "") t, rfl,
      (fun A' hA => Walks.list hA _ _ (Nat.ne_of_lt hll) vs.toArray), ⟨⟨oI, hI3, hoI'⟩, hl3.isList⟩, fun b hb => ?_, S3.nm.prog.2.2.2.keeps (vis_le _ _), fun hm => ?_, fun href hhref => ?_, fun a h₅ tk gs hgb hag hsz₅ hk₅ W hat => ?_⟩
    · rcases List.mem_cons.mp hb with rfl | hb
      · exact Heap.lt_size hI3
      · rw [List.mem_singleton.mp hb]; exact Heap.lt_size hl3
    · rw [List.mem_singleton.mp hm] at hcs; exact Nat.lt_irrefl _ hcs
    · have strAt : ∀ i v, vs.toArray[i]? = some v → ∃ t, v = .str (xs.getD i "") t ∧ xs.getD i "" ∈ xs := fun i v hv => by
        obtain ⟨d, hd, rv⟩ := rl.getV (by simpa using hv : vs[i]? = some v)
        rw [List.getElem?_map] at hd
        cases e : xs[i]? with
        | none => rw [e] at hd; cases hd
        | some z =>
          rw [e] at hd
          obtain rfl : D.str z = d := Option.some.inj hd
          cases rv
          have : xs.getD i "" = z := by rw [List.getD_eq_getElem?_getD, e]; rfl
          rw [this]
          exact ⟨_, rfl, List.mem_of_getElem? e⟩
      refine ⟨fun A' E' i v s₂ m₂ hA hPi hns hmx _ => wpAny_tests_nil ⟨rfl, _, _, rfl, fun _ _ e => e⟩, fun A' E' i v s₂ m₂ hA hPi _ hns hmx _ => ?_⟩
      obtain ⟨t, rfl, hm⟩ := strAt i v hPi
      refine wpAny_mono (helt _ _ A' E' _ t s₂ m₂ hm hns hmx) (fun v s₃ h => ?_) fun _ _ e => e
      exact ⟨⟨t, h.1⟩, h.2⟩
    · rw [hnil]
      refine Calls.spliced_nil ?_
      have W := W.in4_2
      refine SC.joinGen W (fun i s' st => st.1.typeIs) hat (fun b hb => ?_) List.mem_cons_self (fun j v hv => by
        obtain ⟨i, _, t, e⟩ := hv; exact ⟨_, t, e⟩) (fun s' lt hm hacc => ?_) ?_
      · show b < h₅.objs.size
        rw [hsz₅]
        rcases List.mem_cons.mp hb with rfl | hb
        · exact Nat.lt_succ_self _
        · rcases List.mem_cons.mp hb with rfl | hb
          · exact Nat.lt_succ_of_lt hag
          · exact Nat.lt_succ_of_lt (Nat.lt_trans (List.mem_range.mp hb) hag)
      · have hl4 : lt.map (·.1) = xs := by
          have hpas : passing (fun _ => true) vs.toArray.size 0 = List.range vs.length := by simp [passing]
          rw [hpas, List.length_range] at hacc
          have hsz : lt.length = xs.length := by rw [← hlen]; simpa [strValues] using hacc.1
          apply List.ext_getElem?
          intro j
          by_cases hj : j < xs.length
          · have hj' : j < lt.length := hsz ▸ hj
            obtain ⟨i', hi', t, ht⟩ := hacc.2 j (.str lt[j].1 lt[j].2) (by simp [strValues, List.getElem?_eq_getElem hj'])
            have : i' = j := by
              have := (List.getElem?_eq_some_iff.mp hi').2
              simpa using this.symm
            subst this
            injection ht with h1 _
            rw [List.getElem?_map, List.getElem?_eq_getElem hj', Option.map_some, h1, List.getElem?_eq_getElem hj, List.getD_eq_getElem?_getD, List.getElem?_eq_getElem hj]
            rfl
          · rw [List.getElem?_eq_none (by simpa [hsz] using Nat.le_of_not_lt hj), List.getElem?_eq_none (by simpa using Nat.le_of_not_lt hj)]
        rw [hl4]
        refine ⟨hok, fun t' kk => ?_⟩
        have hx5 : ∀ b o, b ≠ I → h3.get? b = some o → s'.heap.get? b = some o := fun b o hb e => hm.heap b o (fun hmem => by
          rcases List.mem_cons.mp hmem with rfl | hmem
          · rw [none_size] at e; cases e
          · exact hb (List.mem_singleton.mp hmem)) (hk₅ b o e)
        have S5 : St (kap P mg mb).pg h₀ H₀ env ρ σ s'.heap := S3'.dropHid hIown hIb hx5
        have tb5 : TB mg c T h₀ H₀ env σ s'.heap := ⟨tb2.hid, tb2.base, tb2.code, tb2.bi, tb2.notown, ps3, hx5 _ _ (Ne.symm hIT) hps3, htr3⟩
        refine St.store (s := { s' with toks := kk }) S5 hy u (.str _ _) fun h' tk' S' hk => ?_
        refine q .next .next _ _ _ hR S' ⟨tb5.hid, tb5.base, tb5.code, tb5.bi, tb5.notown, ps3, hk _ _ tb5.notown (hx5 _ _ (Ne.symm hIT) hps3), htr3⟩ rfl ⟨hm.os.trans (x₁.os.trans x0.os), fun hb => ?_⟩
        have hb1 : AllBare (s₁.gens.push gs) := (x₁.gens (x0.gens hb)).push hgb
        exact hb1.moved hm.gens
      · have : (passing (fun _ => true) vs.toArray.size 0).length ≤ vs.length := by
          unfold passing
          refine Nat.le_trans (List.length_filter_le _ _) ?_
          simp
        exact Nat.le_trans this (Nat.le_trans (hlen ▸ hz) (by decide))
end
end

section
section
variable {prog : Program} {w : World} {G : Pg} {k : Nat} {env : Env} {ρ ρ' : List (Str × D)} {σ : List (Addr × List D)} {R : Post} {mg : Str → Option Value} {c T : Addr} {h₀ h h' : Heap} {H₀ H : List Addr}
theorem Nm.forget (N : Nm G env ρ σ H h) (hs : ∀ p ∈ ρ', p ∈ ρ) : Nm G env ρ' σ H h := ⟨N.prog, N.fn, N.bound, fun p hp => N.names p (hs p hp), N.locs⟩
theorem TV.forget {e : Expr} {b : Bool} (hs : ∀ p ∈ ρ', p ∈ ρ) (h : TV prog w G k env ρ' σ e b) : TV prog w G k env ρ σ e b := fun A s H Q E r N q => h A s H Q E r (N.forget hs) q
theorem EV.forget {e : Expr} {d : D} (hs : ∀ p ∈ ρ', p ∈ ρ) (h : EV prog w G k env ρ' σ e d) : EV prog w G k env ρ σ e d := fun A s H Q E r N q => h A s H Q E r (N.forget hs) q
theorem St.forget (S : St G h₀ H₀ env ρ σ h) (hs : ∀ p ∈ ρ', p ∈ ρ) (hn : (ρ'.map (·.1)).Nodup) : St G h₀ H₀ env ρ' σ h := ⟨S.base, S.nm.forget hs, S.fresh, S.nodup, hn, S.ns, S.cells, S.apart⟩
theorem SX.forget {body : List Stmt} (hs : ∀ p ∈ ρ', p ∈ ρ) (hn : (ρ'.map (·.1)).Nodup) (h : SX prog w G k env ρ' σ body R) : SX prog w G k env ρ σ body R := fun h₀ H₀ A s Q E r S q => h h₀ H₀ A s Q E r (S.forget hs hn) q
theorem SXT.forget {body : List Stmt} (hs : ∀ p ∈ ρ', p ∈ ρ) (hn : (ρ'.map (·.1)).Nodup) (h : SXT prog w G mg c T k env ρ' σ body R) : SXT prog w G mg c T k env ρ σ body R := fun h₀ H₀ A s Q E r S t q => h h₀ H₀ A s Q E r (S.forget hs hn) t q
theorem TB.freeze {a : Addr} {ds : List D} {σ₁ σ₂ : List (Addr × List D)} (t : TB mg c T h₀ H₀ env (σ₁ ++ (a, ds) :: σ₂) h) : TB mg c T h₀ H₀ env (σ₁ ++ σ₂) h := ⟨t.hid, t.base, t.code, t.bi, fun hm => t.notown (own_sub hm), t.tab⟩
theorem SXT.freeze {a : Addr} {ds : List D} {σ₁ σ₂ : List (Addr × List D)} {body : List Stmt} (f : Fz a ds ρ ρ') (h : SXT prog w G mg c T k env ρ' (σ₁ ++ σ₂) body R) : SXT prog w G mg c T k env ρ (σ₁ ++ (a, ds) :: σ₂) body R := fun h₀ H₀ A s Q E r S t q =>
  h h₀ H₀ A s Q E r (S.freeze f) t.freeze q
end

-- a pattern around a token
theorem seqIndex_of {j n : Nat} (h : j < n) : seqIndex? (j : Int) n = some j := seqIndex_nat h
theorem at1_nat {x : Str} {j : Nat} (h : j < x.length) : at1 x (j : Int) = some ⟨#[x.cps[j]]⟩ := by
  unfold at1
  rw [seqIndex_of h]
  have h' : j < x.cps.size := h
  show (x.cps[j]?).map _ = _
  rw [Array.getElem?_eq_getElem h']
  rfl
theorem cps_append (x y : Str) : (x ++ y).cps = x.cps ++ y.cps := rfl
theorem len_append (x y : Str) : (x ++ y).length = x.length + y.length := by
  show (x.cps ++ y.cps).size = _
  rw [Array.size_append]; rfl
theorem at1_mid {pre t suf : Str} {q : Nat} (h : q < t.length) : at1 (pre ++ t ++ suf) ((pre.length + q : Nat) : Int) = at1 t (q : Int) := by
  have hl : pre.length + q < (pre ++ t ++ suf).length := by rw [len_append, len_append]; omega
  rw [at1_nat hl, at1_nat h]
  congr 3
  have h1 : q < t.cps.size := h
  have h2 : pre.length = pre.cps.size := rfl
  simp only [cps_append]
  rw [Array.getElem_append_left (by rw [Array.size_append]; omega), Array.getElem_append_right (by omega)]
  have e : pre.length + q - pre.cps.size = q := by omega
  simp only [e]
  rfl
theorem cut_mid {x : Str} {a b : Nat} (hab : a ≤ b) (hb : b ≤ x.length) : cutS x (some (a : Int)) (some (b : Int)) Option.none = ⟨x.cps.extract a b⟩ := by
  have hi : Builtin.Str.strSliceIndices (some (a : Int)) (some (b : Int)) 1 x.length = (List.range (b - a)).map (a + ·) := by
    have ea : (if (a : Int) < 0 then (a : Int) + x.length else a) = a := if_neg (by omega)
    have eb : (if (b : Int) < 0 then (b : Int) + x.length else b) = b := if_neg (by omega)
    show sliceRange (if (1 : Int) > 0 then max 0 (min (if (a : Int) < 0 then (a : Int) + x.length else a) x.length) else _) (if (1 : Int) > 0 then max 0 (min (if (b : Int) < 0 then (b : Int) + x.length else b) x.length) else _) 1 = _
    rw [if_pos (show (1 : Int) > 0 by decide), if_pos (show (1 : Int) > 0 by decide), ea, eb]
    have h1 : max (0 : Int) (min (a : Int) x.length) = (a : Int) := by omega
    have h2 : max (0 : Int) (min (b : Int) x.length) = (b : Int) := by omega
    rw [h1, h2, sliceRange_one]
  have hf : (((List.range (b - a)).map (a + ·)).filterMap (x.cps[·]?)).toArray = x.cps.extract a b := by
    apply Array.ext'
    rw [List.toList_toArray, List.filterMap_map]
    have : ∀ n, a + n ≤ x.cps.size → (List.range n).filterMap ((x.cps[·]?) ∘ (a + ·)) = (x.cps.extract a (a + n)).toList := by
      intro n
      induction n with
      | zero => intro _; simp
      | succ n ih =>
        intro hn
        rw [List.range_succ, List.filterMap_append, ih (by omega)]
        have : x.cps[a + n]? = some (x.cps[a + n]'(by omega)) := Array.getElem?_eq_getElem _
        simp only [List.filterMap_cons, Function.comp, this, List.filterMap_nil]
        rw [← Array.toList_push]
        congr 1
        rw [show a + (n + 1) = a + n + 1 from rfl]
        rw [Array.push_extract_getElem (by omega)]
        congr 1
        omega
    have := this (b - a) (by have : x.cps.size = x.length := rfl; omega)
    rw [this, show a + (b - a) = b from by omega]
  unfold cutS
  show (if (true && (Builtin.Str.strSliceIndices (some (a : Int)) (some (b : Int)) 1 x.length).length == x.length) = true then x else ⟨((Builtin.Str.strSliceIndices (some (a : Int)) (some (b : Int)) 1 x.length).filterMap (x.cps[·]?)).toArray⟩) = _
  rw [hi, hf]
  split
  · rename_i h
    have hl : b - a = x.length := by simpa using h
    have ha : a = 0 := by omega
    have hb' : b = x.cps.size := by have : x.cps.size = x.length := rfl; omega
    rw [ha, hb', Array.extract_size]
  · rfl
theorem cut_tok {pre t suf : Str} {a b : Nat} (hab : a ≤ b) (hb : b ≤ t.length) : cutS (pre ++ t ++ suf) (some ((pre.length + a : Nat) : Int)) (some ((pre.length + b : Nat) : Int)) Option.none = ⟨t.cps.extract a b⟩ := by
  rw [cut_mid (by omega) (by rw [len_append, len_append]; omega)]
  congr 1
  have h1 : t.cps.size = t.length := rfl
  have h2 : pre.cps.size = pre.length := rfl
  apply Array.ext
  · simp only [cps_append, Array.size_extract, Array.size_append]; omega
  · intro i hi1 hi2
    simp only [cps_append, Array.size_extract, Array.size_append] at hi1 hi2
    simp only [cps_append, Array.getElem_extract]
    rw [Array.getElem_append_left (by rw [Array.size_append]; omega), Array.getElem_append_right (by omega)]
    congr 1
    omega
end

section
theorem subAt_iff {x : Str} {c i : Nat} : Builtin.Str.subAt x ⟨#[c]⟩ i = true ↔ x.cps[i]? = some c := by
  unfold Builtin.Str.subAt
  rw [beq_iff_eq]
  constructor
  · intro h
    have h0 : (x.cps.extract i (i + 1))[0]? = some c := by
      have : x.cps.extract i (i + (⟨#[c]⟩ : Str).length) = #[c] := h
      have h' : x.cps.extract i (i + 1) = #[c] := this
      rw [h']; rfl
    rw [Array.getElem?_extract] at h0
    exact (by simpa using h0 : _ ∧ _).2
  · intro h
    have hi : i < x.cps.size := (Array.getElem?_eq_some_iff.mp h).1
    have hv := (Array.getElem?_eq_some_iff.mp h).2
    show x.cps.extract i (i + 1) = #[c]
    apply Array.ext
    · simp; omega
    · intro j h1 h2
      have : j = 0 := by simp at h2; exact h2
      subst this
      simp [hv]
theorem find_hit {x : Str} {c lo hi q : Nat} (h1 : lo ≤ q) (h2 : q < hi) (h3 : hi ≤ x.length) (h4 : x.cps[q]? = some c) (h5 : ∀ m, lo ≤ m → m < q → x.cps[m]? ≠ some c) : findV x ⟨#[c]⟩ lo hi = q := by
  unfold findV
  rw [Nat.min_eq_left h3, StrLaws.occ_eq]
  rcases StrLaws.occ_first x ⟨#[c]⟩ hi 1 (Nat.le_refl _) (List.range' lo (hi + 1 - lo)) lo (fun i hi' => by have := List.mem_range'_1.mp hi'; omega) with ⟨h0, hn⟩ | ⟨pre, a, post, e, h0, ha, hn⟩
  · exact absurd ⟨(by show q + 1 ≤ hi; omega), subAt_iff.mpr h4⟩ (hn q (by rw [List.mem_range'_1]; omega))
  · have ea : (List.range' lo (hi + 1 - lo))[pre.length]? = some a := by rw [e]; simp
    obtain ⟨hlt, ea'⟩ := List.getElem?_eq_some_iff.mp ea
    rw [List.getElem_range'] at ea'
    rw [List.length_range'] at hlt
    have hca := subAt_iff.mp ha.2
    have haq : ¬ a < q := fun hl => h5 a (by omega) hl hca
    have hqa : ¬ q < a := fun hl => by
      have hk : (List.range' lo (hi + 1 - lo))[q - lo]? = some q := by
        rw [List.getElem?_eq_getElem (by rw [List.length_range']; omega), List.getElem_range']
        congr 1; omega
      rw [e, List.getElem?_append_left (by omega)] at hk
      exact hn q (List.mem_of_getElem? hk) ⟨by show q + 1 ≤ hi; omega, subAt_iff.mpr h4⟩
    have : a = q := by omega
    subst this
    have hl : (forIn (List.range' lo (hi + 1 - lo)) ((#[] : Array Nat), lo) (StrLaws.occBody x ⟨#[c]⟩ hi 1)).run.fst.toList[0]? = some a := by
      rw [Array.getElem?_toList]; exact h0
    cases hz : (forIn (List.range' lo (hi + 1 - lo)) ((#[] : Array Nat), lo) (StrLaws.occBody x ⟨#[c]⟩ hi 1)).run.fst.toList with
    | nil => rw [hz] at hl; cases hl
    | cons z zs =>
      rw [hz] at hl
      have : z = a := Option.some.inj hl
      rw [this]
theorem find_miss {x : Str} {c lo hi : Nat} (h3 : hi ≤ x.length) (h5 : ∀ m, lo ≤ m → m < hi → x.cps[m]? ≠ some c) : findV x ⟨#[c]⟩ lo hi = -1 := by
  unfold findV
  rw [Nat.min_eq_left h3, StrLaws.occ_eq]
  rcases StrLaws.occ_first x ⟨#[c]⟩ hi 1 (Nat.le_refl _) (List.range' lo (hi + 1 - lo)) lo (fun i hi' => by have := List.mem_range'_1.mp hi'; omega) with ⟨h0, hn⟩ | ⟨pre, a, post, e, h0, ha, hn⟩
  · rw [h0]
  · have hm : a ∈ List.range' lo (hi + 1 - lo) := by rw [e]; simp
    have hm' := List.mem_range'_1.mp hm
    exact absurd (subAt_iff.mp ha.2) (h5 a (by omega) (by have : a + 1 ≤ hi := ha.1; omega))
end

section
noncomputable def wBody : List Stmt := match f55.body[3]? with
  | some (Stmt.While _ b _ _) => b
  | _ => []
noncomputable def brB : List Stmt := match wBody[2]? with
  | some (Stmt.If _ _ (Stmt.If _ _ (Stmt.If _ b _ _ :: _) _ :: _) _) => b
  | _ => []
noncomputable def elB : List Stmt := match brB[4]? with
  | some (Stmt.If _ _ b _) => b
  | _ => []
noncomputable def dashB : List Stmt := match elB[1]? with
  | some (Stmt.If _ _ b _) => b
  | _ => []
section
variable {prog : Program} {w : World} {k : Nat} {P : Params} {mg mb : Str → Option Value}
variable {env : Env} {ρ ρ' : List (Str × D)} {σ : List (Addr × List D)} {R : Post}
abbrev rhoT (pat : Str) (a : Addr) (i n : Int) (tl : List (Str × D)) : List (Str × D) :=
  ("pat", .str pat) :: ("STAR", .none) :: ("QUESTION_MARK", .str ".") :: ("res", .loc a) :: ("add", .meth "list.append" a) :: ("i", .int i) :: ("n", .int n) :: tl
theorem rhoT_sub {pat : Str} {a : Addr} {i n : Int} {tl : List (Str × D)} : ∀ p ∈ rhoT pat a i n [], p ∈ rhoT pat a i n tl := fun p hp => by
  have : rhoT pat a i n tl = rhoT pat a i n [] ++ tl := rfl
  rw [this]
  exact List.mem_append.mpr (.inl hp)
/-- what becomes of the text between the brackets -/
inductive TailOK : Str → Str → Prop
  | none : TailOK "" "(?!)"
  | bang : TailOK "!" "."
  | neg {st : Str} (h0 : st.length ≤ 900) (h1 : at1 st 0 = some "!") (h2 : (st == ("!" : Str)) = false) (h3 : 0 < st.length) : TailOK st ("[" ++ ("^" ++ cutS st (some 1) Option.none Option.none) ++ "]")
  | pos {st c : Str} (h0 : st.length ≤ 900) (h1 : at1 st 0 = some c) (h2 : (st == ("!" : Str)) = false) (h3 : 0 < st.length) (h4 : (c == ("!" : Str)) = false) (h5 : (["^", "["] : List Str).any (· == c) = false) : TailOK st ("[" ++ st ++ "]")
def NextIs (pat : Str) (a : Addr) (i n : Int) (ds : List D) : Post := fun o ρ σ => o = .next ∧ (∀ p ∈ rhoT pat a i n [], p ∈ ρ) ∧ σ = [(a, ds)]
theorem tail_ok (B : GB P mg mb) {L a : Addr} {pat st part c : Str} {i j n : Int} {ds : List D} {tl : List (Str × D)} (ht : TailOK st part) (hm : Miss st) (hz : ds.length ≤ 1000) :
    SXT prog w (kap P mg mb).pg mg 54 50 k (f55.en L) (rhoT pat a i n (("c", .str c) :: ("j", .int j) :: ("stuff", .str st) :: tl)) [(a, ds)] (elB.drop 2) (NextIs pat a (j + 1) n (ds ++ [.str part])) := by
  have hz' : ds.length < sizeLine := Nat.lt_of_le_of_lt hz (by decide)
  have hstl : st.length ≤ 1000 := by cases ht <;> first | decide | omega
  refine .cons (.sub (by decide) (.gname rfl rfl (B.g _ _ (by kernel_rfl))) (.name rfl) hm hstl (.inl rfl) (.skip (by decide) (.skip (by decide) (.skip (by decide) (.skip (by decide) (.skip (by decide) (.skip (by decide) (.skip (by decide) (.skip (by decide) (.skip (by decide) .here))))))))) ?_)
  refine .cons (.of (.assign (.bin (.name rfl) .int .add) (.inl rfl) (.skip (by decide) (.skip (by decide) (.skip (by decide) (.skip (by decide) (.skip (by decide) .here))))) ?_))
  refine .of ?_
  have fin : ∀ (st' : Str) (p : Str), (∀ q ∈ rhoT pat a (j + 1) n [], q ∈ rhoT pat a (j + 1) n (("c", .str c) :: ("j", .int j) :: ("stuff", .str st') :: tl)) := fun st' p => rhoT_sub
  cases ht with
  | none =>
    refine .cons (.ite (.not (.of (.name rfl) (.str (by decide)))) (fun h => ?_) (fun h => absurd h (by decide)))
    exact .cons (.appendVia (σ₁ := []) (σ₂ := []) (.name rfl) .str (.nil (.nil ⟨rfl, fin _ "", rfl⟩)) hz')
  | bang =>
    refine .cons (.ite (.not (.of (.name rfl) (.str (by decide)))) (fun h => absurd h (by decide)) (fun h => ?_))
    refine .cons (.ite (.cmp (.name rfl) .str .eq_str) (fun h => ?_) (fun h => absurd h (by decide)))
    exact .cons (.appendVia (σ₁ := []) (σ₂ := []) (.name rfl) .str (.nil (.nil (.nil ⟨rfl, fin _ "", rfl⟩))) hz')
  | neg h0 h1 h2 h3 =>
    have hne : (((st.length : Nat) : Int) != 0) = true := by rw [bne_iff_ne]; omega
    have hcl : (cutS st (some 1) Option.none Option.none).length ≤ 900 := cutS_len (by decide) h0
    refine .cons (.ite (.not (.of (.name rfl) (.str (by omega)))) (fun h => by rw [hne] at h; cases h) (fun h => ?_))
    refine .cons (.ite (.cmp (.name rfl) .str .eq_str) (fun h => by rw [h2] at h; cases h) (fun h => ?_))
    refine .cons (.ite (.cmp (.sub (.name rfl) .int (.at1 h1)) .str .eq_str) (fun h => ?_) (fun h => absurd h (by decide)))
    refine .cons (.assign (.bin .str (.slice_str (.name rfl) (l := some 1) (u := Option.none) (t := Option.none) .int trivial trivial (by decide) (Nat.le_trans hstl (by decide))) (.addS ?_)) (.inl rfl) (.skip (by decide) (.skip (by decide) (.skip (by decide) (.skip (by decide) (.skip (by decide) (.skip (by decide) (.skip (by decide) (.skip (by decide) (.skip (by decide) .here))))))))) (.nil ?_))
    · have e1 : ("^" : Str).length = 1 := rfl
      rw [e1]
      exact Nat.le_trans (by omega : _ ≤ 2000) (by decide)
    · refine .cons (.appendVia (σ₁ := []) (σ₂ := []) (.name rfl) (.brk (.name rfl) ?_) (.nil (.nil (.nil ⟨rfl, fin _ "", rfl⟩))) hz')
      have e1 : ("[" : Str).length = 1 := rfl
      have e2 : ("]" : Str).length = 1 := rfl
      have e3 : ("^" : Str).length = 1 := rfl
      rw [len_append, e1, e2, e3]
      omega
  | pos h0 h1 h2 h3 h4 h5 =>
    have hne : (((st.length : Nat) : Int) != 0) = true := by rw [bne_iff_ne]; omega
    refine .cons (.ite (.not (.of (.name rfl) (.str (by omega)))) (fun h => by rw [hne] at h; cases h) (fun h => ?_))
    refine .cons (.ite (.cmp (.name rfl) .str .eq_str) (fun h => by rw [h2] at h; cases h) (fun h => ?_))
    refine .cons (.ite (.cmp (.sub (.name rfl) .int (.at1 h1)) .str .eq_str) (fun h => by rw [h4] at h; cases h) (fun h => ?_))
    refine .cons (.ite (.cmp (.sub (.name rfl) .int (.at1 h1)) (.tup (.cons .str (.cons .str .nil))) (.in_tuple (ys := ["^", "["]))) (fun h => by rw [h5] at h; cases h) (fun h => .nil (.nil ?_)))
    refine .cons (.appendVia (σ₁ := []) (σ₂ := []) (.name rfl) (.brk (.name rfl) ?_) (.nil (.nil (.nil ⟨rfl, fin _ "", rfl⟩))) hz')
    have e1 : ("[" : Str).length = 1 := rfl
    have e2 : ("]" : Str).length = 1 := rfl
    rw [e1, e2]
    omega
end
end

section
section
variable {prog : Program} {w : World} {k : Nat} {P : Params} {mg mb : Str → Option Value}
variable {env : Env} {ρ ρ' : List (Str × D)} {σ : List (Addr × List D)} {R : Post}
theorem els_plain (B : GB P mg mb) {L a : Addr} {pat st part c : Str} {i j n : Int} {ds : List D} (hc : cutS pat (some i) (some j) Option.none = st) (hd : inS "-" st = false) (hno : NoOcc "\\" st) (ht : TailOK st part) (hm : Miss st) (hz : ds.length ≤ 1000) (hp : pat.length ≤ 1000) :
    SXT prog w (kap P mg mb).pg mg 54 50 k (f55.en L) (rhoT pat a i n [("c", .str c), ("j", .int j)]) [(a, ds)] elB (NextIs pat a (j + 1) n (ds ++ [.str part])) := by
  refine .cons (.of (.assign (.slice_str (.name rfl) (l := some i) (u := some j) (t := Option.none) (.name rfl) (.name rfl) trivial (by decide) (Nat.le_trans hp (by decide))) (.inl rfl) (.skip (by decide) (.skip (by decide) (.skip (by decide) (.skip (by decide) (.skip (by decide) (.skip (by decide) (.skip (by decide) (.skip (by decide) (.skip (by decide) .nil))))))))) ?_))
  rw [hc]
  refine .cons (.ite (.cmp .str (.name rfl) .notIn_str) (fun h => ?_) (fun h => by rw [hd] at h; cases h))
  refine .cons (.of (.assign (.mcall (name := "replace") (.name rfl) .replace (.cons .str (.cons .str .nil)) (.replace hno)) (.inl rfl) (.skip (by decide) (.skip (by decide) (.skip (by decide) (.skip (by decide) (.skip (by decide) (.skip (by decide) (.skip (by decide) (.skip (by decide) (.skip (by decide) .here))))))))) (.nil ?_)))
  exact tail_ok B (tl := []) ht hm hz
end
end

section
def chunksOf (A Bs : Str) : List Str := match at1 A (-1), at1 Bs 0 with
  | some ca, some cb => if gtS ca cb then [cutS A Option.none (some (-1)) Option.none ++ cutS Bs (some 1) Option.none Option.none] else [A, Bs]
  | _, _ => [A, Bs]
section
variable {prog : Program} {w : World} {k : Nat} {P : Params} {mg mb : Str → Option Value}
variable {env : Env} {ρ ρ' : List (Str × D)} {σ : List (Addr × List D)} {R : Post}
theorem dash_rest (B : GB P mg mb) {L a b : Addr} {pat st A Bs c ca cb : Str} {j i n : Int} {ds : List D} (hBl : 0 < Bs.length) (hAz : A.length ≤ 900) (hBz : Bs.length ≤ 900) (hca : at1 A (-1) = some ca) (hcb : at1 Bs 0 = some cb)
    (hx : ∀ x ∈ chunksOf A Bs, NoOcc "\\" x ∧ NoOcc "-" x) (hok : JoinOk "-" (chunksOf A Bs) = true)
    (hz : ds.length ≤ 1000)
    (hR : ∀ k', R .next (rhoT pat a i n [("c", .str c), ("j", .int j), ("stuff", .str (Txt.join "-" (chunksOf A Bs))), ("chunks", .list ((chunksOf A Bs).map .str)), ("k", .int k'), ("chunk", .str Bs)]) [(a, ds)]) :
    SXT prog w (kap P mg mb).pg mg 54 50 k (f55.en L) (rhoT pat a i n [("c", .str c), ("j", .int j), ("stuff", .str st), ("chunks", .loc b), ("k", .int (-1)), ("chunk", .str Bs)]) [(b, [.str A]), (a, ds)] (dashB.drop 4) R := by
  have hne : (((Bs.length : Nat) : Int) != 0) = true := by rw [bne_iff_ne]; omega
  refine .cons (.of (.ite (.of (.name rfl) (.str (by omega))) (fun _ => .cons (.append (σ₁ := []) (σ₂ := [(a, ds)]) (.name rfl) (.name rfl) (.nil ?_) (show (1 : Nat) < sizeLine by decide))) (fun h => by rw [hne] at h; cases h)))
  show SXT _ _ _ _ _ _ _ _ _ [(b, [.str A, .str Bs]), (a, ds)] _ _
  have fz : ∀ (kv : Int) (xs : List D), Fz b xs (rhoT pat a i n [("c", .str c), ("j", .int j), ("stuff", .str st), ("chunks", .loc b), ("k", .int kv), ("chunk", .str Bs)]) (rhoT pat a i n [("c", .str c), ("j", .int j), ("stuff", .str st), ("chunks", .list xs), ("k", .int kv), ("chunk", .str Bs)]) := fun kv xs =>
    .same (.same (.same (.same (.same (.same (.same (.same (.same (.same (.here (.same (.same .nil))))))))))))
  refine .cons (.of (.forIn (ds := [.int 1]) (fun m ρ σ => (m = 0 ∧ ρ = rhoT pat a i n [("c", .str c), ("j", .int j), ("stuff", .str st), ("chunks", .loc b), ("k", .int (-1)), ("chunk", .str Bs)] ∧ σ = [(b, [.str A, .str Bs]), (a, ds)]) ∨
      (m = 1 ∧ ρ = rhoT pat a i n [("c", .str c), ("j", .int j), ("stuff", .str st), ("chunks", .loc b), ("k", .int 1), ("chunk", .str Bs)] ∧ σ = [(b, (chunksOf A Bs).map .str), (a, ds)]))
    (d := .rng 1 0 (-1)) ?_ (it := .rng (n := 1) (by decide) (by decide)) (.inl rfl) (.inl ⟨rfl, rfl, rfl⟩) ?_ ?_))
  · refine .tncall B (.cons (.bin (da := .int 2) ?_ .int .sub) (.cons .int (.cons (.neg .int) .nil))) (.range3 (by decide) (by decide))
    refine .peek (fz (-1) [.str A, .str Bs]) (.head _) ?_ trivial
    exact .bncall B (.cons (.name rfl) .nil) (.len_list (ds := [.str A, .str Bs]) (show (2 : Nat) < 2 ^ 62 by decide))
  · rintro m d ρ σ hm (⟨rfl, rfl, rfl⟩ | ⟨rfl, _, _⟩)
    · cases hm
      refine ⟨_, .skip (by decide) (.skip (by decide) (.skip (by decide) (.skip (by decide) (.skip (by decide) (.skip (by decide) (.skip (by decide) (.skip (by decide) (.skip (by decide) (.skip (by decide) (.skip (by decide) .here)))))))))), ?_⟩
      show SX _ _ _ _ _ (rhoT pat a i n [("c", .str c), ("j", .int j), ("stuff", .str st), ("chunks", .loc b), ("k", .int 1), ("chunk", .str Bs)]) _ _ _
      refine .cons (.ite (b := gtS ca cb) ?_ (fun hg => ?_) (fun hg => .nil (.nil ?_)))
      · refine .peek (fz 1 [.str A, .str Bs]) (.head _) ?_
        exact .cmp (.sub (.sub (.name rfl) (.bin (.name rfl) .int .sub) (.list (by decide) (by decide) rfl)) (.neg .int) (.at1 hca)) (.sub (.sub (.name rfl) (.name rfl) (.list (by decide) (by decide) rfl)) .int (.at1 hcb)) .gt_str
      · have hch : chunksOf A Bs = [cutS A Option.none (some (-1)) Option.none ++ cutS Bs (some 1) Option.none Option.none] := by
          unfold chunksOf
          rw [hca, hcb]
          simp only [hg, if_true]
        refine .cons (.setItem (σ₁ := []) (σ₂ := [(a, ds)]) (j := 0) (d := .str (cutS A Option.none (some (-1)) Option.none ++ cutS Bs (some 1) Option.none Option.none)) (.peek (fz 1 [.str A, .str Bs]) (.head _) ?_ trivial) (.name rfl) (.bin (.name rfl) .int .sub) (show (0 : Nat) < 2 by decide) (show (2 : Nat) ≤ 1000 by decide) ?_)
        · exact .bin (.slice_str (.sub (.name rfl) (.bin (.name rfl) .int .sub) (.list (by decide) (by decide) rfl)) (l := Option.none) (u := some (-1)) (t := Option.none) trivial (.neg .int) trivial (by decide) (Nat.le_trans hAz (by decide)))
            (.slice_str (.sub (.name rfl) (.name rfl) (.list (by decide) (by decide) rfl)) (l := some 1) (u := Option.none) (t := Option.none) .int trivial trivial (by decide) (Nat.le_trans hBz (by decide))) (.addS (Nat.le_trans (Nat.add_le_add (cutS_len (by decide) hAz) (cutS_len (by decide) hBz)) (by decide)))
        · refine .cons (.delItem (σ₁ := []) (σ₂ := [(a, ds)]) (j := 1) (.name rfl) (.name rfl) (show (1 : Nat) < 2 by decide) (show (2 : Nat) ≤ 1000 by decide) (.nil (.nil ?_)))
          exact .inr ⟨rfl, rfl, by rw [hch]; rfl⟩
      · have hch : chunksOf A Bs = [A, Bs] := by
          unfold chunksOf
          rw [hca, hcb]
          simp [hg]
        exact .inr ⟨rfl, rfl, by rw [hch]; rfl⟩
    · cases hm
  · rintro ρ σ (⟨h, _, _⟩ | ⟨_, rfl, rfl⟩)
    · cases h
    refine .nil (SXT.freeze (σ₁ := []) (fz 1 _) ?_)
    refine .cons (.join (xs := chunksOf A Bs) (by decide) (.name rfl) ?_ hok ?_ (.inl rfl) (.skip (by decide) (.skip (by decide) (.skip (by decide) (.skip (by decide) (.skip (by decide) (.skip (by decide) (.skip (by decide) (.skip (by decide) (.skip (by decide) .here))))))))) (.nil (hR 1)))
    · unfold chunksOf
      split <;> first | (split <;> simp) | simp
    · intro C code A' E' y t s₂ m₂ hm hns hv
      obtain ⟨h1, h2⟩ := hx y hm
      refine rep_eval (t := t) h2 ?_ rfl rfl rfl rfl rfl rfl rfl
      refine rep_eval (t := t) h1 ?_ rfl rfl rfl rfl rfl rfl rfl
      refine wpAny_Name (wpAny_loadName_local rfl rfl hns hv ⟨rfl, fun tk => ⟨rfl, fun tk' => ⟨rfl, ?_⟩⟩⟩)
      exact ⟨_, _, rfl, fun _ _ e => e⟩
end
end

section
section
variable {prog : Program} {w : World} {k : Nat} {P : Params} {mg mb : Str → Option Value}
variable {env : Env} {ρ ρ' : List (Str × D)} {σ : List (Addr × List D)} {R : Post}
theorem els_dash (B : GB P mg mb) {L a : Addr} {pat st A Bs part c c0 ca cb : Str} {i1 s0 kd jn : Nat} {n : Int} {ds : List D} (hc : cutS pat (some (i1 : Int)) (some (jn : Int)) Option.none = st) (hd : inS "-" st = true)
    (h0 : at1 pat (i1 : Int) = some c0) (hs0 : s0 = if (c0 == ("!" : Str)) = true then 2 else 1) (hf1 : findV pat "-" (i1 + s0) jn = (kd : Int)) (hA : cutS pat (some (i1 : Int)) (some (kd : Int)) Option.none = A)
    (hf2 : findV pat "-" (kd + 3) jn = -1) (hB : cutS pat (some ((kd + 1 : Nat) : Int)) (some (jn : Int)) Option.none = Bs) (hBl : 0 < Bs.length) (hca : at1 A (-1) = some ca) (hcb : at1 Bs 0 = some cb)
    (hx : ∀ x ∈ chunksOf A Bs, NoOcc "\\" x ∧ NoOcc "-" x) (hok : JoinOk "-" (chunksOf A Bs) = true) (ht : TailOK (Txt.join "-" (chunksOf A Bs)) part) (hm : Miss (Txt.join "-" (chunksOf A Bs)))
    (hAz : A.length ≤ 900) (hBz : Bs.length ≤ 900) (hz : ds.length ≤ 1000) (hp : pat.length ≤ 1000) (hi1 : i1 ≤ 1000) :
    SXT prog w (kap P mg mb).pg mg 54 50 k (f55.en L) (rhoT pat a i1 n [("c", .str c), ("j", .int jn)]) [(a, ds)] elB (NextIs pat a (jn + 1) n (ds ++ [.str part])) := by
  have hps : pat.length ≤ sizeLine := Nat.le_trans hp (by decide)
  refine .cons (.of (.assign (.slice_str (.name rfl) (l := some (i1 : Int)) (u := some (jn : Int)) (t := Option.none) (.name rfl) (.name rfl) trivial (by decide) hps) (.inl rfl) (.skip (by decide) (.skip (by decide) (.skip (by decide) (.skip (by decide) (.skip (by decide) (.skip (by decide) (.skip (by decide) (.skip (by decide) (.skip (by decide) .nil))))))))) ?_))
  rw [hc]
  refine .cons (.ite (.cmp .str (.name rfl) .notIn_str) (fun h => by rw [hd] at h; cases h) (fun h => ?_))
  -- chunks = []
  refine .cons (.of (.assignOwn (.list .nil) (.inl rfl) (fun b => .skip (by decide) (.skip (by decide) (.skip (by decide) (.skip (by decide) (.skip (by decide) (.skip (by decide) (.skip (by decide) (.skip (by decide) (.skip (by decide) (.skip (by decide) .nil)))))))))) fun b => ?_))
  refine .cons (.of (.assign (d := .int ((i1 + s0 : Nat) : Int)) (.ite (.cmp (.sub (.name rfl) (.name rfl) (.at1 h0 (by omega) (by omega))) .str .eq_str) (fun h1 => ?_) (fun h1 => ?_)) (.inl rfl) (.skip (by decide) (.skip (by decide) (.skip (by decide) (.skip (by decide) (.skip (by decide) (.skip (by decide) (.skip (by decide) (.skip (by decide) (.skip (by decide) (.skip (by decide) (.skip (by decide) .nil))))))))))) ?_))
  · rw [if_pos h1] at hs0; subst hs0; exact .bin (.name rfl) .int .add
  · rw [if_neg (by rw [h1]; decide)] at hs0; subst hs0; exact .bin (.name rfl) .int .add
  -- the search
  refine .cons (.of (.while (fun m ρ σ => (m = 1 ∧ ρ = rhoT pat a i1 n [("c", .str c), ("j", .int jn), ("stuff", .str st), ("chunks", .loc b), ("k", .int ((i1 + s0 : Nat) : Int))] ∧ σ = [(b, []), (a, ds)]) ∨
      (m = 0 ∧ ρ = rhoT pat a ((kd + 1 : Nat) : Int) n [("c", .str c), ("j", .int jn), ("stuff", .str st), ("chunks", .loc b), ("k", .int ((kd + 3 : Nat) : Int))] ∧ σ = [(b, [.str A]), (a, ds)])) 1 (.inl ⟨rfl, rfl, rfl⟩) ?_))
  · rintro m ρ σ (⟨rfl, rfl, rfl⟩ | ⟨rfl, rfl, rfl⟩)
    · refine ⟨true, .of .bool .bool, fun _ => ?_, fun h => nomatch h⟩
      refine .cons (.assign (d := .int (kd : Int)) (hf1 ▸ .mcall (name := "find") (.name rfl) .find (.cons .str (.cons (.name rfl) (.cons (.name rfl) .nil))) .find4) (.inl rfl) (.skip (by decide) (.skip (by decide) (.skip (by decide) (.skip (by decide) (.skip (by decide) (.skip (by decide) (.skip (by decide) (.skip (by decide) (.skip (by decide) (.skip (by decide) (.skip (by decide) .here))))))))))) ?_)
      refine .cons (.ite (.cmp (.name rfl) .int .lt_int) (fun h => absurd (of_decide_eq_true h) (by omega)) (fun h => .nil ?_))
      have hsA : EV prog w (kap P mg mb).pg k (f55.en L) (rhoT pat a i1 n [("c", .str c), ("j", .int jn), ("stuff", .str st), ("chunks", .loc b), ("k", .int (kd : Int))]) [(b, []), (a, ds)] (match dashB[2]? with
        | some (Stmt.While _ [_, _, .Expr (.Call _ [e] _ _) _, _, _] _ _) => e
        | _ => .Name "" default) (.str A) := hA ▸ .slice_str (.name rfl) (l := some (i1 : Int)) (u := some (kd : Int)) (t := Option.none) (.name rfl) (.name rfl) trivial (by decide) hps
      refine .cons (.append (σ₁ := []) (σ₂ := [(a, ds)]) (.name rfl) hsA ?_ (by decide))
      refine .cons (.assign (d := .int ((kd + 1 : Nat) : Int)) (.bin (.name rfl) .int .add) (.inl rfl) (.skip (by decide) (.skip (by decide) (.skip (by decide) (.skip (by decide) (.skip (by decide) .here))))) ?_)
      refine .cons (.assign (d := .int ((kd + 3 : Nat) : Int)) (.bin (.name rfl) .int .add) (.inl rfl) (.skip (by decide) (.skip (by decide) (.skip (by decide) (.skip (by decide) (.skip (by decide) (.skip (by decide) (.skip (by decide) (.skip (by decide) (.skip (by decide) (.skip (by decide) (.skip (by decide) .here))))))))))) (.nil ?_))
      exact ⟨0, by omega, .inr ⟨rfl, rfl, rfl⟩⟩
    · refine ⟨true, .of .bool .bool, fun _ => ?_, fun h => nomatch h⟩
      refine .cons (.assign (d := .int (-1)) (hf2 ▸ .mcall (name := "find") (.name rfl) .find (.cons .str (.cons (.name rfl) (.cons (.name rfl) .nil))) .find4) (.inl rfl) (.skip (by decide) (.skip (by decide) (.skip (by decide) (.skip (by decide) (.skip (by decide) (.skip (by decide) (.skip (by decide) (.skip (by decide) (.skip (by decide) (.skip (by decide) (.skip (by decide) .here))))))))))) ?_)
      refine .cons (.ite (.cmp (.name rfl) .int .lt_int) (fun _ => .cons (.brk ?_)) (fun h => absurd h (by decide)))
      -- behind the search
      show SXT _ _ _ _ _ _ _ _ _ _ _ _
      refine .cons (.of (.assign (.slice_str (.name rfl) (l := some ((kd + 1 : Nat) : Int)) (u := some (jn : Int)) (t := Option.none) (.name rfl) (.name rfl) trivial (by decide) hps) (.inl rfl) (.skip (by decide) (.skip (by decide) (.skip (by decide) (.skip (by decide) (.skip (by decide) (.skip (by decide) (.skip (by decide) (.skip (by decide) (.skip (by decide) (.skip (by decide) (.skip (by decide) (.skip (by decide) .nil)))))))))))) ?_))
      rw [hB]
      refine dash_rest B hBl hAz hBz hca hcb hx hok hz fun k' => ?_
      exact tail_ok B (tl := [("chunks", .list ((chunksOf A Bs).map .str)), ("k", .int k'), ("chunk", .str Bs)]) ht hm hz
end
end

section
section
variable {prog : Program} {w : World} {k : Nat} {P : Params} {mg mb : Str → Option Value}
variable {env : Env} {ρ ρ' : List (Str × D)} {σ : List (Addr × List D)} {R : Post}
theorem SXT.mono {G : Pg} {c T : Addr} {body : List Stmt} {R' : Post} (f : ∀ o ρ σ, R o ρ σ → R' o ρ σ) (h : SXT prog w G mg c T k env ρ σ body R) : SXT prog w G mg c T k env ρ σ body R' := fun h₀ H₀ A s Q E r S t q =>
  h h₀ H₀ A s Q E r S t fun o o' s' ρ σ hR => q o o' s' ρ σ (f _ _ _ hR)
theorem SXT.then_nil {G : Pg} {c T : Addr} {body : List Stmt} (h : SXT prog w G mg c T k env ρ σ body R) : SXT prog w G mg c T k env ρ σ body (ThenT prog w G mg c T k env [] R) :=
  h.mono fun o ρ σ hR => by
    cases o with
    | next => exact .nil hR
    | brk => exact hR
    | ret d => exact hR
theorem br_ok (B : GB P mg mb) {L a : Addr} {pat c c0 : Str} {i1 bl n : Nat} {ds : List D} (h0 : at1 pat (i1 : Int) = some c0) (hbl : (if (c0 == ("!" : Str)) = true then 2 else 1) ≤ bl)
    (hall : ∀ q, q < bl → ∃ c, at1 pat ((i1 + q : Nat) : Int) = some c ∧ (c == ("]" : Str)) = false) (hend : at1 pat ((i1 + bl : Nat) : Int) = some ("]" : Str)) (hlt : i1 + bl < n) (hn : n ≤ 1000)
    (h : SXT prog w (kap P mg mb).pg mg 54 50 k (f55.en L) (rhoT pat a i1 n [("c", .str c), ("j", .int ((i1 + bl : Nat) : Int))]) [(a, ds)] elB R) :
    SXT prog w (kap P mg mb).pg mg 54 50 k (f55.en L) (rhoT pat a i1 n [("c", .str c)]) [(a, ds)] brB R := by
  have upd : ∀ (x y : Int), Upd "j" (.int y) (rhoT pat a i1 n [("c", .str c), ("j", .int x)]) (rhoT pat a i1 n [("c", .str c), ("j", .int y)]) := fun x y =>
    .skip (by decide) (.skip (by decide) (.skip (by decide) (.skip (by decide) (.skip (by decide) (.skip (by decide) (.skip (by decide) (.skip (by decide) .here)))))))
  refine .cons (.of (.assign (.name rfl) (.inl rfl) (.skip (by decide) (.skip (by decide) (.skip (by decide) (.skip (by decide) (.skip (by decide) (.skip (by decide) (.skip (by decide) (.skip (by decide) .nil)))))))) ?_))
  have rest : ∀ q : Nat, q < bl → SXT prog w (kap P mg mb).pg mg 54 50 k (f55.en L) (rhoT pat a i1 n [("c", .str c), ("j", .int ((i1 + q : Nat) : Int))]) [(a, ds)] (brB.drop 2) R := fun q hq => by
    obtain ⟨cq, hcq, hne⟩ := hall q hq
    refine .cons (.of (.ite (.and2 (.cmp (.name rfl) (.name rfl) .lt_int) fun _ => .cmp (.sub (.name rfl) (.name rfl) (.at1 hcq (by omega) (by omega))) .str .eq_str) (fun hh => by rw [hne, Bool.and_false] at hh; cases hh) (fun _ => .nil ?_)))
    refine .cons (.of (.while (fun m ρ σ => m ≤ bl ∧ ρ = rhoT pat a i1 n [("c", .str c), ("j", .int ((i1 + (bl - m) : Nat) : Int))] ∧ σ = [(a, ds)]) (bl - q) ⟨by omega, by rw [show bl - (bl - q) = q by omega], rfl⟩ ?_))
    rintro m ρ σ ⟨hm, rfl, rfl⟩
    cases m with
    | zero =>
      have e0 : at1 pat ((i1 + (bl - 0) : Nat) : Int) = some "]" := by rw [Nat.sub_zero]; exact hend
      refine ⟨_, .and2 (.cmp (.name rfl) (.name rfl) .lt_int) fun _ => .cmp (.sub (.name rfl) (.name rfl) (.at1 e0 (by omega) (by omega))) .str .ne_str, fun hh => ?_, fun _ => .nil ?_⟩
      · rw [show ((("]" : Str)) != ("]" : Str)) = false by decide, Bool.and_false] at hh; cases hh
      · have ej : ((i1 + (bl - 0) : Nat) : Int) = ((i1 + bl : Nat) : Int) := by omega
        have hge : ¬ ((n : Int) ≤ ((i1 + bl : Nat) : Int)) := by omega
        rw [ej]
        exact .cons (.ite (.cmp (.name rfl) (.name rfl) .ge_int) (fun hh => absurd (of_decide_eq_true hh) hge) (fun _ => h.then_nil))
    | succ m =>
      obtain ⟨c', hc', hne'⟩ := hall (bl - (m + 1)) (by omega)
      have hne2 : (c' != ("]" : Str)) = true := by show (!(c' == _)) = true; rw [hne']; rfl
      refine ⟨_, .and2 (.cmp (.name rfl) (.name rfl) .lt_int) fun _ => .cmp (.sub (.name rfl) (.name rfl) (.at1 hc' (by omega) (by omega))) .str .ne_str, fun _ => ?_, fun hh => ?_⟩
      · refine .cons (.assign (.bin (.name rfl) .int .add) (.inl rfl) (upd _ _) (.nil ?_))
        exact ⟨m, by omega, by omega, by rw [show ((i1 + (bl - m) : Nat) : Int) = ((i1 + (bl - (m + 1)) : Nat) : Int) + 1 by omega], rfl⟩
      · rw [hne2, Bool.and_true] at hh; exact absurd (of_decide_eq_false hh) (by omega)
  refine .cons (.of (.ite (.and2 (.cmp (.name rfl) (.name rfl) .lt_int) fun _ => .cmp (.sub (.name rfl) (.name rfl) (.at1 h0 (by omega) (by omega))) .str .eq_str) (fun hh => ?_) (fun hh => .nil ?_)))
  · have hb2 : (c0 == ("!" : Str)) = true := by
      cases z : (c0 == ("!" : Str)) with
      | true => rfl
      | false => rw [z, Bool.and_false] at hh; cases hh
    rw [if_pos hb2] at hbl
    refine .cons (.assign (.bin (.name rfl) .int .add) (.inl rfl) (upd _ _) (.nil ?_))
    exact rest 1 (by omega)
  · have h1 : 1 ≤ bl := by revert hbl; split <;> omega
    exact rest 0 (by omega)
end
end

section
section
variable {prog : Program} {w : World} {k : Nat} {P : Params} {mg mb : Str → Option Value}
variable {env : Env} {ρ ρ' : List (Str × D)} {σ : List (Addr × List D)} {R : Post}
theorem turn_sign (B : GB P mg mb) {L a : Addr} {pat y : Str} {c i n : Nat} {ds : List D} (h0 : at1 pat (i : Int) = some ⟨#[c]⟩) (he : Esc c y) (h1 : ((⟨#[c]⟩ : Str) == ("*" : Str)) = false) (h2 : ((⟨#[c]⟩ : Str) == ("?" : Str)) = false) (h3 : ((⟨#[c]⟩ : Str) == ("[" : Str)) = false) (hi : i ≤ 1000) (hz : ds.length ≤ 1000) :
    SXT prog w (kap P mg mb).pg mg 54 50 (k + 1) (f55.en L) (rhoT pat a i n []) [(a, ds)] wBody (NextIs pat a ((i : Int) + 1) n (ds ++ [.str y])) := by
  have hz' : ds.length < sizeLine := Nat.lt_of_le_of_lt hz (by decide)
  refine .cons (.of (.assign (.sub (.name rfl) (.name rfl) (.at1 h0 (by omega) (by omega))) (.inl rfl) (.skip (by decide) (.skip (by decide) (.skip (by decide) (.skip (by decide) (.skip (by decide) (.skip (by decide) (.skip (by decide) .nil))))))) ?_))
  refine .cons (.of (.assign (.bin (.name rfl) .int .add) (.inl rfl) (.skip (by decide) (.skip (by decide) (.skip (by decide) (.skip (by decide) (.skip (by decide) .here))))) ?_))
  refine .cons (.ite (.cmp (.name rfl) .str .eq_str) (fun h => by rw [h1] at h; cases h) (fun _ => ?_))
  refine .cons (.ite (.cmp (.name rfl) .str .eq_str) (fun h => by rw [h2] at h; cases h) (fun _ => ?_))
  refine .cons (.ite (.cmp (.name rfl) .str .eq_str) (fun h => by rw [h3] at h; cases h) (fun _ => ?_))
  refine .of ?_
  refine .cons (.appendVia (σ₁ := []) (σ₂ := []) (.name rfl) (.gcall B f48 (.cons (.name rfl) .nil) (fn_escape B he)) (.nil (.nil (.nil (.nil ⟨rfl, rhoT_sub (tl := [("c", .str ⟨#[c]⟩)]), rfl⟩)))) hz')
theorem turn_any (B : GB P mg mb) {L a : Addr} {pat : Str} {i n : Nat} {ds : List D} (h0 : at1 pat (i : Int) = some ("?" : Str)) (hi : i ≤ 1000) (hz : ds.length ≤ 1000) :
    SXT prog w (kap P mg mb).pg mg 54 50 (k + 1) (f55.en L) (rhoT pat a i n []) [(a, ds)] wBody (NextIs pat a ((i : Int) + 1) n (ds ++ [.str "."])) := by
  have hz' : ds.length < sizeLine := Nat.lt_of_le_of_lt hz (by decide)
  refine .cons (.of (.assign (.sub (.name rfl) (.name rfl) (.at1 h0 (by omega) (by omega))) (.inl rfl) (.skip (by decide) (.skip (by decide) (.skip (by decide) (.skip (by decide) (.skip (by decide) (.skip (by decide) (.skip (by decide) .nil))))))) ?_))
  refine .cons (.of (.assign (.bin (.name rfl) .int .add) (.inl rfl) (.skip (by decide) (.skip (by decide) (.skip (by decide) (.skip (by decide) (.skip (by decide) .here))))) ?_))
  refine .cons (.ite (.cmp (.name rfl) .str .eq_str) (fun h => absurd h (by decide)) (fun _ => ?_))
  refine .cons (.ite (.cmp (.name rfl) .str .eq_str) (fun h => ?_) (fun h => absurd h (by decide)))
  refine .of ?_
  exact .cons (.appendVia (σ₁ := []) (σ₂ := []) (.name rfl) (.name rfl) (.nil (.nil (.nil ⟨rfl, rhoT_sub (tl := [("c", .str "?")]), rfl⟩))) hz')
theorem turn_br (B : GB P mg mb) {L a : Addr} {pat : Str} {i n : Nat} {ds : List D} (h0 : at1 pat (i : Int) = some ("[" : Str)) (hi : i ≤ 1000)
    (h : SXT prog w (kap P mg mb).pg mg 54 50 (k + 1) (f55.en L) (rhoT pat a ((i : Int) + 1) n [("c", .str "[")]) [(a, ds)] brB R) (hR : ∀ ρ σ, R .brk ρ σ → False) :
    SXT prog w (kap P mg mb).pg mg 54 50 (k + 1) (f55.en L) (rhoT pat a i n []) [(a, ds)] wBody R := by
  refine .cons (.of (.assign (.sub (.name rfl) (.name rfl) (.at1 h0 (by omega) (by omega))) (.inl rfl) (.skip (by decide) (.skip (by decide) (.skip (by decide) (.skip (by decide) (.skip (by decide) (.skip (by decide) (.skip (by decide) .nil))))))) ?_))
  refine .cons (.of (.assign (.bin (.name rfl) .int .add) (.inl rfl) (.skip (by decide) (.skip (by decide) (.skip (by decide) (.skip (by decide) (.skip (by decide) .here))))) ?_))
  refine .cons (.ite (.cmp (.name rfl) .str .eq_str) (fun h => absurd h (by decide)) (fun _ => ?_))
  refine .cons (.ite (.cmp (.name rfl) .str .eq_str) (fun h => absurd h (by decide)) (fun _ => ?_))
  refine .cons (.ite (.cmp (.name rfl) .str .eq_str) (fun _ => ?_) (fun h => absurd h (by decide)))
  exact h.then_nil.then_nil.then_nil
end
end

section
section
variable {prog : Program} {w : World} {k : Nat} {P : Params} {mg mb : Str → Option Value}
variable {env : Env} {ρ ρ' : List (Str × D)} {σ : List (Addr × List D)} {R : Post}
/-- what a star makes of the parts so far -/
def starred (ps : List (Option Str)) : List (Option Str) := match ps.getLast? with
  | some Option.none => ps
  | _ => ps ++ [Option.none]
theorem turn_star (B : GB P mg mb) {L a : Addr} {pat : Str} {i n : Nat} {ps : List (Option Str)} (h0 : at1 pat (i : Int) = some ("*" : Str)) (hi : i ≤ 1000) (hz : ps.length ≤ 1000) :
    SXT prog w (kap P mg mb).pg mg 54 50 (k + 1) (f55.en L) (rhoT pat a i n []) [(a, ps.map partD)] wBody (NextIs pat a ((i : Int) + 1) n ((starred ps).map partD)) := by
  have hzl : (ps.map partD).length ≤ 1000 := by rw [List.length_map]; exact hz
  have hz' : (ps.map partD).length < sizeLine := Nat.lt_of_le_of_lt hzl (by decide)
  refine .cons (.of (.assign (.sub (.name rfl) (.name rfl) (.at1 h0 (by omega) (by omega))) (.inl rfl) (.skip (by decide) (.skip (by decide) (.skip (by decide) (.skip (by decide) (.skip (by decide) (.skip (by decide) (.skip (by decide) .nil))))))) ?_))
  refine .cons (.of (.assign (.bin (.name rfl) .int .add) (.inl rfl) (.skip (by decide) (.skip (by decide) (.skip (by decide) (.skip (by decide) (.skip (by decide) .here))))) ?_))
  refine .cons (.ite (.cmp (.name rfl) .str .eq_str) (fun _ => .of ?_) (fun h => absurd h (by decide)))
  have fz : Fz a (ps.map partD) (rhoT pat a ((i : Int) + 1) n [("c", .str "*")]) (("pat", .str pat) :: ("STAR", .none) :: ("QUESTION_MARK", .str ".") :: ("res", .list (ps.map partD)) :: ("add", .meth "list.append" a) :: ("i", .int ((i : Int) + 1)) :: ("n", .int n) :: [("c", .str "*")]) :=
    .same (.same (.same (.here (.same (.same (.same (.same .nil)))))))
  refine .cons (.ite (b := match ps.getLast? with | some Option.none => false | _ => true) (.peek fz (.head _) ?_) (fun h => ?_) (fun h => .nil (.nil (.nil ⟨rfl, rhoT_sub (tl := [("c", .str "*")]), ?_⟩))))
  · cases hl : ps.getLast? with
    | none =>
      obtain rfl : ps = [] := List.getLast?_eq_none_iff.mp hl
      refine .or_true (.not (b := false) (.of (.name rfl) (.list (show (0 : Nat) < 2 ^ 62 by decide))))
    | some l =>
      have hne : ps ≠ [] := fun e => by subst e; cases hl
      have hpos : 0 < ps.length := List.length_pos_iff.mpr hne
      have hem : (!(ps.map partD).isEmpty) = true := by cases ps with
        | nil => exact absurd rfl hne
        | cons _ _ => rfl
      have hget : (ps.map partD)[((-1 : Int) + ((ps.map partD).length : Int)).toNat]? = some (partD l) := by
        have e : ((-1 : Int) + ((ps.map partD).length : Int)).toNat = ps.length - 1 := by rw [List.length_map]; omega
        rw [e, List.getElem?_map, ← List.getLast?_eq_getElem?, hl]; rfl
      have hor : partD l = .none ∨ ∃ x, partD l = .str x := by cases l with
        | none => exact .inl rfl
        | some x => exact .inr ⟨x, rfl⟩
      have hneg : -((ps.map partD).length : Int) ≤ -1 := by rw [List.length_map]; omega
      cases l with
      | none => exact .or_false (.not (b := true) (.of (.name rfl) (hem ▸ .list (by omega)))) (.or_false (.cmp (.sub (.name rfl) (.neg .int) (.list_neg (by decide) hneg (by decide) hget)) (.name rfl) (.isnot_none hor)) .or_nil)
      | some x => exact .or_false (.not (b := true) (.of (.name rfl) (hem ▸ .list (by omega)))) (.or_true (.cmp (.sub (.name rfl) (.neg .int) (.list_neg (by decide) hneg (by decide) hget)) (.name rfl) (.isnot_none hor)))
  · refine .cons (.appendVia (σ₁ := []) (σ₂ := []) (.name rfl) (.name rfl) (.nil (.nil (.nil ⟨rfl, rhoT_sub (tl := [("c", .str "*")]), ?_⟩))) hz')
    have : starred ps = ps ++ [Option.none] := by
      unfold starred; split <;> simp_all
    rw [this, List.map_append]; rfl
  · have : starred ps = ps := by
      unfold starred; split <;> simp_all
    rw [this]
end
end

section
section
variable {prog : Program} {w : World} {k : Nat} {P : Params} {mg mb : Str → Option Value}
variable {env : Env} {ρ ρ' : List (Str × D)} {σ : List (Addr × List D)} {R : Post}
/-- a bracket as a text of its own -/
structure BrTok (t : Str) (bl : Nat) (c0 : Str) : Prop where
  len : t.length = bl + 2
  h0 : at1 t ((0 : Nat) : Int) = some ("[" : Str)
  h1 : at1 t ((1 : Nat) : Int) = some c0
  hbl : (if (c0 == ("!" : Str)) = true then 2 else 1) ≤ bl
  hall : ∀ q, q < bl → ∃ c, at1 t ((1 + q : Nat) : Int) = some c ∧ (c == ("]" : Str)) = false
  hend : at1 t ((1 + bl : Nat) : Int) = some ("]" : Str)
theorem turn_brTok (B : GB P mg mb) {L a : Addr} {pre t suf c0 : Str} {bl n : Nat} {ds : List D} (T : BrTok t bl c0) (hn : n = (pre ++ t ++ suf).length) (hl : n ≤ 900)
    (h : SXT prog w (kap P mg mb).pg mg 54 50 (k + 1) (f55.en L) (rhoT (pre ++ t ++ suf) a ((pre.length + 1 : Nat) : Int) n [("c", .str "["), ("j", .int ((pre.length + 1 + bl : Nat) : Int))]) [(a, ds)] elB R) (hR : ∀ ρ σ, R .brk ρ σ → False) :
    SXT prog w (kap P mg mb).pg mg 54 50 (k + 1) (f55.en L) (rhoT (pre ++ t ++ suf) a pre.length n []) [(a, ds)] wBody R := by
  have hlen : n = pre.length + t.length + suf.length := by rw [hn, len_append, len_append]
  have hb1 : 1 ≤ bl := by have := T.hbl; revert this; split <;> omega
  have htl := T.len
  have m : ∀ q c, q < t.length → at1 t (q : Int) = some c → at1 (pre ++ t ++ suf) ((pre.length + q : Nat) : Int) = some c := fun q c hq hc => by rw [at1_mid hq]; exact hc
  refine turn_br B (m 0 _ (by omega) T.h0) (by omega) ?_ hR
  refine br_ok B (i1 := pre.length + 1) (bl := bl) (m 1 _ (by omega) T.h1) T.hbl (fun q hq => ?_) ?_ (by omega) (by omega) h
  · obtain ⟨c, hc, hne⟩ := T.hall q hq
    exact ⟨c, by rw [Nat.add_assoc]; exact m (1 + q) c (by omega) hc, hne⟩
  · rw [Nat.add_assoc]; exact m (1 + bl) _ (by omega) T.hend
end
end

section
section
variable {prog : Program} {w : World} {k : Nat} {P : Params} {mg mb : Str → Option Value}
variable {env : Env} {ρ ρ' : List (Str × D)} {σ : List (Addr × List D)} {R : Post}
theorem turn_plain (B : GB P mg mb) {L a : Addr} {pre t suf c0 st part : Str} {bl n : Nat} {ds : List D} (T : BrTok t bl c0) (hn : n = (pre ++ t ++ suf).length) (hl : n ≤ 900) (hz : ds.length ≤ 1000)
    (hst : (⟨t.cps.extract 1 (1 + bl)⟩ : Str) = st) (hd : inS "-" st = false) (hno : NoOcc "\\" st) (ht : TailOK st part) (hm : Miss st) :
    SXT prog w (kap P mg mb).pg mg 54 50 (k + 1) (f55.en L) (rhoT (pre ++ t ++ suf) a pre.length n []) [(a, ds)] wBody (NextIs (pre ++ t ++ suf) a ((pre.length + t.length : Nat) : Int) n (ds ++ [.str part])) := by
  have htl := T.len
  refine turn_brTok B T hn hl ?_ (fun ρ σ h => nomatch h.1)
  have hc : cutS (pre ++ t ++ suf) (some ((pre.length + 1 : Nat) : Int)) (some ((pre.length + 1 + bl : Nat) : Int)) Option.none = st := by
    rw [Nat.add_assoc, cut_tok (by omega) (by omega)]; exact hst
  have h := els_plain B (k := k + 1) (w := w) (prog := prog) (L := L) (a := a) (c := "[") (n := n) (ds := ds) hc hd hno ht hm hz (by omega)
  have e : ((pre.length + 1 + bl : Nat) : Int) + 1 = ((pre.length + t.length : Nat) : Int) := by omega
  rw [e] at h
  exact h
end
end

section
theorem cps_mid {pre t suf : Str} {m : Nat} (h : m < t.length) : (pre ++ t ++ suf).cps[pre.length + m]? = t.cps[m]? := by
  have h1 : m < t.cps.size := h
  have h2 : pre.length = pre.cps.size := rfl
  rw [cps_append, cps_append, h2, Array.getElem?_append_left (by rw [Array.size_append]; omega), Array.getElem?_append_right (by omega), Nat.add_sub_cancel_left]
section
variable {prog : Program} {w : World} {k : Nat} {P : Params} {mg mb : Str → Option Value}
variable {env : Env} {ρ ρ' : List (Str × D)} {σ : List (Addr × List D)} {R : Post}
theorem turn_dash (B : GB P mg mb) {L a : Addr} {pre t suf c0 st part A Bs ca cb : Str} {bl n s0 kt : Nat} {ds : List D} (T : BrTok t bl c0) (hn : n = (pre ++ t ++ suf).length) (hl : n ≤ 900) (hz : ds.length ≤ 1000)
    (hst : (⟨t.cps.extract 1 (1 + bl)⟩ : Str) = st) (hd : inS "-" st = true) (hs0 : s0 = if (c0 == ("!" : Str)) = true then 2 else 1) (hk1 : 1 + s0 ≤ kt) (hk2 : kt < 1 + bl) (hk : t.cps[kt]? = some 45)
    (hk3 : ∀ m, 1 + s0 ≤ m → m < kt → t.cps[m]? ≠ some 45) (hk4 : ∀ m, kt + 3 ≤ m → m < 1 + bl → t.cps[m]? ≠ some 45)
    (hA : (⟨t.cps.extract 1 kt⟩ : Str) = A) (hB : (⟨t.cps.extract (kt + 1) (1 + bl)⟩ : Str) = Bs) (hBl : 0 < Bs.length) (hca : at1 A (-1) = some ca) (hcb : at1 Bs 0 = some cb)
    (hx : ∀ x ∈ chunksOf A Bs, NoOcc "\\" x ∧ NoOcc "-" x) (hok : JoinOk "-" (chunksOf A Bs) = true) (ht : TailOK (Txt.join "-" (chunksOf A Bs)) part) (hm : Miss (Txt.join "-" (chunksOf A Bs))) (hAz : A.length ≤ 900) (hBz : Bs.length ≤ 900) :
    SXT prog w (kap P mg mb).pg mg 54 50 (k + 1) (f55.en L) (rhoT (pre ++ t ++ suf) a pre.length n []) [(a, ds)] wBody (NextIs (pre ++ t ++ suf) a ((pre.length + t.length : Nat) : Int) n (ds ++ [.str part])) := by
  have htl := T.len
  have hlen : n = pre.length + t.length + suf.length := by rw [hn, len_append, len_append]
  refine turn_brTok B T hn hl ?_ (fun ρ σ h => nomatch h.1)
  have hc : cutS (pre ++ t ++ suf) (some ((pre.length + 1 : Nat) : Int)) (some ((pre.length + 1 + bl : Nat) : Int)) Option.none = st := by
    rw [Nat.add_assoc, cut_tok (by omega) (by omega)]; exact hst
  have hcA : cutS (pre ++ t ++ suf) (some ((pre.length + 1 : Nat) : Int)) (some ((pre.length + kt : Nat) : Int)) Option.none = A := by
    rw [cut_tok (by omega) (by omega)]; exact hA
  have hcB : cutS (pre ++ t ++ suf) (some ((pre.length + kt + 1 : Nat) : Int)) (some ((pre.length + 1 + bl : Nat) : Int)) Option.none = Bs := by
    rw [Nat.add_assoc, Nat.add_assoc, cut_tok (by omega) (by omega)]; exact hB
  have cm : ∀ m, m < t.length + pre.length → pre.length ≤ m → (pre ++ t ++ suf).cps[m]? = t.cps[m - pre.length]? := fun m h1 h2 => by
    have := cps_mid (pre := pre) (suf := suf) (t := t) (m := m - pre.length) (by omega)
    rw [show pre.length + (m - pre.length) = m by omega] at this
    exact this
  have hf1 : findV (pre ++ t ++ suf) ("-" : Str) (pre.length + 1 + s0) (pre.length + 1 + bl) = ((pre.length + kt : Nat) : Int) :=
    find_hit (c := 45) (by omega) (by omega) (by omega) (by rw [cps_mid (by omega)]; exact hk) fun m h1 h2 => by
      rw [cm m (by omega) (by omega)]; exact hk3 _ (by omega) (by omega)
  have hf2 : findV (pre ++ t ++ suf) ("-" : Str) (pre.length + kt + 3) (pre.length + 1 + bl) = -1 :=
    find_miss (c := 45) (by omega) fun m h1 h2 => by
      rw [cm m (by omega) (by omega)]; exact hk4 _ (by omega) (by omega)
  have h0 : at1 (pre ++ t ++ suf) ((pre.length + 1 : Nat) : Int) = some c0 := by rw [at1_mid (by omega)]; exact T.h1
  have h := els_dash B (k := k + 1) (w := w) (prog := prog) (L := L) (a := a) (c := "[") (n := n) (ds := ds) hc hd h0 hs0 hf1 hcA hf2 hcB hBl hca hcb hx hok ht hm hAz hBz hz (by omega) (by omega)
  have e : ((pre.length + 1 + bl + 1 : Nat) : Int) = ((pre.length + t.length : Nat) : Int) := by omega
  have e2 : ((pre.length + 1 + bl : Nat) : Int) + 1 = ((pre.length + t.length : Nat) : Int) := by omega
  rw [e2] at h
  exact h
end
end

section
theorem br_of {t : Str} {bl : Nat} {c0 : Str} (h1 : (t.length == bl + 2 && at1 t ((0 : Nat) : Int) == some ("[" : Str) && at1 t ((1 : Nat) : Int) == some c0 && decide ((if (c0 == ("!" : Str)) = true then 2 else 1) ≤ bl) && at1 t ((1 + bl : Nat) : Int) == some ("]" : Str)) = true)
    (h2 : (List.range bl).all (fun q => match at1 t ((1 + q : Nat) : Int) with | some c => !(c == ("]" : Str)) | Option.none => false) = true) : BrTok t bl c0 := by
  simp only [Bool.and_eq_true, beq_iff_eq, decide_eq_true_eq] at h1
  obtain ⟨⟨⟨⟨a, b⟩, c⟩, d⟩, e⟩ := h1
  refine ⟨a, b, c, by simpa using d, fun q hq => ?_, e⟩
  have := List.all_eq_true.mp h2 q (List.mem_range.mpr hq)
  cases z : at1 t ((1 + q : Nat) : Int) with
  | none => rw [z] at this; cases this
  | some c => rw [z] at this; exact ⟨c, rfl, by simpa using this⟩
theorem br1 : BrTok "[ab]" 2 "a" := br_of (by decide) (by decide)
theorem br2 : BrTok "[!a]" 2 "!" := br_of (by decide) (by decide)
theorem br3 : BrTok "[.-a]" 3 "." := br_of (by decide) (by decide)
theorem br4 : BrTok "[b-a]" 3 "b" := br_of (by decide) (by decide)
theorem br5 : BrTok "[!b-a]" 4 "!" := br_of (by decide) (by decide)
theorem br6 : BrTok "[!.b]" 3 "!" := br_of (by decide) (by decide)
theorem br7 : BrTok "[a.]" 2 "a" := br_of (by decide) (by decide)
theorem br8 : BrTok "[.-b]" 3 "." := br_of (by decide) (by decide)
theorem br9 : BrTok "[a-a]" 3 "a" := br_of (by decide) (by decide)
end

section
section
variable {prog : Program} {w : World} {k : Nat} {P : Params} {mg mb : Str → Option Value}
def Turn (prog : Program) (w : World) (k : Nat) (P : Params) (mg mb : Str → Option Value) (t part : Str) : Prop := ∀ (L a : Addr) (pre suf : Str) (n : Nat) (ds : List D), n = (pre ++ t ++ suf).length → n ≤ 900 → ds.length ≤ 1000 →
  SXT prog w (kap P mg mb).pg mg 54 50 (k + 1) (f55.en L) (rhoT (pre ++ t ++ suf) a pre.length n []) [(a, ds)] wBody (NextIs (pre ++ t ++ suf) a ((pre.length + t.length : Nat) : Int) n (ds ++ [.str part]))
theorem turn1 (B : GB P mg mb) : Turn prog w k P mg mb "[ab]" ("[" ++ ("ab" : Str) ++ "]") := fun L a pre suf n ds hn hl hz =>
  turn_plain B br1 hn hl hz (st := "ab") (by decide) (by kernel_rfl) (by unfold NoOcc; kernel_rfl) (.pos (c := "a") (by decide) (by decide) (by decide) (by decide) (by decide) (by decide)) s1
theorem turn7 (B : GB P mg mb) : Turn prog w k P mg mb "[a.]" ("[" ++ ("a." : Str) ++ "]") := fun L a pre suf n ds hn hl hz =>
  turn_plain B br7 hn hl hz (st := "a.") (by decide) (by kernel_rfl) (by unfold NoOcc; kernel_rfl) (.pos (c := "a") (by decide) (by decide) (by decide) (by decide) (by decide) (by decide)) s7
theorem turn2 (B : GB P mg mb) : Turn prog w k P mg mb "[!a]" ("[" ++ ("^" ++ cutS ("!a" : Str) (some 1) Option.none Option.none) ++ "]") := fun L a pre suf n ds hn hl hz =>
  turn_plain B br2 hn hl hz (st := "!a") (by decide) (by kernel_rfl) (by unfold NoOcc; kernel_rfl) (.neg (by decide) (by decide) (by decide) (by decide)) s2
theorem turn6 (B : GB P mg mb) : Turn prog w k P mg mb "[!.b]" ("[" ++ ("^" ++ cutS ("!.b" : Str) (some 1) Option.none Option.none) ++ "]") := fun L a pre suf n ds hn hl hz =>
  turn_plain B br6 hn hl hz (st := "!.b") (by decide) (by kernel_rfl) (by unfold NoOcc; kernel_rfl) (.neg (by decide) (by decide) (by decide) (by decide)) s6
end
end

section
section
variable {prog : Program} {w : World} {k : Nat} {P : Params} {mg mb : Str → Option Value}
theorem turn3 (B : GB P mg mb) : Turn prog w k P mg mb "[.-a]" ("[" ++ (".-a" : Str) ++ "]") := fun L a pre suf n ds hn hl hz => by
  have hch : chunksOf "." "a" = ([".", "a"] : List Str) := by kernel_rfl
  have hj : Txt.join "-" (chunksOf "." "a") = (".-a" : Str) := by kernel_rfl
  refine turn_dash B br3 hn hl hz (st := ".-a") (s0 := 1) (kt := 2) (A := ".") (Bs := "a") (ca := ".") (cb := "a") (by decide) (by kernel_rfl) (by decide) (by decide) (by decide) (by decide) (fun m h1 h2 => by omega) (fun m h1 h2 => by omega) (by decide) (by decide) (by decide) (by decide) (by decide) ?_ (by kernel_rfl) ?_ ?_ (by decide) (by decide)
  · rw [hch]; intro x hx
    simp only [List.mem_cons, List.not_mem_nil, or_false] at hx
    rcases hx with rfl | rfl <;> exact ⟨by unfold NoOcc; kernel_rfl, by unfold NoOcc; kernel_rfl⟩
  · rw [hj]; exact .pos (c := ".") (by decide) (by decide) (by decide) (by decide) (by decide) (by decide)
  · rw [hj]; exact s3
end
end

section
section
variable {prog : Program} {w : World} {k : Nat} {P : Params} {mg mb : Str → Option Value}
theorem turn8 (B : GB P mg mb) : Turn prog w k P mg mb "[.-b]" ("[" ++ (".-b" : Str) ++ "]") := fun L a pre suf n ds hn hl hz => by
  have hch : chunksOf "." "b" = ([".", "b"] : List Str) := by kernel_rfl
  have hj : Txt.join "-" (chunksOf "." "b") = (".-b" : Str) := by kernel_rfl
  refine turn_dash B br8 hn hl hz (st := ".-b") (s0 := 1) (kt := 2) (A := ".") (Bs := "b") (ca := ".") (cb := "b") (by decide) (by kernel_rfl) (by decide) (by decide) (by decide) (by decide) (fun m h1 h2 => by omega) (fun m h1 h2 => by omega) (by decide) (by decide) (by decide) (by decide) (by decide) ?_ (by kernel_rfl) ?_ ?_ (by decide) (by decide)
  · rw [hch]; intro x hx
    simp only [List.mem_cons, List.not_mem_nil, or_false] at hx
    rcases hx with rfl | rfl <;> exact ⟨by unfold NoOcc; kernel_rfl, by unfold NoOcc; kernel_rfl⟩
  · rw [hj]; exact .pos (c := ".") (by decide) (by decide) (by decide) (by decide) (by decide) (by decide)
  · rw [hj]; exact s8
theorem turn9 (B : GB P mg mb) : Turn prog w k P mg mb "[a-a]" ("[" ++ ("a-a" : Str) ++ "]") := fun L a pre suf n ds hn hl hz => by
  have hch : chunksOf "a" "a" = (["a", "a"] : List Str) := by kernel_rfl
  have hj : Txt.join "-" (chunksOf "a" "a") = ("a-a" : Str) := by kernel_rfl
  refine turn_dash B br9 hn hl hz (st := "a-a") (s0 := 1) (kt := 2) (A := "a") (Bs := "a") (ca := "a") (cb := "a") (by decide) (by kernel_rfl) (by decide) (by decide) (by decide) (by decide) (fun m h1 h2 => by omega) (fun m h1 h2 => by omega) (by decide) (by decide) (by decide) (by decide) (by decide) ?_ (by kernel_rfl) ?_ ?_ (by decide) (by decide)
  · rw [hch]; intro x hx
    simp only [List.mem_cons, List.not_mem_nil, or_false] at hx
    rcases hx with rfl | rfl <;> exact ⟨by unfold NoOcc; kernel_rfl, by unfold NoOcc; kernel_rfl⟩
  · rw [hj]; exact .pos (c := "a") (by decide) (by decide) (by decide) (by decide) (by decide) (by decide)
  · rw [hj]; exact s9
theorem turn4 (B : GB P mg mb) : Turn prog w k P mg mb "[b-a]" "(?!)" := fun L a pre suf n ds hn hl hz => by
  have hch : chunksOf "b" "a" = ([""] : List Str) := by kernel_rfl
  have hj : Txt.join "-" (chunksOf "b" "a") = ("" : Str) := by kernel_rfl
  refine turn_dash B br4 hn hl hz (st := "b-a") (s0 := 1) (kt := 2) (A := "b") (Bs := "a") (ca := "b") (cb := "a") (by decide) (by kernel_rfl) (by decide) (by decide) (by decide) (by decide) (fun m h1 h2 => by omega) (fun m h1 h2 => by omega) (by decide) (by decide) (by decide) (by decide) (by decide) ?_ (by kernel_rfl) ?_ ?_ (by decide) (by decide)
  · rw [hch]; intro x hx
    simp only [List.mem_cons, List.not_mem_nil, or_false] at hx
    rcases hx with rfl; exact ⟨by unfold NoOcc; kernel_rfl, by unfold NoOcc; kernel_rfl⟩
  · rw [hj]; exact .none
  · rw [hj]; exact s4
theorem turn5 (B : GB P mg mb) : Turn prog w k P mg mb "[!b-a]" "." := fun L a pre suf n ds hn hl hz => by
  have hch : chunksOf "!b" "a" = (["!"] : List Str) := by kernel_rfl
  have hj : Txt.join "-" (chunksOf "!b" "a") = ("!" : Str) := by kernel_rfl
  refine turn_dash B br5 hn hl hz (st := "!b-a") (s0 := 2) (kt := 3) (A := "!b") (Bs := "a") (ca := "b") (cb := "a") (by decide) (by kernel_rfl) (by decide) (by decide) (by decide) (by decide) (fun m h1 h2 => by omega) (fun m h1 h2 => by omega) (by decide) (by decide) (by decide) (by decide) (by decide) ?_ (by kernel_rfl) ?_ ?_ (by decide) (by decide)
  · rw [hch]; intro x hx
    simp only [List.mem_cons, List.not_mem_nil, or_false] at hx
    rcases hx with rfl; exact ⟨by unfold NoOcc; kernel_rfl, by unfold NoOcc; kernel_rfl⟩
  · rw [hj]; exact .bang
  · rw [hj]; exact s5
end
end

section
/-- a sign or bracket of a pattern, and its part -/
inductive TokOK : Str → Option Str → Prop
  | a : TokOK "a" (some "a")
  | b : TokOK "b" (some "b")
  | dot : TokOK "." (some "\\.")
  | any : TokOK "?" (some ".")
  | star : TokOK "*" Option.none
  | t1 : TokOK "[ab]" (some ("[" ++ ("ab" : Str) ++ "]"))
  | t2 : TokOK "[!a]" (some ("[" ++ ("^" ++ cutS ("!a" : Str) (some 1) Option.none Option.none) ++ "]"))
  | t3 : TokOK "[.-a]" (some ("[" ++ (".-a" : Str) ++ "]"))
  | t4 : TokOK "[b-a]" (some "(?!)")
  | t5 : TokOK "[!b-a]" (some ".")
  | t6 : TokOK "[!.b]" (some ("[" ++ ("^" ++ cutS ("!.b" : Str) (some 1) Option.none Option.none) ++ "]"))
  | t7 : TokOK "[a.]" (some ("[" ++ ("a." : Str) ++ "]"))
  | t8 : TokOK "[.-b]" (some ("[" ++ (".-b" : Str) ++ "]"))
  | t9 : TokOK "[a-a]" (some ("[" ++ ("a-a" : Str) ++ "]"))
def addP (ps : List (Option Str)) : Option Str → List (Option Str)
  | Option.none => starred ps
  | some p => ps ++ [some p]
theorem TokOK.pos {t : Str} {p : Option Str} (h : TokOK t p) : 0 < t.length ∧ t.length ≤ 6 := by cases h <;> decide
theorem addP_len (ps : List (Option Str)) (p : Option Str) : (addP ps p).length ≤ ps.length + 1 := by
  cases p with
  | none =>
    show (starred ps).length ≤ _
    unfold starred
    split
    · omega
    · simp
  | some p => simp [addP]
section
variable {prog : Program} {w : World} {k : Nat} {P : Params} {mg mb : Str → Option Value}
theorem turn_tok (B : GB P mg mb) {t : Str} {p : Option Str} (h : TokOK t p) {L a : Addr} {pre suf : Str} {n : Nat} {ps : List (Option Str)} (hn : n = (pre ++ t ++ suf).length) (hl : n ≤ 900) (hz : ps.length ≤ 1000) :
    SXT prog w (kap P mg mb).pg mg 54 50 (k + 1) (f55.en L) (rhoT (pre ++ t ++ suf) a pre.length n []) [(a, ps.map partD)] wBody (NextIs (pre ++ t ++ suf) a ((pre.length + t.length : Nat) : Int) n ((addP ps p).map partD)) := by
  have hzl : (ps.map partD).length ≤ 1000 := by rw [List.length_map]; exact hz
  have hp := h.pos
  have hpl : pre.length ≤ 1000 := by rw [len_append, len_append] at hn; omega
  have h0 : ∀ {c : Nat}, t = ⟨#[c]⟩ → at1 (pre ++ t ++ suf) (pre.length : Int) = some ⟨#[c]⟩ := fun {c} e => by
    have := at1_mid (pre := pre) (t := t) (suf := suf) (q := 0) hp.1
    rw [Nat.add_zero] at this
    rw [this, e]; rfl
  have e1 : ((pre.length : Nat) : Int) + 1 = ((pre.length + 1 : Nat) : Int) := by omega
  cases h with
  | a => 
    have := turn_sign B (prog := prog) (w := w) (k := k) (L := L) (a := a) (n := n) (ds := ps.map partD) (h0 (c := 97) rfl) esc_a (by decide) (by decide) (by decide) hpl hzl
    rw [e1] at this
    show SXT _ _ _ _ _ _ _ _ _ _ _ (NextIs _ _ _ _ ((ps ++ [some _]).map partD))
    rw [List.map_append]; exact this
  | b => 
    have := turn_sign B (prog := prog) (w := w) (k := k) (L := L) (a := a) (n := n) (ds := ps.map partD) (h0 (c := 98) rfl) esc_b (by decide) (by decide) (by decide) hpl hzl
    rw [e1] at this
    show SXT _ _ _ _ _ _ _ _ _ _ _ (NextIs _ _ _ _ ((ps ++ [some _]).map partD))
    rw [List.map_append]; exact this
  | dot => 
    have := turn_sign B (prog := prog) (w := w) (k := k) (L := L) (a := a) (n := n) (ds := ps.map partD) (h0 (c := 46) rfl) esc_dot (by decide) (by decide) (by decide) hpl hzl
    rw [e1] at this
    show SXT _ _ _ _ _ _ _ _ _ _ _ (NextIs _ _ _ _ ((ps ++ [some _]).map partD))
    rw [List.map_append]; exact this
  | any =>
    have := turn_any B (prog := prog) (w := w) (k := k) (L := L) (a := a) (n := n) (ds := ps.map partD) (h0 (c := 63) rfl) hpl hzl
    rw [e1] at this
    show SXT _ _ _ _ _ _ _ _ _ _ _ (NextIs _ _ _ _ ((ps ++ [some _]).map partD))
    rw [List.map_append]; exact this
  | star =>
    have := turn_star B (prog := prog) (w := w) (k := k) (L := L) (a := a) (n := n) (ps := ps) (h0 (c := 42) rfl) hpl hz
    rw [e1] at this
    exact this
  | t1 => show SXT _ _ _ _ _ _ _ _ _ _ _ (NextIs _ _ _ _ ((ps ++ [some _]).map partD)); rw [List.map_append]; exact turn1 B L a pre suf n _ hn hl hzl
  | t2 => show SXT _ _ _ _ _ _ _ _ _ _ _ (NextIs _ _ _ _ ((ps ++ [some _]).map partD)); rw [List.map_append]; exact turn2 B L a pre suf n _ hn hl hzl
  | t3 => show SXT _ _ _ _ _ _ _ _ _ _ _ (NextIs _ _ _ _ ((ps ++ [some _]).map partD)); rw [List.map_append]; exact turn3 B L a pre suf n _ hn hl hzl
  | t4 => show SXT _ _ _ _ _ _ _ _ _ _ _ (NextIs _ _ _ _ ((ps ++ [some _]).map partD)); rw [List.map_append]; exact turn4 B L a pre suf n _ hn hl hzl
  | t5 => show SXT _ _ _ _ _ _ _ _ _ _ _ (NextIs _ _ _ _ ((ps ++ [some _]).map partD)); rw [List.map_append]; exact turn5 B L a pre suf n _ hn hl hzl
  | t6 => show SXT _ _ _ _ _ _ _ _ _ _ _ (NextIs _ _ _ _ ((ps ++ [some _]).map partD)); rw [List.map_append]; exact turn6 B L a pre suf n _ hn hl hzl
  | t7 => show SXT _ _ _ _ _ _ _ _ _ _ _ (NextIs _ _ _ _ ((ps ++ [some _]).map partD)); rw [List.map_append]; exact turn7 B L a pre suf n _ hn hl hzl
  | t8 => show SXT _ _ _ _ _ _ _ _ _ _ _ (NextIs _ _ _ _ ((ps ++ [some _]).map partD)); rw [List.map_append]; exact turn8 B L a pre suf n _ hn hl hzl
  | t9 => show SXT _ _ _ _ _ _ _ _ _ _ _ (NextIs _ _ _ _ ((ps ++ [some _]).map partD)); rw [List.map_append]; exact turn9 B L a pre suf n _ hn hl hzl
end
/-- texts put one behind the other -/
def cat : List Str → Str
  | [] => ⟨#[]⟩
  | x :: l => x ++ cat l
theorem app_assoc (x y z : Str) : x ++ y ++ z = x ++ (y ++ z) := by
  show (⟨x.cps ++ y.cps ++ z.cps⟩ : Str) = ⟨x.cps ++ (y.cps ++ z.cps)⟩
  rw [Array.append_assoc]
theorem app_nil (x : Str) : x ++ (⟨#[]⟩ : Str) = x := by
  show (⟨x.cps ++ #[]⟩ : Str) = x
  rw [Array.append_empty]
theorem nil_app (x : Str) : (⟨#[]⟩ : Str) ++ x = x := by
  show (⟨#[] ++ x.cps⟩ : Str) = x
  rw [Array.empty_append]
theorem cat_append : ∀ (l m : List Str), cat (l ++ m) = cat l ++ cat m
  | [], m => (nil_app _).symm
  | x :: l, m => by
    show x ++ cat (l ++ m) = x ++ cat l ++ cat m
    rw [cat_append l m, app_assoc]
theorem cat_mid (l : List Str) (t : Str) (m : List Str) : cat (l ++ t :: m) = cat l ++ t ++ cat m := by
  rw [cat_append, app_assoc]; rfl
abbrev Toks := List (Str × Option Str)
def partsT (l : Toks) : List (Option Str) := (l.map (·.2)).foldl addP []
theorem partsT_snoc (l : Toks) (q : Str × Option Str) : partsT (l ++ [q]) = addP (partsT l) q.2 := by
  unfold partsT; rw [List.map_append, List.foldl_append]; rfl
theorem foldl_len : ∀ (l : List (Option Str)) (ps : List (Option Str)), (l.foldl addP ps).length ≤ ps.length + l.length
  | [], ps => Nat.le_refl _
  | p :: l, ps => by
    have := foldl_len l (addP ps p)
    have := addP_len ps p
    rw [List.foldl_cons, List.length_cons]; omega
theorem partsT_len (l : Toks) : (partsT l).length ≤ l.length := by
  have := foldl_len (l.map (·.2)) []
  rw [List.length_map, List.length_nil] at this
  unfold partsT
  omega
section
variable {prog : Program} {w : World} {k : Nat} {P : Params} {mg mb : Str → Option Value}
theorem TV.as {G : Pg} {env : Env} {ρ : List (Str × D)} {σ : List (Addr × List D)} {e : Expr} {b b' : Bool} (h : TV prog w G k env ρ σ e b) (e' : b = b') : TV prog w G k env ρ σ e b' := e' ▸ h
theorem tr_body (B : GB P mg mb) {L : Addr} {l : Toks} {pat : Str} (hl : ∀ q ∈ l, TokOK q.1 q.2) (hpat : pat = cat (l.map (·.1))) (hz : l.length ≤ 100) (hn : pat.length ≤ 900) :
    SXT prog w (kap P mg mb).pg mg 54 50 (k + 1) (f55.en L) [("pat", .str pat), ("STAR", .none), ("QUESTION_MARK", .str ".")] [] f55.body (fun o _ _ => o = .ret (.list ((partsT l).map partD))) := by
  refine .cons (.of (.assignOwn (.list .nil) (.inl rfl) (fun a => .skip (by decide) (.skip (by decide) (.skip (by decide) .nil))) fun a => ?_))
  refine .cons (.of (.assignMeth (.name rfl) (.head _) (.inl rfl) (.skip (by decide) (.skip (by decide) (.skip (by decide) (.skip (by decide) .nil)))) ?_))
  refine .cons (.of (.swapped (names := ["i", "n"]) (ds := [.int 0, .int pat.length]) (.tup (.cons .int (.cons (.bncall B (.cons (.name rfl) .nil) (.len_str (by omega))) .nil)))
    (.bind (.inl rfl) (.skip (by decide) (.skip (by decide) (.skip (by decide) (.skip (by decide) (.skip (by decide) .nil))))) (.bind (.inl rfl) (.skip (by decide) (.skip (by decide) (.skip (by decide) (.skip (by decide) (.skip (by decide) (.skip (by decide) .nil)))))) .nil)) ?_))
  have hn0 : ∀ (i n : Int), ((rhoT pat a i n []).map (·.1)).Nodup := fun i n => (by decide : (["pat", "STAR", "QUESTION_MARK", "res", "add", "i", "n"] : List Str).Nodup)
  refine .cons (.while (fun m ρ σ => ∃ done todo, l = done ++ todo ∧ m = todo.length ∧ (∀ p ∈ rhoT pat a ((cat (done.map (·.1))).length : Nat) pat.length [], p ∈ ρ) ∧ σ = [(a, (partsT done).map partD)]) l.length
    ⟨[], l, rfl, rfl, ?_, rfl⟩ ?_)
  · intro p hp
    simp only [rhoT, List.mem_cons, List.not_mem_nil, or_false, List.map_nil] at hp ⊢
    rcases hp with h | h | h | h | h | h | h
    · exact .inl h
    · exact .inr (.inl h)
    · exact .inr (.inr (.inl h))
    · exact .inr (.inr (.inr (.inl h)))
    · exact .inr (.inr (.inr (.inr (.inl h))))
    · exact .inr (.inr (.inr (.inr (.inr (.inr h)))))
    · exact .inr (.inr (.inr (.inr (.inr (.inl h)))))
  · rintro m ρ σ ⟨done, todo, hd, rfl, hρ, rfl⟩
    cases todo with
    | nil =>
      have e : (cat (done.map (·.1))).length = pat.length := by rw [hpat, hd, List.append_nil]
      refine ⟨false, .forget hρ (.as (.cmp (.name rfl) (.name rfl) .lt_int) ?_), fun h => absurd h Bool.false_ne_true, fun _ => ?_⟩
      · exact decide_eq_false (by omega)
      · rw [e] at hρ
        have hdl : l = done := by rw [hd, List.append_nil]
        subst hdl
        refine .forget hρ (hn0 _ _) (.nil ?_)
        refine .cons (.of (.assert (.as (.cmp (.name rfl) (.name rfl) .eq_int) (by simp)) ?_))
        refine .freeze (σ₁ := []) (.same (.same (.same (.here (.same (.same (.same .nil))))))) ?_
        exact .of (.cons (.ret (.name rfl) rfl))
    | cons q todo =>
      have hq := hl q (by rw [hd]; simp)
      have hp := hq.pos
      have hc : pat = cat (done.map (·.1)) ++ q.1 ++ cat (todo.map (·.1)) := by
        rw [hpat, hd, List.map_append, List.map_cons, cat_mid]
      have hlc : pat.length = (cat (done.map (·.1))).length + q.1.length + (cat (todo.map (·.1))).length := by
        rw [hc, len_append, len_append]
      refine ⟨true, .forget hρ (.as (.cmp (.name rfl) (.name rfl) .lt_int) ?_), fun _ => ?_, fun h => nomatch h⟩
      · exact decide_eq_true (by omega)
      · refine .forget hρ (hn0 _ _) ?_
        have hdl : (partsT done).length ≤ 1000 := by
          have := partsT_len done
          have : l.length = done.length + (q :: todo).length := by rw [hd, List.length_append]
          omega
        have := turn_tok B (prog := prog) (w := w) (k := k) hq (L := L) (a := a) (pre := cat (done.map (·.1))) (suf := cat (todo.map (·.1))) (n := pat.length) (ps := partsT done) (by rw [← hc]) hn hdl
        rw [← hc] at this
        refine this.mono ?_
        rintro o ρ' σ' ⟨rfl, h1, rfl⟩
        refine ⟨todo.length, by simp, done ++ [q], todo, by rw [hd]; simp, rfl, ?_, ?_⟩
        · have e : ((cat ((done ++ [q]).map (·.1))).length : Nat) = (cat (done.map (·.1))).length + q.1.length := by
            rw [List.map_append, cat_append, len_append]
            show _ + (q.1 ++ cat []).length = _
            rw [show cat [] = (⟨#[]⟩ : Str) from rfl, app_nil]
          rw [e]; exact h1
        · rw [partsT_snoc]
end
end

section
section
variable {prog : Program} {w : World} {k : Nat} {P : Params} {mg mb : Str → Option Value}
variable {env : Env} {ρ ρ' : List (Str × D)} {σ : List (Addr × List D)} {R : Post}
/-- a call of `_translate` -/
theorem tr_call (B : GB P mg mb) {l : Toks} {pat : Str} (hl : ∀ q ∈ l, TokOK q.1 q.2) (hpat : pat = cat (l.map (·.1))) (hz : l.length ≤ 100) (hn : pat.length ≤ 900)
    {A : Around} {s : Shared} {H : List Addr} {Q E : Value → Shared → Prop} {vs : List Value} (r : Room (k + 2) A) (hP : (kap P mg mb).pg.P (vis H s.heap)) (hB : Bound H s.heap) (hH : 50 ∈ H)
    (code : CodeHd (hideAll s.heap [50]) 54 50) (bi : (hideAll s.heap [50]).BuiltinsAt mg 50) (tab : ∃ ps, s.heap.get? 50 = some (tabObj ps) ∧ TriplesOk ps.toList)
    (rv : RepL (vis H s.heap) vs [.str pat, .none, .str "."])
    (hQ : ∀ v s', Sub (hideAll s.heap [50]) s'.heap → (∃ ps, s'.heap.get? 50 = some (tabObj ps) ∧ TriplesOk ps.toList) → Osg s s' → Rep (vis H s'.heap) v (.list ((partsT l).map partD)) → Q v s') :
    wpAny (model prog w) A (call (.ref 55) vs) Q E s := by
  have hPl := hP
  obtain ⟨hK, hg, hbn, hlim⟩ := hP
  have hvl : vs.length = (["pat", "STAR", "QUESTION_MARK"] : List Str).length := rv.length
  have hkind : ∀ x ∈ (["pat", "STAR", "QUESTION_MARK"] : List Str), f55.scope.names.lookup x = some .local := by decide
  refine wpAny_call (call_cells_ret r.lim (vis_of (hK _ _ (f55.look P))) rfl (hlim.keeps (vis_le _ _)) ⟨f55.c, _, f55.vs, f55.t, rfl, vis_of (hK _ _ (f55.code P)), rfl, f55.qual⟩
    (binds := (["pat", "STAR", "QUESTION_MARK"] : List Str).zip vs) (by match vs, hvl with | [u, v, x], _ => rfl) (fun x hx' => .inl (hkind _ (List.of_mem_zip hx').1)) (fun h₁ tk F C => ?_) rfl rfl rfl)
  have S := St.entry (G := (kap P mg mb).pg) (ds := [.str pat, .none, .str "."]) (xs := ["pat", "STAR", "QUESTION_MARK"]) rfl F C (fun L q hq => nomatch hq) (by decide) (fun x hx => .inl (hkind x hx)) hPl hB rv
  have S' := S.unbase (h₀ := hideAll s.heap [50]) (fun b o e => of_hideAll _ e)
  have h50 : 50 ∉ own (f55.en s.heap.objs.size) [] := fun hm => S.apart _ hm hH
  have tb : TB mg 54 50 (hideAll s.heap [50]) H (f55.en s.heap.objs.size) [] h₁ := ⟨hH, hideAll_none _ (.head _), code, bi, h50, let ⟨ps, a, b⟩ := tab; ⟨ps, F.keep _ _ a, b⟩⟩
  refine tr_body B hl hpat hz hn _ _ _ { s with heap := h₁, toks := tk } _ _ (r.deeper _) S' tb fun o fl ρ' σ' s' hR S'' t'' hf os => ?_
  subst hR
  obtain ⟨v, rfl, rv'⟩ := hf
  exact hQ v s' S''.base t''.tab ⟨os.os, os.gens⟩ (rv'.mono (vis_more fun a ha => List.mem_append.mpr (.inr ha)))
/-- the statement that calls `_translate` -/
theorem SOT.translate (B : GB P mg mb) {l : Toks} {pat : Str} (hl : ∀ q ∈ l, TokOK q.1 q.2) (hpat : pat = cat (l.map (·.1))) (hz : l.length ≤ 100) (hn : pat.length ≤ 900)
    {y : Str} {py px pos spos : Pos} {e : Expr} {es : List Expr} (h : EVS prog w (kap P mg mb).pg (k + 2) env ρ σ (e :: es) [.str pat, .none, .str "."])
    (hx : env.kindOf "_translate" = some .globalImplicit) (hg : env.globals = mainGlobals)
    (hy : Sto env y) (u : Upd y (.list ((partsT l).map partD)) ρ ρ') (hR : R .next ρ' σ)
    (he : starEach (e :: es) env = (false, eval e env) :: starEach es env := by rfl)
    (hc : ∀ e', eval (.Call (.Name "_translate" px) (e :: es) [] pos) e' = (do callWith pos (← eval (.Name "_translate" px) e') [] (backTo pos (starEach (e :: es) e')) (backToKw pos (keywordEach [] e'))) := by intro _; rfl)
    (hs : swapsWith (.Call (.Name "_translate" px) (e :: es) [] pos) (some (.Name y py)) spos.line env = pure false := by rfl) :
    SOT prog w (kap P mg mb).pg mg 54 50 (k + 2) env ρ σ (.Assign [.Name y py] (.Call (.Name "_translate" px) (e :: es) [] pos) spos) R := fun h₀ H₀ A s Q E r S tb q => by
  refine wpAny_Assign_Name ?_ hs
  rw [hc]
  refine wpAny_bind (EV.gname (κ := kap P mg mb) (v := .ref 55) hx hg (B.g _ _ (by kernel_rfl)) (by decide) A s _ _ E r S.nm fun vf s₁ x₁ rf => ?_)
  cases rf
  have S1 := S.grow x₁.sub
  refine Calls.callWith_function (o := { cls := .type "function", data := .func (docDef f55.name f55.params f55.body f55.scope f55.pm (.ref f55.c) .none) }) (fd := docDef f55.name f55.params f55.body f55.scope f55.pm (.ref f55.c) .none) (evalArgs_EVS h he r S1.nm fun vs s₂ x₂ rv => ?_)
  have S2 := S1.grow x₂.sub
  have tb2 := (tb.grow x₁.sub).grow x₂.sub
  refine ⟨⟨vis_of (S2.nm.prog.1 _ _ (f55.look P)), rfl⟩, ?_⟩
  have hsub : Sub h₀ (hideAll s₂.heap [50]) := fun b o e => hideAll_get _ (S2.base b o e) fun hm => by
    rw [List.mem_singleton.mp hm, tb.base] at e; cases e
  refine tr_call B hl hpat hz hn r S2.nm.prog S2.nm.bound (List.mem_append.mpr (.inr tb.hid)) (tb.code.keeps hsub) (tb.bi.keeps hsub) tb2.tab rv fun v s₃ k3 t3 os3 rv3 => ?_
  have S3 := S2.ticks (T := [50]) (fun I hI => by
    rw [List.mem_singleton.mp hI]
    obtain ⟨ps, e, _⟩ := t3
    exact ⟨tb.hid, tb.notown, tb.base, _, e⟩) (fun b o hb e => k3 b o (hideAll_get _ e hb))
  refine St.store S3 hy u rv3 fun h' tk S' hk => ?_
  obtain ⟨ps, e1, e2⟩ := t3
  exact q .next .next _ _ _ hR S' ⟨tb.hid, tb.base, tb.code, tb.bi, tb.notown, ps, hk _ _ tb.notown e1, e2⟩ rfl ⟨(os3.os.trans x₂.os).trans x₁.os, fun h => os3.gens (x₂.gens (x₁.gens h))⟩
end
end

section
noncomputable abbrev lawE (L fa : Addr) (cd : Value) : Env := envOfC lawD.name lawD.scope L fa cd
theorem Upd.ex (x : Str) (d : D) : ∀ (ρ : List (Str × D)), (ρ.map (·.1)).Nodup → ∃ ρ', Upd x d ρ ρ' ∧ (x, d) ∈ ρ' ∧ ∀ p ∈ ρ, p.1 ≠ x → p ∈ ρ'
  | [], _ => ⟨_, .nil, .head _, fun p hp => nomatch hp⟩
  | (y, e) :: r, hn => by
    have hn' := List.nodup_cons.mp (show (y :: r.map (·.1)).Nodup from hn)
    by_cases h : y = x
    · subst h
      exact ⟨_, .here, .head _, fun p hp hne => by
        rcases List.mem_cons.mp hp with q | hp
        · subst q; exact absurd rfl hne
        · exact .tail _ hp⟩
    · obtain ⟨r', u, a, b⟩ := Upd.ex x d r hn'.2
      exact ⟨_, .skip h u, .tail _ a, fun p hp hne => by
        rcases List.mem_cons.mp hp with q | hp
        · subst q; exact .head _
        · exact .tail _ (b p hp hne)⟩
theorem fits_ok {x : Int} (h0 : -1000000 ≤ x) (h1 : x ≤ 1000000) : Builtin.Range.rangeFitsLong x = true := by
  unfold Builtin.Range.rangeFitsLong
  simp only [Bool.and_eq_true, decide_eq_true_eq]
  omega
theorem small_ok {m : Int} (h0 : 0 ≤ m) (h : m ≤ 100000) : Builtin.Range.small 0 m 1 = true := by
  unfold Builtin.Range.small
  rw [rsize_one h0, fits_ok (x := 0) (by omega) (by omega), fits_ok (x := m) (by omega) (by omega), fits_ok (x := 1) (by omega) (by omega), fits_ok (x := m - 0) (by omega) (by omega), if_pos (by decide), fits_ok (x := m + (1 - 1)) (by omega) (by omega)]
  simp
theorem natint (n : Nat) : intN (.int (n : Int)) = n := by show (n : Int).toNat = n; omega
def fieldP (a : Int) (k : Nat) : Int := Builtin.bitAnd (a.fdiv (2 ^ (16 * (k : Int)).toNat)) 65535
def onsD (on : Nat → Int) (n : Nat) : D := .list ((List.range (n + 1)).map fun j => .int (on j))
theorem get_range {α : Type} (f : Nat → α) {n j : Nat} (h : j ≤ n) : ((List.range (n + 1)).map f)[j]? = some (f j) := by
  rw [List.getElem?_map, List.getElem?_range (by omega)]; rfl
section
variable {prog : Program} {w : World} {k : Nat} {P : Params} {mg mb : Str → Option Value}
variable {env : Env} {ρ ρ' : List (Str × D)} {σ : List (Addr × List D)} {R : Post}
abbrev rhoE (l : List (Fin 3)) (size : Nat) (on bk : Nat → Int) (items : List Str) (stars : List Bool) (tl : List (Str × D)) : List (Str × D) :=
  ("name", .str (nameS l)) :: ("size", .int size) :: ("onward", onsD on l.length) :: ("backward", onsD bk l.length) :: ("fronts", .list ((List.range (l.length + 1)).map fun j => walksD (walksP items stars (l.take j)))) :: tl

end
end

section
section
variable {prog : Program} {w : World} {k : Nat} {P : Params} {mg mb : Str → Option Value}
variable {env : Env} {ρ ρ' : List (Str × D)} {σ : List (Addr × List D)} {R : Post}
noncomputable def jBody : List Stmt := match lawD.body[14]? with
  | some (Stmt.For _ _ b _ _) => b
  | _ => []
noncomputable def kBody : List Stmt := match jBody[3]? with
  | some (Stmt.For _ _ b _ _) => b
  | _ => []
abbrev natsD (l : List Nat) : D := .list (l.map fun (n : Nat) => D.int (n : Int))
/-- the innermost turn -/
theorem k_turn (B : GB P mg mb) {L fa : Addr} {cd : Value} {l : List (Fin 3)} {items : List Str} {stars : List Bool} {size : Nat} {on bk : Nat → Int} {wh : D} {j m : Nat} {thr : List Nat} 
    (hj : j ≤ l.length) (hl : l.length ≤ 10) (hm : m ≤ 200) (hz : thr.length ≤ 10000)
    (F5 : fieldP (on j) m * fieldP (bk j) m = ((thr.filter fun (o : Nat) => ((o : Int) == (m : Int))).length : Int)) (Fm : IntMulOk (fieldP (on j) m) (fieldP (bk j) m)) {R : Post} (hR : ∀ d, R .next (("k", .int (m : Int)) :: ("j", .int (j : Int)) :: ("through", natsD thr) :: rhoE l size on bk items stars [("whole", wh), ("told", d)]) []) :
    SX prog w (kap P mg mb).pg (k + 3) (lawE L fa cd) (("k", .int (m : Int)) :: ("j", .int (j : Int)) :: ("through", natsD thr) :: rhoE l size on bk items stars [("whole", wh)]) [] kBody R := by
  refine .cons (.assign (d := .int (fieldP (on j) m * fieldP (bk j) m)) (.gcall B f83 (.cons (.gcall B f170 (.cons (.sub (.name rfl) (.name rfl) (.list (d := .int (on j)) (by omega) (by omega) ?_)) (.cons (.name rfl) .nil)) (fn_field B (by omega) mul16)) (.cons (.gcall B f170 (.cons (.sub (.name rfl) (.name rfl) (.list (d := .int (bk j)) (by omega) (by omega) ?_)) (.cons (.name rfl) .nil)) (fn_field B (by omega) mul16)) .nil)) (fn_mul Fm)) (.inl rfl)
    (.skip (by decide) (.skip (by decide) (.skip (by decide) (.skip (by decide) (.skip (by decide) (.skip (by decide) (.skip (by decide) (.skip (by decide) (.skip (by decide) .nil))))))))) ?_)
  · rw [Int.toNat_natCast]; exact get_range (fun j => D.int (on j)) hj
  · rw [Int.toNat_natCast]; exact get_range (fun j => D.int (bk j)) hj
  · have hz1 : ((thr.filter fun (o : Nat) => ((o : Int) == (m : Int))).map fun (o : Nat) => D.int (o : Int)).length < 2 ^ 62 := by
      rw [List.length_map]; exact Nat.lt_of_le_of_lt (List.length_filter_le _ _) (by omega)
    have hlenE : (((thr.filter fun (o : Nat) => ((o : Int) == (m : Int))).map fun (o : Nat) => D.int (o : Int)).length : Int) = fieldP (on j) m * fieldP (bk j) m := by
      rw [List.length_map, F5]
    refine .cons (.ite (.cmp (.name rfl) (.bncall B (.cons (.compT (fun (n : Nat) => D.int (n : Int)) intN natint (ρc := [("k", .int (m : Int))]) (xs := thr) (fun (o : Nat) => ((o : Int) == (m : Int))) (fun (o : Nat) => D.int (o : Int)) (.name rfl) .list ⟨by rfl, by decide, rfl, by decide, rfl, ?_⟩ (Nat.le_trans hz (by decide)) (fun C y hy => .cmp (.name rfl) (.name rfl) .eq_int) (fun C y hy _ => .name rfl)) .nil) (.len_list hz1)) .ne_int) (fun h => ?_) (fun h => .nil (.nil (hR _))))
    · intro q hq
      rw [List.mem_singleton.mp hq]
      exact ⟨by simp, rfl, rfl, rfl⟩
    · rw [hlenE] at h
      simp at h
end
end

section
section
variable {prog : Program} {w : World} {k : Nat} {P : Params} {mg mb : Str → Option Value}
variable {env : Env} {ρ ρ' : List (Str × D)} {σ : List (Addr × List D)} {R : Post}
theorem SX.upd {G : Pg} {body : List Stmt} {ρ₁ ρ₂ : List (Str × D)} {x : Str} {d : D} (hn : (ρ.map (·.1)).Nodup) (hs : ∀ p ∈ ρ₁, p ∈ ρ) (hx : x ∉ ρ₁.map (·.1)) (h2 : ρ₂ = (x, d) :: ρ₁) (hn2 : (ρ₂.map (·.1)).Nodup) (h : SX prog w G k env ρ₂ σ body R) :
    ∃ ρ', Upd x d ρ ρ' ∧ SX prog w G k env ρ' σ body R := by
  subst h2
  obtain ⟨ρ', u, a, b⟩ := Upd.ex x d ρ hn
  refine ⟨ρ', u, h.forget (fun p hp => ?_) hn2⟩
  rcases List.mem_cons.mp hp with e | hp
  · exact e ▸ a
  · exact b p (hs p hp) fun e => hx (e ▸ List.mem_map.mpr ⟨p, hp, rfl⟩)
theorem filter_tt {α : Type} (l : List α) : l.filter (fun _ => true) = l := List.filter_eq_self.mpr fun _ _ => rfl
abbrev rhoJ (l : List (Fin 3)) (size : Nat) (on bk : Nat → Int) (items : List Str) (stars : List Bool) (wh : D) (j : Nat) (thr : List Nat) : List (Str × D) := ("j", .int (j : Int)) :: ("through", natsD thr) :: rhoE l size on bk items stars [("whole", wh)]
/-- one turn of the outer loop -/
theorem j_turn (B : GB P mg mb) {L fa : Addr} {cd : Value} {l : List (Fin 3)} {items : List Str} {stars : List Bool} {size : Nat} {on bk : Nat → Int} {wh : List (List Nat)} {j : Nat}
    (hl : l.length ≤ 10) (hs : size ≤ 100) (hj : j ≤ l.length) (hwz : wh.length ≤ 10000) (hwl : ∀ v ∈ wh, v.length = l.length + 1)
    (F4 : on j = ((walksP items stars (l.take j)).map fun v => (2 : Int) ^ (16 * (lastW v : Int)).toNat).sum) (hlast : ∀ v ∈ walksP items stars (l.take j), lastW v ≤ 200)
    (F5 : ∀ m, m ≤ size → fieldP (on j) m * fieldP (bk j) m = (((wh.map fun v => v.getD j 0).filter fun (o : Nat) => ((o : Int) == (m : Int))).length : Int)) (Fm : ∀ m, m ≤ size → IntMulOk (fieldP (on j) m) (fieldP (bk j) m)) {R : Post}
    (hR : ∀ ρ, (∀ p ∈ rhoE l size on bk items stars [("whole", walksD wh)], p ∈ ρ) → (ρ.map (·.1)).Nodup → R .next ρ []) :
    SX prog w (kap P mg mb).pg (k + 3) (lawE L fa cd) (("j", .int (j : Int)) :: rhoE l size on bk items stars [("whole", walksD wh)]) [] jBody R := by
  have hok := walksP_ok items stars (l.take j)
  have hwb := wl_bound items stars l hl j
  have hea := walksP_each items stars (l.take j)
  have htl := List.length_take_le' j l
  have hget : ((List.range (l.length + 1)).map fun j => walksD (walksP items stars (l.take j)))[((j : Int)).toNat]? = some (walksD (walksP items stars (l.take j))) := by
    rw [Int.toNat_natCast]; exact get_range (fun j => walksD (walksP items stars (l.take j))) hj
  generalize hws : walksP items stars (l.take j) = ws at F4 hok hwb hea hget hlast
  -- ends
  have e1 : D.list ((ws.filter fun _ => true).map fun v => D.int (lastW v : Int)) = natsD (ws.map lastW) := by
    show D.list _ = D.list _
    rw [filter_tt, List.map_map]; rfl
  refine .cons (.assignCompT walkD unW unW_walk (ρc := []) (xs := ws) (fun _ => true) (fun v => .int (lastW v : Int)) (.sub (.name rfl) (.name rfl) (.list (d := walksD ws) (by omega) (by omega) hget)) .list ⟨by rfl, by decide, rfl, by decide, rfl, fun q hq => nomatch hq⟩ (Nat.le_trans hwb (by decide)) (fun C v hv => rfl) (fun C v hv _ => ?_) (.inl rfl)
    (ρ' := ("j", .int (j : Int)) :: rhoE l size on bk items stars [("whole", walksD wh), ("ends", natsD (ws.map lastW))]) (e1 ▸ .skip (by decide) (.skip (by decide) (.skip (by decide) (.skip (by decide) (.skip (by decide) (.skip (by decide) (.skip (by decide) .nil))))))) ?_)
  · exact .lastW (.name rfl) (hok v hv).1 (by rw [hea v hv]; omega)
  -- the first number tells
  have e2 : D.list (((ws.map lastW).filter fun _ => true).map fun (n : Nat) => D.int ((2 : Int) ^ (16 * (n : Int)).toNat)) = .list ((ws.map fun v => (2 : Int) ^ (16 * (lastW v : Int)).toNat).map .int) := by
    rw [filter_tt, List.map_map, List.map_map]; rfl
  have hsum : EV prog w (kap P mg mb).pg (k + 3) (lawE L fa cd) (("j", .int (j : Int)) :: rhoE l size on bk items stars [("whole", walksD wh), ("ends", natsD (ws.map lastW))]) [] (match jBody[1]? with
      | some (Stmt.If (.Compare _ _ [.Call _ [e] _ _] _) _ _ _) => e
      | _ => .Name "" default) (.list ((ws.map fun v => (2 : Int) ^ (16 * (lastW v : Int)).toNat).map .int)) := by
    rw [← e2]
    refine .compT (fun (n : Nat) => D.int (n : Int)) intN natint (ρc := []) (xs := ws.map lastW) (fun _ => true) (fun (n : Nat) => D.int ((2 : Int) ^ (16 * (n : Int)).toNat)) (.name rfl) .list ⟨by rfl, by decide, rfl, by decide, rfl, fun q hq => nomatch hq⟩ (by rw [List.length_map]; exact Nat.le_trans hwb (by decide)) (fun C v hv => rfl) (fun C v hv _ => ?_)
    obtain ⟨v', hv', rfl⟩ := List.mem_map.mp hv
    have := hlast v' hv'
    exact .bin .int (.bin .int (.name rfl) (.mul mul16)) (.pow (by omega) (by omega) (by decide))
  refine .cons (.ite (.cmp (.sub (.name rfl) (.name rfl) (.list (d := .int (on j)) (by omega) (by omega) (by rw [Int.toNat_natCast]; exact get_range (fun j => D.int (on j)) hj))) (.bncall B (.cons hsum .nil) .sum) .ne_int) (fun h => ?_) (fun h => .nil ?_))
  · rw [F4] at h; simp at h
  -- through
  have e3 : D.list ((wh.filter fun _ => true).map fun v => D.int (v.getD j 0 : Nat)) = natsD (wh.map fun v => v.getD j 0) := by
    show D.list _ = D.list _
    rw [filter_tt, List.map_map]; rfl
  refine .cons (.assignCompT walkD unW unW_walk (ρc := [("j", .int (j : Int))]) (xs := wh) (fun _ => true) (fun v => .int (v.getD j 0 : Nat)) (.name rfl) .list ⟨by rfl, by decide, rfl, by decide, rfl, ?_⟩ (Nat.le_trans hwz (by decide)) (fun C v hv => rfl) (fun C v hv _ => ?_) (.inl rfl)
    (ρ' := ("j", .int (j : Int)) :: rhoE l size on bk items stars [("whole", walksD wh), ("ends", natsD (ws.map lastW)), ("through", natsD (wh.map fun v => v.getD j 0))]) (e3 ▸ .skip (by decide) (.skip (by decide) (.skip (by decide) (.skip (by decide) (.skip (by decide) (.skip (by decide) (.skip (by decide) (.skip (by decide) .nil)))))))) ?_)
  · intro q hq
    rw [List.mem_singleton.mp hq]
    exact ⟨by simp, rfl, rfl, rfl⟩
  · refine .sub (.name rfl) (.name rfl) (.list (by omega) (by omega) ?_)
    have hv' := hwl v hv
    rw [Int.toNat_natCast, List.getElem?_map, List.getElem?_eq_getElem (by omega), List.getD_eq_getElem?_getD, List.getElem?_eq_getElem (by omega)]
    rfl
  generalize hthr : wh.map (fun v => v.getD j 0) = thr at F5
  have hthz : thr.length ≤ 10000 := by rw [← hthr, List.length_map]; exact hwz
  -- the inner loop
  refine .cons (.forIn (ds := rngL 0 1 (size + 1)) (fun i ρ σ => (∀ p ∈ rhoJ l size on bk items stars (walksD wh) j thr, p ∈ ρ) ∧ (ρ.map (·.1)).Nodup ∧ σ = [])
    (.tncall B (.cons (.bin (.name rfl) .int .add) .nil) .range1) (.rng (small_ok (by omega) (by omega)) ?_) (.inr ⟨rfl, _, rfl⟩) ⟨?_, ?_, rfl⟩ ?_ ?_)
  · rw [rsize_one (by omega)]; omega
  · intro p hp
    simp only [rhoJ, rhoE, List.mem_cons, List.not_mem_nil, or_false] at hp ⊢
    rcases hp with h | h | h | h | h | h | h | h <;> simp [h]
  · exact (by decide : (["j", "name", "size", "onward", "backward", "fronts", "whole", "ends", "through"] : List Str).Nodup)
  · rintro i d ρ σ hd ⟨hρ, hnd, rfl⟩
    have hi : i < size + 1 := by
      have := (List.getElem?_eq_some_iff.mp hd).1
      simpa [rngL] using this
    obtain rfl : d = .int (i : Int) := by
      have : (rngL 0 1 (size + 1))[i]? = some (.int (i : Int)) := by
        unfold rngL
        rw [List.getElem?_map, List.getElem?_range hi]
        simp
      rw [this] at hd
      exact (Option.some.inj hd).symm
    refine SX.upd hnd hρ (by decide : ("k" : Str) ∉ (["j", "through", "name", "size", "onward", "backward", "fronts", "whole"] : List Str)) rfl (by decide : (["k", "j", "through", "name", "size", "onward", "backward", "fronts", "whole"] : List Str).Nodup) ?_
    refine k_turn B (thr := thr) hj hl (by omega) hthz (F5 i (by omega)) (Fm i (by omega)) fun d => ⟨fun p hp => ?_, (by decide : (["k", "j", "through", "name", "size", "onward", "backward", "fronts", "whole", "told"] : List Str).Nodup), rfl⟩
    simp only [rhoJ, rhoE, List.mem_cons, List.not_mem_nil, or_false] at hp ⊢
    rcases hp with h | h | h | h | h | h | h | h <;> simp [h]
  · rintro ρ σ ⟨hρ, hnd, rfl⟩
    exact .nil (.nil (hR ρ (fun p hp => hρ p (.tail _ (.tail _ hp))) hnd))
end
end

section
def wholeP (items : List Str) (stars : List Bool) (size : Nat) (l : List (Fin 3)) : List (List Nat) := (walksP items stars l).filter fun v => ((lastW v : Int) == (size : Int))
/-- what the loops of the law ask -/
structure Told (items : List Str) (stars : List Bool) (size : Nat) (l : List (Fin 3)) (on bk : Nat → Int) : Prop where
  f4 : ∀ j, j ≤ l.length → on j = ((walksP items stars (l.take j)).map fun v => (2 : Int) ^ (16 * (lastW v : Int)).toNat).sum
  f5 : ∀ j, j ≤ l.length → ∀ m, m ≤ size → fieldP (on j) m * fieldP (bk j) m = ((((wholeP items stars size l).map fun v => v.getD j 0).filter fun (o : Nat) => ((o : Int) == (m : Int))).length : Int)
  fm : ∀ j, j ≤ l.length → ∀ m, m ≤ size → IntMulOk (fieldP (on j) m) (fieldP (bk j) m)
section
variable {prog : Program} {w : World} {k : Nat} {P : Params} {mg mb : Str → Option Value}
variable {env : Env} {ρ ρ' : List (Str × D)} {σ : List (Addr × List D)} {R : Post}
theorem sx_loops (B : GB P mg mb) {L fa : Addr} {cd : Value} {l : List (Fin 3)} {items : List Str} {stars : List Bool} {size : Nat} {on bk : Nat → Int} (hl : l.length ≤ 10) (hs : size ≤ 100) (hi : items.length ≤ 100) (T : Told items stars size l on bk) :
    SX prog w (kap P mg mb).pg (k + 3) (lawE L fa cd) (rhoE l size on bk items stars []) [] (lawD.body.drop 13) (fun o _ _ => o = .ret (.bool true)) := by
  have hok := walksP_ok items stars l
  have hwb := wl_bound items stars l hl l.length
  rw [List.take_length] at hwb
  have hea := walksP_each items stars l
  have hget : ((List.range (l.length + 1)).map fun j => walksD (walksP items stars (l.take j)))[((-1 : Int) + (((List.range (l.length + 1)).map fun j => walksD (walksP items stars (l.take j))).length : Int)).toNat]? = some (walksD (walksP items stars l)) := by
    have e : ((-1 : Int) + (((List.range (l.length + 1)).map fun j => walksD (walksP items stars (l.take j))).length : Int)).toNat = l.length := by
      rw [List.length_map, List.length_range]; omega
    rw [e, get_range (fun j => walksD (walksP items stars (l.take j))) (Nat.le_refl _), List.take_length]
  have hlast : ∀ j, ∀ v ∈ walksP items stars (l.take j), lastW v ≤ 200 := fun j v hv => by
    have := (walksP_ok items stars (l.take j) v hv).2
    omega
  have hwl : ∀ v ∈ wholeP items stars size l, v.length = l.length + 1 := fun v hv => hea v (List.mem_filter.mp hv).1
  have hwz : (wholeP items stars size l).length ≤ 10000 := Nat.le_trans (List.length_filter_le _ _) (by omega)
  refine .cons (.assignCompT walkD unW unW_walk (ρc := [("size", .int (size : Int))]) (xs := walksP items stars l) (fun v => ((lastW v : Int) == (size : Int))) walkD (.sub (.name rfl) (.neg .int) (.list_neg (d := walksD (walksP items stars l)) (by decide) (by rw [List.length_map, List.length_range]; omega) (by decide) hget)) .list ⟨by rfl, by decide, rfl, by decide, rfl, ?_⟩ (Nat.le_trans hwb (by decide)) (fun C v hv => ?_) (fun C v hv _ => .name rfl) (.inl rfl)
    (ρ' := rhoE l size on bk items stars [("whole", walksD (wholeP items stars size l))]) (.skip (by decide) (.skip (by decide) (.skip (by decide) (.skip (by decide) (.skip (by decide) .nil))))) ?_)
  · intro q hq
    rw [List.mem_singleton.mp hq]
    exact ⟨by simp, rfl, rfl, rfl⟩
  · exact .cmp (.lastW (.name rfl) (hok v hv).1 (by rw [hea v hv]; omega)) (.name rfl) .eq_int
  have hlenN : (nameS l).length = l.length := by show (List.toArray _).size = _; simp
  refine .cons (.forIn (ds := rngL 0 1 (l.length + 1)) (fun i ρ σ => (∀ p ∈ rhoE l size on bk items stars [("whole", walksD (wholeP items stars size l))], p ∈ ρ) ∧ (ρ.map (·.1)).Nodup ∧ σ = [])
    (.tncall B (.cons (.bin (.bncall B (.cons (.name rfl) .nil) (.len_str (by rw [hlenN]; omega))) .int .add) .nil) .range1) (.rng (small_ok (by omega) (by rw [hlenN]; omega)) ?_) (.inr ⟨rfl, _, rfl⟩) ⟨fun p hp => hp, ?_, rfl⟩ ?_ ?_)
  · rw [hlenN, rsize_one (by omega)]; omega
  · exact (by decide : (["name", "size", "onward", "backward", "fronts", "whole"] : List Str).Nodup)
  · rintro i d ρ σ hd ⟨hρ, hnd, rfl⟩
    have hi' : i < l.length + 1 := by
      have := (List.getElem?_eq_some_iff.mp hd).1
      simpa [rngL] using this
    obtain rfl : d = .int (i : Int) := by
      have : (rngL 0 1 (l.length + 1))[i]? = some (.int (i : Int)) := by
        unfold rngL
        rw [List.getElem?_map, List.getElem?_range hi']
        simp
      rw [this] at hd
      exact (Option.some.inj hd).symm
    refine SX.upd hnd hρ (by decide : ("j" : Str) ∉ (["name", "size", "onward", "backward", "fronts", "whole"] : List Str)) rfl (by decide : (["j", "name", "size", "onward", "backward", "fronts", "whole"] : List Str).Nodup) ?_
    exact j_turn B hl hs (by omega) hwz hwl (T.f4 i (by omega)) (hlast i) (T.f5 i (by omega)) (T.fm i (by omega)) fun ρ' h1 h2 => ⟨h1, h2, rfl⟩
  · rintro ρ σ ⟨hρ, hnd, rfl⟩
    exact .nil (.cons (.ret .bool rfl))
end
end

section
def gOf (m : Mk) : Fin 3 → Int
  | 0 => m.g0
  | 1 => m.g1
  | 2 => m.g2
def onP (m : Mk) (l : List (Fin 3)) (j : Nat) : Int := onC m.stays (gOf m) (l.take j)
def bkP (m : Mk) (l : List (Fin 3)) (j : Nat) : Int := bkR m.stays (gOf m) m.at' (l.reverse.take (l.length - j))
theorem told_bk (m : Mk) (l : List (Fin 3)) : D.list (toldB m.stays (gOf m) m.at' l.reverse (l.length + 1)) = onsD (bkP m l) l.length := by
  unfold toldB onsD
  congr 1
  apply List.ext_getElem
  · simp
  · intro i h1 h2
    simp at h1 h2
    rw [List.getElem_map, List.getElem_map, List.getElem_reverse, List.getElem_range, List.getElem_range]
    simp only [List.length_range]
    unfold bkP
    rw [show l.length + 1 - 1 - i = l.length - i by omega]
section
variable {prog : Program} {w : World} {k : Nat} {P : Params} {mg mb : Str → Option Value}
variable {env : Env} {ρ ρ' : List (Str × D)} {σ : List (Addr × List D)} {R : Post}
abbrev rhoR (l : List (Fin 3)) (parts : List (Option Str)) (items : List Str) (stars : List Bool) (tl : List (Str × D)) : List (Str × D) :=
  ("name", .str (nameS l)) :: ("parts", .list (parts.map partD)) :: ("items", .list (items.map .str)) :: ("stars", .list (stars.map .bool)) :: tl
theorem sx_rest (B : GB P mg mb) {L fa : Addr} {cd : Value} {l : List (Fin 3)} {parts : List (Option Str)} {items : List Str} {stars : List Bool} (hp : ∀ p ∈ parts, ∀ x, p = some x → OkPart x) (hz : parts.length ≤ 100) (hl : l.length ≤ 10) (hi : items.length ≤ 100)
    (hsz : (masks parts).at' = items.length) (hst : stars.length = items.length + 1) (hb : ∀ i, (Builtin.Int.intBits (onC (masks parts).stays (gOf (masks parts)) (l.take i)) : Int) + 16 ≤ 2 ^ 27) (hrev : cutS (nameS l) none none (some (-1)) = nameS l.reverse)
    (T : Told items stars (masks parts).at' l (onP (masks parts) l) (bkP (masks parts) l)) :
    SX prog w (kap P mg mb).pg (k + 3) (lawE L fa cd) (rhoR l parts items stars []) [] (lawD.body.drop 8) (fun o _ _ => o = .ret (.bool true)) := by
  generalize hM : masks parts = M at hsz hb T
  have hfm : FN prog w (kap P mg mb).pg (k + 3) 130 [.list (parts.map partD)] (.tup [.int M.stays, .list [.int M.g0, .int M.g1, .int M.g2], .int M.at']) := hM ▸ fn_masks B hp (by omega)
  have hil : (items.map D.str).length < 2 ^ 62 := by rw [List.length_map]; omega
  refine .cons (.unpack (.gcall B f130 (.cons (.name rfl) .nil) hfm) (.name (.inl rfl) (.skip (by decide) (.skip (by decide) (.skip (by decide) (.skip (by decide) .nil)))) (.name (.inl rfl) (.skip (by decide) (.skip (by decide) (.skip (by decide) (.skip (by decide) (.skip (by decide) .nil))))) (.name (.inr ⟨rfl, _, rfl⟩) (.skip (by decide) (.skip (by decide) (.skip (by decide) (.skip (by decide) (.skip (by decide) (.skip (by decide) .nil)))))) .nil))) ?_)
  refine .cons (.ite (.cmp (.name rfl) (.bncall B (.cons (.name rfl) .nil) (.len_list hil)) .ne_int) (fun h => ?_) (fun h => .nil ?_))
  · rw [List.length_map, hsz] at h; simp at h
  refine .cons (.assign (d := onsD (onP M l) l.length) (.gcall B f137 (.cons (.name rfl) (.cons (.name rfl) (.cons (.name rfl) .nil))) (fn_onward (g := gOf M) B (by omega) hb)) (.inl rfl) (.skip (by decide) (.skip (by decide) (.skip (by decide) (.skip (by decide) (.skip (by decide) (.skip (by decide) (.skip (by decide) .nil))))))) ?_)
  have hbk : FN prog w (kap P mg mb).pg (k + 3) 144 [.int M.stays, goesD (gOf M), .int M.at', .str (nameS l)] (onsD (bkP M l) l.length) := told_bk M l ▸ fn_backward B (by omega) (by omega) hrev
  refine .cons (.assign (d := onsD (bkP M l) l.length) (.gcall B f144 (.cons (.name rfl) (.cons (.name rfl) (.cons (.name rfl) (.cons (.name rfl) .nil)))) hbk) (.inl rfl) (.skip (by decide) (.skip (by decide) (.skip (by decide) (.skip (by decide) (.skip (by decide) (.skip (by decide) (.skip (by decide) (.skip (by decide) .nil)))))))) ?_)
  refine .cons (.assign (.gcall B f156 (.cons (.name rfl) (.cons (.name rfl) (.cons (.name rfl) .nil))) (fn_walks B hl hst (by omega))) (.inl rfl) (.skip (by decide) (.skip (by decide) (.skip (by decide) (.skip (by decide) (.skip (by decide) (.skip (by decide) (.skip (by decide) (.skip (by decide) (.skip (by decide) .nil))))))))) ?_)
  refine SX.forget (ρ' := rhoE l M.at' (onP M l) (bkP M l) items stars []) (fun p hp => ?_) (by decide : (["name", "size", "onward", "backward", "fronts"] : List Str).Nodup) (sx_loops B hl (by omega) hi T)
  simp only [rhoE, rhoR, List.mem_cons, List.not_mem_nil, or_false] at hp ⊢
  rcases hp with h | h | h | h | h <;> simp [h]
end
end

section
section
variable {prog : Program} {w : World} {G : Pg} {k : Nat} {env : Env} {ρ ρ' : List (Str × D)} {h₀ h h' : Heap} {H₀ : List Addr}
/-- the slots of the frame's own objects may change -/
theorem St.slots (S : St G h₀ H₀ env ρ [] h) (k1 : Sub (vis (own env []) h) h') (k2 : h.UpToSlots h') : St G h₀ H₀ env ρ [] h' := by
  have hv : Sub (vis (own env [] ++ H₀) h) (vis (own env [] ++ H₀) h') := vis_sub fun b o hb e => k1 b o (vis_get e fun hm => hb (List.mem_append.mpr (.inl hm)))
  have ns : ∀ {m}, h.Ns env.locals m → h'.Ns env.locals m := fun ⟨o, es, ep, e, hd, r⟩ => by
    obtain ⟨sl, e'⟩ := k2 _ o e fun vs q => by rw [hd] at q; cases q
    exact ⟨_, es, ep, e', hd, r⟩
  have cell : ∀ {c v}, h.IsCell c v → h'.IsCell c v := fun ⟨o, e, hd⟩ => by
    obtain ⟨sl, e'⟩ := k2 _ o e fun vs q => by rw [hd] at q; cases q
    exact ⟨_, e', hd⟩
  have ex : ∀ a ∈ own env [] ++ H₀, ∃ o, h'.get? a = some o := fun a ha => by
    by_cases hm : a ∈ own env []
    · rcases List.mem_cons.mp hm with z | hm'
      · obtain ⟨m, n⟩ := S.ns
        obtain ⟨o, _, _, e, _⟩ := ns n
        exact ⟨o, z ▸ e⟩
      · rcases List.mem_append.mp hm' with hm' | hm'
        · obtain ⟨q, hq, rfl⟩ := List.mem_map.mp hm'
          obtain ⟨v, c⟩ := S.cells q hq
          obtain ⟨o, e, _⟩ := cell c
          exact ⟨o, e⟩
        · exact nomatch hm'
    · obtain ⟨o, e⟩ := S.nm.bound a ha
      exact ⟨o, k1 _ _ (vis_get e hm)⟩
  refine ⟨fun b o e => k1 b o (vis_get (S.base b o e) fun hm => by rw [S.fresh b hm] at e; cases e), ⟨G.mono hv S.nm.prog, S.nm.fn, ex, fun p hp => ?_, fun p hp => nomatch hp⟩, S.fresh, S.nodup, S.names, let ⟨m, n⟩ := S.ns; ⟨m, ns n⟩, fun q hq => let ⟨v, c⟩ := S.cells q hq; ⟨v, cell c⟩, S.apart⟩
  obtain ⟨v, hh, rp⟩ := S.nm.names p hp
  refine ⟨v, ?_, rp.mono hv⟩
  rcases hh with ⟨a, m, n, em⟩ | ⟨a, c, l, n⟩
  · exact .inl ⟨a, m, ns n, em⟩
  · exact .inr ⟨a, c, l, cell n⟩
end
section
variable {prog : Program} {w : World} {k : Nat} {P : Params} {mg mb : Str → Option Value}
variable {env : Env} {ρ ρ' : List (Str × D)} {R : Post}
/-- the statement that asks `_law_first` -/
theorem first_if (B : GB P mg mb) {parts : List (Option Str)} {A : Around} {h₀ : Heap} {H₀ : List Addr} {s : Shared} {Q : Flow → Shared → Prop} {E : Value → Shared → Prop} {px p1 p2 p3 p4 : Pos} {rhs : Expr} {body rest : List Stmt}
    (r : Room (k + 2) A) (hfr : A.frames = some [env]) (hf : env.frame = some env.locals)
    (S : St (kap P mg mb).pg h₀ H₀ env ρ [] s.heap) (tb : TB mg 54 50 h₀ H₀ env [] s.heap) (hp : EV prog w (kap P mg mb).pg (k + 2) env ρ [] (.Name "parts" p1) (.list (parts.map partD)))
    (hx : env.kindOf "_law_first" = some .globalImplicit) (hg : env.globals = mainGlobals)
    (hr : EV prog w (kap P mg mb).pg (k + 2) env ρ [] rhs (.int (firstP parts)))
    (cont : ∀ s', St (kap P mg mb).pg h₀ H₀ env ρ [] s'.heap → TB mg 54 50 h₀ H₀ env [] s'.heap → Osg s s' → wpAny (model prog w) A (execs rest env) Q E s')
    (he : starEach [.Name "parts" p1] env = (false, eval (.Name "parts" p1) env) :: starEach [] env := by rfl)
    (hc : ∀ e', eval (.Call (.Name "_law_first" px) [.Name "parts" p1] [] p2) e' = (do callWith p2 (← eval (.Name "_law_first" px) e') [] (backTo p2 (starEach [.Name "parts" p1] e')) (backToKw p2 (keywordEach [] e'))) := by intro _; rfl)
    (hm : behindInMarks .NotEq rhs = false := by with_unfolding_all rfl) :
    wpAny (model prog w) A (execs (.If (.Compare (.Call (.Name "_law_first" px) [.Name "parts" p1] [] p2) [.NotEq] [rhs] p3) body [] p4 :: rest) env) Q E s := by
  refine wpAny_execs_cons (wpAny_If (wpAny_isTrue_Compare1 ?_ hm))
  rw [hc]
  refine wpAny_bind (EV.gname (κ := kap P mg mb) (v := .ref 163) hx hg (B.g _ _ (by kernel_rfl)) (by decide) A s _ _ E r S.nm fun vf s₁ x₁ rf => ?_)
  cases rf
  have S1 := S.grow x₁.sub
  refine Calls.callWith_function (o := { cls := .type "function", data := .func (docDef f163.name f163.params f163.body f163.scope f163.pm (.ref f163.c) .none) }) (fd := docDef f163.name f163.params f163.body f163.scope f163.pm (.ref f163.c) .none) (evalArgs_EVS (EVS.cons hp EVS.nil he) he r S1.nm fun vs s₂ x₂ rv => ?_)
  have S2 := S1.grow x₂.sub
  have tb2 := (tb.grow x₁.sub).grow x₂.sub
  refine ⟨⟨vis_of (S2.nm.prog.1 _ _ (f163.look P)), rfl⟩, ?_⟩
  have hL : env.locals ∈ own env [] := .head _
  have hbase : (vis (own env []) s₂.heap).get? env.locals = Option.none := hideAll_none _ hL
  obtain ⟨m, o, es, ep, ho, hd, _⟩ := S2.ns
  refine first_call B r hfr (base := vis (own env []) s₂.heap) (vis_le _ _) ⟨fun q => ?_, ⟨env.locals, o, hf, hbase, ho, fun vs q => by rw [hd] at q; cases q⟩, trivial⟩
    ((kap P mg mb).pg.mono (vis_more fun a ha => List.mem_append.mpr (.inl ha)) S2.nm.prog) S2.nm.prog S2.nm.bound rv fun t s₃ k1 k2 os3 => ?_
  · rw [S2.nm.fn] at q; cases q
  have S3 := S2.slots k1 k2
  have tb3 : TB mg 54 50 h₀ H₀ env [] s₃.heap := ⟨tb.hid, tb.base, tb.code, tb.bi, tb.notown, let ⟨ps, a, b⟩ := tb2.tab; ⟨ps, k1 _ _ (vis_get a tb.notown), b⟩⟩
  have os03 : Osg s s₃ := (x₁.osg.trans x₂.osg).trans os3
  refine hr A s₃ _ _ E r S3.nm fun vb s₄ x₄ rb => ?_
  cases rb
  refine PyProof.Rows.ne_int ?_
  refine wpAny_truthy_bool ?_
  have e0 : (firstP parts != firstP parts) = false := by simp
  rw [e0]
  exact wpAny_execs_nil (cont s₄ (S3.grow x₄.sub) (tb3.grow x₄.sub) (os03.trans x₄.osg))
end
end

section
section
variable {prog : Program} {w : World} {G : Pg} {k : Nat} {env : Env} {ρ ρ' : List (Str × D)} {σ : List (Addr × List D)} {R : Post} {mg : Str → Option Value} {c T : Addr}
/-- statements of a function that the caller's own code calls -/
def SXL (prog : Program) (w : World) (G : Pg) (mg : Str → Option Value) (c T : Addr) (k : Nat) (env : Env) (ρ : List (Str × D)) (σ : List (Addr × List D)) (body : List Stmt) (R : Post) : Prop :=
  ∀ (h₀ : Heap) (H₀ : List Addr) (A : Around) (s : Shared) (Q : Flow → Shared → Prop) (E : Value → Shared → Prop), Room k A → A.frames = some [env] → St G h₀ H₀ env ρ σ s.heap → TB mg c T h₀ H₀ env σ s.heap →
    (∀ o fl ρ' σ' s', R o ρ' σ' → St G h₀ H₀ env ρ' σ' s'.heap → TB mg c T h₀ H₀ env σ' s'.heap → FlowOf (own env σ' ++ H₀) o fl s'.heap → Osg s s' → Q fl s') → wpAny (model prog w) A (execs body env) Q E s
def ThenL (prog : Program) (w : World) (G : Pg) (mg : Str → Option Value) (c T : Addr) (k : Nat) (env : Env) (rest : List Stmt) (R : Post) : Post := fun o ρ' σ' => match o with
  | .next => SXL prog w G mg c T k env ρ' σ' rest R
  | o => R o ρ' σ'
theorem SXL.of {body : List Stmt} (h : SXT prog w G mg c T k env ρ σ body R) : SXL prog w G mg c T k env ρ σ body R := fun h₀ H₀ A s Q E r _ S t q => h h₀ H₀ A s Q E r S t q
theorem SXL.cons {st : Stmt} {rest : List Stmt} (h : SOT prog w G mg c T k env ρ σ st (ThenL prog w G mg c T k env rest R)) : SXL prog w G mg c T k env ρ σ (st :: rest) R := fun h₀ H₀ A s Q E r hfr S t q =>
  wpAny_execs_cons (h h₀ H₀ A s _ E r S t fun o fl ρ' σ' s' hR S' t' hf x => by
    cases o with
    | next =>
      obtain rfl : fl = .next := hf
      exact hR h₀ H₀ A s' Q E r hfr S' t' fun o fl ρ'' σ'' s'' hR' S'' t'' hf' x' => q o fl ρ'' σ'' s'' hR' S'' t'' hf' (x.trans x')
    | brk =>
      obtain rfl : fl = .brk := hf
      exact q .brk .brk ρ' σ' s' hR S' t' rfl x
    | ret d =>
      obtain ⟨v, rfl, rv⟩ := hf
      exact q (.ret d) (.ret v) ρ' σ' s' hR S' t' ⟨v, rfl, rv⟩ x)
end
section
variable {prog : Program} {w : World} {k : Nat} {P : Params} {mg mb : Str → Option Value}
variable {env : Env} {ρ ρ' : List (Str × D)} {R : Post}
theorem SXL.first (B : GB P mg mb) {parts : List (Option Str)} {px p1 p2 p3 p4 : Pos} {rhs : Expr} {body rest : List Stmt}
    (hf : env.frame = some env.locals) (hp : EV prog w (kap P mg mb).pg (k + 2) env ρ [] (.Name "parts" p1) (.list (parts.map partD)))
    (hx : env.kindOf "_law_first" = some .globalImplicit) (hg : env.globals = mainGlobals)
    (hr : EV prog w (kap P mg mb).pg (k + 2) env ρ [] rhs (.int (firstP parts)))
    (cont : SXL prog w (kap P mg mb).pg mg 54 50 (k + 2) env ρ [] rest R)
    (he : starEach [.Name "parts" p1] env = (false, eval (.Name "parts" p1) env) :: starEach [] env := by rfl)
    (hc : ∀ e', eval (.Call (.Name "_law_first" px) [.Name "parts" p1] [] p2) e' = (do callWith p2 (← eval (.Name "_law_first" px) e') [] (backTo p2 (starEach [.Name "parts" p1] e')) (backToKw p2 (keywordEach [] e'))) := by intro _; rfl)
    (hm : behindInMarks .NotEq rhs = false := by with_unfolding_all rfl) :
    SXL prog w (kap P mg mb).pg mg 54 50 (k + 2) env ρ [] (.If (.Compare (.Call (.Name "_law_first" px) [.Name "parts" p1] [] p2) [.NotEq] [rhs] p3) body [] p4 :: rest) R := fun h₀ H₀ A s Q E r hfr S tb q =>
  first_if B r hfr hf S tb hp hx hg hr (fun s' S' t' os => cont h₀ H₀ A s' Q E r hfr S' t' fun o fl ρ'' σ'' s'' hR' S'' t'' hf' x' => q o fl ρ'' σ'' s'' hR' S'' t'' hf' (os.trans x')) he hc hm
/-- from the count of the stars on -/
theorem sx_mid (B : GB P mg mb) {L fa : Addr} {cd : Value} {l : List (Fin 3)} {parts : List (Option Str)} {items : List Str} {stars : List Bool} {tl : List (Str × D)}
    (hst : stars.length ≤ 100) (F1 : cnt parts = (stars.filter id).length) (F2 : firstP parts = if stars.any (· == true) then (stars.idxOf true : Int) else -1)
    (h : SX prog w (kap P mg mb).pg (k + 3) (lawE L fa cd) (rhoR l parts items stars []) [] (lawD.body.drop 8) R) :
    SXL prog w (kap P mg mb).pg mg 54 50 (k + 3) (lawE L fa cd) (rhoR l parts items stars []) [] (lawD.body.drop 6) R := by
  have hz1 : ((stars.filter id).map D.bool).length < 2 ^ 62 := by
    rw [List.length_map]; exact Nat.lt_of_le_of_lt (List.length_filter_le _ _) (by omega)
  refine .cons (.of (.ite (.cmp (.gcall B f104 (.cons (.name rfl) (.cons .none .nil)) fn_countOf) (.bncall B (.cons (.compT D.bool (fun d => match d with | .bool b => b | _ => false) (fun _ => rfl) (ρc := []) (xs := stars) id D.bool (.name rfl) .list ⟨by rfl, by decide, rfl, by decide, rfl, fun q hq => nomatch hq⟩ (Nat.le_trans hst (by decide)) (fun C y hy => .of (.name rfl) .bool) (fun C y hy _ => .name rfl)) .nil) (.len_list hz1)) .ne_int) (fun hh => ?_) (fun hh => .nil ?_)))
  · rw [List.length_map, F1] at hh; simp at hh
  refine .first B rfl (.name rfl) rfl rfl ?_ (.of (.of h))
  rw [F2]
  refine .ite (.cmp .bool (.name rfl) .in_listB) (fun hh => ?_) (fun hh => ?_)
  · rw [if_pos hh]
    have hm : true ∈ stars := by
      obtain ⟨b, hb, e⟩ := List.any_eq_true.mp hh
      exact (eq_of_beq e) ▸ hb
    exact .mcall (name := "index") (.name rfl) .lindex (.cons .bool .nil) (.indexB (by omega) hm)
  · rw [if_neg (by rw [hh]; decide)]
    exact .neg .int
end
end

section
def tokTab : List Toks := [[("a", some "a")], [("b", some "b")], [(".", some "\\.")], [("?", some ".")], [("*", Option.none)], [("*", Option.none)], [("*", Option.none), ("*", Option.none)],
  [("[ab]", some ("[" ++ ("ab" : Str) ++ "]"))], [("[!a]", some ("[" ++ ("^" ++ cutS ("!a" : Str) (some 1) Option.none Option.none) ++ "]"))], [("[.-a]", some ("[" ++ (".-a" : Str) ++ "]"))], [("[b-a]", some "(?!)")], [("[!b-a]", some ".")],
  [("[!.b]", some ("[" ++ ("^" ++ cutS ("!.b" : Str) (some 1) Option.none Option.none) ++ "]"))], [("[a.]", some ("[" ++ ("a." : Str) ++ "]"))], [("[.-b]", some ("[" ++ (".-b" : Str) ++ "]"))], [("[a-a]", some ("[" ++ ("a-a" : Str) ++ "]"))]]
def idx (x : Int) : Nat := (x.fmod 16).toNat
def pieceAt (x : Int) : Str × Str := pieces.getD (idx x) ("", "")
def toksAt (x : Int) : Toks := tokTab.getD (idx x) []
theorem idx_lt (x : Int) : idx x < 16 := by
  have := Int.fmod_nonneg_of_pos x (show (0 : Int) < 16 by decide)
  have := Int.fmod_lt_of_pos x (show (0 : Int) < 16 by decide)
  unfold idx; omega
theorem one_tok {t : Str} {p : Option Str} (h : TokOK t p) : ∀ q ∈ [(t, p)], TokOK q.1 q.2 := fun q hq => by rw [List.mem_singleton.mp hq]; exact h
theorem two_tok {t u : Str} {p r : Option Str} (h : TokOK t p) (h' : TokOK u r) : ∀ q ∈ [(t, p), (u, r)], TokOK q.1 q.2 := fun q hq => by
  rcases List.mem_cons.mp hq with e | hq
  · rw [e]; exact h
  · rw [List.mem_singleton.mp hq]; exact h'
theorem tab_ok : ∀ n, n < 16 → ∀ q ∈ tokTab.getD n [], TokOK q.1 q.2
  | 0, _ => one_tok .a
  | 1, _ => one_tok .b
  | 2, _ => one_tok .dot
  | 3, _ => one_tok .any
  | 4, _ => one_tok .star
  | 5, _ => one_tok .star
  | 6, _ => two_tok .star .star
  | 7, _ => one_tok .t1
  | 8, _ => one_tok .t2
  | 9, _ => one_tok .t3
  | 10, _ => one_tok .t4
  | 11, _ => one_tok .t5
  | 12, _ => one_tok .t6
  | 13, _ => one_tok .t7
  | 14, _ => one_tok .t8
  | 15, _ => one_tok .t9
  | n + 16, h => absurd h (by omega)
theorem tab_cat : ∀ n, n < 16 → cat ((tokTab.getD n []).map (·.1)) = (pieces.getD n ("", "")).1 ∧ (tokTab.getD n []).length ≤ 2 := by decide +kernel
def mineP (ds : List Int) : List (Str × Str) := (evens ds).map pieceAt
def toksL (ds : List Int) : Toks := (evens ds).flatMap toksAt
def signAt (x : Int) : Fin 3 := ([0, 0, 1, 2] : List (Fin 3)).getD ((x.fdiv 16).fmod 4).toNat 0
def nameL (ds : List Int) : List (Fin 3) := (ds.take 6).map signAt
theorem toks_ok (ds : List Int) : ∀ q ∈ toksL ds, TokOK q.1 q.2 := fun q hq => by
  obtain ⟨x, _, hq⟩ := List.mem_flatMap.mp hq
  exact tab_ok _ (idx_lt x) q hq
theorem cat_flat (xs : List Int) : cat ((xs.flatMap toksAt).map (·.1)) = cat ((xs.map pieceAt).map (·.1)) := by
  induction xs with
  | nil => rfl
  | cons x r ih =>
    rw [List.flatMap_cons, List.map_append, cat_append, ih, List.map_cons, List.map_cons]
    show _ = (pieceAt x).1 ++ cat _
    congr 1
    exact (tab_cat _ (idx_lt x)).1
theorem foldl_cat (r : List Str) : ∀ (a : Array Nat), r.foldl (fun acc p => acc ++ (⟨#[]⟩ : Str).cps ++ p.cps) a = a ++ (cat r).cps := by
  induction r with
  | nil => intro a; show a = a ++ #[]; simp
  | cons x r ih =>
    intro a
    rw [List.foldl_cons, ih]
    show a ++ #[] ++ x.cps ++ (cat r).cps = a ++ (x.cps ++ (cat r).cps)
    simp
theorem join_cat (xs : List Str) : Txt.join "" xs = cat xs := by
  cases xs with
  | nil => rfl
  | cons x r =>
    show (⟨r.foldl (fun acc p => acc ++ (⟨#[]⟩ : Str).cps ++ p.cps) x.cps⟩ : Str) = ⟨x.cps ++ (cat r).cps⟩
    rw [foldl_cat]
theorem cat_signs (l : List (Fin 3)) : cat (l.map signS) = nameS l := by
  induction l with
  | nil => rfl
  | cons i l ih =>
    show signS i ++ cat (l.map signS) = nameS (i :: l)
    rw [ih]
    show (⟨#[signC i] ++ (l.map signC).toArray⟩ : Str) = ⟨((i :: l).map signC).toArray⟩
    simp
theorem evens_len {α : Type} (ds : List α) : (evens ds).length ≤ (ds.length + 1) / 2 := by
  unfold evens
  exact Nat.le_trans (List.length_filterMap_le _ _) (by rw [List.length_range]; exact Nat.le_refl _)
theorem evens_map {α β : Type} (f : α → β) (ds : List α) : evens (ds.map f) = (evens ds).map f := by
  unfold evens
  rw [List.length_map, List.map_filterMap]
  congr 1
  funext j
  rw [List.getElem?_map]
theorem toks_len (xs : List Int) : (xs.flatMap toksAt).length ≤ 2 * xs.length := by
  induction xs with
  | nil => exact Nat.le_refl _
  | cons x r ih =>
    have : (toksAt x).length ≤ 2 := (tab_cat _ (idx_lt x)).2
    rw [List.flatMap_cons, List.length_append, List.length_cons]
    omega
theorem cat_len (l : Toks) (h : ∀ q ∈ l, TokOK q.1 q.2) : (cat (l.map (·.1))).length ≤ 6 * l.length := by
  induction l with
  | nil => exact Nat.le_refl _
  | cons q r ih =>
    have h1 := (h q (.head _)).pos
    have h2 := ih fun p hp => h p (.tail _ hp)
    rw [List.map_cons]
    show (q.1 ++ cat (r.map (·.1))).length ≤ _
    rw [len_append, List.length_cons]
    omega
theorem piece_get (x : Int) : (pieces.map pairD)[(x.fmod 16).toNat]? = some (pairD (pieceAt x)) := by
  have h := idx_lt x
  unfold pieceAt
  unfold idx at h ⊢
  rw [List.getElem?_map, List.getElem?_eq_getElem (by simpa [pieces] using h), List.getD_eq_getElem?_getD, List.getElem?_eq_getElem (by simpa [pieces] using h)]
  rfl
theorem sign_get (x : Int) : ([.str "a", .str "a", .str "b", .str "."] : List D)[((x.fdiv 16).fmod 4).toNat]? = some (.str (signS (signAt x))) := by
  have h0 := Int.fmod_nonneg_of_pos (x.fdiv 16) (show (0 : Int) < 4 by decide)
  have h1 := Int.fmod_lt_of_pos (x.fdiv 16) (show (0 : Int) < 4 by decide)
  unfold signAt
  generalize hn : ((x.fdiv 16).fmod 4).toNat = n
  have : n < 4 := by omega
  match n, this with
  | 0, _ => rfl
  | 1, _ => rfl
  | 2, _ => rfl
  | 3, _ => rfl
end

section
def unI : D → Int
  | .int i => i
  | _ => 0
def unP : D → Str × Str
  | .list [.str a, .str b] => (a, b)
  | _ => ("", "")
abbrev rowL (ds : List Int) : List Str := (mineP ds).map (·.2)
section
variable {prog : Program} {w : World} {k : Nat} {P : Params} {mg mb : Str → Option Value}
variable {env : Env} {ρ ρ' : List (Str × D)} {R : Post}
theorem join_ok (xs : List Str) (h : xs.length ≤ 100) (h2 : ∀ x ∈ xs, x.length ≤ 100) : JoinOk "" xs = true := by
  refine joinOk_of_weight ?_ (by decide)
  have : ∀ (l : List Str), (∀ x ∈ l, x.length ≤ 100) → (l.map (·.length)).sum ≤ 100 * l.length := by
    intro l
    induction l with
    | nil => intro _; exact Nat.le_refl _
    | cons x r ih =>
      intro hh
      have h1 := hh x (.head _)
      have h2 := ih fun y hy => hh y (.tail _ hy)
      rw [List.map_cons, List.sum_cons, List.length_cons]
      omega
  have := this xs h2
  omega
theorem sx_head (B : GB P mg mb) {L fa : Addr} {cd : Value} {ds : List Int} {sc : D} (hl : ds.length ≤ 10)
    (h : SXL prog w (kap P mg mb).pg mg 54 50 (k + 3) (lawE L fa cd) (rhoR (nameL ds) (partsT (toksL ds)) (itemsP (rowL ds)) (starsP (rowL ds)) []) [] (lawD.body.drop 6) R) :
    SXL prog w (kap P mg mb).pg mg 54 50 (k + 3) (lawE L fa cd) [("script", sc), ("drawn", .list (ds.map .int))] [] (lawD.body.drop 2) R := by
  have hzs : (ds.map D.int).length ≤ sizeLine := by rw [List.length_map]; exact Nat.le_trans hl (by decide)
  have hev := evens_len ds
  have e1 : D.list (((evens ds).filter fun _ => true).map fun x => pairD (pieceAt x)) = .list ((mineP ds).map pairD) := by
    rw [filter_tt]; unfold mineP; rw [List.map_map]; rfl
  refine .cons (.of (.assignCompT D.int unI (fun _ => rfl) (ρc := []) (xs := evens ds) (fun _ => true) (fun x => pairD (pieceAt x)) (.slice_listE (.name rfl) (l := none) (u := none) (t := some 2) trivial trivial .int (by decide) hzs ((pickD_even _).trans (evens_map D.int ds))) .list ⟨by rfl, by decide, rfl, by decide, rfl, fun q hq => nomatch hq⟩ (Nat.le_trans hev (Nat.le_trans (by omega : _ ≤ 10) (by decide))) (fun C y hy => rfl) (fun C y hy _ => ?_) (.inl rfl)
    (ρ' := [("script", sc), ("drawn", .list (ds.map .int)), ("mine", .list ((mineP ds).map pairD))]) (e1 ▸ .skip (by decide) (.skip (by decide) .nil)) ?_))
  · have h0 := Int.fmod_nonneg_of_pos y (show (0 : Int) < 16 by decide)
    have h1 := Int.fmod_lt_of_pos y (show (0 : Int) < 16 by decide)
    exact .sub (.gcall0 B f118 fn_pieces) (.bin (.name rfl) .int (.mod (by decide))) (.list h0 (by omega) (piece_get y))
  -- the name
  have e2 : D.list (((ds.take 6).filter fun _ => true).map fun x => D.str (signS (signAt x))) = .list (((nameL ds).map signS).map .str) := by
    rw [filter_tt]; unfold nameL; rw [List.map_map, List.map_map]; rfl
  have hnl : (nameL ds).length ≤ 6 := by unfold nameL; rw [List.length_map]; exact List.length_take_le 6 ds
  have hcomp : EV prog w (kap P mg mb).pg (k + 3) (lawE L fa cd) [("script", sc), ("drawn", .list (ds.map .int)), ("mine", .list ((mineP ds).map pairD))] [] (match lawD.body[3]? with
      | some (Stmt.Assign _ (.Call _ [e] _ _) _) => e
      | _ => .Name "" default) (.list (((nameL ds).map signS).map .str)) := by
    rw [← e2]
    refine .compT D.int unI (fun _ => rfl) (ρc := []) (xs := ds.take 6) (fun _ => true) (fun x => D.str (signS (signAt x))) (.slice_listE (.name rfl) (l := none) (u := some 6) (t := none) trivial .int trivial (by decide) hzs ((pickD_upto _ 6).trans List.map_take.symm)) .list ⟨by rfl, by decide, rfl, by decide, rfl, fun q hq => nomatch hq⟩ (Nat.le_trans (List.length_take_le 6 ds) (by decide)) (fun C y hy => rfl) (fun C y hy _ => ?_)
    have h0 := Int.fmod_nonneg_of_pos (y.fdiv 16) (show (0 : Int) < 4 by decide)
    have h1 := Int.fmod_lt_of_pos (y.fdiv 16) (show (0 : Int) < 4 by decide)
    exact .sub (.list (.cons .str (.cons .str (.cons .str (.cons .str .nil))))) (.bin (.bin (.name rfl) .int (.fdiv (by decide) (by decide))) .int (.mod (by decide))) (.list h0 (by omega) (sign_get y))
  have hok : JoinOk "" ((nameL ds).map signS) = true := join_ok _ (by rw [List.length_map]; omega) (fun x hx => by
    obtain ⟨i, _, rfl⟩ := List.mem_map.mp hx
    show (1 : Nat) ≤ 100; decide)
  have hname : Txt.join "" ((nameL ds).map signS) = nameS (nameL ds) := (join_cat _).trans (cat_signs _)
  refine .cons (.of (.assign (d := .str (nameS (nameL ds))) (hname ▸ .mcall (name := "join") .str .join (.cons hcomp .nil) (.join hok)) (.inl rfl) (.skip (by decide) (.skip (by decide) (.skip (by decide) .nil))) ?_))
  -- the parts
  have hml : (mineP ds).length ≤ 5 := by unfold mineP; rw [List.length_map]; omega
  have e3 : ∀ (f : Str × Str → Str), D.list (((mineP ds).filter fun _ => true).map fun p => D.str (f p)) = .list (((mineP ds).map f).map .str) := fun f => by
    rw [filter_tt, List.map_map]; rfl
  have hc0 : EV prog w (kap P mg mb).pg (k + 3) (lawE L fa cd) [("script", sc), ("drawn", .list (ds.map .int)), ("mine", .list ((mineP ds).map pairD)), ("name", .str (nameS (nameL ds)))] [] (match lawD.body[4]? with
      | some (Stmt.Assign _ (.Call _ (.Call _ [e] _ _ :: _) _ _) _) => e
      | _ => .Name "" default) (.list (((mineP ds).map (·.1)).map .str)) := by
    rw [← e3]
    exact .compT pairD unP (fun _ => rfl) (ρc := []) (xs := mineP ds) (fun _ => true) (fun p => D.str p.1) (.name rfl) .list ⟨by rfl, by decide, rfl, by decide, rfl, fun q hq => nomatch hq⟩ (Nat.le_trans hml (by decide)) (fun C y hy => rfl) (fun C y hy _ => .sub (.name rfl) .int (.list (by decide) (by decide) rfl))
  have htl : (toksL ds).length ≤ 10 := by
    have := toks_len (evens ds)
    unfold toksL; omega
  have hpat : Txt.join "" ((mineP ds).map (·.1)) = cat ((toksL ds).map (·.1)) := by
    rw [join_cat]; exact (cat_flat _).symm
  have hpl : (Txt.join "" ((mineP ds).map (·.1))).length ≤ 900 := by
    rw [hpat]
    have := cat_len _ (toks_ok ds)
    omega
  have hok2 : JoinOk "" ((mineP ds).map (·.1)) = true := join_ok _ (by rw [List.length_map]; omega) (fun x hx => by
    obtain ⟨p, hp, rfl⟩ := List.mem_map.mp hx
    obtain ⟨y, hy, rfl⟩ := List.mem_map.mp hp
    have h1 := (tab_cat _ (idx_lt y)).1
    have h2 := cat_len _ (tab_ok _ (idx_lt y))
    have h3 := (tab_cat _ (idx_lt y)).2
    rw [h1] at h2
    show (pieceAt y).1.length ≤ 100
    unfold pieceAt
    omega)
  refine .cons (.translate B (toks_ok ds) hpat (by omega) hpl (.cons (.mcall (name := "join") .str .join (.cons hc0 .nil) (.join hok2)) (.cons .none (.cons .str .nil))) rfl rfl (.inl rfl) (.skip (by decide) (.skip (by decide) (.skip (by decide) (.skip (by decide) .nil)))) ?_)
  -- the items
  have hc1 : EV prog w (kap P mg mb).pg (k + 3) (lawE L fa cd) [("script", sc), ("drawn", .list (ds.map .int)), ("mine", .list ((mineP ds).map pairD)), ("name", .str (nameS (nameL ds))), ("parts", .list ((partsT (toksL ds)).map partD))] [] (match lawD.body[5]? with
      | some (Stmt.Assign _ (.Call _ [e] _ _) _) => e
      | _ => .Name "" default) (.list ((rowL ds).map .str)) := by
    rw [← e3]
    exact .compT pairD unP (fun _ => rfl) (ρc := []) (xs := mineP ds) (fun _ => true) (fun p => D.str p.2) (.name rfl) .list ⟨by rfl, by decide, rfl, by decide, rfl, fun q hq => nomatch hq⟩ (Nat.le_trans hml (by decide)) (fun C y hy => rfl) (fun C y hy _ => .sub (.name rfl) .int (.list (by decide) (by decide) rfl))
  have hrl : (rowL ds).length ≤ 1000 := by rw [List.length_map]; omega
  refine .cons (.of (.unpack (.gcall B f151 (.cons hc1 .nil) (fn_items hrl)) (.name (.inl rfl) (.skip (by decide) (.skip (by decide) (.skip (by decide) (.skip (by decide) (.skip (by decide) .nil))))) (.name (.inl rfl) (.skip (by decide) (.skip (by decide) (.skip (by decide) (.skip (by decide) (.skip (by decide) (.skip (by decide) .nil)))))) .nil)) ?_))
  intro h₀ H₀ A s Q E r hfr S t q
  refine h h₀ H₀ A s Q E r hfr (S.forget (fun p hp => ?_) (by decide : (["name", "parts", "items", "stars"] : List Str).Nodup)) t q
  simp only [rhoR, List.mem_cons, List.not_mem_nil, or_false] at hp ⊢
  rcases hp with h | h | h | h <;> simp [h]
end
end

section
def drawn0 (ns : List Int) : List Int := (ns.take 10).map fun x => x.fmod ((10 : Int) ^ (6 : Int).toNat)
def drawnP (ns : List Int) : List Int := if (drawn0 ns).length < 4 then drawn0 ns ++ [4, 4, 0, 5, 4, 3] else drawn0 ns
theorem drawn0_len (ns : List Int) : (drawn0 ns).length ≤ 10 := by unfold drawn0; rw [List.length_map]; exact List.length_take_le 10 ns
theorem drawnP_len (ns : List Int) : (drawnP ns).length ≤ 10 := by
  have := drawn0_len ns
  unfold drawnP
  split
  · rw [List.length_append]; simp; omega
  · exact this
/-- what the law asks of the numbers drawn -/
structure LawFacts (ds : List Int) : Prop where
  hp : ∀ p ∈ partsT (toksL ds), ∀ x, p = some x → OkPart x
  f1 : cnt (partsT (toksL ds)) = ((starsP (rowL ds)).filter id).length
  f2 : firstP (partsT (toksL ds)) = if (starsP (rowL ds)).any (· == true) then ((starsP (rowL ds)).idxOf true : Int) else -1
  hsz : (masks (partsT (toksL ds))).at' = (itemsP (rowL ds)).length
  hst : (starsP (rowL ds)).length = (itemsP (rowL ds)).length + 1
  hb : ∀ i, (Builtin.Int.intBits (onC (masks (partsT (toksL ds))).stays (gOf (masks (partsT (toksL ds)))) ((nameL ds).take i)) : Int) + 16 ≤ 2 ^ 27
  hrev : cutS (nameS (nameL ds)) none none (some (-1)) = nameS (nameL ds).reverse
  told : Told (itemsP (rowL ds)) (starsP (rowL ds)) (masks (partsT (toksL ds))).at' (nameL ds) (onP (masks (partsT (toksL ds))) (nameL ds)) (bkP (masks (partsT (toksL ds))) (nameL ds))
/-- a list of the caller's own, known to lie there -/
def Pg.and (G : Pg) (l : Addr) (vs : List Value) : Pg where
  P h := G.P h ∧ h.IsList l vs.toArray
  mono k q := ⟨G.mono k q.1, let ⟨o, e, r⟩ := q.2; ⟨o, k _ _ e, r⟩⟩
theorem ints_rep {g : Heap} : ∀ {vs : List Value} {ns : List Int}, IntsAre vs ns → RepL g vs (ns.map .int)
  | _, _, .nil => .nil
  | _, _, .cons _ _ r => .cons (.int _ _) (ints_rep r)
section
variable {prog : Program} {w : World} {G G' : Pg} {k : Nat} {env : Env} {ρ ρ' : List (Str × D)} {σ : List (Addr × List D)} {h₀ h : Heap} {H₀ : List Addr}
theorem St.weaken (S : St G' h₀ H₀ env ρ σ h) (k : ∀ g, G'.P g → G.P g) : St G h₀ H₀ env ρ σ h :=
  ⟨S.base, ⟨k _ S.nm.prog, S.nm.fn, S.nm.bound, S.nm.names, S.nm.locs⟩, S.fresh, S.nodup, S.names, S.ns, S.cells, S.apart⟩
theorem EV.slice_val {e : Expr} {lo hi st : Option Expr} {p pos : Pos} {a : Addr} {vs : List Value} {ds ds' : List D} {l u t : Option Int} (h : EV prog w G k env ρ σ e (.val (.ref a))) (hP : ∀ g, G.P g → g.IsList a vs.toArray) (hr : ∀ g, RepL g vs ds)
    (hl : PT prog w G k env ρ σ lo l) (hu : PT prog w G k env ρ σ hi u) (ht : PT prog w G k env ρ σ st t)
    (h0 : t ≠ some 0) (hz : ds.length ≤ sizeLine) (he : pickD ds l u t = ds') (hs : ∀ o v, ∃ ops, subscripted (.Slice lo hi st p) false o v = operate ops (getItem o v) := by intro _ _; exact ⟨_, rfl⟩) : EV prog w G k env ρ σ (.Subscript e (.Slice lo hi st p) pos) (.list ds') := fun A s H Q E r N q =>
  Subscript_ (h A s H _ E r N fun va s₁ x₁ ra => wpAny_Slice (hl.run r (N.grow x₁.sub) fun tl s₂ x₂ => hu.run r (N.grow (x₁.trans x₂).sub) fun tu s₃ x₃ => ht.run r (N.grow ((x₁.trans x₂).trans x₃).sub) fun tt s₄ x₄ => by
    obtain ⟨ops, hop⟩ := hs va (.ref s₄.heap.objs.size)
    have xs := x₁.trans ((x₂.trans x₃).trans x₄)
    cases ra
    have N4 := N.grow xs.sub
    have hL4 : (s₄.heap.push { cls := .type "slice", data := .fields #[partValue (l.map fun i => (i, tl)), partValue (u.map fun i => (i, tu)), partValue (t.map fun i => (i, tt))] }).IsList a vs.toArray := by
      obtain ⟨o, e, r⟩ := hP _ N4.prog
      exact ⟨o, Heap.get?_push_of_some _ (vis_of e), r⟩
    have hlen := (hr s₄.heap).length
    refine tail_go (Heap.IsList.typeIs (s := { s₄ with heap := s₄.heap.push _ }) hL4) list_getitem_lookup (wpAny_getItem_list_slice hL4 (Heap.IsSliceOf.new ..) (isPart_of l tl) (isPart_of u tu) (isPart_of t tt) h0 ?_ (by
      rw [List.size_toArray, hlen]; exact hz)) hop
    have x5 := Sub.push s₄.heap { cls := .type "slice", data := .fields #[partValue (l.map fun i => (i, tl)), partValue (u.map fun i => (i, tu)), partValue (t.map fun i => (i, tt))] }
    refine q _ _ (xs.trans (.of s₄ s₄.toks (x5.trans (Sub.push _ _)))) ?_
    have := rep_new (H := H) (vs := (slicePick vs.toArray l u t).toList) (ds := pickD ds l u t) (Bound.grow N4.bound x5) (rep_slicePick (hr _) l u t)
    rw [he] at this
    simpa using this))
end
section
variable {prog : Program} {w : World} {k : Nat} {P : Params} {mg mb : Str → Option Value}
variable {env : Env} {ρ ρ' : List (Str × D)} {R : Post}
theorem sx_drawn (B : GB P mg mb) {L fa : Addr} {cd : Value} {ns : List Int} {sc : D} (F : LawFacts (drawnP ns)) :
    SXL prog w (kap P mg mb).pg mg 54 50 (k + 3) (lawE L fa cd) [("script", sc), ("drawn", .list ((drawn0 ns).map .int))] [] (lawD.body.drop 1) (fun o _ _ => o = .ret (.bool true)) := by
  have hl := drawnP_len ns
  have h0 := drawn0_len ns
  have hev := evens_len (drawnP ns)
  have hrow : (rowL (drawnP ns)).length ≤ 5 := by rw [List.length_map]; unfold mineP; rw [List.length_map]; omega
  have hit : (itemsP (rowL (drawnP ns))).length ≤ 5 := Nat.le_trans (List.length_filter_le _ _) hrow
  have hpl : (partsT (toksL (drawnP ns))).length ≤ 100 := by
    have := partsT_len (toksL (drawnP ns))
    have := toks_len (evens (drawnP ns))
    unfold toksL at *
    omega
  have hnl : (nameL (drawnP ns)).length ≤ 10 := by unfold nameL; rw [List.length_map]; exact Nat.le_trans (List.length_take_le 6 _) (by decide)
  have hst := F.hst
  have key : SXL prog w (kap P mg mb).pg mg 54 50 (k + 3) (lawE L fa cd) [("script", sc), ("drawn", .list ((drawnP ns).map .int))] [] (lawD.body.drop 2) (fun o _ _ => o = .ret (.bool true)) :=
    sx_head B hl (sx_mid B (tl := []) (by omega) F.f1 F.f2 (sx_rest B F.hp hpl hnl (by omega) F.hsz F.hst F.hb F.hrev F.told))
  have hlen : ((drawn0 ns).map D.int).length < 2 ^ 62 := by rw [List.length_map]; omega
  refine .cons (.ite (.cmp (.bncall B (.cons (.name rfl) .nil) (.len_list hlen)) .int .lt_int) (fun hh => .of (.cons (.assign (d := .list ((drawnP ns).map .int)) ?_ (.inl rfl) (.skip (by decide) .here) (.nil key)))) (fun hh => .nil ?_))
  · have hlt : (drawn0 ns).length < 4 := by
      have := of_decide_eq_true hh
      rw [List.length_map] at this; omega
    have e : D.list ((drawnP ns).map .int) = .list ((drawn0 ns).map .int ++ [.int 4, .int 4, .int 0, .int 5, .int 4, .int 3]) := by
      unfold drawnP; rw [if_pos hlt, List.map_append]; rfl
    rw [e]
    exact .bin (.name rfl) (.list (.cons .int (.cons .int (.cons .int (.cons .int (.cons .int (.cons .int .nil))))))) (.addL (by rw [List.length_map]; exact Nat.le_trans (by simp; omega : _ ≤ 100) (by decide)))
  · have hlt : ¬ (drawn0 ns).length < 4 := by
      have := of_decide_eq_false hh
      rw [List.length_map] at this; omega
    have e : drawnP ns = drawn0 ns := if_neg hlt
    rw [e] at key
    exact key
abbrev rho1 (l : Addr) (ds : List Int) : List (Str × D) := [("script", .val (.ref l)), ("drawn", .list (ds.map .int))]
theorem law_run (B : GB P mg mb) {L fa l : Addr} {cd : Value} {vs : List Value} {ns : List Int} (hI : IntsAre vs ns) (hns : ns.length ≤ 1000) (F : LawFacts (drawnP ns)) {h₀ : Heap} {H₀ : List Addr} {A : Around} {s : Shared} {Q : Flow → Shared → Prop} {E : Value → Shared → Prop}
    (r : Room (k + 3) A) (hfr : A.frames = some [lawE L fa cd]) (S : St ((kap P mg mb).pg.and l vs) h₀ H₀ (lawE L fa cd) [("script", .val (.ref l))] [] s.heap) (t : TB mg 54 50 h₀ H₀ (lawE L fa cd) [] s.heap)
    (q : ∀ s', Sub h₀ s'.heap → (∃ ps, s'.heap.get? 50 = some (tabObj ps)) → Osg s s' → Q (.ret (.bool true)) s') : wpAny (model prog w) A (execs lawD.body (lawE L fa cd)) Q E s := by
  have e1 : D.list (((ns.take 10).filter fun _ => true).map fun x => D.int (x.fmod ((10 : Int) ^ (6 : Int).toNat))) = .list ((drawn0 ns).map .int) := by
    rw [filter_tt]; unfold drawn0; rw [List.map_map]; rfl
  have first : SO prog w ((kap P mg mb).pg.and l vs) (k + 3) (lawE L fa cd) [("script", .val (.ref l))] [] (lawD.body.headD (.Pass default)) (fun o ρ σ => o = .next ∧ ρ = rho1 l (drawn0 ns) ∧ σ = []) := by
    refine SO.assignCompT D.int unI (fun _ => rfl) (ρc := []) (xs := ns.take 10) (fun _ => true) (fun x => D.int (x.fmod ((10 : Int) ^ (6 : Int).toNat))) (.slice_val (.name rfl) (fun g h => h.2) (fun g => ints_rep hI) (l := none) (u := some 10) (t := none) trivial .int trivial (by decide) (by rw [List.length_map]; exact Nat.le_trans hns (by decide)) ((pickD_upto _ 10).trans List.map_take.symm)) .list ⟨by rfl, by decide, rfl, by decide, rfl, fun q hq => nomatch hq⟩ (Nat.le_trans (List.length_take_le 10 ns) (by decide)) (fun C y hy => rfl) (fun C y hy _ => ?_) (.inl rfl)
      (ρ' := rho1 l (drawn0 ns)) (e1 ▸ .skip (by decide) .nil) ⟨rfl, rfl, rfl⟩
    exact .bin (.name rfl) (.bin .int .int (.pow (by decide) (by decide) (by decide))) (.mod (by decide))
  refine wpAny_execs_cons ((SOT.of first) h₀ H₀ A s _ E r S t fun o fl ρ' σ' s' hR S' t' hf os => ?_)
  obtain ⟨rfl, rfl, rfl⟩ := hR
  obtain rfl : fl = .next := hf
  refine sx_drawn B F h₀ H₀ A s' Q E r hfr (S'.weaken fun g h => h.1) t' fun o fl ρ'' σ'' s'' hR S'' t'' hf' x' => ?_
  subst hR
  obtain ⟨v, rfl, rv⟩ := hf'
  cases rv
  exact q s'' S''.base (let ⟨ps, a, _⟩ := t''.tab; ⟨ps, a⟩) (os.trans x')
end
end

section
theorem fm_old {h h' : Heap} (hT : TabsAt [(54, 50)] h) (k : Sub (hideAll h [50]) h') (t : ∃ ps, h'.get? 50 = some (tabObj ps)) : OldK h h' := by
  have h54 := hT (54, 50) (.head _)
  obtain ⟨ps, hP⟩ := t
  refine ⟨fun b o e => ?_, fun b o e => ?_⟩
  · by_cases hb : b = 50
    · subst hb
      have : o = tabObj #[] := (Option.some.inj (h54.2.symm.trans e)).symm
      subst this
      exact .inr (.inl ⟨(h54.1.tab h54.2).isCodeTable, rfl, #[], ps, rfl, by rw [Array.empty_append]; exact hP⟩)
    · exact .inl (k b o (hideAll_get _ e (by simpa using hb)))
  · by_cases hb : b = 50
    · exact ⟨_, hb ▸ hP⟩
    · exact ⟨o, k b o (hideAll_get _ e (by simpa using hb))⟩
section
variable {prog : Program} {w : World} {P : Params} {mg mb : Str → Option Value}
theorem law_call (B : GB P mg mb) {fa l : Addr} {o : Obj} {pm cd doc : Value} {vs : List Value} {ns : List Int} {s : Shared} (hI : IntsAre vs ns) (hns : ns.length ≤ 1000) (F : LawFacts (drawnP ns))
    (ho : s.heap.get? fa = some o) (hdd : o.data = .func (docDef lawD.name lawD.params lawD.body lawD.scope pm cd doc)) (hcd : s.heap.CodeRec cd lawD.name) (hT : TabsAt [(54, 50)] s.heap)
    (hK : (heapF P).In (ghostOf s.heap [(54, 50)])) (hg : s.heap.Ns mainGlobals mg) (hb : s.heap.Ns builtinsNs mb) (hlim : s.heap.NoLimit)
    (hbm : ∃ bm ob, mg "__builtins__" = some (.ref bm) ∧ bm ≠ builtinsNs ∧ s.heap.get? bm = some ob ∧ ob.cls = .type "module" ∧ ob.dict = some builtinsNs ∧ ob.data = .plain)
    (hL : s.heap.IsList l vs.toArray) :
    codeAny (model prog w) callerA (.call (.ref fa) ⟨[.ref l], []⟩) (fun r s' => r = .ok (.ret (.bool true)) ∧ Sub (hideAll s.heap [50]) s'.heap ∧ (∃ ps, s'.heap.get? 50 = some (tabObj ps)) ∧ s'.os = s.os ∧ (AllBare s.gens → AllBare s'.gens)) s := by
  have h54 := hT (54, 50) (.head _)
  have hcells : ∀ L, cellsFrom L lawD.scope.names [] = ([("k", L + 1 + 1), ("j", L + 1), ("size", L)] : List (Str × Addr)) := fun L => rfl
  have hkind : ∀ x ∈ (["script"] : List Str), lawD.scope.names.lookup x = some .local := by decide
  have hP : ((kap P mg mb).pg.and l vs).P (vis [50] s.heap) := ⟨⟨hK, ghost_ns hT hg, ghost_ns hT hb, let ⟨mc, a, r⟩ := hlim; ⟨mc, ghost_ns hT a, r⟩⟩, ghost_list hT hL⟩
  refine call_cells_ret (by decide) ho hdd hlim hcd (binds := (["script"] : List Str).zip [.ref l]) rfl (fun x hx' => .inl (hkind _ (List.of_mem_zip hx').1)) (fun h₁ tk F' C => ?_) rfl rfl rfl
  have hB : Bound [50] s.heap := fun a ha => ⟨_, (List.mem_singleton.mp ha) ▸ h54.2⟩
  have S := St.entry (G := (kap P mg mb).pg.and l vs) (ds := [.val (.ref l)]) (xs := ["script"]) (H := [50]) rfl F' C (fun L q hq => by
    rw [hcells] at hq ⊢
    rcases List.mem_cons.mp hq with rfl | hq
    · rfl
    · rcases List.mem_cons.mp hq with rfl | hq
      · rfl
      · rcases List.mem_cons.mp hq with rfl | hq
        · rfl
        · exact nomatch hq) (by decide) (fun x hx => .inl (hkind x hx)) hP hB (.cons (.val _) .nil)
  have S' := S.unbase (h₀ := hideAll s.heap [50]) (fun b o e => of_hideAll _ e)
  have h50 : 50 ∉ own (lawE s.heap.objs.size fa cd) [] := fun hm => S.apart _ hm (.head _)
  obtain ⟨bm, ob, b1, b2, b3, b4, b5, b6⟩ := hbm
  have hne : bm ≠ 50 := fun e => by
    rw [e, h54.2] at b3
    cases b3; cases b4
  have hne2 : bm ≠ mainGlobals := fun e => by
    obtain ⟨o', _, _, e1, e2, _⟩ := hg
    rw [e, e1] at b3
    cases b3
    rw [e2] at b6; cases b6
  have bi : (hideAll s.heap [50]).BuiltinsAt mg 50 := ⟨bm, ob, b1, b2, hne2, hne, hideAll_get _ b3 (by simpa using hne), b4, b5, b6⟩
  have tb : TB mg 54 50 (hideAll s.heap [50]) [50] (lawE s.heap.objs.size fa cd) [] h₁ := ⟨.head _, hideAll_none _ (.head _), (ghost_code hT).1, bi, h50, ⟨_, F'.keep _ _ h54.2, trivial⟩⟩
  exact law_run B hI hns F (k := 3) ⟨rfl, (by show callerA.depth + 1 + (3 + 3) < recursionLimit; decide), (by show callerA.units + 3 + 20 * (3 + 3) + 20 < cLine; decide)⟩ rfl S' tb fun s' k1 k2 os => ⟨rfl, k1, k2, os.os, os.gens⟩
end
theorem holds_of (F : ∀ ns : List Int, ns.length ≤ 63 → LawFacts (drawnP ns)) : PySem.Challenge.rw_ij0081_01.Holds := hdM left_all (by
  intro w s₀ s₁ mg mb G Y fa o pm cd doc dV kV ho hd1 hcd hD hmg hg args vals as hpre hlay hrd hwl hlo
  have KX : (heapF w.params).In s₁.heap := km_in_of (K := heapF) (as := addrF) (ts := [50]) Y
  have hT8 : ∀ P ∈ [50], s₁.heap.get? P = some (tabObj #[]) := km_tabs_of (K := heapF) (as := addrF) (ts := [50]) Y
  refine Ground.open G ?_
  intro T B D TE TW
  have hT9 : TabsAt [(54, 50)] s₁.heap := fun q hq => by
    rw [List.mem_singleton.mp hq]
    exact ⟨codeHd_of_K (c := 54) (P := 50) KX (by kernel_rfl), hT8 50 (.head _)⟩
  wrow_args hpre hlay hrd hwl hlo
  all_goals (
    first | refine callC_kw (enter_call ?_) | refine enter_call ?_)
  rename_i ns hs hlay0 hL1 hr1 hl2 x4 x3 l vs x0 hL ra w1 r0 hI hr hc1 hc
  have he := Dflts.none hD rfl; subst he
  have he := Dflts.noKw hD; subst he
  have GBv : GB w.params mg mb := ⟨fun n v e => mg_of KX T.g e, fun n e => ns_none_of KX T.g e, T.builtins⟩
  have hns : ns.length ≤ 63 := by omega
  refine codeAny_mono (law_call GBv hI (by omega) (F ns hns) ho (fd_plain hd1) hcd hT9 (ghost_K hT9 KX (by kernel_rfl)) T.g T.b T.nolimit T.bmain hL) ?_
  rintro r s' ⟨rfl, k1, k2, k3, k4⟩
  refine ⟨.inl ⟨.bool true, .bool true, [], rfl, raisesW_false (by wrow_none_raised), .bool true, ?_, fun _ => ⟨.nil, fun a h => nomatch h⟩⟩, fm_old hT9 k1 k2, k3, k4 ?_⟩
  · exact postW_of (by wrow_shape) (by wtm_val) (by first | rfl | w_fin)
  · rw [hg]; exact .empty)
end

section
/-- a whole number of n figures to the base 2^16 -/
def num : (Nat → Nat) → Nat → Nat
  | _, 0 => 0
  | f, n + 1 => f 0 + 65536 * num (fun k => f (k + 1)) n
theorem num_s (f : Nat → Nat) (n : Nat) : num f (n + 1) = f 0 + 65536 * num (fun k => f (k + 1)) n := rfl
theorem num_congr : ∀ (n : Nat) {f g : Nat → Nat}, (∀ k, k < n → f k = g k) → num f n = num g n
  | 0, _, _, _ => rfl
  | n + 1, f, g, h => by
    unfold num
    rw [h 0 (by omega), num_congr n fun k hk => h (k + 1) (by omega)]
theorem num_add : ∀ (n : Nat) (f g : Nat → Nat), num (fun k => f k + g k) n = num f n + num g n
  | 0, _, _ => rfl
  | n + 1, f, g => by
    rw [num_s, num_s, num_s, num_add n]
    show f 0 + g 0 + _ = _
    omega
theorem num_zero : ∀ (n : Nat), num (fun _ => 0) n = 0
  | 0 => rfl
  | n + 1 => by unfold num; rw [num_zero n]
theorem num_top : ∀ (n : Nat) (f : Nat → Nat), num f (n + 1) = num f n + f n * 65536 ^ n
  | 0, f => by simp [num]
  | n + 1, f => by
    have h := num_top n fun k => f (k + 1)
    rw [num_s, h, num_s f n, Nat.pow_succ, Nat.mul_add]
    have : 65536 * (f (n + 1) * 65536 ^ n) = f (n + 1) * (65536 ^ n * 65536) := by
      rw [Nat.mul_comm 65536, Nat.mul_assoc]
    rw [this]
    omega
theorem num_one : ∀ (n j : Nat), j < n → num (fun k => if k = j then 1 else 0) n = 65536 ^ j
  | n + 1, 0, _ => by
    unfold num
    have : num (fun k => if k + 1 = 0 then 1 else 0) n = num (fun _ => 0) n := num_congr n fun k _ => if_neg (by omega)
    rw [this, num_zero]; rfl
  | n + 1, j + 1, h => by
    unfold num
    have : num (fun k => if k + 1 = j + 1 then 1 else 0) n = num (fun k => if k = j then 1 else 0) n := num_congr n fun k _ => by
      by_cases e : k = j
      · rw [if_pos e, if_pos (by omega)]
      · rw [if_neg e, if_neg (by omega)]
    rw [this, num_one n j (by omega), Nat.pow_succ]
    simp
    omega
theorem num_lt : ∀ (n : Nat) (f : Nat → Nat), (∀ k, f k < 65536) → num f n < 65536 ^ n
  | 0, _, _ => by simp [num]
  | n + 1, f, h => by
    have h1 := num_lt n (fun k => f (k + 1)) fun k => h (k + 1)
    have h0 := h 0
    unfold num
    rw [Nat.pow_succ]
    omega
def shl (f : Nat → Nat) : Nat → Nat
  | 0 => 0
  | k + 1 => f k
theorem num_shl (n : Nat) (f : Nat → Nat) : num f n * 65536 = num (shl f) (n + 1) := by
  show _ = 0 + 65536 * num f n
  omega
theorem num_shr (n : Nat) (f : Nat → Nat) (h : f 0 < 65536) : num f (n + 1) / 65536 = num (fun k => f (k + 1)) n := by
  rw [num_s]
  omega
theorem num_field : ∀ (k n : Nat) (f : Nat → Nat), (∀ k, f k < 65536) → k < n → num f n / 2 ^ (16 * k) % 65536 = f k
  | 0, n + 1, f, h, _ => by
    have := h 0
    unfold num
    rw [Nat.mul_zero, Nat.pow_zero, Nat.div_one]
    omega
  | k + 1, n + 1, f, h, hk => by
    have e : 2 ^ (16 * (k + 1)) = 65536 * 2 ^ (16 * k) := by
      rw [Nat.mul_add, Nat.pow_add, Nat.mul_comm]
    rw [e, ← Nat.div_div_eq_div_mul, num_shr n f (h 0)]
    exact num_field k n _ (fun k => h (k + 1)) (by omega)
theorem num_testBit : ∀ (n : Nat) (f : Nat → Nat), (∀ k, f k < 65536) → ∀ i, (num f n).testBit i = (decide (i / 16 < n) && (f (i / 16)).testBit (i % 16))
  | 0, f, h, i => by simp [num]
  | n + 1, f, h, i => by
    have e : num f (n + 1) = 2 ^ 16 * num (fun k => f (k + 1)) n + f 0 := by
      rw [num_s]; omega
    rw [e, Nat.testBit_two_pow_mul_add _ (h 0)]
    by_cases hi : i < 16
    · have h1 : i / 16 = 0 := by omega
      have h2 : i % 16 = i := by omega
      rw [if_pos hi, h1, h2]
      simp
    · rw [if_neg hi, num_testBit n _ (fun k => h (k + 1)) (i - 16)]
      have h1 : i / 16 = (i - 16) / 16 + 1 := by omega
      have h2 : i % 16 = (i - 16) % 16 := by omega
      rw [h1, h2]
      congr 1
      exact decide_eq_decide.mpr (by omega)
/-- a mask: whole fields -/
def MaskOf (st : Int) (b : Nat → Bool) : Prop := ∃ s : Nat, st = s ∧ ∀ i, s.testBit i = b (i / 16)
theorem bitAnd_nat (a b : Nat) : Builtin.bitAnd (a : Int) (b : Int) = ((a &&& b : Nat) : Int) := by
  unfold Builtin.bitAnd
  rw [decide_eq_true (show (0 : Int) ≤ (a : Int) by omega), decide_eq_true (show (0 : Int) ≤ (b : Int) by omega)]
  simp
theorem bitOr_nat (a b : Nat) : Builtin.bitOr (a : Int) (b : Int) = ((a ||| b : Nat) : Int) := by
  unfold Builtin.bitOr Builtin.bitAnd Builtin.bitNot
  rw [decide_eq_false (show ¬ (0 : Int) ≤ -(a : Int) - 1 by omega), decide_eq_false (show ¬ (0 : Int) ≤ -(b : Int) - 1 by omega)]
  have e1 : (-(-(a : Int) - 1) - 1).toNat = a := by omega
  have e2 : (-(-(b : Int) - 1) - 1).toNat = b := by omega
  simp only [e1, e2]
  omega
theorem fld_nat (k : Nat) : fld k = ((65535 * 2 ^ (16 * k) : Nat) : Int) := by
  unfold fld
  have : (16 * (k : Int)).toNat = 16 * k := by omega
  rw [this]
  simp
theorem mask_zero : MaskOf 0 fun _ => false := ⟨0, rfl, fun i => by simp⟩
theorem mask_or {st : Int} {b : Nat → Bool} (h : MaskOf st b) (k : Nat) : MaskOf (Builtin.bitOr st (fld k)) fun j => b j || decide (j = k) := by
  obtain ⟨s, rfl, hs⟩ := h
  refine ⟨s ||| 65535 * 2 ^ (16 * k), by rw [fld_nat, bitOr_nat], fun i => ?_⟩
  rw [Nat.testBit_or, hs, ← Nat.shiftLeft_eq, Nat.testBit_shiftLeft, show (65535 : Nat) = 2 ^ 16 - 1 from rfl, Nat.testBit_two_pow_sub_one]
  congr 1
  by_cases e : i / 16 = k
  · rw [decide_eq_true e, decide_eq_true (show i ≥ 16 * k by omega), decide_eq_true (show i - 16 * k < 16 by omega)]; rfl
  · rw [decide_eq_false e]
    by_cases h1 : i ≥ 16 * k
    · rw [decide_eq_false (show ¬ i - 16 * k < 16 by omega), Bool.and_false]
    · rw [decide_eq_false h1, Bool.false_and]
theorem MaskOf.congr {st : Int} {b b' : Nat → Bool} (h : MaskOf st b) (e : ∀ k, b k = b' k) : MaskOf st b' := (funext e : b = b') ▸ h
theorem mask_and {st : Int} {b : Nat → Bool} (h : MaskOf st b) (n : Nat) (f : Nat → Nat) (hf : ∀ k, f k < 65536) : Builtin.bitAnd ((num f n : Nat) : Int) st = ((num (fun k => if b k then f k else 0) n : Nat) : Int) := by
  obtain ⟨s, rfl, hs⟩ := h
  rw [bitAnd_nat]
  congr 1
  apply Nat.eq_of_testBit_eq
  intro i
  rw [Nat.testBit_and, num_testBit n f hf, num_testBit n _ (fun k => by split <;> first | exact hf k | decide), hs]
  cases b (i / 16) <;> simp
theorem field_num (k n : Nat) (f : Nat → Nat) (hf : ∀ k, f k < 65536) (hk : k < n) : fieldP ((num f n : Nat) : Int) k = (f k : Int) := by
  unfold fieldP
  have e1 : (16 * (k : Int)).toNat = 16 * k := by omega
  have e2 : ((2 : Int) ^ (16 * k)) = ((2 ^ (16 * k) : Nat) : Int) := by simp
  rw [e1, e2, ← Int.ofNat_fdiv, show (65535 : Int) = ((65535 : Nat) : Int) from rfl, bitAnd_nat, show (65535 : Nat) = 2 ^ 16 - 1 from rfl, Nat.and_two_pow_sub_one_eq_mod]
  rw [show (2 : Nat) ^ 16 = 65536 from rfl, num_field k n f hf hk]
end

section
/-- a piece as the law means it: a star, or a part and the signs that it takes -/
abbrev Sp := Option (Str × Str)
def spTab : List Sp := [some ("a", "a"), some ("b", "b"), some ("\\.", "."), some (".", "ab."), none, none, none, some ("[ab]", "ab"), some ("[^a]", "b."), some ("[.-a]", ".a"), some ("(?!)", ""), some (".", "ab."), some ("[^.b]", "a"), some ("[a.]", "a."), some ("[.-b]", "ab."), some ("[a-a]", "a")]
def spGood : Sp → Bool
  | none => true
  | some (p, s) => !(s == "*") && decide (p.length ≤ 1000) && (takesF p (signS 0) == some (inS (signS 0) s)) && (takesF p (signS 1) == some (inS (signS 1) s)) && (takesF p (signS 2) == some (inS (signS 2) s))
def spChk (n : Nat) : Bool := spGood (spTab.getD n none) && match spTab.getD n none with
  | none => (pieces.getD n ("", "")).2 == "*" && ((tokTab.getD n []).map (·.2) == [none] || (tokTab.getD n []).map (·.2) == [none, none])
  | some (p, s) => (pieces.getD n ("", "")).2 == s && (tokTab.getD n []).map (·.2) == [some p]
theorem sp_ok : ∀ n, n < 16 → spChk n = true := by decide +kernel
def addSp (ps : List (Option Str)) : Sp → List (Option Str)
  | none => starred ps
  | some q => ps ++ [some q.1]
def rowSp : Sp → Str
  | none => "*"
  | some q => q.2
def spAt (x : Int) : Sp := spTab.getD (idx x) none
def spL (ds : List Int) : List Sp := (evens ds).map spAt
theorem starred_t {ps : List (Option Str)} (h : ps.getLast? = some none) : starred ps = ps := by
  unfold starred; rw [h]
theorem starred_f {ps : List (Option Str)} (h : ¬ ps.getLast? = some none) : starred ps = ps ++ [none] := by
  unfold starred
  split
  · rename_i e; exact absurd e h
  · rfl
theorem starred_twice (ps : List (Option Str)) : starred (starred ps) = starred ps := by
  by_cases h : ps.getLast? = some none
  · rw [starred_t h, starred_t h]
  · rw [starred_f h, starred_t (by simp)]
theorem add_toks (x : Int) (ps : List (Option Str)) : ((toksAt x).map (·.2)).foldl addP ps = addSp ps (spAt x) ∧ (pieceAt x).2 = rowSp (spAt x) ∧ spGood (spAt x) = true := by
  have h := sp_ok _ (idx_lt x)
  unfold spChk at h
  unfold toksAt pieceAt spAt
  generalize spTab.getD (idx x) none = sp at h ⊢
  rw [Bool.and_eq_true] at h
  obtain ⟨h0, h⟩ := h
  refine ⟨?_, ?_, h0⟩
  · cases sp with
    | none =>
      simp only [Bool.and_eq_true, Bool.or_eq_true, beq_iff_eq] at h
      rcases h.2 with e | e
      · rw [e]; rfl
      · rw [e]; exact starred_twice ps
    | some q =>
      obtain ⟨p, s⟩ := q
      simp only [Bool.and_eq_true, beq_iff_eq] at h
      rw [h.2]; rfl
  · cases sp with
    | none =>
      simp only [Bool.and_eq_true, beq_iff_eq] at h
      exact h.1
    | some q =>
      obtain ⟨p, s⟩ := q
      simp only [Bool.and_eq_true, beq_iff_eq] at h
      exact h.1
theorem parts_sp (ds : List Int) : partsT (toksL ds) = (spL ds).foldl addSp [] := by
  unfold partsT toksL spL
  generalize evens ds = xs
  generalize ([] : List (Option Str)) = ps
  induction xs generalizing ps with
  | nil => rfl
  | cons x r ih =>
    rw [List.flatMap_cons, List.map_append, List.foldl_append, (add_toks x ps).1, ih]; rfl
theorem row_sp (ds : List Int) : rowL ds = (spL ds).map rowSp := by
  unfold rowL mineP spL
  rw [List.map_map, List.map_map]
  exact List.map_congr_left fun x _ => (add_toks x []).2.1
theorem spL_good (ds : List Int) : ∀ sp ∈ spL ds, spGood sp = true := fun sp h => by
  obtain ⟨x, _, rfl⟩ := List.mem_map.mp h
  exact (add_toks x []).2.2
/-- what a mask of a sign holds -/
def gb (it : List Str) (c : Fin 3) : Nat → Bool
  | 0 => false
  | k + 1 => decide (k < it.length) && inS (signS c) (it.getD k "")
structure Inv (ps : List (Option Str)) (it : List Str) (sb : List Bool) : Prop where
  len : sb.length = it.length + 1
  last : ps.getLast? = some none ↔ sb.getLast? = some true
  cnt : cnt ps = (sb.filter id).length
  first : ps.findIdx? (·.isNone) = if true ∈ sb then some (sb.idxOf true) else none
  clear : true ∉ sb → ps.length = it.length
  at' : (masks ps).at' = it.length
  stays : MaskOf (masks ps).stays fun k => sb.getD k false
  goes : ∀ c, MaskOf (gOf (masks ps) c) (gb it c)
theorem inv0 : Inv [] [] [false] where
  len := rfl
  last := by simp
  cnt := rfl
  first := by simp
  clear := fun _ => rfl
  at' := rfl
  stays := mask_zero.congr fun k => by cases k <;> simp
  goes := fun c => by
    have : gOf (masks []) c = 0 := by revert c; decide
    rw [this]
    exact mask_zero.congr fun k => by cases k <;> simp [gb]
theorem getD_snoc {α : Type} (l : List α) (a d : α) (k : Nat) : (l ++ [a]).getD k d = if k < l.length then l.getD k d else if k = l.length then a else d := by
  rw [List.getD_eq_getElem?_getD, List.getD_eq_getElem?_getD]
  by_cases h : k < l.length
  · rw [if_pos h, List.getElem?_append_left h]
  · rw [if_neg h, List.getElem?_append_right (by omega)]
    by_cases e : k = l.length
    · rw [if_pos e, e]; simp
    · rw [if_neg e, List.getElem?_eq_none (by simp; omega)]; rfl
theorem masks_snoc (ps : List (Option Str)) (p : Option Str) : masks (ps ++ [p]) = (masks ps).step p := by
  unfold masks; rw [List.foldl_append]; rfl
theorem inv_star {ps : List (Option Str)} {it : List Str} {sb : List Bool} (I : Inv ps it sb) : Inv (starred ps) it (sb.dropLast ++ [true]) := by
  have hne : sb ≠ [] := fun e => by have := I.len; rw [e] at this; simp at this
  have hsb := List.dropLast_concat_getLast hne
  by_cases hl : ps.getLast? = some none
  · have e1 : starred ps = ps := starred_t hl
    have e2 := I.last.mp hl
    have e3 : sb.getLast hne = true := by
      rw [List.getLast?_eq_some_getLast hne] at e2; exact Option.some.inj e2
    rw [e3] at hsb
    rw [e1, hsb]
    exact I
  · have e1 : starred ps = ps ++ [none] := starred_f hl
    have e3 : sb.getLast hne = false := by
      cases h : sb.getLast hne with
      | false => rfl
      | true => exact absurd (I.last.mpr (by rw [List.getLast?_eq_some_getLast hne, h])) hl
    rw [e3] at hsb
    rw [e1]
    generalize sb.dropLast = i at hsb ⊢
    subst hsb
    have hlen : i.length = it.length := by have := I.len; simp at this; exact this
    have hmem : (true ∈ i ++ [false]) ↔ true ∈ i := by simp
    refine ⟨by simp [hlen], by simp, ?_, ?_, fun h => absurd (by simp) h, ?_, ?_, fun c => ?_⟩
    · have := I.cnt
      unfold Fm.cnt at this ⊢
      rw [List.countP_append, this]
      simp
    · rw [List.findIdx?_append, I.first, if_pos (by simp : true ∈ i ++ [true])]
      by_cases h : true ∈ i
      · rw [if_pos (hmem.mpr h), List.idxOf_append, List.idxOf_append, if_pos h, if_pos h]; rfl
      · rw [if_neg (fun q => h (hmem.mp q)), List.idxOf_append, if_neg h]
        have := I.clear fun q => h (hmem.mp q)
        simp [this, hlen]
    · rw [masks_snoc]; exact I.at'
    · rw [masks_snoc]
      refine (mask_or I.stays (masks ps).at').congr fun k => ?_
      rw [I.at', getD_snoc, getD_snoc, hlen]
      by_cases h : k < it.length
      · rw [if_pos h, if_pos h, decide_eq_false (by omega), Bool.or_false]
      · rw [if_neg h, if_neg h]
        by_cases e : k = it.length
        · rw [if_pos e, if_pos e, decide_eq_true e]; rfl
        · rw [if_neg e, if_neg e, decide_eq_false e]; rfl
    · rw [masks_snoc]
      have : gOf ((masks ps).step none) c = gOf (masks ps) c := by
        match c with
        | 0 => rfl
        | 1 => rfl
        | 2 => rfl
      rw [this]; exact I.goes c
theorem inv_item {ps : List (Option Str)} {it : List Str} {sb : List Bool} {p s : Str} (I : Inv ps it sb) (h : spGood (some (p, s)) = true) : Inv (ps ++ [some p]) (it ++ [s]) (sb ++ [false]) := by
  have htk : ∀ c : Fin 3, tk p (signS c) = inS (signS c) s := by
    simp only [spGood, Bool.and_eq_true, beq_iff_eq] at h
    obtain ⟨⟨⟨_, h0⟩, h1⟩, h2⟩ := h
    intro c
    match c with
    | 0 => unfold tk; rw [h0]; rfl
    | 1 => unfold tk; rw [h1]; rfl
    | 2 => unfold tk; rw [h2]; rfl
  have hmem : (true ∈ sb ++ [false]) ↔ true ∈ sb := by simp
  refine ⟨by simp [I.len], by simp, ?_, ?_, fun hh => ?_, ?_, ?_, fun c => ?_⟩
  · have := I.cnt
    unfold Fm.cnt at this ⊢
    rw [List.countP_append, this]
    simp
  · rw [List.findIdx?_append, I.first]
    by_cases hs : true ∈ sb
    · rw [if_pos hs, if_pos (hmem.mpr hs), List.idxOf_append, if_pos hs]; rfl
    · rw [if_neg hs, if_neg fun q => hs (hmem.mp q)]; simp
  · have := I.clear fun q => hh (hmem.mpr q)
    simp [this]
  · rw [masks_snoc]
    show (masks ps).at' + 1 = _
    rw [I.at']; simp
  · rw [masks_snoc]
    refine I.stays.congr fun k => ?_
    rw [getD_snoc]
    by_cases hk : k < sb.length
    · rw [if_pos hk]
    · rw [if_neg hk, List.getD_eq_getElem?_getD, List.getElem?_eq_none (by omega)]; simp
  · rw [masks_snoc]
    have e : gOf ((masks ps).step (some p)) c = if inS (signS c) s then Builtin.bitOr (gOf (masks ps) c) (fld (it.length + 1)) else gOf (masks ps) c := by
      rw [← htk c, ← I.at']
      match c with
      | 0 => rfl
      | 1 => rfl
      | 2 => rfl
    rw [e]
    cases hs : inS (signS c) s with
    | true =>
      rw [if_pos rfl]
      refine (mask_or (I.goes c) (it.length + 1)).congr fun k => ?_
      cases k with
      | zero => simp [gb]
      | succ k =>
        simp only [gb]
        rw [getD_snoc, List.length_append, List.length_singleton]
        by_cases hk : k < it.length
        · rw [if_pos hk, decide_eq_true hk, decide_eq_true (show k < it.length + 1 by omega), decide_eq_false (by omega), Bool.or_false]
        · rw [if_neg hk, decide_eq_false hk, Bool.false_and, Bool.false_or]
          by_cases e : k = it.length
          · rw [if_pos e, hs, decide_eq_true (show k + 1 = it.length + 1 by omega), decide_eq_true (by omega)]; rfl
          · rw [decide_eq_false (show ¬ k + 1 = it.length + 1 by omega), decide_eq_false (show ¬ k < it.length + 1 by omega)]; rfl
    | false =>
      rw [if_neg (by decide)]
      refine (I.goes c).congr fun k => ?_
      cases k with
      | zero => rfl
      | succ k =>
        simp only [gb]
        rw [getD_snoc, List.length_append, List.length_singleton]
        by_cases hk : k < it.length
        · rw [if_pos hk, decide_eq_true hk, decide_eq_true (show k < it.length + 1 by omega)]
        · rw [if_neg hk, decide_eq_false hk, Bool.false_and]
          by_cases e : k = it.length
          · rw [if_pos e, hs, Bool.and_false]
          · rw [decide_eq_false (show ¬ k < it.length + 1 by omega)]; rfl
theorem items_snoc (row : List Str) (x : Str) : itemsP (row ++ [x]) = itemsP row ++ (if !(x == "*") then [x] else []) := by
  unfold itemsP; rw [List.filter_append]; simp [List.filter_cons]
theorem stars_snoc (row : List Str) (x : Str) : starsP (row ++ [x]) = starStep (starsP row) x := by
  unfold starsP; rw [List.foldl_append]; rfl
theorem inv_of (l : List Sp) (h : ∀ sp ∈ l, spGood sp = true) : Inv (l.foldl addSp []) (itemsP (l.map rowSp)) (starsP (l.map rowSp)) := by
  have key : ∀ n (l : List Sp), l.length = n → (∀ sp ∈ l, spGood sp = true) → Inv (l.foldl addSp []) (itemsP (l.map rowSp)) (starsP (l.map rowSp)) := by
    intro n
    induction n with
    | zero =>
      intro l hl _
      rw [List.eq_nil_of_length_eq_zero hl]
      exact inv0
    | succ n ih =>
      intro l hl hg
      rcases List.eq_nil_or_concat l with e | ⟨l', sp, e⟩
      · rw [e] at hl; cases hl
      · rw [List.concat_eq_append] at e
        subst e
        have I := ih l' (by simpa using hl) fun sp hs => hg sp (List.mem_append.mpr (.inl hs))
        have hsp := hg sp (by simp)
        rw [List.foldl_append, List.map_append, List.map_singleton, items_snoc, stars_snoc]
        cases sp with
        | none =>
          have := inv_star I
          rw [show starStep (starsP (l'.map rowSp)) (rowSp none) = (starsP (l'.map rowSp)).dropLast ++ [true] from if_pos rfl]
          rw [show (if !(rowSp none == "*") then [rowSp none] else []) = ([] : List Str) from rfl, List.append_nil]
          exact this
        | some q =>
          obtain ⟨p, s⟩ := q
          have hs : (s == ("*" : Str)) = false := by
            simp only [spGood, Bool.and_eq_true, Bool.not_eq_true'] at hsp
            exact hsp.1.1.1.1
          have := inv_item I hsp
          rw [show starStep (starsP (l'.map rowSp)) (rowSp (some (p, s))) = starsP (l'.map rowSp) ++ [false] from if_neg (by show ¬ ((s == _) = true); rw [hs]; decide)]
          rw [show (if !(rowSp (some (p, s)) == "*") then [rowSp (some (p, s))] else []) = [s] from if_pos (by show (!(s == _)) = true; rw [hs]; rfl)]
          exact this
  exact key _ l rfl h
end

section
def cntW (ws : List (List Nat)) (k : Nat) : Nat := ws.countP fun v => lastW v == k
def paths (it : List Str) (sb : List Bool) : List (Fin 3) → Nat → Nat
  | [], k => if k = it.length then 1 else 0
  | s :: l, k => (if gb it s (k + 1) then paths it sb l (k + 1) else 0) + (if sb.getD k false then paths it sb l k else 0)
theorem paths_le (it : List Str) (sb : List Bool) : ∀ (l : List (Fin 3)) (k : Nat), paths it sb l k ≤ 2 ^ l.length
  | [], k => by unfold paths; split <;> simp
  | s :: l, k => by
    have h1 := paths_le it sb l k
    have h2 := paths_le it sb l (k + 1)
    unfold paths
    rw [List.length_cons, Nat.pow_succ]
    split <;> split <;> omega
theorem countP_if {α : Type} (f : α → Nat) (P : Nat → Bool) (k : Nat) (ws : List α) : (ws.countP fun w => (f w == k) && P (f w)) = if P k then ws.countP (fun w => f w == k) else 0 := by
  cases h : P k with
  | true =>
    rw [if_pos rfl]
    apply List.countP_congr
    intro w _
    by_cases e : f w = k
    · simp [e, h]
    · simp [e]
  | false =>
    rw [if_neg (by decide)]
    rw [List.countP_eq_zero]
    intro w _
    by_cases e : f w = k
    · simp [e, h]
    · simp [e]
theorem cnt_step (it : List Str) (sb : List Bool) (ws : List (List Nat)) (i : Fin 3) (k : Nat) :
    cntW (stepW it sb ws i) k = (if gb it i k then shl (cntW ws) k else 0) + (if sb.getD k false then cntW ws k else 0) := by
  have h1 : (stayW sb ws).countP (fun v => lastW v == k) = if sb.getD k false then cntW ws k else 0 := by
    unfold stayW cntW
    rw [List.countP_map, List.countP_filter, ← countP_if lastW (fun n => sb.getD n false)]
    apply List.countP_congr
    intro w _
    simp [Function.comp, lastW_snoc]
  have h2 : (onW it (signS i) ws).countP (fun v => lastW v == k) = if gb it i k then shl (cntW ws) k else 0 := by
    unfold onW
    rw [List.countP_map, List.countP_filter]
    cases k with
    | zero =>
      rw [show gb it i 0 = false from rfl, if_neg (by decide), List.countP_eq_zero]
      intro w _
      simp [Function.comp, lastW_snoc]
    | succ k =>
      show _ = if gb it i (k + 1) then cntW ws k else 0
      unfold cntW
      rw [← countP_if lastW (fun n => gb it i (n + 1))]
      apply List.countP_congr
      intro w _
      simp [Function.comp, lastW_snoc, gb]
  unfold cntW stepW at *
  rw [List.countP_append, h1, h2]
  omega
theorem stepW_len (it : List Str) (sb : List Bool) (ws : List (List Nat)) (i : Fin 3) : (stepW it sb ws i).length ≤ 2 * ws.length := by
  unfold stepW stayW onW
  rw [List.length_append, List.length_map, List.length_map]
  have := List.length_filter_le (fun w => sb.getD (lastW w) false) ws
  have := List.length_filter_le (fun w => decide (lastW w < it.length) && inS (signS i) (it.getD (lastW w) "")) ws
  omega
theorem pow_two16 (n : Nat) : ((65536 ^ n : Nat) : Int) = 2 ^ (16 * n) := by
  rw [show (65536 : Nat) ^ n = 2 ^ (16 * n) from by rw [Nat.pow_mul]]
  simp
theorem pow16 : (2 : Int) ^ (16 : Int).toNat = ((65536 : Nat) : Int) := by decide
theorem on_step {it : List Str} {sb : List Bool} {st : Int} {g : Fin 3 → Int} (hs : MaskOf st fun k => sb.getD k false) (hg : ∀ c, MaskOf (g c) (gb it c)) (ws : List (List Nat)) (hz : ws.length < 65536) (i : Fin 3) :
    onStep st g ((num (cntW ws) (it.length + 1) : Nat) : Int) i = ((num (cntW (stepW it sb ws i)) (it.length + 1) : Nat) : Int) := by
  have hc : ∀ k, cntW ws k < 65536 := fun k => Nat.lt_of_le_of_lt List.countP_le_length hz
  have hc' : ∀ k, shl (cntW ws) k < 65536 := fun k => by
    cases k with
    | zero => exact Nat.zero_lt_succ _
    | succ k => exact hc k
  unfold onStep
  have e1 : ((num (cntW ws) (it.length + 1) : Nat) : Int) * 2 ^ (16 : Int).toNat = ((num (shl (cntW ws)) (it.length + 1 + 1) : Nat) : Int) := by
    rw [pow16, ← Int.natCast_mul, num_shl]
  rw [e1, mask_and (hg i) _ _ hc', mask_and hs _ _ hc, num_top]
  have e2 : gb it i (it.length + 1) = false := by
    simp [gb]
  rw [e2, if_neg (by decide), Nat.zero_mul, Nat.add_zero, ← Int.natCast_add, ← num_add]
  congr 1
  exact num_congr _ fun k _ => (cnt_step it sb ws i k).symm
theorem on_fold {it : List Str} {sb : List Bool} {st : Int} {g : Fin 3 → Int} (hs : MaskOf st fun k => sb.getD k false) (hg : ∀ c, MaskOf (g c) (gb it c)) : ∀ (l : List (Fin 3)) (ws : List (List Nat)), ws.length * 2 ^ l.length < 65536 →
    l.foldl (onStep st g) ((num (cntW ws) (it.length + 1) : Nat) : Int) = ((num (cntW (l.foldl (stepW it sb) ws)) (it.length + 1) : Nat) : Int)
  | [], _, _ => rfl
  | i :: l, ws, hz => by
    have hp : 0 < 2 ^ l.length := Nat.two_pow_pos _
    rw [List.length_cons, Nat.pow_succ] at hz
    have h1 : ws.length < 65536 := by
      refine Nat.lt_of_le_of_lt ?_ hz
      calc ws.length = ws.length * 1 := (Nat.mul_one _).symm
        _ ≤ ws.length * (2 ^ l.length * 2) := Nat.mul_le_mul_left _ (by omega)
    rw [List.foldl_cons, List.foldl_cons, on_step hs hg ws h1 i]
    refine on_fold hs hg l _ (Nat.lt_of_le_of_lt (Nat.mul_le_mul_right _ (stepW_len it sb ws i)) ?_)
    have : 2 * ws.length * 2 ^ l.length = ws.length * (2 ^ l.length * 2) := by
      rw [Nat.mul_comm 2, Nat.mul_assoc, Nat.mul_comm 2]
    omega
theorem on_num {it : List Str} {sb : List Bool} {st : Int} {g : Fin 3 → Int} (hs : MaskOf st fun k => sb.getD k false) (hg : ∀ c, MaskOf (g c) (gb it c)) (l : List (Fin 3)) (hl : l.length ≤ 10) :
    onC st g l = ((num (cntW (walksP it sb l)) (it.length + 1) : Nat) : Int) := by
  have h0 : num (cntW [[0]]) (it.length + 1) = 1 := by
    have : num (cntW [[0]]) (it.length + 1) = num (fun k => if k = 0 then 1 else 0) (it.length + 1) := num_congr _ fun k _ => by
      cases k <;> simp [cntW, lastW]
    rw [this, num_one _ _ (by omega)]
  have := on_fold hs hg l [[0]] (by
    have : 2 ^ l.length ≤ 2 ^ 10 := Nat.pow_le_pow_right (by decide) hl
    rw [show ([[0]] : List (List Nat)).length = 1 from rfl, Nat.one_mul]
    omega)
  rw [h0] at this
  exact this
theorem bk_num {it : List Str} {sb : List Bool} {st : Int} {g : Fin 3 → Int} (hs : MaskOf st fun k => sb.getD k false) (hg : ∀ c, MaskOf (g c) (gb it c)) : ∀ (l : List (Fin 3)), l.length ≤ 10 →
    bkR st g it.length l.reverse = ((num (paths it sb l) (it.length + 1) : Nat) : Int)
  | [], _ => by
    show 1 * 2 ^ (16 * (it.length : Int)).toNat = _
    have e : (16 * (it.length : Int)).toNat = 16 * it.length := by omega
    have : num (paths it sb []) (it.length + 1) = 65536 ^ it.length := num_one _ _ (by omega)
    rw [this, e, Int.one_mul, pow_two16]
  | i :: l, hl => by
    have ih := bk_num hs hg l (by simp at hl; omega)
    have hp : ∀ k, paths it sb l k < 65536 := fun k => Nat.lt_of_le_of_lt (paths_le it sb l k) (by
      have : 2 ^ l.length ≤ 2 ^ 10 := Nat.pow_le_pow_right (by decide) (by simp at hl; omega)
      omega)
    rw [List.reverse_cons]
    unfold bkR at ih ⊢
    rw [List.foldl_append, ih]
    show bkStep st g _ i = _
    unfold bkStep
    rw [mask_and (hg i) _ _ hp, mask_and hs _ _ hp, pow16, ← Int.ofNat_fdiv, num_shr _ _ (by split <;> first | exact hp 0 | decide)]
    have e1 : num (fun k => if gb it i (k + 1) then paths it sb l (k + 1) else 0) it.length = num (fun k => if gb it i (k + 1) then paths it sb l (k + 1) else 0) (it.length + 1) := by
      rw [num_top]
      have e2 : gb it i (it.length + 1) = false := by simp [gb]
      rw [e2, if_neg (by decide), Nat.zero_mul, Nat.add_zero]
    rw [e1, ← Int.natCast_add, ← num_add]
    rfl
theorem sum_num (m : Nat) : ∀ (ws : List (List Nat)), (∀ w ∈ ws, lastW w ≤ m) → (ws.map fun v => (2 : Int) ^ (16 * (lastW v : Int)).toNat).sum = ((num (cntW ws) (m + 1) : Nat) : Int)
  | [], _ => by
    show (0 : Int) = _
    have : num (cntW []) (m + 1) = num (fun _ => 0) (m + 1) := num_congr _ fun k _ => rfl
    rw [this, num_zero]; rfl
  | w :: ws, h => by
    have ih := sum_num m ws fun v hv => h v (.tail _ hv)
    have hw := h w (.head _)
    have e : num (cntW (w :: ws)) (m + 1) = num (fun k => (if k = lastW w then 1 else 0) + cntW ws k) (m + 1) := num_congr _ fun k _ => by
      unfold cntW
      rw [List.countP_cons]
      by_cases e : lastW w = k
      · simp [e]; omega
      · have : ¬ k = lastW w := fun q => e q.symm
        simp [e, this]
    rw [List.map_cons, List.sum_cons, ih, e, num_add, num_one _ _ (by omega), Int.natCast_add]
    congr 1
    have e : (16 * (lastW w : Int)).toNat = 16 * lastW w := by omega
    rw [e, pow_two16]
end

section
theorem sum_filter_map {α : Type} (p : α → Bool) (f : α → α) (F : α → Nat) : ∀ (ws : List α), (((ws.filter p).map f).map F).sum = (ws.map fun w => if p w then F (f w) else 0).sum
  | [] => rfl
  | w :: ws => by
    have ih := sum_filter_map p f F ws
    rw [List.filter_cons, List.map_cons, List.sum_cons, ← ih]
    cases p w with
    | true => rw [if_pos rfl, if_pos rfl, List.map_cons, List.map_cons, List.sum_cons]
    | false => rw [if_neg (by decide), if_neg (by decide)]; omega
theorem sum_add {α : Type} (F H : α → Nat) : ∀ (ws : List α), (ws.map fun w => F w + H w).sum = (ws.map F).sum + (ws.map H).sum
  | [] => rfl
  | w :: ws => by
    rw [List.map_cons, List.map_cons, List.map_cons, List.sum_cons, List.sum_cons, List.sum_cons, sum_add F H ws]
    omega
theorem sum_congr {α : Type} {F H : α → Nat} : ∀ (ws : List α), (∀ w ∈ ws, F w = H w) → (ws.map F).sum = (ws.map H).sum
  | [], _ => rfl
  | w :: ws, h => by
    rw [List.map_cons, List.map_cons, List.sum_cons, List.sum_cons, h w (.head _), sum_congr ws fun v hv => h v (.tail _ hv)]
theorem stepW_long {it : List Str} {sb : List Bool} {ws : List (List Nat)} {n : Nat} (s : Fin 3) (h : ∀ w ∈ ws, n ≤ w.length) : ∀ w ∈ stepW it sb ws s, n ≤ w.length := by
  intro w hw
  rcases List.mem_append.mp hw with hw | hw
  · obtain ⟨v, hv, rfl⟩ := List.mem_map.mp hw
    have := h v (List.mem_filter.mp hv).1
    rw [List.length_append]; omega
  · obtain ⟨v, hv, rfl⟩ := List.mem_map.mp hw
    have := h v (List.mem_filter.mp hv).1
    rw [List.length_append]; omega
theorem count_whole (it : List Str) (sb : List Bool) {n : Nat} (q : List Nat → Bool) (hq : ∀ w x, n ≤ w.length → q (w ++ [x]) = q w) : ∀ (l : List (Fin 3)) (ws : List (List Nat)), (∀ w ∈ ws, n ≤ w.length) →
    (l.foldl (stepW it sb) ws).countP (fun v => q v && lastW v == it.length) = (ws.map fun w => if q w then paths it sb l (lastW w) else 0).sum
  | [], ws, _ => by
    rw [List.foldl_nil]
    induction ws with
    | nil => rfl
    | cons w ws ih =>
      rw [List.countP_cons, List.map_cons, List.sum_cons, ih fun v hv => by rename_i h; exact h v (.tail _ hv)]
      unfold paths
      cases q w with
      | true =>
        by_cases e : lastW w = it.length
        · simp [e]; omega
        · simp [e]
      | false => simp
  | s :: l, ws, h => by
    rw [List.foldl_cons, count_whole it sb q hq l _ (stepW_long s h)]
    have e1 : ((stayW sb ws).map fun w => if q w then paths it sb l (lastW w) else 0).sum = (ws.map fun w => if sb.getD (lastW w) false then (if q w then paths it sb l (lastW w) else 0) else 0).sum := by
      unfold stayW
      rw [sum_filter_map]
      refine sum_congr ws fun w hw => ?_
      rw [hq w _ (h w hw), lastW_snoc]
    have e2 : ((onW it (signS s) ws).map fun w => if q w then paths it sb l (lastW w) else 0).sum = (ws.map fun w => if gb it s (lastW w + 1) then (if q w then paths it sb l (lastW w + 1) else 0) else 0).sum := by
      unfold onW
      rw [sum_filter_map]
      refine sum_congr ws fun w hw => ?_
      rw [hq w _ (h w hw), lastW_snoc]
      rfl
    unfold stepW
    rw [List.map_append, List.sum_append, e1, e2, ← sum_add]
    refine sum_congr ws fun w _ => ?_
    show _ = if q w = true then (if gb it s (lastW w + 1) then paths it sb l (lastW w + 1) else 0) + (if sb.getD (lastW w) false then paths it sb l (lastW w) else 0) else 0
    cases q w with
    | true => simp only [if_true]; omega
    | false => simp
theorem sum_last (it : List Str) (sb : List Bool) (l : List (Fin 3)) (k : Nat) (q : List Nat → Bool) : ∀ (ws : List (List Nat)), (∀ w ∈ ws, q w = (lastW w == k)) → (ws.map fun w => if q w then paths it sb l (lastW w) else 0).sum = cntW ws k * paths it sb l k
  | [], _ => by simp [cntW]
  | w :: ws, h => by
    rw [List.map_cons, List.sum_cons, sum_last it sb l k q ws fun v hv => h v (.tail _ hv), h w (.head _)]
    unfold cntW
    rw [List.countP_cons, Nat.add_mul]
    by_cases e : lastW w = k
    · simp [e]; omega
    · simp [e]
theorem getD_last {w : List Nat} {j : Nat} (h : w.length = j + 1) : w.getD j 0 = lastW w := by
  unfold lastW
  rw [List.getD_eq_getElem?_getD, List.getLastD_eq_getLast?, List.getLast?_eq_getElem?]
  rw [h]; rfl
/-- the product tells the whole walks that go through there -/
theorem through_count (it : List Str) (sb : List Bool) (l : List (Fin 3)) {j k : Nat} (hj : j ≤ l.length) :
    ((((wholeP it sb it.length l).map fun v => v.getD j 0).filter fun (o : Nat) => ((o : Int) == (k : Int))).length) = cntW (walksP it sb (l.take j)) k * paths it sb (l.drop j) k := by
  have hw : walksP it sb l = (l.drop j).foldl (stepW it sb) (walksP it sb (l.take j)) := by
    unfold walksP
    rw [← List.foldl_append, List.take_append_drop]
  have hlen := walksP_each it sb (l.take j)
  have hlt : (l.take j).length = j := by rw [List.length_take]; omega
  rw [hlt] at hlen
  have hc := count_whole it sb (n := j + 1) (fun v => v.getD j 0 == k) (fun w x hx => by
    rw [List.getD_eq_getElem?_getD, List.getD_eq_getElem?_getD, List.getElem?_append_left (by omega)]) (l.drop j) (walksP it sb (l.take j)) (fun w h => by rw [hlen w h]; exact Nat.le_refl _)
  rw [← hw, sum_last it sb (l.drop j) k _ _ fun w h => by rw [getD_last (hlen w h)]] at hc
  rw [← hc, ← List.countP_eq_length_filter, List.countP_map]
  unfold wholeP
  rw [List.countP_filter]
  apply List.countP_congr
  intro v _
  simp [Function.comp]
  omega
theorem bits_num {n : Nat} {f : Nat → Nat} (hf : ∀ k, f k < 65536) : Builtin.Int.intBits ((num f n : Nat) : Int) ≤ 16 * n := by
  refine intBits_le_iff.mpr ?_
  have := num_lt n f hf
  rw [show (65536 : Nat) = 2 ^ 16 from rfl, ← Nat.pow_mul] at this
  simpa using this
theorem bits_small {a : Nat} (h : a < 65536) : Builtin.Int.intBits (a : Int) ≤ 64 := by
  refine intBits_le_iff.mpr ?_
  have : (65536 : Nat) ≤ 2 ^ 64 := by decide
  simp; omega
theorem rev_name (l : List (Fin 3)) (hl : l.length ≤ 10) : cutS (nameS l) none none (some (-1)) = nameS l.reverse := by
  have hn : (nameS l).length = l.length := by show (List.toArray _).size = _; simp
  have hi : ∀ n, n ≤ 10 → Builtin.Str.strSliceIndices none none (-1) n = (List.range n).reverse := by decide
  unfold cutS
  have h0 : ((some (-1 : Int)).getD 1 == 1) = false := by decide
  rw [h0, Bool.false_and, if_neg Bool.false_ne_true, hn]
  show (⟨((Builtin.Str.strSliceIndices none none (-1) l.length).filterMap _).toArray⟩ : Str) = _
  rw [hi _ hl, List.filterMap_reverse]
  have e : (List.range l.length).filterMap ((nameS l).cps[·]?) = l.map signC := by
    have h := fm_range (l.map signC) l.length
    rw [List.take_of_length_le (by simp)] at h
    rw [← h]
    congr 1
    funext j
    show ((l.map signC).toArray)[j]? = _
    rw [List.getElem?_toArray]
  rw [e]
  show _ = (⟨(l.reverse.map signC).toArray⟩ : Str)
  rw [List.map_reverse]
theorem parts_ok (ds : List Int) : ∀ p ∈ (spL ds).foldl addSp [], ∀ x, p = some x → OkPart x := by
  have key : ∀ (l : List Sp) (ps : List (Option Str)), (∀ sp ∈ l, spGood sp = true) → (∀ p ∈ ps, ∀ x, p = some x → OkPart x) → ∀ p ∈ l.foldl addSp ps, ∀ x, p = some x → OkPart x := by
    intro l
    induction l with
    | nil => exact fun ps _ h => h
    | cons sp l ih =>
      intro ps hg h
      refine ih _ (fun s hs => hg s (.tail _ hs)) ?_
      intro p hp x hx
      subst hx
      cases sp with
      | none =>
        have : some x ∈ ps := by
          have hp' : some x ∈ starred ps := hp
          by_cases hl : ps.getLast? = some none
          · rwa [starred_t hl] at hp'
          · rw [starred_f hl] at hp'
            simpa using hp'
        exact h _ this x rfl
      | some q =>
        obtain ⟨p0, s⟩ := q
        rcases List.mem_append.mp (show some x ∈ ps ++ [some p0] from hp) with hp | hp
        · exact h _ hp x rfl
        · have e : x = p0 := by simpa using hp
          subst e
          have hgd := hg _ (.head _)
          simp only [spGood, Bool.and_eq_true, beq_iff_eq, decide_eq_true_eq] at hgd
          obtain ⟨⟨⟨⟨_, h1⟩, h2⟩, h3⟩, h4⟩ := hgd
          refine ⟨h1, fun c hc => ?_⟩
          have : takesF x c = some (inS c s) := by
            simp only [List.mem_cons, List.not_mem_nil, or_false] at hc
            rcases hc with rfl | rfl | rfl
            · exact h2
            · exact h3
            · exact h4
          unfold tk
          rw [this]; rfl
  exact key _ [] (spL_good ds) fun p hp => nomatch hp
theorem facts (ds : List Int) (hd : ds.length ≤ 10) : LawFacts ds := by
  have I := inv_of (spL ds) (spL_good ds)
  have hP := parts_sp ds
  have hR := row_sp ds
  have hl : (nameL ds).length ≤ 10 := by unfold nameL; rw [List.length_map]; exact Nat.le_trans (List.length_take_le 6 _) (by decide)
  have hil : (itemsP (rowL ds)).length ≤ 10 := by
    have h1 : (itemsP (rowL ds)).length ≤ (rowL ds).length := List.length_filter_le _ _
    have h2 : (rowL ds).length = (evens ds).length := by rw [List.length_map]; unfold mineP; rw [List.length_map]
    have := evens_len ds
    omega
  have hpok := parts_ok ds
  rw [← hP, ← hR] at I
  rw [← hP] at hpok
  have hw : ∀ j k, cntW (walksP (itemsP (rowL ds)) (starsP (rowL ds)) ((nameL ds).take j)) k < 65536 := fun j k => by
    have := wl_bound (itemsP (rowL ds)) (starsP (rowL ds)) (nameL ds) hl j
    exact Nat.lt_of_le_of_lt List.countP_le_length (by omega)
  have hon : ∀ j, onP (masks (partsT (toksL ds))) (nameL ds) j = ((num (cntW (walksP (itemsP (rowL ds)) (starsP (rowL ds)) ((nameL ds).take j))) ((itemsP (rowL ds)).length + 1) : Nat) : Int) := fun j =>
    on_num I.stays I.goes _ (Nat.le_trans (List.length_take_le' j _) hl)
  have hpth : ∀ (l : List (Fin 3)) (k : Nat), l.length ≤ 10 → paths (itemsP (rowL ds)) (starsP (rowL ds)) l k < 65536 := fun l k h => by
    have h1 := paths_le (itemsP (rowL ds)) (starsP (rowL ds)) l k
    have : 2 ^ l.length ≤ 2 ^ 10 := Nat.pow_le_pow_right (by decide) h
    omega
  have hbk : ∀ j, j ≤ (nameL ds).length → bkP (masks (partsT (toksL ds))) (nameL ds) j = ((num (paths (itemsP (rowL ds)) (starsP (rowL ds)) ((nameL ds).drop j)) ((itemsP (rowL ds)).length + 1) : Nat) : Int) := fun j hj => by
    unfold bkP
    rw [List.take_reverse, show (nameL ds).length - ((nameL ds).length - j) = j by omega, I.at']
    exact bk_num I.stays I.goes _ (by rw [List.length_drop]; omega)
  have f4' : ∀ j k, j ≤ (nameL ds).length → k ≤ (itemsP (rowL ds)).length → fieldP (onP (masks (partsT (toksL ds))) (nameL ds) j) k = (cntW (walksP (itemsP (rowL ds)) (starsP (rowL ds)) ((nameL ds).take j)) k : Int) := fun j k hj hk => by
    rw [hon, field_num k _ _ (hw j) (by omega)]
  have f5' : ∀ j k, j ≤ (nameL ds).length → k ≤ (itemsP (rowL ds)).length → fieldP (bkP (masks (partsT (toksL ds))) (nameL ds) j) k = (paths (itemsP (rowL ds)) (starsP (rowL ds)) ((nameL ds).drop j) k : Int) := fun j k hj hk => by
    rw [hbk j hj, field_num k _ _ (fun k => hpth _ k (by rw [List.length_drop]; omega)) (by omega)]
  exact {
    hp := hpok
    f1 := I.cnt
    f2 := by
      unfold firstP
      rw [I.first]
      by_cases h : true ∈ starsP (rowL ds)
      · rw [if_pos h, if_pos (List.any_eq_true.mpr ⟨true, h, rfl⟩)]
      · rw [if_neg h, if_neg (fun q => h (by obtain ⟨b, hb, e⟩ := List.any_eq_true.mp q; exact (eq_of_beq e) ▸ hb))]
    hsz := I.at'
    hst := I.len
    hb := fun i => by
      have h1 := hon i
      unfold onP at h1
      rw [h1]
      have := bits_num (n := (itemsP (rowL ds)).length + 1) (hw i)
      omega
    hrev := rev_name _ hl
    told := by
      rw [I.at']
      refine ⟨fun j hj => ?_, fun j hj k hk => ?_, fun j hj k hk => ?_⟩
      · rw [hon, sum_num (itemsP (rowL ds)).length _ fun w h => (walksP_ok _ _ _ w h).2]
      · rw [f4' j k hj hk, f5' j k hj hk, through_count _ _ _ hj, Int.natCast_mul]
      · rw [f4' j k hj hk]
        exact .of_left (bits_small (hw j k)) }
end

end Fm
theorem PySem.Challenge.cw_ij0081_01_holds : PySem.Challenge.rw_ij0081_01.Holds :=
  Fm.holds_of fun ns _ => Fm.facts _ (Fm.drawnP_len ns)
