import PyProof.Rows.All
import Wide.All
import OpenK.AllK
import Wide.FinOn
import KE.KNestM
import KE.KTypeName
import KE.TryLedger
import PyProof.Rows.SetFrom
import PySem.Challenge.RW_oy0378_01
set_option Elab.async false
set_option maxRecDepth 100000
set_option maxHeartbeats 8000000
set_option compiler.extract_closed false
set_option linter.all false
namespace Mine
section
open PySem PySem.W PyProof.Rows
section
/-! The written part of the state: the kit's word lays it (hd.heap); its own run of the top is left aside (it would be far over the lid). -/
section
local macro_rules | `(tactic| o_head ($f:ident $k $a $e)) => `(tactic| exact False.elim (by assumption))
theorem hd (no : False) : PySem.Challenge.rw_oy0378_01.row.Holds := by k_head
end
noncomputable abbrev P9 : Program := PySem.Challenge.rw_oy0378_01.row.prog
/-- the view: of all the text's rows the law's alone -/
noncomputable def view : Program := { P9 with main := { P9.main with body := P9.main.body.drop 45 } }
noncomputable def loose : List Str := ["_sre", "deque", "_wall", "sep", "__name__", "_kind", "_fspath", "_check_arg_types", "isabs", "join", "join_path",
  "_c_path", "_splitroot", "dirname", "_normpath", "normpath", "_Ignore", "_twin_re_1", "_whence", "_index",
  "UnsupportedOperation", "IOBase", "BufferedIOBase", "TextIOBase", "BytesIO", "StringIO", "shlex", "split",
  "join_shlex", "_find_unsafe", "quote", "unorderable_list_difference", "_law_forest", "_law_lines", "_law_rest",
  "_law_read", "_law_order", "_law_told", "_law_due"].map Str.ofString

/-! the run of the text over a tree of objects, to its end, nothing of it written out -/
noncomputable def topG (thr ok : Thread → Bool) (stp : SharedT → Thread → Option (SharedT × Thread)) : Nat → SharedT → Thread → Option SharedT
  | 0, _, _ => none
  | n + 1, s, t => match thr t with
    | true => some s
    | false => match ok t with
      | false => none
      | true => match stp s t with
        | some (s', t') => topG thr ok stp n s' t'
        | none => none
noncomputable def impG (atx : Thread → Option (List Value)) (stp : SharedT → Thread → Option (SharedT × Thread)) : Nat → SharedT → Thread → Option SharedT
  | 0, _, _ => none
  | n + 1, s, t => match atx t with
    | some [] => some s
    | some (_ :: _) => none
    | none => match stp s t with
      | some (s', t') => impG atx stp n s' t'
      | none => none
theorem topG_of {tb : String → Option Builtin} {p : Program} {w : World} {n₀ : Nat} {ann : Option Value} : ∀ {n : Nat} {s s' : SharedT} {t : Thread}, topG through (stepOk n₀ ann) (stepT (denote tb) p w) n s t = some s' → topRun tb p w n₀ ann n s.abs t = some s'.abs
  | 0, _, _, _, h => by cases h
  | n + 1, s, s', t, h => by
    unfold topG at h
    unfold topRun
    cases he : through t with
    | true => rw [he] at h; cases h; rfl
    | false =>
      rw [he] at h
      cases hk : stepOk n₀ ann t with
      | false => rw [hk] at h; cases h
      | true =>
        rw [hk] at h
        cases hs : stepT (denote tb) p w s t with
        | none => rw [hs] at h; cases h
        | some r => obtain ⟨s₂, t₂⟩ := r; rw [hs] at h; rw [stepT_spec hs]; exact topG_of h
theorem impG_of {tb : String → Option Builtin} {p : Program} {w : World} : ∀ {n : Nat} {s s' : SharedT} {t : Thread}, impG Thread.atExitBegin (stepT (denote tb) p w) n s t = some s' → importEnds tb p w n s.abs t = some s'.abs
  | 0, _, _, _, h => by cases h
  | n + 1, s, s', t, h => by
    unfold impG at h
    unfold importEnds
    cases he : t.atExitBegin with
    | some l =>
      rw [he] at h
      cases l with
      | nil => cases h; rfl
      | cons _ _ => cases h
    | none =>
      rw [he] at h
      cases hs : stepT (denote tb) p w s t with
      | none => rw [hs] at h; cases h
      | some r => obtain ⟨s₂, t₂⟩ := r; rw [hs] at h; dsimp only; rw [stepT_spec hs]; exact impG_of h
noncomputable def treeOf : List Obj → Nat → BT → Option BT
  | [], _, t => some t
  | o :: l, n, t => match ((t.ins n o).get n).isSome with
    | true => treeOf l (n + 1) (t.ins n o)
    | false => none
theorem treeOf_abs {life : Life} : ∀ {l : List Obj} {n : Nat} {t t' : BT}, treeOf l n t = some t' → absHeap t' (n + l.length) life = ⟨((absHeap t n life).objs.toList ++ l).toArray, life⟩
  | [], n, t, t', h => by cases h; simp; rfl
  | o :: l, n, t, t', h => by
    unfold treeOf at h
    cases e : ((t.ins n o).get n).isSome with
    | false => rw [e] at h; cases h
    | true =>
      rw [e] at h
      have k := treeOf_abs (life := life) h
      rw [absHeap_ins e] at k
      rw [List.length_cons, show n + (l.length + 1) = n + 1 + l.length by (first | lia | omega), k]
      simp [Heap.push]
theorem treeOf_heap {h : Heap} {t : BT} (e : treeOf h.objs.toList 0 .nil = some t) : absHeap t h.objs.size h.life = h := by
  have := treeOf_abs (life := h.life) e
  rw [Nat.zero_add, Array.length_toList] at this
  rw [this]
  obtain ⟨⟨l⟩, f⟩ := h
  rfl
noncomputable def behindG {β : Type} (ok : Nat → Option Value → Thread → Bool) (stp : SharedT → Thread → Option (SharedT × Thread)) (nsm : Heap → Addr → Str → Option Value) (stub : Thread) (N : Nat) (look : Heap → SharedT → β) (s₀ : Shared) : Option β :=
  match s₀.heap.isNs mainGlobals && s₀.gens.size == 0 with
  | true => (treeOf s₀.heap.objs.toList 0 .nil).bind fun t =>
    (topG through (ok s₀.heap.objs.size (nsm s₀.heap mainGlobals "__annotations__")) stp N ⟨t, s₀.heap.objs.size, s₀.heap.life, s₀.gens, s₀.drawn, s₀.toks, s₀.os⟩ stub).map fun s => look s₀.heap s
  | false => none
noncomputable def startT (s : Shared × Thread) : SharedT := ⟨.nil, 0, s.1.heap.life, s.1.gens, s.1.drawn, s.1.toks, s.1.os⟩
noncomputable def allG {β : Type} (atx : Thread → Option (List Value)) (stp : Program → SharedT → Thread → Option (SharedT × Thread)) (st : Program → Shared × Thread) (fence : Program → Shared → Option Shared) (ok : Nat → Option Value → Thread → Bool)
    (nsm : Heap → Addr → Str → Option Value) (p : Program) (N : Nat) (look : Heap → SharedT → β) : Option β :=
  (impG atx (stp (opening p)) N (startT (st (opening p))) (st (opening p)).2).bind fun s => (fence p s.abs).bind (behindG ok (stp p) nsm (topStub p) N look)
/-- what is read off the end of the run: the looks of the library, and the objects of the written part, each found in the tree -/
noncomputable def live : Option Obj → Option Obj
  | some ⟨_, _, .freed, _⟩ => none
  | o => o
noncomputable def obsT (as : List Addr) (s : SharedT) : Bool × List (Option Obj) := (as.all fun a => Nat.blt a s.n, as.map fun a => live (s.tree.get a))
theorem obsT_of {as : List Addr} {l : List Obj} {s : SharedT} (h : obsT as s = (true, l.map some)) : as.map s.abs.heap.get? = l.map some := by
  have h1 : as.all (fun a => Nat.blt a s.n) = true := congrArg Prod.fst h
  have h2 : as.map (fun a => live (s.tree.get a)) = l.map some := congrArg Prod.snd h
  rw [← h2]
  refine List.map_congr_left fun a ha => ?_
  have b : a < s.n := by simpa [Nat.blt_eq] using List.all_eq_true.mp h1 a ha
  have c : live (s.tree.get a) ∈ l.map some := h2 ▸ List.mem_map_of_mem (f := fun a => live (s.tree.get a)) ha
  obtain ⟨o, _, e⟩ := List.mem_map.mp c
  show (absHeap s.tree s.n s.life).get? a = _
  have z : (absHeap s.tree s.n s.life).get? a = live (absHeap s.tree s.n s.life).objs[a]? := by
    unfold Heap.get? live
    rfl
  rw [z, absHeap_at, if_pos b]
  cases q : s.tree.get a with
  | none => rw [q] at e; cases e
  | some o' => rfl
theorem allG_two {β γ : Type} {atx : Thread → Option (List Value)} {stp : Program → SharedT → Thread → Option (SharedT × Thread)} {st : Program → Shared × Thread} {fence : Program → Shared → Option Shared} {ok : Nat → Option Value → Thread → Bool}
    {nsm : Heap → Addr → Str → Option Value} {p : Program} {N : Nat} {f : Heap → SharedT → β} {g : Heap → SharedT → γ} {a : β} {b : γ} (h1 : allG atx stp st fence ok nsm p N f = some a) (h2 : allG atx stp st fence ok nsm p N g = some b) :
    allG atx stp st fence ok nsm p N (fun h s => (f h s, g h s)) = some (a, b) := by
  unfold allG at h1 h2 ⊢
  obtain ⟨sI, hI, h1⟩ := Option.bind_eq_some_iff.mp h1
  rw [hI] at h2 ⊢
  obtain ⟨s₀, hf, h1⟩ := Option.bind_eq_some_iff.mp h1
  change (fence p sI.abs).bind _ = _ at h2
  show (fence p sI.abs).bind _ = _
  rw [hf] at h2 ⊢
  change behindG ok (stp p) nsm (topStub p) N g s₀ = _ at h2
  rw [Option.bind_some]
  unfold behindG at h1 h2 ⊢
  cases z1 : s₀.heap.isNs mainGlobals && s₀.gens.size == 0 with
  | false => rw [z1] at h1; cases h1
  | true =>
    rw [z1] at h1 h2
    obtain ⟨t, ht, h1⟩ := Option.bind_eq_some_iff.mp h1
    change (treeOf s₀.heap.objs.toList 0 .nil).bind _ = _ at h2
    show (treeOf s₀.heap.objs.toList 0 .nil).bind _ = _
    rw [ht] at h2 ⊢
    obtain ⟨sT, hT, rfl⟩ := Option.map_eq_some_iff.mp h1
    change (topG _ _ _ _ _ _).map _ = _ at h2
    show (topG _ _ _ _ _ _).map _ = _
    rw [hT] at h2 ⊢
    cases h2
    rfl
noncomputable def lookG {α : Type} (mods : List Str) (seenO : Shared → α) (as ts : List Addr) (h₀ : Heap) (p : Program) (s : SharedT) : (Bool × α) × (Bool × List (Option Obj)) × (Bool × List (Option Obj)) :=
  ((staticsOk mods h₀ s.abs.heap && namesBound p s.abs.heap && gensDone s.abs && laidKept h₀ s.abs.heap, seenO s.abs), obsT as s, obsT ts s)
theorem left_all {p q : Program} {loose : List Str} {Xt : Shared → Bool} {as ts : List Addr} {K : Params → Frag} {e : ∀ P, as = (K P).map (·.1)} {N : Nat}
    (run : ∀ w : World, allG Thread.atExitBegin (fun p => stepT (denote treeTable) p w) start fenceModules? stepOk Heap.nsMap p N
      (fun h₀ s => lookG (importedModules p.main.body) (fun s => openSeen q loose (importedModules p.main.body) Xt true s) as ts h₀ p s)
        = some ((true, openGood q loose), (true, (K w.params).map fun p => some p.2), (true, ts.map fun _ => some (tabObj #[])))) : LeftO p q loose Xt (kmHook K as e ts).obs (kmHook K as e ts).val N true := fun w => by
  obtain ⟨sI, hI, h1⟩ := Option.bind_eq_some_iff.mp (run w)
  obtain ⟨s₀, hf, h2⟩ := Option.bind_eq_some_iff.mp h1
  have hi := impG_of hI
  have e0 : fencedOpening treeTable p w N = some s₀ := by
    unfold fencedOpening
    rw [show (start (opening p)).1 = (startT (start (opening p))).abs from rfl, hi]
    exact hf
  unfold behindG at h2
  cases z1 : s₀.heap.isNs mainGlobals && s₀.gens.size == 0 with
  | false => rw [z1] at h2; cases h2
  | true =>
    rw [z1] at h2
    obtain ⟨t, ht, h3⟩ := Option.bind_eq_some_iff.mp h2
    obtain ⟨sT, hT, hl⟩ := Option.map_eq_some_iff.mp h3
    obtain ⟨⟨l1, l2⟩, l3, l4⟩ : (_ ∧ _) ∧ _ ∧ _ := by simpa only [lookG, Prod.mk.injEq] using hl
    have r := topG_of hT
    have hs : (⟨t, s₀.heap.objs.size, s₀.heap.life, s₀.gens, s₀.drawn, s₀.toks, s₀.os⟩ : SharedT).abs = s₀ := by
      unfold SharedT.abs
      try dsimp only
      rw [treeOf_heap ht]
    rw [hs] at r
    have o1 := obsT_of (l := (K w.params).map (·.2)) (by rw [List.map_map]; exact l3)
    have o2 := obsT_of (l := ts.map fun _ => tabObj #[]) (by rw [List.map_map]; exact l4)
    rw [List.map_map] at o1 o2
    have t : topFrom treeTable p w N s₀ = some sT.abs := by
      unfold topFrom
      rw [z1]
      try dsimp only
      rw [r]
      show (match staticsOk (importedModules p.main.body) s₀.heap sT.abs.heap && namesBound p sT.abs.heap && gensDone sT.abs && laidKept s₀.heap sT.abs.heap with | true => _ | false => _) = _
      rw [l1]
    unfold openEnds
    rw [e0]
    show (topFrom treeTable p w N _).map _ = _
    rw [t]
    exact congrArg some (Prod.ext l2 (Prod.ext o1 o2))
/-- the library's quick twins of what the run is made of -/
noncomputable def modsQ : List Str := PySem.W.Fast.tw5923862056798008813 P9.main.body
noncomputable def runQ {β : Type} (w : World) (N : Nat) (look : Heap → SharedT → β) : Option β :=
  allG PySem.W.Fast.tw3805553451399329143 (fun p => PySem.W.Fast.tw10156331382660048174 (PySem.W.Fast.tw11892475500146522536 PySem.W.Fast.tw14364793385576792824) p w) PySem.W.Fast.tw1435165496053646825 PySem.W.Fast.tw14289696077712309145
    PySem.W.Fast.tw6613529449190102663 PySem.W.Fast.tw8920871248978507458 P9 N look
theorem modsQ_eq : modsQ = importedModules P9.main.body := by unfold modsQ; rw [← PySem.W.Fast.te5923862056798008813]
theorem runQ_eq {β : Type} (w : World) (N : Nat) (look : Heap → SharedT → β) : runQ w N look = allG Thread.atExitBegin (fun p => stepT (denote treeTable) p w) start fenceModules? stepOk Heap.nsMap P9 N look := by
  unfold runQ
  rw [← PySem.W.Fast.te3805553451399329143, ← PySem.W.Fast.te10156331382660048174, ← PySem.W.Fast.te11892475500146522536, ← PySem.W.Fast.te14364793385576792824, ← PySem.W.Fast.te1435165496053646825, ← PySem.W.Fast.te14289696077712309145,
    ← PySem.W.Fast.te6613529449190102663, ← PySem.W.Fast.te8920871248978507458]
noncomputable def heapAs : List Addr := [2, 3, 38, 40, 41, 43, 44, 45, 47, 48, 50, 51, 52, 54, 55, 57, 58, 59, 61, 62, 64, 65, 66, 68, 69, 71, 72, 73, 75, 76, 78, 79, 80, 82, 83, 85, 86, 87, 89, 90, 92, 93, 94, 96, 97, 99, 100, 101, 103, 104, 106, 107, 108, 110, 111, 113, 114, 122, 123, 126, 127, 128, 130, 131, 133, 134, 135, 136, 137, 138, 139, 145, 146, 147, 149, 150, 152, 153, 154, 156, 157, 159, 160, 161, 168, 169, 170, 171, 181, 183, 184, 186, 187, 188, 189, 190, 191, 192, 193, 196, 203, 204, 205, 208, 215, 216, 217, 220, 227, 228, 230, 231, 233, 234, 235, 237, 238, 240, 241, 242, 244, 245, 247, 248, 249, 251, 252, 254, 255, 256, 257, 259, 260, 262, 263, 264, 266, 267, 269, 270, 271, 273, 274, 276, 277, 278, 280, 281, 283, 284, 285, 287, 288, 290, 291, 292, 294, 295, 297, 298, 299, 301, 302, 304, 305, 306, 308, 309, 311, 312, 313, 315, 316, 318, 319, 320, 322, 323, 325, 326, 327, 329, 330, 332, 333, 334, 336, 337, 339, 340, 341, 343, 344, 346, 347, 348, 349, 351, 352, 354, 355, 356, 357, 359, 360, 362, 363, 364, 365, 367, 368, 370, 371, 372, 373, 375, 376, 378, 379, 380, 382, 383, 385, 386, 387, 389, 390, 392, 393, 394, 395, 397, 398, 400, 401, 402, 403, 405, 406, 408, 409, 410, 412, 413, 415, 416, 417, 419, 420, 422, 423, 424, 426, 427, 429, 430, 431, 433, 434, 436, 437, 438, 440, 441, 443, 444, 445, 446, 447, 450, 457, 458, 460, 461, 463, 464, 465, 467, 468, 470, 471, 472, 474, 475, 477, 478, 479, 481, 482, 484, 485, 486, 488, 489, 491, 492, 493, 495, 496, 498, 499, 500, 501, 503, 504, 506, 507, 508, 509, 511, 512, 514, 515, 516, 517, 519, 520, 522, 523, 524, 525, 527, 528, 530, 531, 532, 533, 535, 536, 538, 539, 540, 542, 543, 545, 546, 547, 549, 550, 552, 553, 554, 556, 557, 559, 560, 561, 563, 564, 566, 567, 568, 570, 571, 573, 574, 575, 577, 578, 580, 581, 582, 584, 585, 587, 588, 589, 591, 592, 594, 595, 596, 598, 599, 601, 602, 603, 605, 606, 608, 609, 610, 612, 613, 615, 616, 617, 618, 620, 621, 623, 624, 625, 626, 628, 629, 631, 632, 633, 634, 636, 637, 639, 640, 641, 642, 644, 645, 647, 648, 649, 650, 652, 653, 655, 656, 657, 659, 660, 662, 663, 664, 666, 667, 669, 670, 671, 673, 674, 676, 677, 678, 680, 681, 683, 684, 685, 687, 688, 690, 691, 692, 693, 694, 704, 705, 707, 708, 710, 711, 712, 714, 715, 717, 718, 719, 720, 722, 723, 725, 726, 727, 728, 730, 731, 733, 734, 735, 737, 738, 740, 741, 742, 744, 745, 747, 748, 749, 751, 752, 754, 755, 756, 758, 759, 761, 762, 763, 764, 766, 767, 769, 770, 771, 773, 774, 776, 777, 778, 780, 781, 783, 784, 785, 786, 787, 788, 789, 792, 793, 795, 796, 798, 799, 800, 802, 803, 805, 806, 807, 808, 810, 811, 813, 814, 815, 817, 818, 820, 821, 822, 825, 826, 827, 830, 831, 832, 834, 835, 837, 838, 839, 841, 842, 844, 845, 846, 848, 849, 851, 852, 853, 856, 857, 858, 860, 861, 863, 864, 865, 867, 868, 870, 871]
noncomputable abbrev hk : Hook := kmHook Mine.hd.heap_1 heapAs (fun _ => by kernel_rfl) [801]
noncomputable abbrev Xl : Shared → Bool := fun s => xlAt view [] s && recOk PySem.Challenge.rw_oy0378_01.row.records s
theorem said : PySem.Challenge.rw_oy0378_01.wellSaid = true := (congrFun PySem.W.Fast.te9446332074065402090 _).trans (by
  iterate 33 (refine look_both ?_ (by decide +kernel))
  show PySem.W.Fast.tw12908688711261696721 _ = true
  unfold PySem.W.Fast.tw12908688711261696721
  iterate 5 (refine look_both ?_ (by decide +kernel))
  decide +kernel)
theorem run_looks (w : World) : runQ w 12000 (fun h₀ s => (staticsOk modsQ h₀ s.abs.heap && namesBound P9 s.abs.heap && gensDone s.abs && laidKept h₀ s.abs.heap, PySem.W.Fast.tw4187177175401517315 view loose modsQ Xl true s.abs))
    = some (true, openGood view loose) := by kernel_rfl
theorem run_objs (w : World) : runQ w 12000 (fun _ s => (obsT heapAs s, obsT [801] s))
    = some ((true, (Mine.hd.heap_1 w.params).map fun p => some p.2), (true, [801].map fun _ => some (tabObj #[]))) := by kernel_rfl
theorem left : LeftO P9 view loose Xl hk.obs hk.val 12000 true := left_all fun w => by
  have h1 := run_looks w
  have h2 := run_objs w
  rw [runQ_eq, modsQ_eq, ← PySem.W.Fast.te4187177175401517315] at h1
  rw [runQ_eq] at h2
  exact allG_two h1 h2
end
end
section
open PySem PySem.W PyProof.Rows PySem.Calls
noncomputable abbrev loose9 : List Str := looseW view loose

/-! names -/
theorem ofString_inj {a b : String} (h : Str.ofString a = Str.ofString b) : a = b := by
  rw [Str.ofString_eq_toList, Str.ofString_eq_toList] at h
  have h1 : (a.toList.map Char.toNat) = (b.toList.map Char.toNat) := by
    have := congrArg Str.cps h
    simpa using this
  have inj : ∀ l l' : List Char, l.map Char.toNat = l'.map Char.toNat → l = l' := by
    intro l
    induction l with
    | nil => intro l' h; cases l' with | nil => rfl | cons _ _ => cases h
    | cons x r ih =>
      intro l' h
      cases l' with
      | nil => cases h
      | cons y r' =>
        simp only [List.map_cons, List.cons.injEq] at h
        rw [Char.toNat_inj.mp h.1, ih r' h.2]
  exact String.toList_inj.mp (inj _ _ h1)
theorem ne_lit {a b : String} (h : a ≠ b) : Str.ofString a ≠ Str.ofString b := fun e => h (ofString_inj e)
theorem ne_q {a b : String} (h : decide (a = b) = false) : Str.ofString a ≠ Str.ofString b := ne_lit (of_decide_eq_false h)
noncomputable def upd (m : Str → Option Value) (x : Str) (v : Value) : Str → Option Value := fun y => if y = x then some v else m y
theorem upd_here {m : Str → Option Value} {x : Str} {v : Value} : upd m x v x = some v := if_pos rfl
theorem upd_there {m : Str → Option Value} {x y : Str} {v v' : Value} (h : y ≠ x) (k : m y = some v') : upd m x v y = some v' := (if_neg h).trans k
theorem lk_here {α : Type} {x : Str} {k : α} {r : List (Str × α)} : ((x, k) :: r).lookup x = some k := by
  rw [List.lookup_cons, show (x == x) = true from beq_self_eq_true x]
theorem lk_there {α : Type} {x y : Str} {k k' : α} {r : List (Str × α)} (h : y ≠ x) (e : r.lookup y = some k') : ((x, k) :: r).lookup y = some k' := by
  rw [List.lookup_cons, show (y == x) = false from beq_eq_false_iff_ne.mpr h]; exact e
/-- the locals that a call binds -/
noncomputable def bnd (l : List (Str × Value)) : Str → Option Value := fun y => l.lookup y
theorem bnd_here {x : Str} {v : Value} {r : List (Str × Value)} : bnd ((x, v) :: r) x = some v := lk_here
theorem bnd_there {x y : Str} {v v' : Value} {r : List (Str × Value)} (h : y ≠ x) (e : bnd r y = some v') : bnd ((x, v) :: r) y = some v' := lk_there h e

/-! the room -/
structure Rm (A : Around) (d u : Nat) : Prop where
  hand : A.handled = none
  depth : A.depth + d < recursionLimit
  units : A.units + u < cLine
theorem Rm.deeper {A : Around} {d u : Nat} {env : Env} (R : Rm A (d + 1) (u + 3)) : Rm (A.deeper env) d u :=
  ⟨R.hand, by have := R.depth; show A.depth + 1 + d < _; (first | lia | omega), by have := R.units; show A.units + 3 + u < _; (first | lia | omega)⟩
theorem Rm.in1 {A : Around} {d u : Nat} (R : Rm A d (u + 1)) : Rm A.in1 d u :=
  ⟨R.hand, R.depth, by have := R.units; show A.units + 1 + u < _; (first | lia | omega)⟩
theorem Rm.le {A : Around} {d u d' u' : Nat} (R : Rm A d u) (hd : d' ≤ d) (hu : u' ≤ u) : Rm A d' u' :=
  ⟨R.hand, by have := R.depth; (first | lia | omega), by have := R.units; (first | lia | omega)⟩
theorem Rm.room {A : Around} {d u : Nat} (R : Rm A d u) : A.depth < recursionLimit := by have := R.depth; (first | lia | omega)
theorem Rm.line {A : Around} {d u : Nat} (R : Rm A d u) : A.units < cLine := by have := R.units; (first | lia | omega)

/-! the world that stands -/
structure Wd (w : World) (mg mb : Str → Option Value) (g : Heap) : Prop where
  X : (Mine.hd.heap_1 w.params).In g
  T : TopRead view loose9 mg mb g
  B : ∃ bm ob, BMod g mainGlobals mg bm ob
theorem Wd.keeps {w : World} {mg mb : Str → Option Value} {g h : Heap} (W : Wd w mg mb g) (k : g.StaysIn h) : Wd w mg mb h :=
  ⟨W.X.keeps k, W.T.keeps k, let ⟨bm, ob, B⟩ := W.B; ⟨bm, ob, B.keeps k⟩⟩
theorem Wd.lim {w : World} {mg mb : Str → Option Value} {g : Heap} (W : Wd w mg mb g) : g.NoLimit := W.T.nolimit

/-- what a step leaves alone -/
structure Stp (k : Bool) (s s' : Shared) : Prop where
  os : s'.os = s.os
  gens : AllBare s.gens → AllBare s'.gens
  calm : k = true → s'.gens = s.gens ∧ s'.drawn = s.drawn
theorem Stp.refl (k : Bool) (s : Shared) : Stp k s s := ⟨rfl, id, fun _ => ⟨rfl, rfl⟩⟩
theorem Stp.trans {k : Bool} {s₁ s₂ s₃ : Shared} (a : Stp k s₁ s₂) (b : Stp k s₂ s₃) : Stp k s₁ s₃ :=
  ⟨b.os.trans a.os, fun h => b.gens (a.gens h), fun h => ⟨(b.calm h).1.trans (a.calm h).1, (b.calm h).2.trans (a.calm h).2⟩⟩
theorem Stp.any {k : Bool} {s s' : Shared} (a : Stp true s s') : Stp k s s' := ⟨a.os, a.gens, fun _ => a.calm rfl⟩
theorem Stp.of {k : Bool} {s s' : Shared} (h1 : s'.os = s.os) (h2 : s'.gens = s.gens) (h3 : s'.drawn = s.drawn) : Stp k s s' := ⟨h1, fun h => by rw [h2]; exact h, fun _ => ⟨h2, h3⟩⟩
theorem Stp.heap {k : Bool} {s : Shared} {h : Heap} {t : Nat} : Stp k s ⟨h, s.gens, s.drawn, t, s.os⟩ := .of rfl rfl rfl

/-- a frame at work: what stood (g) stands, the frame L has the locals m, the objects in news stand as written -/
structure Cx (k : Bool) (s₀ : Shared) (g : Heap) (L : Addr) (s : Shared) (m : Str → Option Value) (news : List (Addr × Obj)) : Prop where
  st : Stp k s₀ s
  F : Fr g L s.heap m
  N : News g L s.heap news
  nd : (news.map (·.1)).Nodup

section
variable {k : Bool} {s₀ s s' : Shared} {g : Heap} {L : Addr} {m m' : Str → Option Value} {news news' : List (Addr × Obj)}
theorem Cx.at (C : Cx k s₀ g L s m news) {h : Heap} {t : Nat} (F : Fr g L h m') (N : News g L h news') (nd : (news'.map (·.1)).Nodup) : Cx k s₀ g L ⟨h, s.gens, s.drawn, t, s.os⟩ m' news' :=
  ⟨C.st.trans .heap, F, N, nd⟩
theorem Cx.toks (C : Cx k s₀ g L s m news) {t : Nat} : Cx k s₀ g L ⟨s.heap, s.gens, s.drawn, t, s.os⟩ m news :=
  ⟨C.st.trans .heap, C.F, C.N, C.nd⟩
theorem Cx.keep (C : Cx k s₀ g L s m news) : g.StaysIn s.heap := C.F.keep
theorem Cx.get (C : Cx k s₀ g L s m news) {p : Addr × Obj} (h : p ∈ news) : s.heap.get? p.1 = some p.2 := (C.N p h).1
theorem Cx.lt (C : Cx k s₀ g L s m news) : ∀ p ∈ news, p.1 < s.heap.objs.size := fun p hp => Heap.lt_size (C.N p hp).1
theorem Cx.nd_cons (C : Cx k s₀ g L s m news) {x : Addr} {o : Obj} (h : ∀ p ∈ news, p.1 < x) : (((x, o) :: news).map (·.1)).Nodup := by
  rw [List.map_cons, List.nodup_cons]
  refine ⟨fun hx => ?_, C.nd⟩
  obtain ⟨p, hp, e⟩ := List.mem_map.mp hx
  exact absurd (h p hp) (by rw [show p.1 = x from e]; exact Nat.lt_irrefl _)
theorem Cx.drop (C : Cx k s₀ g L s m news) (h : news'.Sublist news) : Cx k s₀ g L s m news' :=
  ⟨C.st, C.F, fun p hp => C.N p (h.subset hp), (h.map _).nodup C.nd⟩
end

/-! locals -/
section
variable {M : Model} {A : Around} {E : Value → Shared → Prop} {c : Bool} {s₀ s : Shared} {g : Heap} {L a : Addr} {m mg mb : Str → Option Value} {cn : Str} {cs : Scope} {ccd : Value} {x : Str} {pos : Pos} {v : Value}
  {news : List (Addr × Obj)} {w : World}
theorem r_ld {Q : Value → Shared → Prop} (C : Cx c s₀ g L s m news) (hx : cs.names.lookup x = some .local) (hv : m x = some v) (h : Q v s) (hk : cs.kind = .function := by rfl) (hd : (x == ("__debug__" : Str)) = false := by decide) :
    wpAny M A (eval (.Name x pos) (envOf cn cs L a ccd)) Q E s := nameX_L (cl := []) C.F hv h hk hx hd
theorem r_st {Q : Unit → Shared → Prop} (C : Cx c s₀ g L s m news) (hx : cs.names.lookup x = some .local) (h : ∀ s', Cx c s₀ g L s' (upd m x v) news → Q () s') (hk : cs.kind = .function := by rfl) :
    wpAny M A (storeName (envOf cn cs L a ccd) x v) Q E s := storeX_L (cl := []) C.F C.N (fun h' F' N' => h _ (C.at F' N' C.nd)) hk hx
theorem r_gl {Q : Value → Shared → Prop} (C : Cx c s₀ g L s m news) (W : Wd w mg mb g) (hx : cs.names.lookup x = some .globalImplicit) (e : nsIn (Mine.hd.heap_1 w.params) mainGlobals x = some (some v)) (h : Q v s)
    (hk : cs.kind = .function := by rfl) (hd : (x == ("__debug__" : Str)) = false := by decide) : wpAny M A (eval (.Name x pos) (envOf cn cs L a ccd)) Q E s :=
  nameX_K (cl := []) C.F W.X (W.T) e h hk hx hd
theorem r_bi {Q : Value → Shared → Prop} (C : Cx c s₀ g L s m news) (W : Wd w mg mb g) (hx : cs.names.lookup x = some .globalImplicit) (e : nsIn (Mine.hd.heap_1 w.params) mainGlobals x = some none ∧ bootBuiltins x = some v ∧ x ≠ "__name__") (h : Q v s)
    (hk : cs.kind = .function := by rfl) (hd : (x == ("__debug__" : Str)) = false := by decide) : wpAny M A (eval (.Name x pos) (envOf cn cs L a ccd)) Q E s :=
  nameX_B (cl := []) C.F W.X (W.T) e.1 e.2.1 e.2.2 h hk hx hd
theorem r_int {i : Int} {k : Nat} {env : Env} {Q : Value → Shared → Prop} (C : Cx c s₀ g L s m news) (h : ∀ s' t, Cx c s₀ g L s' m news → Q (.int i t) s') : wpAny M A (eval (.Constant (.int i) k pos) env) Q E s :=
  wpAny_Constant_int (h _ _ C.toks)
theorem r_str {y : Str} {k : Nat} {env : Env} {Q : Value → Shared → Prop} (C : Cx c s₀ g L s m news) (h : ∀ s' t, Cx c s₀ g L s' m news → Q (.str y t) s') : wpAny M A (eval (.Constant (.str y) k pos) env) Q E s :=
  Constant_str (h _ _ C.toks)
theorem r_none {k : Nat} {env : Env} {Q : Value → Shared → Prop} (h : Q .none s) : wpAny M A (eval (.Constant .none k pos) env) Q E s := fun _ _ _ => h
theorem r_bool {b : Bool} {k : Nat} {env : Env} {Q : Value → Shared → Prop} (h : Q (.bool b) s) : wpAny M A (eval (.Constant (.bool b) k pos) env) Q E s := fun _ _ _ => h
end

/-! entering a def -/
section
variable {w : World} {mg mb : Str → Option Value} {A : Around} {s : Shared} {R : Result → Shared → Prop}
  {name qual : Str} {params : Arguments} {body : List Stmt} {scope : Scope} {dV kV doc pm cdv ct oc : Value} {an od : Option Addr} {osl : Array (Option Value)} {f : Addr} {args : Args} {binds : List (Str × Value)}
theorem enter {k : Bool} {rb : List (Str × Value)} (W : Wd w mg mb s.heap) (hroom : A.depth < recursionLimit)
    (ho : (Mine.hd.heap_1 w.params).lookup f = some ⟨oc, od, .func (fnOf name qual params body scope dV kV doc pm an cdv ct), osl⟩) (hcd : codeIn (Mine.hd.heap_1 w.params) cdv qual = true)
    (hbind : BindsTo s (fnOf name qual params body scope dV kV doc pm an cdv ct) args binds) (hloc : ∀ y ∈ binds, scope.names.lookup y.1 = some .local)
    (hr : binds.reverse = rb)
    (h : ∀ L s', Cx k s s.heap L s' (bnd rb) [] → L = s.heap.objs.size → 
      wpAny (model P9 w) (A.deeper (envOf qual scope L f cdv)) (execs body (envOf qual scope L f cdv)) (fun fl s'' => R (.ok (.ret (match fl with | .ret v => v | _ => .none))) s'') (fun _ _ => False) s')
    (hco : scope.isCoroutine = false) (hgen : scope.isGenerator = false) (hk : scope.kind = .function) (hcell : ∀ x ∈ scope.names, x.2 ≠ .cell) : codeAny (model P9 w) A (.call (.ref f) args) R s := by
  subst hr
  refine codeAny_call_def (fd := fnOf name qual params body scope dV kV doc pm an cdv ct) (body := body) (binds := binds) hroom (W.X _ _ ho) rfl W.lim (codeRec_of W.X hcd) rfl hbind hcell hloc (fun h₁ hns hk₁ => ?_) hco hgen hk
  refine wpAny_mono (h s.heap.objs.size _ ⟨.heap, ⟨hns, hk₁, Nat.le_refl _⟩, News.nil, List.Pairwise.nil⟩ rfl) (fun _ _ z => z) fun _ _ z => z.elim
/-- a def that changes objects of the caller's (D): they are no part of what stands -/
theorem enterD {k : Bool} {rb : List (Str × Value)} {D : List (Addr × Obj)} {g : Heap} (W : Wd w mg mb g) (hg : g.StaysIn s.heap) (hsz : g.objs.size ≤ s.heap.objs.size) (hD : ∀ p ∈ D, s.heap.get? p.1 = some p.2 ∧ g.get? p.1 = none) (hnd : (D.map (·.1)).Nodup) (hroom : A.depth < recursionLimit)
    (ho : (Mine.hd.heap_1 w.params).lookup f = some ⟨oc, od, .func (fnOf name qual params body scope dV kV doc pm an cdv ct), osl⟩) (hcd : codeIn (Mine.hd.heap_1 w.params) cdv qual = true)
    (hbind : BindsTo s (fnOf name qual params body scope dV kV doc pm an cdv ct) args binds) (hloc : ∀ y ∈ binds, scope.names.lookup y.1 = some .local)
    (hr : binds.reverse = rb)
    (h : ∀ L s', Cx k s g L s' (bnd rb) D → L = s.heap.objs.size → 
      wpAny (model P9 w) (A.deeper (envOf qual scope L f cdv)) (execs body (envOf qual scope L f cdv)) (fun fl s'' => R (.ok (.ret (match fl with | .ret v => v | _ => .none))) s'') (fun _ _ => False) s')
    (hco : scope.isCoroutine = false) (hgen : scope.isGenerator = false) (hk : scope.kind = .function) (hcell : ∀ x ∈ scope.names, x.2 ≠ .cell) : codeAny (model P9 w) A (.call (.ref f) args) R s := by
  subst hr
  have W' := W.keeps hg
  refine codeAny_call_def (fd := fnOf name qual params body scope dV kV doc pm an cdv ct) (body := body) (binds := binds) hroom (W'.X _ _ ho) rfl W'.lim (codeRec_of W'.X hcd) rfl hbind hcell hloc (fun h₁ hns hk₁ => ?_) hco hgen hk
  refine wpAny_mono (h s.heap.objs.size _ ⟨.heap, ⟨hns, fun b o e => hk₁ b o (hg b o e), hsz⟩, fun p hp => ⟨hk₁ _ _ (hD p hp).1, Nat.ne_of_lt (Heap.lt_size (hD p hp).1), (hD p hp).2⟩, hnd⟩ rfl) (fun _ _ z => z) fun _ _ z => z.elim
end

/-- back from a call: what stood at the call (all but D) stands -/
theorem Cx.back {k : Bool} {s₀ s s' : Shared} {g g' : Heap} {L : Addr} {m : Str → Option Value} {R D D' : List (Addr × Obj)} (C : Cx k s₀ g L s m (D ++ R)) (hg : ∀ b o, s.heap.get? b = some o → b ∉ D.map (·.1) → g'.get? b = some o)
    (hs : g'.StaysIn s'.heap) (st : Stp k s s') (hD : ∀ p ∈ D', s'.heap.get? p.1 = some p.2) (hn : D'.map (·.1) = D.map (·.1)) : Cx k s₀ g L s' m (D' ++ R) := by
  have inD : ∀ b, b ∈ D.map (·.1) → b ≠ L ∧ g.get? b = none := fun b hb => by
    obtain ⟨p, hp, rfl⟩ := List.mem_map.mp hb
    exact (C.N p (List.mem_append_left _ hp)).2
  obtain ⟨oL, es, ep, hL, r⟩ := C.F.ns
  have nd := C.nd
  rw [List.map_append] at nd
  refine ⟨C.st.trans st, ⟨⟨oL, es, ep, hs _ _ (hg _ _ hL fun q => (inD _ q).1 rfl), r⟩, fun b o e => hs _ _ (hg _ _ (C.F.keep b o e) fun q => ?_), C.F.above⟩, fun p hp => ?_, by rw [List.map_append, hn]; exact nd⟩
  · rw [(inD b q).2] at e; cases e
  · rcases List.mem_append.mp hp with q | q
    · have := inD p.1 (hn ▸ List.mem_map_of_mem q)
      exact ⟨hD p q, this.1, this.2⟩
    · have P := C.N p (List.mem_append_right _ q)
      refine ⟨hs _ _ (hg _ _ P.1 fun z => ?_), P.2⟩
      exact (List.nodup_append.mp nd).2.2 p.1 z p.1 (List.mem_map_of_mem q) rfl
/-- back from a call that keeps all -/
theorem Cx.back0 {k : Bool} {s₀ s s' : Shared} {g : Heap} {L : Addr} {m : Str → Option Value} {R : List (Addr × Obj)} (C : Cx k s₀ g L s m R) (hs : s.heap.StaysIn s'.heap) (st : Stp k s s') : Cx k s₀ g L s' m R :=
  Cx.back (D := []) (D' := []) (g' := s.heap) C (fun _ _ e _ => e) hs st (fun _ h => nomatch h) rfl
/-- a fresh object onto the ledger -/
theorem Cx.more {k : Bool} {s₀ s s' : Shared} {g : Heap} {L x : Addr} {o : Obj} {m : Str → Option Value} {R : List (Addr × Obj)} (C : Cx k s₀ g L s m R) (C' : Cx k s₀ g L s' m R) (hx : s.heap.get? x = none) (ho : s'.heap.get? x = some o) : Cx k s₀ g L s' m ((x, o) :: R) := by
  have hne : x ≠ L := fun q => by
    obtain ⟨oL, es, ep, hL, r⟩ := C.F.ns
    rw [q, hL] at hx; cases hx
  refine ⟨C'.st, C'.F, fun p hp => ?_, ?_⟩
  · rcases List.mem_cons.mp hp with rfl | q
    · refine ⟨ho, hne, ?_⟩
      cases e : g.get? x with
      | none => rfl
      | some o' => rw [C.F.keep _ _ e] at hx; cases hx
    · exact C'.N p q
  · rw [List.map_cons, List.nodup_cons]
    refine ⟨fun q => ?_, C.nd⟩
    obtain ⟨p, hp, e⟩ := List.mem_map.mp q
    have := (C.N p hp).1
    rw [show p.1 = x from e, hx] at this; cases this

/-- an object of the ledger changed -/
inductive Up (d : Addr) (o o' : Obj) : List (Addr × Obj) → List (Addr × Obj) → Prop where
  | z {r : List (Addr × Obj)} : Up d o o' ((d, o) :: r) ((d, o') :: r)
  | s {p : Addr × Obj} {r r' : List (Addr × Obj)} (h : Up d o o' r r') : Up d o o' (p :: r) (p :: r')
theorem Up.split {d : Addr} {o o' : Obj} {r r' : List (Addr × Obj)} (U : Up d o o' r r') : ∃ pre post, r = pre ++ (d, o) :: post ∧ r' = pre ++ (d, o') :: post := by
  induction U with
  | z => exact ⟨[], _, rfl, rfl⟩
  | s _ ih => obtain ⟨pre, post, rfl, rfl⟩ := ih; exact ⟨_ :: pre, post, rfl, rfl⟩
theorem Up.mem {d : Addr} {o o' : Obj} {r r' : List (Addr × Obj)} (U : Up d o o' r r') : (d, o) ∈ r := by
  obtain ⟨pre, post, rfl, _⟩ := U.split; simp
theorem Cx.up {k : Bool} {s₀ s : Shared} {g h' : Heap} {L d : Addr} {o o' : Obj} {m : Str → Option Value} {r r' : List (Addr × Obj)} {t : Nat} (C : Cx k s₀ g L s m r) (U : Up d o o' r r')
    (hs : Heap.SameBut d s.heap h') (ho : h'.get? d = some o') : Cx k s₀ g L ⟨h', s.gens, s.drawn, t, s.os⟩ m r' := by
  obtain ⟨pre, post, rfl, rfl⟩ := U.split
  have D := C.N (d, o) (by simp)
  have nd := C.nd
  simp only [List.map_append, List.map_cons, List.nodup_append, List.nodup_cons] at nd
  obtain ⟨oL, es, ep, hL, q⟩ := C.F.ns
  refine ⟨C.st.trans .heap, ⟨⟨oL, es, ep, (hs.2 _ (Ne.symm D.2.1)).trans hL, q⟩, fun b x e => (hs.2 b fun z => ?_).trans (C.F.keep b x e), C.F.above⟩, fun p hp => ?_, ?_⟩
  · rw [z, D.2.2] at e; cases e
  · rcases List.mem_append.mp hp with q | q
    · have P := C.N p (List.mem_append_left _ q)
      refine ⟨(hs.2 _ fun z => ?_).trans P.1, P.2⟩
      exact nd.2.2 p.1 (List.mem_map_of_mem q) d (List.mem_cons_self ..) z
    · rcases List.mem_cons.mp q with rfl | q
      · exact ⟨ho, D.2⟩
      · have P := C.N p (List.mem_append_right _ (.tail _ q))
        refine ⟨(hs.2 _ fun z => ?_).trans P.1, P.2⟩
        exact nd.2.1.1 (z ▸ List.mem_map_of_mem q)
  · simp only [List.map_append, List.map_cons, List.nodup_append, List.nodup_cons]; exact nd

/-! what comes behind a statement, kept short -/
section
variable {M : Model} {A : Around} {E : Value → Shared → Prop} {s : Shared} {env : Env}
abbrev ConsQ (M : Model) (A : Around) (env : Env) (rest : List Stmt) (Q : Flow → Shared → Prop) (E : Value → Shared → Prop) : Flow → Shared → Prop :=
  fun f s' => match f with | .next => wpAny M A (execs rest env) Q E s' | f => Q f s'
theorem x_cons {st : Stmt} {rest : List Stmt} {Q : Flow → Shared → Prop} (h : wpAny M A (exec st env) (ConsQ M A env rest Q E) E s) : wpAny M A (execs (st :: rest) env) Q E s :=
  wpAny_execs_cons (wpAny_mono h (fun f s' z => by cases f <;> exact z) fun _ _ z => z)
theorem cons_ret {rest : List Stmt} {Q : Flow → Shared → Prop} {v : Value} (h : Q (.ret v) s) : ConsQ M A env rest Q E (.ret v) s := h
theorem cons_brk {rest : List Stmt} {Q : Flow → Shared → Prop} (h : Q .brk s) : ConsQ M A env rest Q E .brk s := h
theorem cons_cont {rest : List Stmt} {Q : Flow → Shared → Prop} (h : Q .cont s) : ConsQ M A env rest Q E .cont s := h
theorem x_one {st : Stmt} {Q : Flow → Shared → Prop} (h : wpAny M A (exec st env) Q E s) : wpAny M A (execs [st] env) Q E s :=
  wpAny_execs_cons (wpAny_mono h (fun f s' z => by cases f <;> first | exact wpAny_execs_nil z | exact z) fun _ _ z => z)
abbrev IfQ (M : Model) (A : Around) (env : Env) (body orelse : List Stmt) (Q : Flow → Shared → Prop) (E : Value → Shared → Prop) : Bool → Shared → Prop :=
  fun b s' => if b = true then wpAny M A (execs body env) Q E s' else wpAny M A (execs orelse env) Q E s'
theorem x_if {test : Expr} {body orelse : List Stmt} {pos : Pos} {Q : Flow → Shared → Prop} (h : wpAny M A (isTrue test env (eval test env)) (IfQ M A env body orelse Q E) E s) : wpAny M A (exec (.If test body orelse pos) env) Q E s :=
  wpAny_If h
abbrev AttrQ (M : Model) (A : Around) (attr : Str) (Q : Value → Shared → Prop) (E : Value → Shared → Prop) : Value → Shared → Prop := fun o s' => wpAny M A (getAttr o attr true) Q E s'
theorem x_attr {x attr : Str} {xp pos : Pos} {Q : Value → Shared → Prop} (h : wpAny M A (eval (.Name x xp) env) (AttrQ M A attr Q E) E s) : wpAny M A (eval (.Attribute (.Name x xp) attr pos) env) Q E s := Attribute_Name_ h
abbrev CalQ (M : Model) (A : Around) (env : Env) (pos : Pos) (args : List Expr) (Q : Value → Shared → Prop) (E : Value → Shared → Prop) : Value → Shared → Prop := fun f s' => wpAny M A (callWith pos f [] (backTo pos (starEach args env)) []) Q E s'
theorem x_ncall {x : Str} {xp pos : Pos} {args : List Expr} {Q : Value → Shared → Prop} (h : wpAny M A (eval (.Name x xp) env) (CalQ M A env pos args Q E) E s) : wpAny M A (eval (.Call (.Name x xp) args [] pos) env) Q E s := Call_ h
abbrev McQ2 (M : Model) (A : Around) (env : Env) (pos : Pos) (args : List Expr) (Q : Value → Shared → Prop) (E : Value → Shared → Prop) : Value × List Value → Shared → Prop := fun fx s' => wpAny M A (callWith pos fx.1 fx.2 (backTo pos (starEach args env)) []) Q E s'
abbrev McQ (M : Model) (A : Around) (env : Env) (pos : Pos) (name : Str) (pl : Sem Bool) (args : List Expr) (Q : Value → Shared → Prop) (E : Value → Shared → Prop) : Value → Shared → Prop := fun ov s' => wpAny M A (getMethod ov name pl) (McQ2 M A env pos args Q E) E s'
theorem x_mcall {o : Expr} {name : Str} {apos pos : Pos} {args : List Expr} {pl : Sem Bool} {Q : Value → Shared → Prop}
    (he : eval (.Call (.Attribute o name apos) args [] pos) env = (do
      let ov ← eval o env
      standAt apos.atName
      let (f, first) ← holding [ov] (getMethod ov name pl)
      callWith pos f first (backTo pos (starEach args env)) []))
    (h : wpAny M A (eval o env) (McQ M A env pos name pl args Q E) E s) : wpAny M A (eval (.Call (.Attribute o name apos) args [] pos) env) Q E s := MethodCall_ h he
abbrev BinQ2 (M : Model) (A : Around) (op : Operator) (a : Value) (Q : Value → Shared → Prop) (E : Value → Shared → Prop) : Value → Shared → Prop := fun b s' => wpAny M A (binaryOp op a b) Q E s'
abbrev BinQ (M : Model) (A : Around) (env : Env) (op : Operator) (r : Expr) (Q : Value → Shared → Prop) (E : Value → Shared → Prop) : Value → Shared → Prop := fun a s' => wpAny M A (eval r env) (BinQ2 M A op a Q E) E s'
theorem x_bin {l r : Expr} {op : Operator} {pos : Pos} {Q : Value → Shared → Prop} (h : wpAny M A (eval l env) (BinQ M A env op r Q E) E s) : wpAny M A (eval (.BinOp l op r pos) env) Q E s := wpAny_BinOp h
abbrev CmpQ2 (M : Model) (A : Around) (op : CmpOp) (a : Value) (Q : Value → Shared → Prop) (E : Value → Shared → Prop) : Value → Shared → Prop := fun b s' => wpAny M A (compareOp op a b) Q E s'
abbrev CmpQ (M : Model) (A : Around) (env : Env) (op : CmpOp) (r : Expr) (Q : Value → Shared → Prop) (E : Value → Shared → Prop) : Value → Shared → Prop := fun a s' => wpAny M A (eval r env) (CmpQ2 M A op a Q E) E s'
theorem x_cmp {l r : Expr} {op : CmpOp} {pos : Pos} {Q : Value → Shared → Prop} (hm : behindInMarks op r = false) (h : wpAny M A (eval l env) (CmpQ M A env op r Q E) E s) : wpAny M A (eval (.Compare l [op] [r] pos) env) Q E s := wpAny_Compare1 h hm
abbrev TruQ (M : Model) (A : Around) (Q : Bool → Shared → Prop) (E : Value → Shared → Prop) : Value → Shared → Prop := fun c s' => wpAny M A (truthy c) Q E s'
theorem x_tcmp {l r : Expr} {op : CmpOp} {pos : Pos} {whole : Sem Value} {Q : Bool → Shared → Prop} (hm : behindInMarks op r = false) (h : wpAny M A (eval l env) (CmpQ M A env op r (TruQ M A Q E) E) E s) : wpAny M A (isTrue (.Compare l [op] [r] pos) env whole) Q E s := wpAny_isTrue_Compare1 h hm
theorem x_plain {e : Expr} {whole : Sem Value} {Q : Bool → Shared → Prop} (he : isTrue e env whole = (do let v ← whole; standAt e.pos; holding [v] (truthy v))) (h : wpAny M A whole (TruQ M A Q E) E s) : wpAny M A (isTrue e env whole) Q E s := isTrue_plain h he
abbrev SubQ2 (M : Model) (A : Around) (value slice : Expr) (o : Value) (Q : Value → Shared → Prop) (E : Value → Shared → Prop) : Value → Shared → Prop := fun i s' => wpAny M A (subscriptTail value slice o i) Q E s'
abbrev SubQ (M : Model) (A : Around) (env : Env) (value slice : Expr) (Q : Value → Shared → Prop) (E : Value → Shared → Prop) : Value → Shared → Prop := fun o s' => wpAny M A (eval slice env) (SubQ2 M A value slice o Q E) E s'
theorem x_sub {value slice : Expr} {pos : Pos} {Q : Value → Shared → Prop} (h : wpAny M A (eval value env) (SubQ M A env value slice Q E) E s) : wpAny M A (eval (.Subscript value slice pos) env) Q E s := Subscript_ h
abbrev NextQ (Q : Flow → Shared → Prop) : Unit → Shared → Prop := fun _ => Q .next
theorem next_q {Q : Flow → Shared → Prop} {u : Unit} (h : Q .next s) : NextQ Q u s := h
abbrev AsN (M : Model) (A : Around) (env : Env) (x : Str) (Q : Flow → Shared → Prop) (E : Value → Shared → Prop) : Value → Shared → Prop := fun v s' => wpAny M A (storeName env x v) (NextQ Q) E s'
theorem x_asgN {x : Str} {p pos : Pos} {value : Expr} {Q : Flow → Shared → Prop} (hs : swapsWith value (some (.Name x p)) pos.line env = pure false) (h : wpAny M A (eval value env) (AsN M A env x Q E) E s) : wpAny M A (exec (.Assign [.Name x p] value pos) env) Q E s := wpAny_Assign_Name h hs
abbrev AsA2 (M : Model) (A : Around) (attr : Str) (v : Value) (Q : Flow → Shared → Prop) (E : Value → Shared → Prop) : Value → Shared → Prop := fun ov s' => wpAny M A (setAttr ov attr v) (NextQ Q) E s'
abbrev AsA (M : Model) (A : Around) (env : Env) (o : Expr) (attr : Str) (Q : Flow → Shared → Prop) (E : Value → Shared → Prop) : Value → Shared → Prop := fun v s' => wpAny M A (eval o env) (AsA2 M A attr v Q E) E s'
theorem x_asgA {o value : Expr} {attr : Str} {p pos : Pos} {Q : Flow → Shared → Prop} (hs : swapsWith value (some (.Attribute o attr p)) pos.line env = pure false) (h : wpAny M A (eval value env) (AsA M A env o attr Q E) E s) : wpAny M A (exec (.Assign [.Attribute o attr p] value pos) env) Q E s := plainObj_wpAny_Assign_Attribute h hs
abbrev AndQ (M : Model) (A : Around) (env : Env) (rest : List Expr) (pos : Pos) (whole : Sem Value) (Q : Bool → Shared → Prop) (E : Value → Shared → Prop) : Bool → Shared → Prop := fun c s' => if c = true then wpAny M A (isTrue (.BoolOp .And rest pos) env whole) Q E s' else Q false s'
theorem x_and {x : Expr} {rest : List Expr} {pos : Pos} {whole : Sem Value} {Q : Bool → Shared → Prop} (h : wpAny M A (isTrue x env (eval x env)) (AndQ M A env rest pos whole Q E) E s) : wpAny M A (isTrue (.BoolOp .And (x :: rest) pos) env whole) Q E s := isTrue_and h
abbrev OrQ (M : Model) (A : Around) (env : Env) (rest : List Expr) (pos : Pos) (whole : Sem Value) (Q : Bool → Shared → Prop) (E : Value → Shared → Prop) : Bool → Shared → Prop := fun c s' => if c = true then Q true s' else wpAny M A (isTrue (.BoolOp .Or rest pos) env whole) Q E s'
theorem x_or {x : Expr} {rest : List Expr} {pos : Pos} {whole : Sem Value} {Q : Bool → Shared → Prop} (h : wpAny M A (isTrue x env (eval x env)) (OrQ M A env rest pos whole Q E) E s) : wpAny M A (isTrue (.BoolOp .Or (x :: rest) pos) env whole) Q E s := isTrue_or h
section
variable {body orelse : List Stmt} {rest : List Expr} {pos : Pos} {whole : Sem Value} {Q : Flow → Shared → Prop} {Qb : Bool → Shared → Prop}
theorem if_q1 (h : wpAny M A (execs body env) Q E s) : IfQ M A env body orelse Q E true s := h
theorem if_q0 (h : wpAny M A (execs orelse env) Q E s) : IfQ M A env body orelse Q E false s := by show (if _ = true then _ else _); rw [if_neg Bool.false_ne_true]; exact h
theorem and_q1 (h : wpAny M A (isTrue (.BoolOp .And rest pos) env whole) Qb E s) : AndQ M A env rest pos whole Qb E true s := h
theorem and_q0 (h : Qb false s) : AndQ M A env rest pos whole Qb E false s := by show (if _ = true then _ else _); rw [if_neg Bool.false_ne_true]; exact h
theorem or_q1 (h : Qb true s) : OrQ M A env rest pos whole Qb E true s := h
theorem or_q0 (h : wpAny M A (isTrue (.BoolOp .Or rest pos) env whole) Qb E s) : OrQ M A env rest pos whole Qb E false s := by show (if _ = true then _ else _); rw [if_neg Bool.false_ne_true]; exact h
end
/-- a wish under a name -/
structure Opens {α : Type} (Q Q' : α → Shared → Prop) : Prop where
  op : ∀ v s, Q v s → Q' v s
theorem hideQ {α : Type} {t : Sem α} {Q : α → Shared → Prop} (h : ∀ Q' : α → Shared → Prop, Opens Q Q' → wpAny M A t Q' E s) : wpAny M A t Q E s := h Q ⟨fun _ _ z => z⟩
end
end
section
open PySem PySem.W PyProof.Rows PySem.Calls
/-! the signs of the law's texts -/
abbrev Tx := List Nat
noncomputable def S (l : Tx) : Str := ⟨l.toArray⟩
noncomputable def alpha : List Nat := [97, 98, 32, 35, 92, 34, 39]
noncomputable def Good (l : Tx) : Prop := ∀ c ∈ l, c ∈ alpha
noncomputable def safe (c : Nat) : Bool := c == 97 || c == 98
noncomputable def allSafe (l : Tx) : Bool := l.all safe

noncomputable def rxCode : Array Nat := #[14, 17, 4, 1, 1, 21, 9, 0, 604043296, 1, 0, 0, 0, 0, 0, 8, 4, 0, 13, 14, 21, 9, 0, 604043296, 1, 0, 0, 0, 0, 0, 8, 4, 0, 1]

theorem inSet_at (c : Nat) (h : c ∈ alpha) (seen : Sre.Seen) : ∃ seen', Sre.inSet rxCode c 34 5 true seen = .ok (!safe c, seen') := by
  simp only [alpha, List.mem_cons, List.not_mem_nil, or_false] at h
  rcases h with rfl | rfl | rfl | rfl | rfl | rfl | rfl <;> exact ⟨_, rfl⟩
theorem inSet_at2 (c : Nat) (h : c ∈ alpha) (seen : Sre.Seen) : ∃ seen', Sre.inSet rxCode c 34 20 true seen = .ok (!safe c, seen') := by
  simp only [alpha, List.mem_cons, List.not_mem_nil, or_false] at h
  rcases h with rfl | rfl | rfl | rfl | rfl | rfl | rfl <;> exact ⟨_, rfl⟩

/-- the first place from k on that is not safe -/
noncomputable def firstBad (l : Tx) (k : Nat) : Option Nat := ((List.range l.length).drop k).find? fun i => !safe (l.getD i 0)

theorem admitted_none (l : Tx) (hg : Good l) (hs : allSafe l = true) (m : Sre.M) (hc : m.code = rxCode) (ht : m.text = l.toArray) (hl : m.lim = l.length) :
    ∀ fuel k seen, ∃ seen', Sre.M.admitted m fuel k seen = .ok (none, seen') := by
  intro fuel
  induction fuel with
  | zero => intro k seen; exact ⟨seen, rfl⟩
  | succ n ih =>
    intro k seen
    unfold Sre.M.admitted
    by_cases hk : k ≥ m.lim
    · rw [if_pos hk]; exact ⟨seen, rfl⟩
    · rw [if_neg hk]
      rw [hl] at hk
      have hk' : k < l.length := Nat.lt_of_not_le hk
      have e : m.text.getD k 0 = l[k] := by rw [ht]; simp [hk']
      rw [hc, e]
      obtain ⟨seen', e'⟩ := inSet_at l[k] (hg _ (List.getElem_mem hk')) seen
      have hsz : rxCode.size = 34 := rfl
      rw [hsz, e']
      have : safe l[k] = true := List.all_eq_true.mp hs _ (List.getElem_mem hk')
      rw [this]
      exact ih (k + 1) seen'

theorem admitted_some (l : Tx) (hg : Good l) (m : Sre.M) (hc : m.code = rxCode) (ht : m.text = l.toArray) (hl : m.lim = l.length) :
    ∀ fuel k seen, (∃ j, k ≤ j ∧ j < l.length ∧ j < k + fuel ∧ safe (l.getD j 0) = false) → ∃ p seen', Sre.M.admitted m fuel k seen = .ok (some p, seen') ∧ p < l.length ∧ safe (l.getD p 0) = false := by
  intro fuel
  induction fuel with
  | zero => intro k seen ⟨j, h1, _, h3, _⟩; (first | lia | omega)
  | succ n ih =>
    intro k seen ⟨j, h1, h2, h3, h4⟩
    unfold Sre.M.admitted
    have hk : ¬ k ≥ m.lim := by rw [hl]; (first | lia | omega)
    rw [if_neg hk]
    have hk' : k < l.length := by (first | lia | omega)
    have e : m.text.getD k 0 = l[k] := by rw [ht]; simp [hk']
    have e2 : l.getD k 0 = l[k] := by simp [hk']
    rw [hc, e]
    obtain ⟨seen', e'⟩ := inSet_at l[k] (hg _ (List.getElem_mem hk')) seen
    have hsz : rxCode.size = 34 := rfl
    rw [hsz, e']
    cases hsf : safe l[k] with
    | false => exact ⟨k, seen', rfl, hk', by rw [e2]; exact hsf⟩
    | true =>
      have : k ≠ j := fun q => by subst q; rw [e2, hsf] at h4; cases h4
      exact ih (k + 1) seen' ⟨j, by (first | lia | omega), h2, by (first | lia | omega), h4⟩

noncomputable def rxStart (l : Tx) : Sre.M := Sre.forSearch rxCode l.toArray 0 0 l.length false

structure Rx0 (l : Tx) (m : Sre.M) : Prop where
  code : m.code = rxCode
  text : m.text = l.toArray
  lim : m.lim = l.length
  frames : m.frames = []
  outcome : m.outcome = none
  answer : m.answer = none
  weight : m.weight = 0
  pc : m.pc = 18
  must : m.mustAdvance = false
  whole : m.wholeText = false
  marks : m.marks = #[]
  loops : m.loops = #[]
theorem rx_start (l : Tx) (h0 : ¬ l.length < 1) : ∃ m, rxStart l = Sre.M.attemptFrom m 0 true ∧ Rx0 l m := by
  unfold rxStart Sre.forSearch
  have hh : Sre.header rxCode = (1, 18) := rfl
  rw [hh]
  try dsimp only
  have : ¬ ((decide (0 > l.length) || decide (l.length - 0 < 1)) = true) := by rw [Bool.or_eq_true, decide_eq_true_eq, decide_eq_true_eq]; (first | lia | omega)
  rw [if_neg this]
  exact ⟨_, rfl, ⟨rfl, rfl, rfl, rfl, rfl, rfl, rfl, rfl, rfl, rfl, rfl, rfl⟩⟩
theorem rx_first (m : Sre.M) (e : m.code = rxCode) : m.hasFirstSet = true := by unfold Sre.M.hasFirstSet; rw [e]; rfl

theorem rx_none (l : Tx) (hg : Good l) (hs : allSafe l = true) : ((rxStart l).runFor 4).outcome = some .failed := by
  by_cases h0 : l.length < 1
  · have e0 : l = [] := List.length_eq_zero_iff.mp (by (first | lia | omega))
    subst e0
    rfl
  · obtain ⟨m, e, M⟩ := rx_start l h0
    rw [e]
    unfold Sre.M.attemptFrom
    rw [rx_first m M.code]
    simp only [Bool.not_true, Bool.false_eq_true, if_false]
    obtain ⟨seen', e'⟩ := admitted_none l hg hs m M.code M.text M.lim (m.lim + 1 - 0) 0 m.seen
    rw [e']
    simp only [Sre.M.runFor, Sre.M.step, Sre.M.say, M.outcome, M.frames, Option.isSome_none, Option.isSome_some, Bool.false_eq_true, if_false, if_true]

theorem runFor_succ (n : Nat) (m : Sre.M) (h : m.outcome = none) : Sre.M.runFor (n + 1) m = Sre.M.runFor n m.step := by
  show (if m.outcome.isSome then m else Sre.M.runFor n m.step) = _
  rw [h]; rfl
structure Rx1 (l : Tx) (p pc pos : Nat) (f : Sre.Frame) (m : Sre.M) : Prop where
  code : m.code = rxCode
  text : m.text = l.toArray
  lim : m.lim = l.length
  frames : m.frames = [f]
  outcome : m.outcome = none
  answer : m.answer = none
  pc : m.pc = pc
  pos : m.pos = pos
  must : m.mustAdvance = false
  whole : m.wholeText = false
theorem rx_step1 {l : Tx} {p : Nat} {f : Sre.Frame} {m : Sre.M} (hg : Good l) (hp : p < l.length) (hps : safe (l.getD p 0) = false) (M : Rx1 l p 18 p f m) : Rx1 l p 33 (p + 1) f m.step := by
  have hget : l.toArray.getD p 0 = l.getD p 0 := by simp [hp]
  have hmem : l.getD p 0 ∈ l := by rw [show l.getD p 0 = l[p] from by simp [hp]]; exact List.getElem_mem hp
  obtain ⟨seen2, e2⟩ := inSet_at2 (l.getD p 0) (hg _ hmem) (m.seen.add 13)
  rw [hps] at e2
  obtain ⟨code, text, lim, start, lastStart, wholeText, mustAdvance, pc, pos, handed, outermost, marks, lastmark, lastindex, loops, inner, frames, weight, answer, seen, outcome⟩ := m
  obtain ⟨M1, M2, M3, M4, M5, M6, M7, M8, M9, M10⟩ := M
  dsimp only at M1 M2 M3 M4 M5 M6 M7 M8 M9 M10 e2
  subst M1 M2 M3 M4 M5 M6 M7 M8 M9 M10
  have e3 : Sre.accepts rxCode 18 (l.toArray.getD pos 0) (seen.add 13) = .ok (true, seen2) := by
    rw [hget]; exact e2
  have e : Sre.M.step ⟨rxCode, l.toArray, l.length, start, lastStart, false, false, 18, pos, handed, outermost, marks, lastmark, lastindex, loops, inner, [f], weight, none, seen, none⟩ =
      ⟨rxCode, l.toArray, l.length, start, lastStart, false, false, 33, pos + 1, handed, outermost, marks, lastmark, lastindex, loops, inner, [f], weight, none, seen2, none⟩ := by
    unfold Sre.M.step
    dsimp only [Option.isSome_none, Bool.false_eq_true, if_false]
    rw [if_neg (by decide), if_pos (by decide)]
    unfold Sre.M.exec Sre.M.word
    try dsimp only
    rw [show Sre.ops[rxCode.getD (18 + 0) 0]? = some .IN from rfl]
    try dsimp only
    rw [if_neg (by (first | lia | omega)), show rxCode.getD (18 + 0) 0 = 13 from rfl, e3]
    rfl
  rw [e]
  exact ⟨rfl, rfl, rfl, rfl, rfl, rfl, rfl, rfl, rfl, rfl⟩
theorem rx_step2 {l : Tx} {p q : Nat} {f : Sre.Frame} {m : Sre.M} (M : Rx1 l p 33 q f m) : m.step.outcome = none ∧ m.step.answer = some true ∧ m.step.frames = [f] := by
  obtain ⟨code, text, lim, start, lastStart, wholeText, mustAdvance, pc, pos, handed, outermost, marks, lastmark, lastindex, loops, inner, frames, weight, answer, seen, outcome⟩ := m
  obtain ⟨M1, M2, M3, M4, M5, M6, M7, M8, M9, M10⟩ := M
  dsimp only at M1 M2 M3 M4 M5 M6 M7 M8 M9 M10
  subst M1 M2 M3 M4 M5 M6 M7 M8 M9 M10
  cases outermost <;> exact ⟨rfl, rfl, rfl⟩
theorem rx_step3 {f : Sre.Frame} {m : Sre.M} (hf : f.wait = .nextStart) (h1 : m.outcome = none) (h2 : m.answer = some true) (h3 : m.frames = [f]) : m.step.outcome = none ∧ m.step.answer = some true ∧ m.step.frames = [] := by
  obtain ⟨code, text, lim, start, lastStart, wholeText, mustAdvance, pc, pos, handed, outermost, marks, lastmark, lastindex, loops, inner, frames, weight, answer, seen, outcome⟩ := m
  obtain ⟨wait, fpc, fpos, fo, fc, fk, fl, fb⟩ := f
  dsimp only at hf h1 h2 h3
  subst hf h1 h2 h3
  exact ⟨rfl, rfl, rfl⟩
theorem rx_step4 {m : Sre.M} (h1 : m.outcome = none) (h2 : m.answer = some true) (h3 : m.frames = []) : m.step.outcome = some .matched := by
  unfold Sre.M.step
  rw [h1, h2, h3]
  rfl

theorem rx_some (l : Tx) (hg : Good l) (hs : allSafe l = false) : ((rxStart l).runFor 4).outcome = some .matched := by
  have hj : ∃ j, j < l.length ∧ safe (l.getD j 0) = false := by
    have : ¬ (∀ c ∈ l, safe c = true) := fun q => by
      have : allSafe l = true := List.all_eq_true.mpr q
      rw [hs] at this; cases this
    simp only [Classical.not_forall] at this
    obtain ⟨c, hc, hn⟩ := this
    obtain ⟨j, hj, rfl⟩ := List.getElem_of_mem hc
    exact ⟨j, hj, by simpa [hj] using hn⟩
  obtain ⟨j, hj, hjs⟩ := hj
  obtain ⟨m, e, M⟩ := rx_start l (by (first | lia | omega))
  rw [e]
  unfold Sre.M.attemptFrom
  rw [rx_first m M.code]
  simp only [Bool.not_true, Bool.false_eq_true, if_false]
  obtain ⟨p, seen', e', hp, hps⟩ := admitted_some l hg m M.code M.text M.lim (m.lim + 1 - 0) 0 m.seen ⟨j, by (first | lia | omega), hj, by rw [M.lim]; (first | lia | omega), hjs⟩
  rw [e']
  try dsimp only
  generalize hm : ({ m with mustAdvance := false, seen := seen' } : Sre.M).attemptAt p true = m1
  have M1 : Rx1 l p 18 p { wait := .nextStart, pc := 18, pos := p, outermost := true } m1 := by
    rw [← hm]
    unfold Sre.M.attemptAt Sre.M.attempt
    try dsimp only
    rw [M.weight, if_neg (by decide)]
    exact ⟨M.code, M.text, M.lim, by rw [M.pc, M.frames], M.outcome, M.answer, M.pc, rfl, rfl, M.whole⟩
  have M2 := rx_step1 hg hp hps M1
  have M3 := rx_step2 M2
  have M4 := rx_step3 rfl M3.1 M3.2.1 M3.2.2
  rw [runFor_succ 3 _ M1.outcome, runFor_succ 2 _ M2.outcome, runFor_succ 1 _ M3.1, runFor_succ 0 _ M4.1]
  exact rx_step4 M4.1 M4.2.1 M4.2.2
end
section
open PySem PySem.W PyProof.Rows PySem.Calls
theorem fill_all (w : World) : (PySem.Challenge.rw_oy0378_01, Mine.hd.heap_1 w.params) = (PySem.Challenge.rw_oy0378_01, Mine.hd.heap_1 w.params) := by
  k_fill
  rfl
end
section
open PySem PySem.W PyProof.Rows PySem.Calls PySem.Builtin.Re
theorem reDrive_end {m r : Sre.M} (hr : m.runFor 4 = r) (ho : r.outcome.isSome = true) (n : Nat) : reDrive (n + 1) m = pure r := by
  show (let m := m.runFor reTurnSteps; if m.outcome.isSome then pure m else do rule "sre.turn"; reDrive n m) = _
  rw [show reTurnSteps = 4 from rfl, hr]
  try dsimp only
  rw [if_pos ho]
theorem re_run {M : Model} {A : Around} {E : Value → Shared → Prop} {s : Shared} {m r : Sre.M} {o : Sre.Outcome} {Q : Option Sre.M → Shared → Prop} (hr : m.runFor 4 = r) (ho : r.outcome = some o)
    (hs : ∀ y, o ≠ .stuck y) (h : Q (match o with | .matched => some r | _ => none) s) : wpAny M A (reRunToEnd m) Q E s := by
  unfold reRunToEnd
  refine wpAny_bind ?_
  rw [show (2 ^ 64 : Nat) = 18446744073709551615 + 1 from rfl, reDrive_end hr (by rw [ho]; rfl)]
  refine wpAny_pure (wpAny_bind ?_)
  refine wpAny_forIn_list _ (fun _ _ s' => s' = s) _ ?_ ?_ _ _ rfl
  · rintro x rest b s' rfl
    split
    · exact wpAny_bind (wpAny_rule (wpAny_pure rfl))
    · exact wpAny_pure rfl
  · rintro b s' rfl
    rw [ho]
    cases o with
    | matched => exact wpAny_pure h
    | failed => exact wpAny_pure h
    | stuck y => exact absurd rfl (hs y)

theorem at807 (w : World) : (Mine.hd.heap_1 w.params).lookup 807 = some { cls := .type "builtin_function_or_method", data := .fields #[.builtin "re.Pattern.search", .ref 146] } := by kernel_rfl
theorem peek807 (w : World) (x : Str) (t : Tok) : peek (Mine.hd.heap_1 w.params) ⟨P9, w.params⟩ (callAny (.ref 807) ⟨[.str x t], []⟩) = some (.again (.builtin "re.Pattern.search" ⟨[.ref 146, .str x t], []⟩)) := by kernel_rfl
theorem entry_search : entryFor table "re.Pattern.search" = some Builtin.«re.Pattern.search» := by first | exact entryFor_of_fast (by kernel_rfl) | exact entryFor_of_tree (by kernel_rfl)
noncomputable def rxTarget (x : Str) (t : Tok) : ReTarget := { pattern := .ref 146, string := .str x t, code := rxCode, text := x.cps, kind := 0, groups := 0, pos := min (Int.toNat 0) x.cps.size, lim := min (Int.toNat (2 ^ 63 - 1)) x.cps.size }
theorem peekTarget (w : World) (x : Str) (t : Tok) : peek (Mine.hd.heap_1 w.params) ⟨P9, w.params⟩ (reTarget "re.Pattern.search" "search" ⟨[.ref 146, .str x t], []⟩) = some (rxTarget x t) := by kernel_rfl

theorem call_unsafe {w : World} {mg mb : Str → Option Value} {A : Around} {E : Value → Shared → Prop} {s : Shared} {l : Tx} {t : Tok} {Q : Value → Shared → Prop}
    (W : Wd w mg mb s.heap) (hg : Good l) (hl : l.length ≤ 300000) (h0 : allSafe l = true → Q .none s) (h1 : allSafe l = false → ∀ a s', s.heap.StaysIn s'.heap → Stp true s s' → s'.toks = s.toks → Q (.ref a) s') :
    wpAny (model P9 w) A (call (.ref 807) [.str (S l) t]) Q E s := by
  refine wpAny_call (codeAny_of_tree ?_)
  refine (Looks.of_peek W.X (peek807 w (S l) t)).here ?_
  refine ⟨Code.quiet_builtin _ (by decide +kernel), codeAny_builtin entry_search ?_⟩
  unfold Builtin.«re.Pattern.search»
  refine wpAny_bind ((Looks.of_peek W.X (peekTarget w (S l) t)).here ?_)
  have hm : Sre.forSearch (rxTarget (S l) t).code (rxTarget (S l) t).text (rxTarget (S l) t).groups (rxTarget (S l) t).pos (rxTarget (S l) t).lim false = rxStart l := by
    unfold rxTarget rxStart S
    try dsimp only
    have e1 : min (Int.toNat 0) l.toArray.size = 0 := Nat.zero_min _
    have e2 : min (Int.toNat (2 ^ 63 - 1)) l.toArray.size = l.length := by
      rw [List.size_toArray]
      exact Nat.min_eq_right (Nat.le_trans hl (by decide))
    rw [e1, e2]
  rw [hm]
  unfold reAnswer
  cases hs : allSafe l with
  | true => exact wpAny_bind (re_run rfl (rx_none l hg hs) (fun _ q => by cases q) (wpAny_pure (h0 hs)))
  | false =>
    refine wpAny_bind (re_run rfl (rx_some l hg hs) (fun _ q => by cases q) ?_)
    unfold reNewMatch
    dsimp only [rxTarget]
    refine wpAny_bind ?_
    simp only [List.range_zero, List.flatMap_nil, List.any_nil, Bool.false_eq_true, if_false]
    simp only [newTuple, newFields]
    refine wpAny_bind (wpAny_newObj_type (wpAny_newObj_type (wpAny_pure ?_) (by size_fits)) (by size_fits))
    exact h1 hs _ _ (fun b o e => Heap.get?_push_of_some _ (Heap.get?_push_of_some _ e)) .heap rfl
end
section
open PySem PySem.W PyProof.Rows PySem.Calls PySem.Builtin.Re
/-! the arguments of a call -/
section
variable {M : Model} {A : Around} {E : Value → Shared → Prop} {s : Shared} {env : Env} {pos : Pos} {first : List Value} {Q : Value → Shared → Prop} {e e2 e3 : Expr}
theorem ea0 {f : Value} {Q : Args → Shared → Prop} (h : Q ⟨[], []⟩ s) : wpAny M A (evalArgs f true (backTo pos (starEach [] env)) []) Q E s := evalArgs_nil3 h
theorem ea1 {f : Value} {Q : Args → Shared → Prop} (h : wpAny M A (eval e env) (fun v s₁ => Q ⟨[v], []⟩ s₁) E s) (he : starEach [e] env = [(false, eval e env)] := by rfl) :
    wpAny M A (evalArgs f true (backTo pos (starEach [e] env)) []) Q E s := by
  rw [he]
  exact evalArgs_plain (spliced_cons (wpAny_mono h (fun v s₁ h₁ => spliced_nil h₁) fun _ _ z => z))
theorem ea2 {f : Value} {Q : Args → Shared → Prop} (h : wpAny M A (eval e env) (fun v s₁ => wpAny M A (eval e2 env) (fun v2 s₂ => Q ⟨[v, v2], []⟩ s₂) E s₁) E s) (he : starEach [e, e2] env = [(false, eval e env), (false, eval e2 env)] := by rfl) :
    wpAny M A (evalArgs f true (backTo pos (starEach [e, e2] env)) []) Q E s := by
  rw [he]
  exact evalArgs_plain (spliced_cons (wpAny_mono h (fun v s₁ h₁ => spliced_cons (wpAny_mono h₁ (fun v2 s₂ h₂ => spliced_nil h₂) fun _ _ z => z)) fun _ _ z => z))
theorem ea3 {f : Value} {Q : Args → Shared → Prop} (h : wpAny M A (eval e env) (fun v s₁ => wpAny M A (eval e2 env) (fun v2 s₂ => wpAny M A (eval e3 env) (fun v3 s₃ => Q ⟨[v, v2, v3], []⟩ s₃) E s₂) E s₁) E s)
    (he : starEach [e, e2, e3] env = [(false, eval e env), (false, eval e2 env), (false, eval e3 env)] := by rfl) :
    wpAny M A (evalArgs f true (backTo pos (starEach [e, e2, e3] env)) []) Q E s := by
  rw [he]
  exact evalArgs_plain (spliced_cons (wpAny_mono h (fun v s₁ h₁ => spliced_cons (wpAny_mono h₁ (fun v2 s₂ h₂ => spliced_cons (wpAny_mono h₂ (fun v3 s₃ h₃ => spliced_nil h₃) fun _ _ z => z)) fun _ _ z => z)) fun _ _ z => z))
/-- a built-in called -/
theorem cb {id : String} {args : List Expr} (h : wpAny M A (evalArgs (.builtin id) true (backTo pos (starEach args env)) []) (fun a s₁ => wpAny M A (call (.builtin id) (first ++ a.pos) a.kw) Q E s₁) E s)
    (hp : (backTo pos (starEach args env)).any (·.1) = false := by rfl) : wpAny M A (callWith pos (.builtin id) first (backTo pos (starEach args env)) []) Q E s := callWith_builtin hp h
/-- a type called -/
theorem cty {T : String} {args : List Expr} (h : wpAny M A (evalArgs (.type T) true (backTo pos (starEach args env)) []) (fun a s₁ => wpAny M A (call (.type T) (first ++ a.pos) a.kw) Q E s₁) E s)
    (hp : (backTo pos (starEach args env)).any (·.1) = false := by rfl) : wpAny M A (callWith pos (.type T) first (backTo pos (starEach args env)) []) Q E s :=
  callWith_of (P := fun _ => True) (by rw [hp]; rfl) (fun _ _ => ⟨.machine, .inr (.inl rfl), Looks.of_pure rfl⟩) (wpAny_mono h (fun _ _ z => ⟨trivial, z⟩) fun _ _ z => z)
/-- a def or class of the text called -/
theorem ck {K : Frag} {f : Value} {args : List Expr} (hk : keepIn K f = true) (h : wpAny M A (evalArgs f true (backTo pos (starEach args env)) []) (fun a s₁ => K.In s₁.heap ∧ wpAny M A (call f (first ++ a.pos) a.kw) Q E s₁) E s)
    (hp : (backTo pos (starEach args env)).any (·.1) = false := by rfl) : wpAny M A (callWith pos f first (backTo pos (starEach args env)) []) Q E s :=
  callWith_of (by rw [hp]; rfl) (keeps_K hk) h
theorem cb0 {id : String} {args : List Expr} (h : wpAny M A (evalArgs (.builtin id) true (backTo pos (starEach args env)) []) (fun a s₁ => wpAny M A (call (.builtin id) a.pos a.kw) Q E s₁) E s)
    (hp : (backTo pos (starEach args env)).any (·.1) = false := by rfl) : wpAny M A (callWith pos (.builtin id) [] (backTo pos (starEach args env)) []) Q E s := cb h hp
theorem cb1 {x : Value} {id : String} {args : List Expr} (h : wpAny M A (evalArgs (.builtin id) true (backTo pos (starEach args env)) []) (fun a s₁ => wpAny M A (call (.builtin id) (x :: a.pos) a.kw) Q E s₁) E s)
    (hp : (backTo pos (starEach args env)).any (·.1) = false := by rfl) : wpAny M A (callWith pos (.builtin id) [x] (backTo pos (starEach args env)) []) Q E s := cb h hp
theorem cty0 {T : String} {args : List Expr} (h : wpAny M A (evalArgs (.type T) true (backTo pos (starEach args env)) []) (fun a s₁ => wpAny M A (call (.type T) a.pos a.kw) Q E s₁) E s)
    (hp : (backTo pos (starEach args env)).any (·.1) = false := by rfl) : wpAny M A (callWith pos (.type T) [] (backTo pos (starEach args env)) []) Q E s := cty h hp
theorem ck0 {w : World} {mg mb : Str → Option Value} {g : Heap} {f : Value} {args : List Expr} (_ : Wd w mg mb g) (hk : keepIn (Mine.hd.heap_1 w.params) f = true) (h : wpAny M A (evalArgs f true (backTo pos (starEach args env)) []) (fun a s₁ => (Mine.hd.heap_1 w.params).In s₁.heap ∧ wpAny M A (call f a.pos a.kw) Q E s₁) E s)
    (hp : (backTo pos (starEach args env)).any (·.1) = false := by rfl) : wpAny M A (callWith pos f [] (backTo pos (starEach args env)) []) Q E s := ck hk h hp
theorem ck1 {w : World} {mg mb : Str → Option Value} {g : Heap} {x f : Value} {args : List Expr} (_ : Wd w mg mb g) (hk : keepIn (Mine.hd.heap_1 w.params) f = true) (h : wpAny M A (evalArgs f true (backTo pos (starEach args env)) []) (fun a s₁ => (Mine.hd.heap_1 w.params).In s₁.heap ∧ wpAny M A (call f (x :: a.pos) a.kw) Q E s₁) E s)
    (hp : (backTo pos (starEach args env)).any (·.1) = false := by rfl) : wpAny M A (callWith pos f [x] (backTo pos (starEach args env)) []) Q E s := ck hk h hp
end

/-! texts -/
theorem S_length (l : Tx) : (S l).length = l.length := List.size_toArray ..
theorem S_append (a b : Tx) : S a ++ S b = S (a ++ b) := by
  show Str.append _ _ = _
  unfold Str.append S
  simp
theorem S_inj {a b : Tx} (h : S a = S b) : a = b := by
  have := congrArg (fun x => x.cps.toList) h
  simpa [S] using this
theorem S_beq (a b : Tx) : (S a == S b) = decide (a = b) := by
  by_cases h : a = b
  · subst h; simp
  · have : S a ≠ S b := fun q => h (S_inj q)
    rw [beq_eq_false_iff_ne.mpr this, decide_eq_false h]
section
variable {prog : Program} {w : World} {A : Around} {E : Value → Shared → Prop} {k : Bool} {s₀ s : Shared} {g : Heap} {L : Addr} {m : Str → Option Value} {news : List (Addr × Obj)} {l l' : Tx} {t u : Tok}
theorem r_truthy_S {Q : Bool → Shared → Prop} (C : Cx k s₀ g L s m news) (hl : l.length ≤ 2000000) (h : ∀ s', Cx k s₀ g L s' m news → 0 < s'.toks → Q (decide (l ≠ [])) s') : wpAny (model prog w) A (truthy (.str (S l) t)) Q E s := by
  refine PySem.P.truthy_str (by rw [S_length]; (first | lia | omega)) ?_
  have e : (((S l).length : Int) != 0) = decide (l ≠ []) := by
    rw [S_length]
    cases l with
    | nil => rfl
    | cons c r => simp; (first | lia | omega)
  rw [e]
  exact h _ C.toks (Nat.succ_pos _)
theorem r_add_S {Q : Value → Shared → Prop} (C : Cx k s₀ g L s m news) (hl : l.length + l'.length ≤ 2000000) (h : ∀ t' s', Cx k s₀ g L s' m news → Q (.str (S (l ++ l')) t') s') :
    wpAny (model prog w) A (binaryOp .Add (.str (S l) t) (.str (S l') u)) Q E s :=
  add_str (fun t' tk => by rw [S_append]; exact h t' _ C.toks) (by rw [S_length, S_length, sizeLine_eq]; (first | lia | omega))
theorem r_eq_S {Q : Value → Shared → Prop} (h : Q (.bool (decide (l = l'))) s) : wpAny (model prog w) A (compareOp .Eq (.str (S l) t) (.str (S l') u)) Q E s := eq_str (by rw [S_beq]; exact h)
end
theorem truthy_b {M : Model} {A : Around} {E : Value → Shared → Prop} {s : Shared} {b : Bool} {Q : Bool → Shared → Prop} (h : Q b s) : wpAny M A (truthy (.bool b)) Q E s := wpAny_truthy_bool h
theorem if_t {b : Bool} {X Y : Prop} (hb : b = true) (h : X) : if b = true then X else Y := by rw [if_pos hb]; exact h
theorem if_f {b : Bool} {X Y : Prop} (hb : b = false) (h : Y) : if b = true then X else Y := by rw [if_neg (by rw [hb]; exact Bool.false_ne_true)]; exact h

theorem Kin {w : World} {mg mb : Str → Option Value} {k : Bool} {s₀ s : Shared} {g : Heap} {L : Addr} {m : Str → Option Value} {news : List (Addr × Obj)} (W : Wd w mg mb g) (C : Cx k s₀ g L s m news) : (Mine.hd.heap_1 w.params).In s.heap := W.X.keeps C.keep
theorem peekKeeper807 (w : World) : peek (Mine.hd.heap_1 w.params) ⟨P9, w.params⟩ (keeperOf (.ref 807)) = some .machine := by kernel_rfl
theorem c807 {w : World} {A : Around} {E : Value → Shared → Prop} {s : Shared} {env : Env} {pos : Pos} {Q : Value → Shared → Prop} {args : List Expr}
    (h : wpAny (model P9 w) A (evalArgs (.ref 807) true (backTo pos (starEach args env)) []) (fun a s₁ => (Mine.hd.heap_1 w.params).In s₁.heap ∧ wpAny (model P9 w) A (call (.ref 807) ([] ++ a.pos) a.kw) Q E s₁) E s)
    (hp : (backTo pos (starEach args env)).any (·.1) = false := by rfl) : wpAny (model P9 w) A (callWith pos (.ref 807) [] (backTo pos (starEach args env)) []) Q E s :=
  callWith_of (by rw [hp]; rfl) (fun _ X => ⟨.machine, .inr (.inl rfl), Looks.of_peek X (peekKeeper807 w)⟩) h
local macro_rules | `(tactic| k_call_by "kd" 0) => `(tactic| repeat' (first | with_reducible exact lk_here | refine lk_there (ne_q (Eq.refl false)) ?_))
local macro_rules | `(tactic| k_call_by "lk" 0) => `(tactic| repeat' (first | with_reducible exact upd_here | with_reducible exact bnd_here | with_reducible assumption | with_reducible apply upd_there | with_reducible apply bnd_there | with_reducible apply upd_none | exact ne_q (Eq.refl false)))
local macro_rules | `(tactic| k_call_by "wa" 0) => `(tactic| with_reducible assumption)
local macro_rules | `(tactic| k_call_by "ld" 0) => `(tactic| (refine' r_ld (by k_call_by "wa" 0) ?hx ?hv ?_; (case hx => k_call_by "kd" 0); (case hv => k_call_by "lk" 0)))
local macro_rules | `(tactic| k_call_by "gl" 0) => `(tactic| (refine' r_gl (by k_call_by "wa" 0) (by k_call_by "wa" 0) ?hx ?he ?_; (case hx => k_call_by "kd" 0); (case he => k_is)))
local macro_rules | `(tactic| k_call_by "bi" 0) => `(tactic| (refine' r_bi (by k_call_by "wa" 0) (by k_call_by "wa" 0) ?hx ⟨?he1, ?he2, ?he3⟩ ?_; (case hx => k_call_by "kd" 0); (case he1 => k_is); (case he2 => boot_fast); (case he3 => exact ne_q (Eq.refl false))))
local macro_rules | `(tactic| k_call_by "st" 0) => `(tactic| (refine' r_st (by k_call_by "wa" 0) ?hx ?_; (case hx => k_call_by "kd" 0); intro _ _))
local macro_rules | `(tactic| k_call_by "enB" 0) => `(tactic| ((case hl => exact locs (by kernel_rfl)); (case hr => (simp only [List.reverse_cons, List.reverse_nil, List.nil_append, List.cons_append]; exact rfl)); (case h1 => exact rfl); (case h2 => exact rfl); (case h3 => exact rfl); (case h4 => decide +kernel)))
local macro_rules | `(tactic| k_call_by "ent" 0) => `(tactic| ((case ho => k_is); (case hcd => k_is); (case hb => exact BindsTo.of_eq (by kernel_rfl)); k_call_by "enB" 0))
local macro_rules | `(tactic| k_call_by "entd" 0) => `(tactic| ((case ho => k_is); (case hcd => k_is); (case hb => exact kp_binds (by first | exact Wd.X (by assumption) | exact (Wd.keeps (by assumption) (by assumption)).X) (fun _ => by kernel_rfl)); k_call_by "enB" 0))
local macro_rules | `(tactic| k_call_by "kin" 0) => `(tactic| (refine ⟨Kin (by k_call_by "wa" 0) (by k_call_by "wa" 0), ?_⟩))
local macro_rules | `(tactic| k_call_by "mem" 0) => `(tactic| repeat (first | with_reducible exact List.mem_cons_self .. | with_reducible refine' List.mem_cons_of_mem _ ?_))
local macro_rules | `(tactic| k_call_by "up" 0) => `(tactic| (intro _; with_reducible first | exact .z | exact .s .z | exact .s (.s .z) | exact .s (.s (.s .z)) | exact .s (.s (.s (.s .z))) | exact .s (.s (.s (.s (.s .z)))) | exact .s (.s (.s (.s (.s (.s .z))))) | exact .s (.s (.s (.s (.s (.s (.s .z))))))))
local macro_rules | `(tactic| k_call_by "xe" 0) => `(tactic| first
  | ((with_reducible show wpAny _ _ (eval (PySem.Expr.Name _ _) _) _ _ _); first | k_call_by "ld" 0 | k_call_by "gl" 0 | k_call_by "bi" 0)
  | with_reducible refine x_attr ?_
  | ((with_reducible refine r_str (by assumption) ?_); intro _ _ _)
  | ((with_reducible refine r_int (by assumption) ?_); intro _ _ _)
  | with_reducible refine r_none ?_
  | with_reducible refine r_bool ?_
  | ((with_reducible refine' x_mcall ?he ?_); (case he => exact rfl))
  | with_reducible refine x_ncall ?_
  | with_reducible refine x_bin ?_
  | with_reducible refine wpAny_UnaryOp ?_
  | ((with_reducible refine' x_cmp ?hm ?_); (case hm => exact rfl))
  | with_reducible refine x_sub ?_
  | with_reducible refine wpAny_Slice ?_)
local macro_rules | `(tactic| k_call_by "xs" 0) => `(tactic| first
  | with_reducible refine x_if ?_
  | ((with_reducible refine' x_asgN ?hs ?_); (case hs => exact rfl))
  | ((with_reducible refine' x_asgA ?hs ?_); (case hs => exact rfl))
  | with_reducible refine wpAny_Return_some ?_
  | ((with_reducible show wpAny _ _ (exec (PySem.Stmt.Expr _ _) _) _ _ _); refine wpAny_Expr ?_)
  | with_reducible refine wpAny_Break ?_
  | with_reducible refine wpAny_Continue ?_)
local macro_rules | `(tactic| k_call_by "xt" 0) => `(tactic| first
  | with_reducible refine isTrue_not ?_
  | ((with_reducible refine' x_tcmp ?hm ?_); (case hm => exact rfl))
  | with_reducible refine x_and ?_
  | with_reducible refine x_or ?_
  | with_reducible refine isTrue_and_nil ?_
  | with_reducible refine isTrue_or_nil ?_
  | ((with_reducible refine' x_plain ?he ?_); (case he => exact rfl)))
local macro_rules | `(tactic| k_call_by "xi" 0) => `(tactic| first
  | with_reducible refine if_t (by with_reducible rfl) ?_
  | with_reducible refine if_f (by with_reducible rfl) ?_
  | ((with_reducible show (if (!true) = true then _ else _)); refine if_f rfl ?_)
  | ((with_reducible show (if (!false) = true then _ else _)); refine if_t rfl ?_)
  | ((with_reducible show (if decide _ = true then _ else _)); first | refine if_t (by decide) ?_ | refine if_f (by decide) ?_))
local macro_rules | `(tactic| k_call_by "xw" 0) => `(tactic| first
  | ((with_reducible refine' cb0 ?_ ?hp); (case hp => exact rfl))
  | ((with_reducible refine' cb1 ?_ ?hp); (case hp => exact rfl))
  | ((with_reducible refine' cty0 ?_ ?hp); (case hp => exact rfl))
  | ((with_reducible refine' c807 ?_ ?hp); (case hp => exact rfl))
  | ((with_reducible refine' ck0 (by k_call_by "wa" 0) ?hk ?_ ?hp); (case hk => kernel_rfl); (case hp => exact rfl))
  | ((with_reducible refine' ck1 (by k_call_by "wa" 0) ?hk ?_ ?hp); (case hk => kernel_rfl); (case hp => exact rfl)))
local macro_rules | `(tactic| k_call_by "xa" 0) => `(tactic| first
  | with_reducible refine ea0 ?_
  | ((with_reducible refine' ea1 ?_ ?he); (case he => exact rfl))
  | ((with_reducible refine' ea2 ?_ ?he); (case he => exact rfl))
  | ((with_reducible refine' ea3 ?_ ?he); (case he => exact rfl)))
local macro_rules | `(tactic| k_call_by "go1" 0) => `(tactic| first
  | ((with_reducible show wpAny _ _ (eval _ _) _ _ _); k_call_by "xe" 0)
  | ((with_reducible show wpAny _ _ (getAttr _ _ _) _ _ _); k_call_by "ga" 0)
  | with_reducible refine truthy_b ?_
  | (with_reducible first | refine if_q1 ?_ | refine if_q0 ?_ | refine and_q1 ?_ | refine and_q0 ?_ | refine or_q1 ?_ | refine or_q0 ?_)
  | ((with_reducible show (if _ = true then _ else _)); k_call_by "xi" 0)
  | ((with_reducible show wpAny _ _ (compareOp _ _ _) _ _ _); k_call_by "xc" 0)
  | ((with_reducible show wpAny _ _ (execs _ _) _ _ _); first | with_reducible refine x_one ?_ | with_reducible refine x_cons ?_ | with_reducible refine wpAny_execs_nil ?_)
  | ((with_reducible show wpAny _ _ (exec _ _) _ _ _); k_call_by "xs" 0)
  | ((with_reducible show wpAny _ _ (isTrue _ _ _) _ _ _); k_call_by "xt" 0)
  | ((with_reducible show wpAny _ _ (truthy _) _ _ _); k_call_by "xy" 0)
  | ((with_reducible show wpAny _ _ (storeName _ _ _) _ _ _); k_call_by "st" 0)
  | ((with_reducible show wpAny _ _ (setAttr _ _ _) _ _ _); k_call_by "sx" 0)
  | ((with_reducible show wpAny _ _ (call _ _ _) _ _ _); k_call_by "xl" 0)
  | ((with_reducible show wpAny _ _ (getMethod _ _ _) _ _ _); k_call_by "gm" 0)
  | ((with_reducible show wpAny _ _ (callWith _ _ _ _ _) _ _ _); k_call_by "xw" 0)
  | ((with_reducible show wpAny _ _ (evalArgs _ _ _ _) _ _ _); k_call_by "xa" 0)
  | k_call_by "kin" 0
  | k_call_by "xb" 0
  | ((with_reducible show wpAny _ _ (evalPart (some _) _) _ _ _); refine (evalPart_some _ _).symm ▸ ?_)
  | ((with_reducible show wpAny _ _ (evalPart none _) _ _ _); refine (evalPart_none _).symm ▸ wpAny_pure ?_)
  | (with_reducible first | refine next_q ?_ | refine cons_ret ?_ | refine cons_brk ?_ | refine cons_cont ?_)
  | with_reducible refine Opens.op (by k_call_by "wa" 0) _ _ ?_)
local macro_rules | `(tactic| k_call_by "go" 0) => `(tactic| repeat (k_call_by "go1" 0))
/-! quote -/
noncomputable def quo : Tx := [39, 34, 39, 34, 39]
noncomputable def replT : Tx → Tx
  | [] => []
  | c :: r => if c = 39 then quo ++ replT r else c :: replT r
noncomputable def quoteT (l : Tx) : Tx := if l = [] then [39, 39] else if allSafe l then l else [39] ++ replT l ++ [39]
theorem replT_append : ∀ a b : Tx, replT (a ++ b) = replT a ++ replT b
  | [], _ => rfl
  | k :: r, b => by
    have ih := replT_append r b
    by_cases h : k = 39 <;> simp [replT, h, ih]
theorem replT_free : ∀ l : Tx, 39 ∉ l → replT l = l
  | [], _ => rfl
  | k :: r, h => by
    have h1 : ¬ k = 39 := fun e => h (e ▸ List.mem_cons_self ..)
    have h2 : 39 ∉ r := fun m => h (List.mem_cons_of_mem _ m)
    simp [replT, h1, replT_free r h2]
theorem replT_join : ∀ parts : List Str, (∀ p ∈ parts, 39 ∉ p.cps.toList) → replT (Str.join ⟨#[39]⟩ parts).cps.toList = (Str.join (S quo) parts).cps.toList
  | [], _ => rfl
  | [p], h => replT_free _ (h p (List.mem_singleton.mpr rfl))
  | p :: q :: r, h => by
    have ih := replT_join (q :: r) fun a ha => h a (List.mem_cons_of_mem _ ha)
    show replT (p ++ ⟨#[39]⟩ ++ Str.join ⟨#[39]⟩ (q :: r)).cps.toList = (p ++ S quo ++ Str.join (S quo) (q :: r)).cps.toList
    simp only [Str.cps_append, Array.toList_append]
    rw [replT_append, replT_append, ih, replT_free _ (h p (List.mem_cons_self ..))]
    rfl
theorem replace_S (l : Tx) : Txt.replace (S l) (S [39]) (S quo) = S (replT l) := by
  have h : (Txt.replace (S l) ⟨#[39]⟩ (S quo)).cps.toList = replT (S l).cps.toList := by
    rw [StrLaws.replace_one, ← replT_join _ (StrLaws.split_free (S l) 39), StrLaws.join_split]
  show Txt.replace (S l) ⟨#[39]⟩ (S quo) = _
  generalize Txt.replace (S l) ⟨#[39]⟩ (S quo) = r at h ⊢
  obtain ⟨⟨x⟩⟩ := r
  exact congrArg (fun z => Str.mk (Array.mk z)) h
theorem replT_length (l : Tx) : (replT l).length ≤ 5 * l.length := by
  induction l with
  | nil => exact Nat.le_refl _
  | cons c r ih =>
    unfold replT
    split
    · simp [quo]; (first | lia | omega)
    · simp; (first | lia | omega)
theorem quoteT_length (l : Tx) : (quoteT l).length ≤ 5 * l.length + 2 := by
  unfold quoteT
  have := replT_length l
  split
  · simp
  · split
    · (first | lia | omega)
    · simp; (first | lia | omega)

theorem quote_ok {w : World} {mg mb : Str → Option Value} {A : Around} {s : Shared} {l : Tx} {t : Tok} {Q E : Value → Shared → Prop}
    (W : Wd w mg mb s.heap) (R : Rm A 2 10) (hg : Good l) (hl : l.length ≤ 300000) (h : ∀ t' s', s.heap.StaysIn s'.heap → Stp true s s' → Q (.str (S (quoteT l)) t') s') :
    wpAny (model P9 w) A (call (.ref 814) [.str (S l) t]) Q E s := by
  refine wpAny_call ?_
  refine' enter (k := true) (binds := [(Str.ofString "s", .str (S l) t)]) W R.room ?ho ?hcd ?hb ?hl ?hr ?_ ?h1 ?h2 ?h3 ?h4
  k_call_by "ent" 0
  intro L s1 C hL
  refine hideQ fun Qt hQt => ?_
  k_call_by "go" 0
  with_reducible refine r_truthy_S (by assumption) ?hl ?_
  case hl => (first | lia | omega)
  intro s2 C2 tk2
  by_cases h0 : l = []
  · refine if_t (by rw [decide_eq_false (by simpa using h0)]; rfl) ?_
    k_call_by "go" 0
    have e : quoteT l = [39, 39] := if_pos h0
    rw [e] at h
    exact h _ _ (Cx.keep (by assumption)) (Cx.st (by assumption))
  · refine if_f (by rw [decide_eq_true (by simpa using h0)]; rfl) ?_
    k_call_by "go" 0
    refine call_unsafe (W.keeps C2.keep) hg hl (fun hs => ?_) (fun hs a s3 k3 st3 tk3 => ?_)
    · k_call_by "go" 0
      with_reducible refine is_none_none ?_
      k_call_by "go" 0
      have e : quoteT l = l := by unfold quoteT; rw [if_neg h0, if_pos hs]
      have := h t s2 C2.keep C2.st
      rw [e] at this
      exact this
    · have C3 := C2.back0 k3 st3.any
      k_call_by "go" 0
      with_reducible refine is_none_ne ?hn ?_
      case hn => intro q; cases q
      with_reducible refine truthy_b ?_
      with_reducible refine if_f rfl ?_
      with_reducible refine wpAny_execs_nil ?_
      with_reducible refine wpAny_execs_cons ?_
      with_reducible refine wpAny_Return_some ?_
      with_reducible refine wpAny_BinOp ?_
      with_reducible refine wpAny_BinOp ?_
      with_reducible refine Constant_str ?_
      have C4 := C3.toks (t := s3.toks + 1)
      refine MethodCall_ ?_
      k_call_by "ld" 0
      with_reducible refine GM.replace ?_
      refine cb ?_
      refine ea2 ?_
      with_reducible refine Constant_str ?_
      with_reducible refine Constant_str ?_
      show wpAny (model P9 w) _ (call (.builtin "str.replace") [.str (S l) t, .str (Str.ofString "'") (s3.toks + 1), .str (Str.ofString "'\"'\"'") (s3.toks + 1 + 1)]) _ _ _
      rw [show Str.ofString "'" = S [39] from by decide +kernel, show Str.ofString "'\"'\"'" = S quo from by decide +kernel]
      with_reducible refine SC.replaceW (Nat.succ_ne_zero _) (Nat.succ_ne_zero _) (Nat.ne_of_lt (Nat.lt_succ_self _)) ?g1 ?g2 ?g3 ?_
      case g1 => decide +kernel
      case g2 => rw [S_length]; (first | lia | omega)
      case g3 => decide +kernel
      intro t5 k5
      rw [replace_S]
      have C5 := C4.toks (t := k5)
      have hlr := replT_length l
      with_reducible refine r_add_S C5 ?g4 ?_
      case g4 => simp; (first | lia | omega)
      intro t6 s6 C6
      k_call_by "go" 0
      with_reducible refine r_add_S (by assumption) ?g4 ?_
      case g4 => simp; (first | lia | omega)
      intro t8 s8 C8
      have e : quoteT l = [39] ++ replT l ++ [39] := by unfold quoteT; rw [if_neg h0, if_neg (by rw [hs]; exact Bool.false_ne_true)]
      have := h t8 s8 C8.keep C8.st
      rw [e] at this
      refine hQt.op _ _ ?_
      exact this
/-! lists of texts -/
inductive SVs : List Value → List Tx → Prop where
  | nil : SVs [] []
  | cons {t : Tok} {w : Tx} {vs : List Value} {ws : List Tx} (h : SVs vs ws) : SVs (.str (S w) t :: vs) (w :: ws)
theorem SVs.length {vs : List Value} {ws : List Tx} (h : SVs vs ws) : vs.length = ws.length := by
  induction h with
  | nil => rfl
  | cons _ ih => simp [ih]
theorem SVs.get {vs : List Value} {ws : List Tx} (h : SVs vs ws) : ∀ {i : Nat} {v : Value}, vs[i]? = some v → ∃ t w, v = .str (S w) t ∧ ws[i]? = some w := by
  induction h with
  | nil => intro i v e; simp at e
  | @cons t w vs ws _ ih =>
    intro i v e
    cases i with
    | zero => simp at e; exact ⟨t, w, e.symm, rfl⟩
    | succ i => simp at e; obtain ⟨t', w', h1, h2⟩ := ih e; exact ⟨t', w', h1, by simpa using h2⟩
theorem SVs.append {vs vs' : List Value} {ws ws' : List Tx} (h : SVs vs ws) (h' : SVs vs' ws') : SVs (vs ++ vs') (ws ++ ws') := by
  induction h with
  | nil => exact h'
  | cons _ ih => exact .cons ih
noncomputable def SLs (h : Heap) (a : Addr) (ws : List Tx) : Prop := ∃ n vs, h.get? a = some (listOf (List.toArray vs) n) ∧ SVs vs ws
theorem SLs.keeps {h h' : Heap} {a : Addr} {ws : List Tx} (x : SLs h a ws) (k : h.StaysIn h') : SLs h' a ws := let ⟨n, vs, e, v⟩ := x; ⟨n, vs, k _ _ e, v⟩
noncomputable def joinT (ws : List Tx) : Tx := [32].intercalate (ws.map quoteT)

/-- the table of join's code -/
noncomputable def JT (o : Obj) : Prop := ∃ ps, o = ({ cls := .none, data := .fields ps } : Obj) ∧ TriplesOk ps.toList
noncomputable def codeOk (o : Obj) : Bool := match o.data with
  | .fields vs => vs.getD 11 .none == .ref 801 && (o.cls == .type "code" && vs[11]? == some (.ref 801)) && (match vs.getD 18 .none, vs.getD 7 .none, vs.getD 9 .none, vs.getD 10 .none with
    | .str _ _, .int _ _, .bool _, .int _ _ => true
    | _, _, _, _ => false)
  | _ => false
theorem codeOk_any (w : World) : ((Mine.hd.heap_1 w.params).lookup 805).any codeOk = true := by kernel_rfl
theorem at805 (w : World) : ∃ o vs file tf flags tg inF text tt, (Mine.hd.heap_1 w.params).lookup 805 = some o ∧ o.data = .fields vs ∧ vs.getD 11 .none = .ref 801 ∧ vs.getD 18 .none = .str file tf ∧
    vs.getD 7 .none = .int flags tg ∧ vs.getD 9 .none = .bool inF ∧ vs.getD 10 .none = .int text tt ∧ o.cls = .type "code" ∧ vs[11]? = some (.ref 801) := by
  have h := codeOk_any w
  generalize (Mine.hd.heap_1 w.params).lookup 805 = x at h
  cases x with
  | none => cases h
  | some o =>
    have h' : codeOk o = true := h
    unfold codeOk at h'
    split at h'
    · rename_i vs hd
      simp only [Bool.and_eq_true, beq_iff_eq] at h'
      obtain ⟨⟨h1, h8, h9⟩, h2⟩ := h'
      split at h2
      · rename_i e1 e2 e3 e4
        exact ⟨o, vs, _, _, _, _, _, _, _, rfl, hd, h1, e1, e2, e3, e4, h8, h9⟩
      · cases h2
    · cases h'
theorem isCodeJ {w : World} {h : Heap} {o : Obj} (X : (Mine.hd.heap_1 w.params).In h) (ho : h.get? 801 = some o) (j : JT o) : ∃ ps, h.IsCode 805 801 ps ∧ h.TableAt 805 801 ps := by
  obtain ⟨oc, vs, file, tf, flags, tg, inF, text, tt, h1, h2, h3, h4, h5, h6, h7, h8, h9⟩ := at805 w
  obtain ⟨ps, rfl, j2⟩ := j
  exact ⟨ps, ⟨oc, vs, file, tf, flags, tg, inF, text, tt, _, X _ _ h1, h2, h3, h4, h5, h6, h7, ho, rfl, j2, by decide⟩, ⟨oc, vs, X _ _ h1, h8, h2, h9⟩, ho⟩
theorem isCodeJ_back {h : Heap} {ps : Array Value} (x : h.IsCode 805 801 ps) (y : h.TableAt 805 801 ps) : ∃ o, h.get? 801 = some o ∧ JT o := by
  obtain ⟨o, vs, file, tf, flags, tg, inF, text, tt, op, _, _, _, _, _, _, _, a, b, c, _⟩ := x
  exact ⟨_, y.2, ps, rfl, c⟩
theorem genexprJ {M : Model} {A : Around} {E : Value → Shared → Prop} {s : Shared} {env : Env} {c P : Addr} {ps : Array Value} {pos : Pos} {qualname : Str} {scope : Scope} {Q : Value → Shared → Prop} (hc : env.code = .ref c) (hok : s.heap.IsCode c P ps) (htab : s.heap.TableAt c P ps)
    (hQ : ∀ code h' tk ps', Heap.ExtBut P s.heap h' → h'.IsCode c P ps' → h'.TableAt c P ps' → Q code { s with heap := h', toks := tk }) :
    wpAny M A (genexprCode env pos qualname scope) Q E s := by
  cases hnf : codeAmong pos ps.toList with
  | some cv => exact wpAny_genexprCode_hit hc hok hnf (hQ cv s.heap s.toks ps (Heap.ExtBut.refl _ _) hok htab)
  | none => exact wpAny_genexprCodeX hc hok htab hnf fun c' h' tk k1 _ _ k2 _ k3 _ => hQ _ h' tk _ k1 k2 k3

/-- entering a def that changes D -/
theorem enterH {k : Bool} {w : World} {mg mb : Str → Option Value} {A : Around} {s : Shared} {R : Result → Shared → Prop} {name qual : Str} {params : Arguments} {body : List Stmt} {scope : Scope} {dV kV doc pm cdv ct oc : Value} {an od : Option Addr} {osl : Array (Option Value)} {f : Addr} {args : Args} {binds rb : List (Str × Value)}
    {D : List (Addr × Obj)} {g : Heap} (W : Wd w mg mb g) (hg : g.StaysIn s.heap) (hD : ∀ p ∈ D, s.heap.get? p.1 = some p.2 ∧ g.get? p.1 = none) (hnd : (D.map (·.1)).Nodup) (hroom : A.depth < recursionLimit)
    (ho : (Mine.hd.heap_1 w.params).lookup f = some ⟨oc, od, .func (fnOf name qual params body scope dV kV doc pm an cdv ct), osl⟩) (hcd : codeIn (Mine.hd.heap_1 w.params) cdv qual = true)
    (hbind : BindsTo s (fnOf name qual params body scope dV kV doc pm an cdv ct) args binds) (hloc : ∀ y ∈ binds, scope.names.lookup y.1 = some .local)
    (hr : binds.reverse = rb)
    (h : ∀ L s', Wd w mg mb (hideAll s.heap (D.map (·.1))) → g.StaysIn (hideAll s.heap (D.map (·.1))) → Cx k s (hideAll s.heap (D.map (·.1))) L s' (bnd rb) D → L = s.heap.objs.size →
      wpAny (model P9 w) (A.deeper (envOf qual scope L f cdv)) (execs body (envOf qual scope L f cdv)) (fun fl s'' => R (.ok (.ret (match fl with | .ret v => v | _ => .none))) s'') (fun _ _ => False) s')
    (hco : scope.isCoroutine = false) (hgen : scope.isGenerator = false) (hk : scope.kind = .function) (hcell : ∀ x ∈ scope.names, x.2 ≠ .cell) : codeAny (model P9 w) A (.call (.ref f) args) R s := by
  have st : g.StaysIn (hideAll s.heap (D.map (·.1))) := fun b o e => hideAll_get _ (hg b o e) fun q => by
    obtain ⟨p, hp, rfl⟩ := List.mem_map.mp q
    rw [(hD p hp).2] at e; cases e
  exact enterD (W.keeps st) (fun _ _ e => of_hideAll _ e) (Nat.le_of_eq (hideAll_size _ _)) (fun p hp => ⟨(hD p hp).1, hideAll_none _ (List.mem_map_of_mem hp)⟩) hnd hroom ho hcd hbind hloc hr (fun L s' C hL => h L s' (W.keeps st) st C hL) hco hgen hk hcell

theorem le_sum_mem {l : List Nat} {x : Nat} (h : x ∈ l) : x ≤ l.sum := by
  induction l with
  | nil => cases h
  | cons y r ih =>
    rw [List.sum_cons]
    rcases List.mem_cons.mp h with rfl | h
    · (first | lia | omega)
    · have := ih h; (first | lia | omega)
theorem len_le_sum (ws : List Tx) : ws.length ≤ (ws.map fun l => 5 * l.length + 3).sum := by
  induction ws with
  | nil => exact Nat.le_refl _
  | cons x r ih => simp only [List.map_cons, List.sum_cons, List.length_cons]; (first | lia | omega)
theorem joinOk_ws (ws : List Tx) (h : (ws.map fun l => 5 * l.length + 3).sum ≤ 600000) : JoinOk (S [32]) (ws.map fun x => S (quoteT x)) = true := by
  have key : ∀ (ws : List Tx) (acc : Nat), (ws.map fun x => S (quoteT x)).foldl (fun n y => n + y.length + (S [32]).length) acc ≤ acc + (ws.map fun l => 5 * l.length + 3).sum := by
    intro ws
    induction ws with
    | nil => intro acc; exact Nat.le_refl _
    | cons x r ih =>
      intro acc
      simp only [List.map_cons, List.foldl_cons, List.sum_cons]
      have h1 := ih (acc + (S (quoteT x)).length + (S [32]).length)
      have h2 := quoteT_length x
      have h3 : (S (quoteT x)).length = (quoteT x).length := S_length _
      have h4 : (S [32]).length = 1 := rfl
      (first | lia | omega)
  unfold JoinOk Builtin.Str.tooLong
  rw [List.foldl_toArray, sizeLine_eq]
  have := key ws 0
  simp only [Bool.not_eq_true', decide_eq_false_iff_not]
  (first | lia | omega)
theorem strJoin_S (sep : Tx) : ∀ ls : List Tx, Str.join (S sep) (ls.map S) = S (sep.intercalate ls)
  | [] => rfl
  | [a] => by simp [Str.join, List.intercalate]
  | a :: b :: r => by
    have ih := strJoin_S sep (b :: r)
    show S a ++ S sep ++ Str.join (S sep) ((b :: r).map S) = _
    rw [ih, S_append, S_append]
    simp [List.intercalate]
theorem join_ws (ws : List Tx) : Txt.join (S [32]) (ws.map fun x => S (quoteT x)) = S (joinT ws) := by
  unfold Txt.join joinT
  rw [StrLaws.glued_eq_join, ← strJoin_S, List.map_map]
  rfl

theorem join_ok {k : Bool} {w : World} {mg mb : Str → Option Value} {A : Around} {s : Shared} {a : Addr} {ws : List Tx} {g : Heap} {oJ : Obj} {Q E : Value → Shared → Prop}
    (W : Wd w mg mb g) (hg : g.StaysIn s.heap) (hJ : s.heap.get? 801 = some oJ) (hgJ : g.get? 801 = none) (jt : JT oJ) (R : Rm A 5 40) (hl : SLs s.heap a ws) (hgd : ∀ l ∈ ws, Good l) (hln : (ws.map fun l => 5 * l.length + 3).sum ≤ 600000) (ha : a ≠ 801)
    (h : ∀ t' s' oJ', (hideAll s.heap [801]).StaysIn s'.heap → s'.heap.get? 801 = some oJ' → JT oJ' → Stp false s s' → Q (.str (S (joinT ws)) t') s') :
    wpAny (model P9 w) A (call (.ref 806) [.ref a]) Q E s := by
  obtain ⟨n, vs, hlo, hvs⟩ := hl
  refine wpAny_call ?_
  refine' enterH (k := false) (D := [(801, oJ)]) (binds := [(Str.ofString "split_command", .ref a)]) W hg ?hD ?hnd R.room ?ho ?hcd ?hb ?hl ?hr ?_ ?h1 ?h2 ?h3 ?h4
  k_call_by "ent" 0
  case hD => intro p hp; rw [List.mem_singleton.mp hp]; exact ⟨hJ, hgJ⟩
  case hnd => exact List.nodup_cons.mpr ⟨List.not_mem_nil, List.nodup_nil⟩
  intro L s1 WH hgh C hL
  refine hideQ fun Qt hQt => ?_
  k_call_by "go" 0
  with_reducible refine GM.join ?_
  k_call_by "go" 0
  have hsz1 : 801 < s.heap.objs.size := Heap.lt_size hJ
  have hlt1 : ∀ b o, s.heap.get? b = some o → b < s1.heap.objs.size := fun b o e => by
    have h2 : L < s1.heap.objs.size := C.F.ns.lt
    rw [hL] at h2
    exact Nat.lt_trans (Heap.lt_size e) h2
  refine wpAny_GeneratorExp_walksQD (cl := []) (R.deeper (d := 4) (u := 37)).hand rfl (by kernel_rfl) (by decide +kernel) (by k_call_by "kd" 0) (by k_call_by "kd" 0) rfl (R.deeper (d := 4) (u := 37)).room ?_ (fun _ => rfl)
  k_call_by "ld" 0
  rename_i s2 t2 C2
  have gl : (hideAll s.heap [801]).get? a = some (listOf vs.toArray n) := hideAll_get _ hlo (by simpa using ha)
  have hl2 : s2.heap.IsList a vs.toArray := ⟨_, C2.keep _ _ gl, rfl, n, rfl⟩
  have hs2 : s.heap.objs.size < s2.heap.objs.size := by
    have h2 : L < s2.heap.objs.size := C2.F.ns.lt
    rw [hL] at h2; exact h2
  refine wpAny_pyIter_list hl2 ?_
  have k3 : s2.heap.StaysIn (s2.heap.push { cls := .type "list_iterator", data := .fields #[.ref a, .int 0 0] }) := fun b o e => Heap.get?_push_of_some _ e
  have sub3 : (hideAll s.heap [801]).StaysIn (s2.heap.push { cls := .type "list_iterator", data := .fields #[.ref a, .int 0 0] }) := fun b o e => k3 b o (C2.keep b o e)
  refine ⟨(WH.keeps sub3).lim, ?_⟩
  obtain ⟨ps, hcode, htab⟩ := isCodeJ (WH.keeps sub3).X (k3 _ _ (C2.get (List.mem_cons_self ..))) jt
  refine genexprJ rfl hcode htab fun code h4 tk4 ps4 hx4 hcode4 htab4 => ?_
  have n801 : (hideAll s.heap [801]).get? 801 = none := hideAll_none _ (List.mem_cons_self ..)
  have k4 : (hideAll s.heap [801]).StaysIn h4 := fun b o e => hx4 b o (by rintro rfl; rw [n801] at e; cases e) (sub3 b o e)
  have W4 := WH.keeps k4
  obtain ⟨bm, ob, BM⟩ := W4.B
  refine wpAny_builtinsFor BM.ns BM.name BM.ne BM.obj BM.cls BM.dict BM.data ?_
  have hne : a ≠ s2.heap.objs.size := Nat.ne_of_lt (Nat.lt_trans (Heap.lt_size hlo) hs2)
  have hI801 : s2.heap.objs.size ≠ 801 := Nat.ne_of_gt (Nat.lt_trans hsz1 hs2)
  have hI4 : h4.get? s2.heap.objs.size = some { cls := .type "list_iterator", data := .fields #[.ref a, .int 0 0] } := hx4 _ _ hI801 (Heap.get?_push_size _ rfl)
  have hl4 : h4.IsList a vs.toArray := ⟨_, k4 _ _ gl, rfl, n, rfl⟩
  have hclt : cStatics < s2.heap.objs.size := Nat.lt_trans (Nat.lt_trans (by decide) hsz1) hs2
  have inwr : ∀ b o, (hideAll s.heap [801]).get? b = some o → b ≠ s2.heap.objs.size := fun b o e => Nat.ne_of_lt (Nat.lt_trans (Heap.lt_size (of_hideAll _ e)) hs2)
  refine ⟨s2.heap.objs.size, [s2.heap.objs.size, a], [s2.heap.objs.size], vs.toArray.size, fun i v => vs.toArray[i]? = some v, fun i h => h.IsListIter s2.heap.objs.size a i ∧ h.IsList a vs.toArray, fun _ => true,
    fun i y => ∃ t x, ws[i]? = some x ∧ y = .str (S (quoteT x)) t, rfl, fun A' hA => Walks.list hA _ a hne vs.toArray, ⟨⟨_, hI4, rfl, rfl⟩, hl4⟩, ?g1, W4.lim, ?g2, ?g3, ?g4⟩
  case g1 =>
    intro b hb
    simp only [List.mem_cons, List.not_mem_nil, or_false] at hb
    rcases hb with rfl | rfl
    · exact Heap.lt_size hI4
    · exact Heap.lt_size (k4 _ _ gl)
  case g2 => exact fun q => Nat.ne_of_lt hclt (List.mem_singleton.mp q)
  case g3 =>
    intro href hh
    refine ⟨fun A' E' i v s₂ m₂ hA hd hu hP hns hm hk => wpAny_pure ⟨rfl, s₂.heap, s₂.toks, rfl, fun _ _ e => e⟩, fun A' E' i v s₂ m₂ hA hd hu hP _ hns hm hk => ?_⟩
    have sub5 : (hideAll s.heap [801]).StaysIn s₂.heap := fun b o e => hk b (List.mem_range.mpr (Heap.lt_size (k4 b o e))) (fun q => inwr b o e (List.mem_singleton.mp q)) o (hh b o (k4 b o e))
    have W5 := WH.keeps sub5
    have R5 : Rm A' 2 10 := ⟨hA, by have := R.depth; have : (A.deeper (envOf (Str.ofString "join") { kind := .function, names := [(Str.ofString "split_command", .local)], isGenerator := false, isCoroutine := false } L 806 (.ref 805))).depth = A.depth + 1 := rfl; (first | lia | omega),
      by have := R.units; have : (A.deeper (envOf (Str.ofString "join") { kind := .function, names := [(Str.ofString "split_command", .local)], isGenerator := false, isCoroutine := false } L 806 (.ref 805))).units = A.units + 3 := rfl; (first | lia | omega)⟩
    obtain ⟨tv, x, rfl, hx⟩ := hvs.get (by simpa using hP)
    refine Call_ ?_
    refine Name_function_global rfl (by k_call_by "kd" 0) (loadGlobal_global (v := .ref 814) W5.T.g (mg_of W5.X W5.T.g (by k_is)) ?_)
    refine ck (K := Mine.hd.heap_1 w.params) (by kernel_rfl) (ea1 ?_)
    refine wpAny_Name (wpAny_loadName_local rfl (by k_call_by "kd" 0) hns hm ?_)
    have hmem : x ∈ ws := List.mem_of_getElem? hx
    have hxl : x.length ≤ 300000 := by
      have h1 : 5 * x.length + 3 ≤ (ws.map fun l => 5 * l.length + 3).sum := le_sum_mem (List.mem_map_of_mem (f := fun l : Tx => 5 * l.length + 3) hmem)
      (first | lia | omega)
    refine ⟨W5.X, quote_ok W5 R5 (hgd x hmem) hxl fun t' s' k st => ⟨⟨t', x, hx, rfl⟩, s'.heap, s'.toks, ?_, k⟩⟩
    obtain ⟨h', g', d', tk', os'⟩ := s'
    obtain ⟨e1, _, e4⟩ := st
    obtain ⟨e2, e3⟩ := e4 rfl
    dsimp only at e1 e2 e3
    rw [e1, e2, e3]
  case g4 =>
    intro a5 h5 tk5 gs hgs hlt5 hsz5 hk5 W5 hG5
    show wpAny (model P9 w) _ (call (.builtin "str.join") [.str (Str.ofString " ") t2, .ref a5]) _ _ _
    rw [show Str.ofString " " = S [32] from by decide +kernel]
    have hpas : passing (fun _ => true) vs.toArray.size 0 = List.range vs.length := by
      unfold passing
      rw [List.drop_zero, List.filter_eq_self.mpr (fun _ _ => rfl), List.size_toArray]
    refine SC.joinGen W5.in4_2 (fun i s st => st.1.typeIs) hG5 ?q1 (List.mem_cons_self ..) ?q2 ?q3 ?q4
    case q1 =>
      intro b hb
      show b < h5.objs.size
      rw [hsz5]
      rcases List.mem_cons.mp hb with rfl | hb
      · exact Nat.lt_succ_self _
      · rcases List.mem_cons.mp hb with rfl | hb
        · exact Nat.lt_succ_of_lt hlt5
        · exact Nat.lt_succ_of_lt (Nat.lt_trans (List.mem_range.mp hb) hlt5)
    case q2 =>
      rintro i v ⟨i', _, t, x, _, rfl⟩
      exact ⟨_, _, rfl⟩
    case q3 =>
      intro s' l hm hacc
      have htx : l.map (·.1) = ws.map fun x => S (quoteT x) := by
        have hln1 : l.length = vs.length := by
          have q := hacc.1
          rw [hpas, List.length_range] at q
          simpa [strValues] using q
        have hln2 : vs.length = ws.length := hvs.length
        apply List.ext_getElem?
        intro j
        by_cases hj : j < l.length
        · obtain ⟨i', hi', t, x, hx, hv⟩ := hacc.2 j (.str l[j].1 l[j].2) (by simp [strValues, List.getElem?_eq_getElem hj])
          rw [hpas, List.getElem?_range (by (first | lia | omega))] at hi'
          cases hi'
          injection hv with h1 _
          simp [List.getElem?_eq_getElem hj, hx, h1]
        · rw [List.getElem?_eq_none (by simpa using Nat.le_of_not_lt hj), List.getElem?_eq_none (by simp; (first | lia | omega))]
      rw [htx]
      refine ⟨joinOk_ws ws hln, fun t' k' => ?_⟩
      rw [join_ws]
      obtain ⟨oJ', hoJ', jt'⟩ := isCodeJ_back hcode4 htab4
      have nwr : ∀ b, b < s2.heap.objs.size → b ∉ (h4.objs.size :: [s2.heap.objs.size]) := fun b hb q => by
        rcases List.mem_cons.mp q with q | q
        · exact Nat.lt_irrefl _ (Nat.lt_trans (q ▸ hb) (Heap.lt_size hI4))
        · exact Nat.ne_of_lt hb (List.mem_singleton.mp q)
      refine hQt.op _ _ ?_
      refine h t' ⟨s'.heap, s'.gens, s'.drawn, k', s'.os⟩ oJ' (fun b o e => hm.heap b o (nwr b (Nat.lt_trans (Heap.lt_size (of_hideAll _ e)) hs2)) (hk5 b o (k4 b o e)))
        (hm.heap 801 _ (nwr 801 (Nat.lt_trans hsz1 hs2)) (hk5 801 _ hoJ')) jt' ⟨?_, fun hb => ?_, fun q => by cases q⟩
      · exact hm.os.trans C2.st.os
      · exact GenOnlyQ.bare hm.gens (AllBare.push (C2.st.gens hb) hgs)
    case q4 =>
      have h1 : vs.length = ws.length := hvs.length
      have h2 : ws.length ≤ (ws.map fun l => 5 * l.length + 3).sum := len_le_sum ws
      rw [hpas, List.length_range, sizeLine_eq]
      (first | lia | omega)
/-! instances: a dict of attributes that stands in the ledger -/
noncomputable def DNs (n : Nat) (o : Obj) (m : Str → Option Value) : Prop := ∃ es ep, o.data = .dict es ep ∧ StrKeys es ∧ (∀ name, nsFind es name = m name) ∧ es.size ≤ n
theorem DNs.put {n : Nat} {o : Obj} {m : Str → Option Value} (x : DNs n o m) (name : Str) (hs : Int) (tk : Tok) (v : Value) : DNs (if (m name).isSome then n else n + 1) (Obj.putName name hs (.str name tk) v o) (upd m name v) ∧ (Obj.putName name hs (.str name tk) v o).isFreed = false := by
  obtain ⟨es, ep, h1, h2, h3, h4⟩ := x
  obtain ⟨c, d, dt, sl⟩ := o
  dsimp only at h1
  subst h1
  cases hi : es.findIdx? (·.key.isStr name) with
  | some i =>
    have he : (m name).isSome = true := by
      rw [← h3 name]
      unfold nsFind
      rw [findBy_of_findIdx?, show (es.findIdx? fun e => (fun n v => v.isStr n) name e.key) = some i from hi]
      have := (Array.findIdx?_eq_some_iff_getElem.mp hi).1
      simp [this]
    rw [if_pos he]
    have e : Obj.putName name hs (.str name tk) v ⟨c, d, .dict es ep, sl⟩ = ⟨c, d, .dict (es.modify i fun e => { e with val := v }) ep, sl⟩ := by simp only [Obj.putName_eq, Obj.putNameByArray, hi]
    rw [e]
    refine ⟨⟨_, _, rfl, h2.modify _ _, fun y => ?_, by rw [Array.size_modify]; exact h4⟩, rfl⟩
    show _ = if y = name then some v else m y
    rw [← h3]; exact findBy_modify (fun n v => v.isStr n) Value.isStr_inj es name y v i hi
  | none =>
    have e : Obj.putName name hs (.str name tk) v ⟨c, d, .dict es ep, sl⟩ = ⟨c, d, .dict (es.push ⟨hs, .str name tk, v⟩) (ep + 1), sl⟩ := by simp only [Obj.putName_eq, Obj.putNameByArray, hi]
    have he : (m name).isSome = false := by
      rw [← h3 name]
      unfold nsFind
      rw [findBy_of_findIdx?, show (es.findIdx? fun e => (fun n v => v.isStr n) name e.key) = none from hi]
      rfl
    rw [if_neg (by rw [he]; exact Bool.false_ne_true), e]
    refine ⟨⟨_, _, rfl, h2.push _ _ _ _, fun y => ?_, by rw [Array.size_push]; (first | lia | omega)⟩, rfl⟩
    show _ = if y = name then some v else m y
    rw [← h3]
    exact findBy_push (fun n v => v.isStr n) es name y _ _ v (fun y => by
      show (name == y) = decide (y = name)
      by_cases h : y = name
      · subst h; simp
      · have : ¬ name = y := fun e => h e.symm
        simp [h, this]) hi
theorem DNs.set {n : Nat} {o : Obj} {m : Str → Option Value} {M : Model} {A : Around} {E : Value → Shared → Prop} {s : Shared} {a : Addr} {name : Str} {v : Value} {Q : Unit → Shared → Prop} (x : DNs n o m) (ho : s.heap.get? a = some o)
    (h : ∀ o' h', DNs (if (m name).isSome then n else n + 1) o' (upd m name v) → Heap.SameBut a s.heap h' → h'.get? a = some o' → Q () ⟨h', s.gens, s.drawn, s.toks + 1, s.os⟩) : wpAny M A (nsSet a name v) Q E s := by
  have P := x.put name (PyData.keyHash M.w.params name) s.toks v
  obtain ⟨es, ep, h1, h2, _, _⟩ := x
  unfold nsSet
  refine wpAny_bind (wpAny_bind (wpAny_askSetting (wpAny_pure (wpAny_bind (wpAny_mkText (wpAny_bind (wpAny_loadPart ho ?_)))))))
  rw [h1]
  try dsimp only
  have hany : es.any (·.refKey) = false := by
    rw [Array.any_eq_false']; intro e he; obtain ⟨n, t, q⟩ := h2 e he; simp [DictEntry.refKey, q]
  rw [aRefKeyMayBeTheName_eq]
  simp only [aRefKeyMayBeTheNameByArray, hany, Bool.and_false, Bool.false_eq_true, if_false]
  refine wpAny_updatePart ho ?_
  exact h _ _ P.1 (Heap.SameBut.update ..) (Heap.get?_update_self _ ho P.2)
theorem DNs.look {n : Nat} {o : Obj} {m : Str → Option Value} (x : DNs n o m) (name : Str) : lookIn name o = some (m name) := by
  obtain ⟨es, ep, h1, h2, h3, _⟩ := x
  unfold lookIn
  rw [h1]
  try dsimp only
  rw [← h3 name]
  unfold nsFind findBy
  rw [← Array.find?_toList]
  cases hf : es.toList.find? (fun e => e.key.isStr name) with
  | some e => rfl
  | none =>
    have : es.toList.any (·.refKey) = false := by
      rw [List.any_eq_false]
      intro e he
      obtain ⟨n, t, q⟩ := h2 e (Array.mem_toList_iff.mp he)
      unfold DictEntry.refKey
      rw [q]
      exact Bool.false_ne_true
    simp [this]
theorem DNs.empty : DNs 0 (dictOf [] 0) (fun _ => none) := ⟨#[], 0, rfl, fun e he => absurd he (by simp), fun _ => rfl, Nat.le_refl _⟩
theorem DNs.shadow {n : Nat} {o : Obj} {m : Str → Option Value} (x : DNs n o m) (name : Str) : shadowIn (some o) name = some (m name).isSome := by
  unfold shadowIn
  show (lookIn name o).map _ = _
  rw [x.look name]; rfl

noncomputable def attrOk (K : Frag) (C : Addr) (name : Str) : Bool := plainGet K C name && hasDictIn K C && findIn K (.ref C) name == some none
noncomputable def setOk (K : Frag) (C : Addr) (name : Str) : Bool := findIn K (.ref C) "__setattr__" == some (some (.builtin "object.__setattr__")) && plainOver K C && takerIn K C name == some none && (clsIn K C).any (·.hasDict)
noncomputable def methOk (K : Frag) (C : Addr) (name : Str) (f : Addr) : Bool := plainGet K C name && findIn K (.ref C) name == some (some (.ref f)) && typeIn K (.ref f) == some (.type "function")

section
variable {k : Bool} {w : World} {A : Around} {E : Value → Shared → Prop} {s₀ s : Shared} {g : Heap} {L : Addr} {m ma mg mb : Str → Option Value} {news : List (Addr × Obj)} {x dx C : Addr} {o : Obj} {name : Str} {v : Value} {n : Nat}
theorem inst_at (D : Cx k s₀ g L s m news) (hi : (x, instObj C dx) ∈ news) (hd : (dx, o) ∈ news) : W.InstAt s.heap x (instObj C dx) C (some o) :=
  ⟨D.get hi, rfl, rfl, D.get hd⟩
theorem r_geta {expr : Bool} {Q : Value → Shared → Prop} (D : Cx k s₀ g L s m news) (W : Wd w mg mb g) (hi : (x, instObj C dx) ∈ news) (hd : (dx, o) ∈ news) (hN : DNs n o ma) (ha : attrOk (Mine.hd.heap_1 w.params) C name = true)
    (hv : ma name = some v) (hh : handedIn v = true) (h : ∀ s', Cx k s₀ g L s' m news → Q v s') : wpAny (model P9 w) A (getAttr (.ref x) name expr) Q E s := by
  unfold attrOk at ha
  simp only [Bool.and_eq_true, beq_iff_eq] at ha
  obtain ⟨⟨h1, h2⟩, h3⟩ := ha
  exact get_value (Kin W D) (inst_at D hi hd) (plainGet_of h1).1 (findObj_own h2 h3 rfl (by rw [hN.look, hv])) hh (h _ D.toks)
theorem r_getm {f : Addr} {pl : Sem Bool} {Q : Value × List Value → Shared → Prop} (D : Cx k s₀ g L s m news) (W : Wd w mg mb g) (hi : (x, instObj C dx) ∈ news) (hd : (dx, o) ∈ news) (hN : DNs n o ma) (ha : methOk (Mine.hd.heap_1 w.params) C name f = true)
    (hv : ma name = none) (h : Q (.ref f, [.ref x]) s) : wpAny (model P9 w) A (getMethod (.ref x) name pl) Q E s := by
  unfold methOk at ha
  simp only [Bool.and_eq_true, beq_iff_eq] at ha
  obtain ⟨⟨h1, h2⟩, h3⟩ := ha
  exact method_fn (Kin W D) (inst_at D hi hd) (plainGet_of h1).1 (plainGet_of h1).2 h2 h3 (by rw [hN.shadow, hv]; rfl) h
theorem r_seta {nf : Obj → List (Addr × Obj)} {Q : Unit → Shared → Prop} (D : Cx k s₀ g L s m news) (W : Wd w mg mb g) (hi : (x, instObj C dx) ∈ news) (U : ∀ o', Up dx o o' news (nf o')) (hN : DNs n o ma) (ha : setOk (Mine.hd.heap_1 w.params) C name = true)
    (hz : n ≤ 1000)
    (h : ∀ o' s', DNs (if (ma name).isSome then n else n + 1) o' (upd ma name v) → Cx k s₀ g L s' m (nf o') → Q () s') : wpAny (model P9 w) A (setAttr (.ref x) name v) Q E s := by
  unfold setOk at ha
  simp only [Bool.and_eq_true, beq_iff_eq] at ha
  obtain ⟨⟨⟨h1, h2⟩, h3⟩, h4⟩ := ha
  have I := inst_at D hi (U o).mem
  have X := Kin W D
  refine set_plain X I h1 ?_
  have D1 : Cx k s₀ g L ⟨s.heap, s.gens, s.drawn, s.toks + 1, s.os⟩ m news := D.toks
  refine osa_open (s := ⟨s.heap, s.gens, s.drawn, s.toks + 1, s.os⟩) X I h2 h3 fun b => ?_
  obtain ⟨cd, hc, hd'⟩ := any_some h4
  have hx := I.at_
  refine wpAny_bind (wpAny_pure (wpAny_bind (wpAny_bind (wpAny_loadPart hx (wpAny_bind (Looks.here (s := ⟨s.heap, s.gens, s.drawn, s.toks + 1, s.os⟩) (looks_clsIn X hc) ?_))))))
  rw [hd']
  refine wpAny_pure (a := some dx) (wpAny_bind (wpAny_pure (wpAny_bind ?_)))
  refine DNs.set hN (D.get (U o).mem) fun o' h' hN' hs ho' => ?_
  have D2 := D1.up (t := s.toks + 1 + 1) (U o') hs ho'
  obtain ⟨es, ep, e1, _, _, e4⟩ := id hN'
  refine wpAny_bind (wpAny_lookBehind ho' (by rw [e1]; exact pastItsLine_dict (by
    have : es.size ≤ n + 1 := Nat.le_trans e4 (by split <;> (first | lia | omega))
    rw [sizeLine_eq]; (first | lia | omega))) ?_)
  refine wpAny_pure ?_
  exact h o' _ hN' D2
end
/-! more values -/
section
variable {w : World} {A : Around} {E : Value → Shared → Prop} {k : Bool} {s₀ s : Shared} {g : Heap} {L : Addr} {m : Str → Option Value} {news : List (Addr × Obj)} {M : Model}
theorem r_typeint {i : Int} {u : Tok} {Q : Value → Shared → Prop} (h : Q (.type "int") s) : wpAny (model P9 w) A (call (.type "type") [.int i u]) Q E s := call_type_of (typeIs_int s i u) (by decide) h
theorem r_typestr {x : Str} {u : Tok} {Q : Value → Shared → Prop} (h : Q (.type "str") s) : wpAny (model P9 w) A (call (.type "type") [.str x u]) Q E s := call_type_of (typeIs_str s x u) (by decide) h
theorem r_len {l : Tx} {u : Tok} {Q : Value → Shared → Prop} (C : Cx k s₀ g L s m news) (hl : l.length ≤ 2000000) (h : ∀ t s', Cx k s₀ g L s' m news → Q (.int l.length t) s') : wpAny (model P9 w) A (call (.builtin "len") [.str (S l) u]) Q E s :=
  PyProof.Rows.len_str (by rw [S_length]; (first | lia | omega)) (by rw [S_length]; exact h _ _ C.toks)
theorem r_add {a b : Int} {t u : Tok} {Q : Value → Shared → Prop} (C : Cx k s₀ g L s m news) (h : ∀ t' s', Cx k s₀ g L s' m news → Q (.int (a + b) t') s') : wpAny (model P9 w) A (binaryOp .Add (.int a t) (.int b u)) Q E s := PyProof.Rows.add_int (h _ _ C.toks)
theorem r_neg {a : Int} {t : Tok} {Q : Value → Shared → Prop} (C : Cx k s₀ g L s m news) (h : ∀ t' s', Cx k s₀ g L s' m news → Q (.int (-a) t') s') : wpAny (model P9 w) A (unaryOp .USub (.int a t)) Q E s := PySem.P.neg_int (h _ _ C.toks)
theorem r_slice {value slice : Expr} {i j : Int} {ui uj t : Tok} {l : Tx} {Q : Value → Shared → Prop} (C : Cx k s₀ g L s m news) (hl : l.length ≤ 2000000) (h : ∀ t' s', Cx k s₀ g L s' m news → Q (.str (Txt.slice (S l) (some i) (some j)) t') s')
    (hs : subscripted slice false (.str (S l) t) (.ref s.heap.objs.size) = operate [.ref s.heap.objs.size, .str (S l) t] (getItem (.str (S l) t) (.ref s.heap.objs.size)) := by with_unfolding_all rfl)
    (ht : ∀ r, letTemporaryGo value (.str (S l) t) r = pure () := by intro _; with_unfolding_all rfl) :
    wpAny (model P9 w) A (subscriptTail value slice (.str (S l) t) (.ref s.heap.objs.size)) Q E { s with heap := s.heap.push { cls := .type "slice", data := .fields #[.int i ui, .int j uj, .none] } } :=
  slice_strN_ss C.F C.N (fun h' t' k F N => h t' _ (C.at F N C.nd)) hs ht (by rw [S_length, sizeLine_eq]; (first | lia | omega))
theorem slice_S {l : Tx} {i j : Nat} (hij : i ≤ j) (hj : j ≤ l.length) : Txt.slice (S l) (some (i : Int)) (some (j : Int)) = S ((l.drop i).take (j - i)) := by
  have h := slice_closes (x := S l) (i := i) (j := j) ⟨by (first | lia | omega), by (first | lia | omega), by show (j : Int) ≤ (l.length : Nat); (first | lia | omega)⟩
  have h' := eq_of_beq h
  rw [h', show ((j : Int) - (i : Int)).toNat = j - i from by (first | lia | omega)]
  rfl
end
theorem Cx.all {k : Bool} {s₀ s s' : Shared} {L : Addr} {m : Str → Option Value} {D : List (Addr × Obj)} (C : Cx k s₀ (hideAll s.heap (D.map (·.1))) L s' m D) (h : ∀ p ∈ D, s.heap.get? p.1 = some p.2) : s.heap.StaysIn s'.heap := fun b o e => by
  by_cases hb : b ∈ D.map (·.1)
  · obtain ⟨p, hp, rfl⟩ := List.mem_map.mp hb
    have := h p hp
    rw [e] at this
    cases this
    exact C.get hp
  · exact C.keep _ _ (hideAll_get _ e hb)
section
variable {k : Bool} {w : World} {A : Around} {E : Value → Shared → Prop} {s₀ s : Shared} {g : Heap} {L : Addr} {m ma mg mb : Str → Option Value} {news : List (Addr × Obj)} {x dx C : Addr} {o : Obj} {name : Str} {v v0 : Value} {n : Nat}
/-- a field that is there -/
theorem r_setx {nf : Obj → List (Addr × Obj)} {Q : Unit → Shared → Prop} (D : Cx k s₀ g L s m news) (W : Wd w mg mb g) (hi : (x, instObj C dx) ∈ news) (hd : (dx, o) ∈ news) (hN : DNs n o ma) (U : ∀ o', Up dx o o' news (nf o')) (ha : setOk (Mine.hd.heap_1 w.params) C name = true)
    (hv : ma name = some v0) (hz : n ≤ 1000) (h : ∀ o' s', DNs n o' (upd ma name v) → Cx k s₀ g L s' m (nf o') → Q () s') : wpAny (model P9 w) A (setAttr (.ref x) name v) Q E s :=
  r_seta D W hi U hN ha hz fun o' s' hN' C' => h o' s' (by rwa [hv] at hN') C'
/-- a field that is new -/
theorem r_setn {nf : Obj → List (Addr × Obj)} {Q : Unit → Shared → Prop} (D : Cx k s₀ g L s m news) (W : Wd w mg mb g) (hi : (x, instObj C dx) ∈ news) (hd : (dx, o) ∈ news) (hN : DNs n o ma) (U : ∀ o', Up dx o o' news (nf o')) (ha : setOk (Mine.hd.heap_1 w.params) C name = true)
    (hv : ma name = none) (hz : n ≤ 1000) (h : ∀ o' s', DNs (n + 1) o' (upd ma name v) → Cx k s₀ g L s' m (nf o') → Q () s') : wpAny (model P9 w) A (setAttr (.ref x) name v) Q E s :=
  r_seta D W hi U hN ha hz fun o' s' hN' C' => h o' s' (by rwa [hv] at hN') C'
end
theorem upd_none {m : Str → Option Value} {x y : Str} {v : Value} (h : y ≠ x) (k : m y = none) : upd m x v y = none := (if_neg h).trans k
/-! loops, texts in texts, tuples of texts -/
noncomputable def inS (x y : Str) : Bool := !(Builtin.Str.occurrences x y 0 x.length 1).isEmpty
section
variable {w : World} {A : Around} {E : Value → Shared → Prop} {k : Bool} {s₀ s : Shared} {g : Heap} {L : Addr} {m : Str → Option Value} {news : List (Addr × Obj)} {env : Env}
theorem r_in {x y : Str} {t u : Tok} {b : Bool} {Q : Value → Shared → Prop} (hb : inS x y = b) (h : Q (.bool b) s) : wpAny (model P9 w) A (compareOp .In (.str y u) (.str x t)) Q E s := PyProof.Rows.in_str (by subst hb; exact h)
theorem r_notin {x y : Str} {t u : Tok} {b : Bool} {Q : Value → Shared → Prop} (hb : inS x y = b) (h : Q (.bool (!b)) s) : wpAny (model P9 w) A (compareOp .NotIn (.str y u) (.str x t)) Q E s := PyProof.Rows.notIn_str (by subst hb; exact h)
theorem r_eqs {x y : Str} {t u : Tok} {Q : Value → Shared → Prop} {b : Bool} (hb : (x == y) = b) (h : Q (.bool b) s) : wpAny (model P9 w) A (compareOp .Eq (.str x t) (.str y u)) Q E s := PyProof.Rows.eq_str (by rw [hb]; exact h)
theorem r_nes {x y : Str} {t u : Tok} {Q : Value → Shared → Prop} {b : Bool} (hb : (x == y) = b) (h : Q (.bool (!b)) s) : wpAny (model P9 w) A (compareOp .NotEq (.str x t) (.str y u)) Q E s := PyProof.Rows.ne_str (by rw [show (x != y) = !b from by rw [← hb]; rfl]; exact h)
theorem r_t_nil {t : Tok} {Q : Bool → Shared → Prop} (C : Cx k s₀ g L s m news) (h : ∀ s', Cx k s₀ g L s' m news → Q false s') : wpAny (model P9 w) A (truthy (.str (S []) t)) Q E s := r_truthy_S C (by decide) fun s' C' _ => h s' C'
theorem r_t_cons {c : Nat} {t : Tok} {Q : Bool → Shared → Prop} (C : Cx k s₀ g L s m news) (h : ∀ s', Cx k s₀ g L s' m news → Q true s') : wpAny (model P9 w) A (truthy (.str (S [c]) t)) Q E s := r_truthy_S C (by simp) fun s' C' _ => h s' C'
theorem r_tup2 {y1 y2 : Str} {k1 k2 k' : Nat} {p1 p2 pos : Pos} {Q : Value → Shared → Prop} (C : Cx k s₀ g L s m news)
    (h : ∀ b s' t1 t2, Cx k s₀ g L s' m news → IsTup s'.heap b #[.str y1 t1, .str y2 t2] → Q (.ref b) s') :
    wpAny (model P9 w) A (eval (.Tuple [.Constant (.str y1) k1 p1, .Constant (.str y2) k2 p2] k' pos) env) Q E s := by
  refine Tuple_ ?_
  show wpAny (model P9 w) A (spliced [(false, eval (.Constant (.str y1) k1 p1) env), (false, eval (.Constant (.str y2) k2 p2) env)]) _ _ _
  refine spliced_cons (r_str C fun s1 t1 C1 => spliced_cons (r_str C1 fun s2 t2 C2 => spliced_nil ?_))
  refine newTuple_N C2.F C2.N (fun h' F' N' => ?_) (by rw [sizeLine_eq]; show 2 ≤ 16777216; (first | lia | omega))
  exact h _ _ t1 t2 ⟨C2.st.trans .heap, F', fun p hp => N' p (.tail _ hp), C2.nd⟩ ⟨_, (N' _ (.head _)).1, rfl, _, rfl⟩
theorem r_intup2 {x y1 y2 : Str} {b : Addr} {t1 t2 u : Tok} {r : Bool} {Q : Value → Shared → Prop} (ht : IsTup s.heap b #[.str y1 t1, .str y2 t2]) (hr : ([y1, y2].any (· == x)) = r) (h : Q (.bool r) s) : wpAny (model P9 w) A (compareOp .In (.str x u) (.ref b)) Q E s :=
  in_tuple_strs (ys := [y1, y2]) ht (StrsAre.cons _ _ (StrsAre.cons _ _ StrsAre.nil)) (by rw [hr]; exact h)
theorem r_while {test : Expr} {body : List Stmt} {pos : Pos} {Q : Flow → Shared → Prop} {M : Model} (I : Nat → Shared → Prop)
    (turn : ∀ n s', I n s' → wpAny (model P9 w) A (isTrue test env (eval test env)) (fun b s₂ => if b = true then wpAny (model P9 w) A (execs body env) (fun f s₃ => match f with
        | .next | .cont => ∃ m, m < n ∧ I m s₃
        | .brk => Q .next s₃
        | .ret v => Q (.ret v) s₃) (fun _ _ => False) s₂ else Q .next s₂) (fun _ _ => False) s')
    (n : Nat) (h : I n s) : wpAny (model P9 w) A (exec (.While test body [] pos) env) Q E s := by
  refine wpAny_While (codeAny_whileLoop I (fun n s' hI => ?_) n h)
  refine wpAny_mono (turn n s' hI) (fun b s₂ h₂ => ?_) fun _ _ z => z.elim
  cases b with
  | false => simp only [Bool.false_eq_true, if_false] at h₂ ⊢; exact wpAny_execs_nil h₂
  | true =>
    simp only [if_true] at h₂ ⊢
    refine wpAny_mono h₂ (fun f s₃ h₃ => ?_) fun _ _ z => z.elim
    cases f <;> exact h₃
theorem r_whileH {test : Expr} {body : List Stmt} {pos : Pos} {Q : Flow → Shared → Prop} {M : Model} (I : Nat → Shared → Prop)
    (turn : ∀ n s', I n s' → ∀ Qt : Flow → Shared → Prop, Opens (fun f s₃ => match f with
        | .next | .cont => ∃ m, m < n ∧ I m s₃
        | .brk => Q .next s₃
        | .ret v => Q (.ret v) s₃) Qt → wpAny (model P9 w) A (isTrue test env (eval test env)) (fun b s₂ => if b = true then wpAny (model P9 w) A (execs body env) Qt (fun _ _ => False) s₂ else Q .next s₂) (fun _ _ => False) s')
    (n : Nat) (h : I n s) : wpAny (model P9 w) A (exec (.While test body [] pos) env) Q E s := r_while (M := M) I (fun n s' hI => turn n s' hI _ ⟨fun _ _ z => z⟩) n h
end
local macro_rules | `(tactic| k_call_by "hid" 0) => `(tactic| ((case hi => k_call_by "mem" 0); (case hd => k_call_by "mem" 0); (case hN => k_call_by "wa" 0)))
local macro_rules | `(tactic| k_call_by "ga" 0) => `(tactic| (refine' r_geta (by k_call_by "wa" 0) (by k_call_by "wa" 0) ?hi ?hd ?hN ?ha ?hv ?hh ?_; k_call_by "hid" 0; (case ha => kernel_rfl); (case hv => k_call_by "lk" 0); (case hh => rfl); intro _ _))
local macro_rules | `(tactic| k_call_by "gm" 0) => `(tactic| ((with_reducible show wpAny _ _ (getMethod (Value.ref _) _ _) _ _ _); refine' r_getm (by k_call_by "wa" 0) (by k_call_by "wa" 0) ?hi ?hd ?hN ?ha ?hv ?_; k_call_by "hid" 0; (case ha => kernel_rfl); (case hv => k_call_by "lk" 0)))
local macro_rules | `(tactic| k_call_by "sxB" 0) => `(tactic| (k_call_by "hid" 0; (case U => k_call_by "up" 0); (case ha => kernel_rfl); (case hv => k_call_by "lk" 0); (case hz => decide); intro _ _ _ _))
local macro_rules | `(tactic| k_call_by "sx" 0) => `(tactic| ((with_reducible show wpAny _ _ (setAttr (Value.ref _) _ _) _ _ _); refine' r_setx (by k_call_by "wa" 0) (by k_call_by "wa" 0) ?hi ?hd ?hN ?U ?ha ?hv ?hz ?_; k_call_by "sxB" 0))
local macro_rules | `(tactic| k_call_by "sn" 0) => `(tactic| ((with_reducible show wpAny _ _ (setAttr (Value.ref _) _ _) _ _ _); refine' r_setn (by k_call_by "wa" 0) (by k_call_by "wa" 0) ?hi ?hd ?hN ?U ?ha ?hv ?hz ?_; k_call_by "sxB" 0))
local macro_rules | `(tactic| k_call_by "xl" 0) => `(tactic| first
  | with_reducible refine r_typeint ?_
  | with_reducible refine r_typestr ?_
  | with_reducible refine PySem.call_int_int ?_
  | ((with_reducible refine' r_len (by k_call_by "wa" 0) ?hl ?_); (case hl => (first | lia | omega)); intro _ _ _))
local macro_rules | `(tactic| k_call_by "xc" 0) => `(tactic| first
  | with_reducible refine isnot_type_same ?_
  | with_reducible refine is_none_none ?_
  | ((with_reducible refine' is_none_ne ?hn ?_); (case hn => intro q; cases q))
  | with_reducible refine PyProof.Rows.gt_int ?_
  | with_reducible refine PyProof.Rows.lt_int ?_
  | with_reducible refine PyProof.Rows.ge_int ?_
  | with_reducible refine PyProof.Rows.eq_int ?_
  | with_reducible refine PyProof.Rows.le_int ?_)
local macro_rules | `(tactic| k_call_by "xb" 0) => `(tactic| first
  | ((with_reducible refine' r_neg (by k_call_by "wa" 0) ?_); intro _ _ _)
  | ((with_reducible refine' r_add (by k_call_by "wa" 0) ?_); intro _ _ _))
theorem index_ok {k : Bool} {w : World} {mg mb : Str → Option Value} {A : Around} {s : Shared} {y : Str} {t u : Tok} {Q E : Value → Shared → Prop}
    (W : Wd w mg mb s.heap) (R : Rm A 1 4) (h : ∀ t' s', s.heap.StaysIn s'.heap → Stp k s s' → Q (.int 1 t') s') :
    wpAny (model P9 w) A (call (.ref 160) [.int 1 t, .str y u]) Q E s := by
  refine wpAny_call ?_
  refine' enter (k := k) (binds := [(Str.ofString "n", .int 1 t), (Str.ofString "what", .str y u)]) W R.room ?ho ?hcd ?hb ?hl ?hr ?_ ?h1 ?h2 ?h3 ?h4
  k_call_by "ent" 0
  intro L s1 C hL
  refine hideQ fun Qt hQt => ?_
  k_call_by "go" 0
  exact h _ _ (Cx.keep (by assumption)) (Cx.st (by assumption))
/-- the stream: the text B, p signs read -/
noncomputable def Strm (o : Obj) (B : Tx) (p : Nat) : Prop := ∃ m tb tp, DNs 3 o m ∧ m (Str.ofString "_StringIO__buf") = some (.str (S B) tb) ∧ m (Str.ofString "_StringIO__pos") = some (.int p tp) ∧ m (Str.ofString "_StringIO__check") = none ∧ m (Str.ofString "read") = none
theorem check_ok {k : Bool} {w : World} {mg mb : Str → Option Value} {A : Around} {s : Shared} {g : Heap} {x dx : Addr} {o : Obj} {B : Tx} {p : Nat} {Q E : Value → Shared → Prop}
    (W : Wd w mg mb g) (hg : g.StaysIn s.heap) (hD : ∀ q ∈ [(x, instObj 694 dx), (dx, o)], s.heap.get? q.1 = some q.2 ∧ g.get? q.1 = none) (hne : x ≠ dx) (hS : Strm o B p) (R : Rm A 1 4)
    (h : ∀ s', s.heap.StaysIn s'.heap → Stp k s s' → Q .none s') :
    wpAny (model P9 w) A (call (.ref 478) [.ref x]) Q E s := by
  obtain ⟨ma, tb, tp, hN, hb, hp, hc, hr⟩ := hS
  refine wpAny_call ?_
  refine' enterH (k := k) (D := [(x, instObj 694 dx), (dx, o)]) (binds := [(Str.ofString "self", .ref x)]) W hg hD (by simp [hne]) R.room ?ho ?hcd ?hb ?hl ?hr ?_ ?h1 ?h2 ?h3 ?h4
  k_call_by "ent" 0
  intro L s1 WH hgh C hL
  refine hideQ fun Qt hQt => ?_
  k_call_by "go" 0
  exact h _ (Cx.all (by assumption) fun q hq => (hD q hq).1) (Cx.st (by assumption))
theorem r_check {k : Bool} {w : World} {mg mb m : Str → Option Value} {A : Around} {s₀ s : Shared} {g : Heap} {L x dx : Addr} {o : Obj} {B : Tx} {p : Nat} {news : List (Addr × Obj)} {Q E : Value → Shared → Prop}
    (C : Cx k s₀ g L s m news) (W : Wd w mg mb g) (hi : (x, instObj 694 dx) ∈ news) (hd : (dx, o) ∈ news) (hne : x ≠ dx) (hS : Strm o B p) (R : Rm A 1 4)
    (h : ∀ s', Cx k s₀ g L s' m news → Q .none s') : wpAny (model P9 w) A (call (.ref 478) [.ref x]) Q E s := by
  refine check_ok (k := k) (o := o) (dx := dx) W C.keep (fun q hq => ?_) hne hS R fun s' k' st => h s' (C.back0 k' st)
  have hq' : q ∈ news := by
    rcases List.mem_cons.mp hq with rfl | hq
    · exact hi
    · rw [List.mem_singleton.mp hq]; exact hd
  exact ⟨C.get hq', (C.N q hq').2.2⟩
theorem r_index {k : Bool} {w : World} {mg mb m : Str → Option Value} {A : Around} {s₀ s : Shared} {g : Heap} {L : Addr} {y : Str} {t u : Tok} {news : List (Addr × Obj)} {Q E : Value → Shared → Prop}
    (C : Cx k s₀ g L s m news) (W : Wd w mg mb g) (R : Rm A 1 4)
    (h : ∀ t' s', Cx k s₀ g L s' m news → Q (.int 1 t') s') : wpAny (model P9 w) A (call (.ref 160) [.int 1 t, .str y u]) Q E s :=
  index_ok (k := k) (W.keeps C.keep) R fun t' s' k' st => h t' s' (C.back0 k' st)
theorem read_ok {k : Bool} {w : World} {mg mb : Str → Option Value} {A : Around} {s : Shared} {g : Heap} {x dx : Addr} {o : Obj} {B : Tx} {p : Nat} {t : Tok} {Q E : Value → Shared → Prop}
    (W : Wd w mg mb g) (hg : g.StaysIn s.heap) (hD : ∀ q ∈ [(x, instObj 694 dx), (dx, o)], s.heap.get? q.1 = some q.2 ∧ g.get? q.1 = none) (hne : x ≠ dx) (hS : Strm o B p) (hB : B.length ≤ 1000000) (hp : p ≤ B.length) (R : Rm A 2 8)
    (h : ∀ t' s' o', (hideAll s.heap [x, dx]).StaysIn s'.heap → s'.heap.get? x = some (instObj 694 dx) → s'.heap.get? dx = some o' → Strm o' B (min (p + 1) B.length) → Stp k s s' → Q (.str (S ((B.drop p).take 1)) t') s') :
    wpAny (model P9 w) A (call (.ref 640) [.ref x, .int 1 t]) Q E s := by
  obtain ⟨ma, tb, tp, hN, hb, hps, hc, hr⟩ := id hS
  refine wpAny_call ?_
  refine' enterH (k := k) (D := [(x, instObj 694 dx), (dx, o)]) (binds := [(Str.ofString "self", .ref x), (Str.ofString "size", .int 1 t)]) W hg hD (by simp [hne]) R.room ?ho ?hcd ?hb ?hl ?hr ?_ ?h1 ?h2 ?h3 ?h4
  k_call_by "entd" 0
  intro L s1 WH hgh C hL
  refine hideQ fun Qt hQt => ?_
  k_call_by "go" 0
  refine r_index (by assumption) WH (Rm.deeper (R.le (by first | decide | (first | lia | omega)) (by first | decide | (first | lia | omega)))) fun _ _ _ => ?_
  k_call_by "go" 0
  refine r_check (by assumption) WH (by k_call_by "mem" 0) (by k_call_by "mem" 0) hne hS (Rm.deeper (R.le (by first | decide | (first | lia | omega)) (by first | decide | (first | lia | omega)))) fun _ _ => ?_
  try dsimp only
  k_call_by "go" 0
  by_cases hlp : B.length ≤ p
  · refine if_t (decide_eq_true (by (first | lia | omega))) ?_
    k_call_by "go" 0
    rename_i C9
    have e : B.drop p = [] := List.drop_eq_nil_of_le hlp
    have this := fun t' => h t' _ o C9.keep (C9.get (p := (x, instObj 694 dx)) (by k_call_by "mem" 0)) (C9.get (p := (dx, o)) (by k_call_by "mem" 0)) (by rw [show min (p + 1) B.length = p from by (first | lia | omega)]; exact hS) C9.st
    simp only [e] at this
    exact this _
  · refine if_f (decide_eq_false (by (first | lia | omega))) ?_
    k_call_by "go" 0
    by_cases h2 : p + 1 < B.length
    · refine if_t (decide_eq_true (by (first | lia | omega))) ?_
      with_reducible refine isTrue_and_nil ?_
      k_call_by "go" 0
      refine r_slice (by with_reducible assumption) (by (first | lia | omega)) fun t9 s9 C9 => ?_
      have e : Txt.slice (S B) (some (p : Int)) (some ((p : Int) + 1)) = S ((B.drop p).take 1) := by
        have := slice_S (l := B) (i := p) (j := p + 1) (by (first | lia | omega)) (by (first | lia | omega))
        rwa [show p + 1 - p = 1 from by (first | lia | omega)] at this
      rw [e]
      refine hQt.op _ _ ?_
      exact h t9 s9 _ C9.keep (C9.get (p := (x, instObj 694 dx)) (by k_call_by "mem" 0)) (C9.get (p := (dx, _)) (by k_call_by "mem" 0)) ⟨_, tb, _, by with_reducible assumption, upd_there (ne_q (by exact Eq.refl false)) hb, by rw [show min (p + 1) B.length = p + 1 from by (first | lia | omega)]; exact upd_here, upd_none (ne_q (by exact Eq.refl false)) hc, upd_none (ne_q (by exact Eq.refl false)) hr⟩ C9.st
    · refine if_f (decide_eq_false (by (first | lia | omega))) ?_
      k_call_by "go" 0
      refine r_slice (by with_reducible assumption) (by (first | lia | omega)) fun t9 s9 C9 => ?_
      have e : Txt.slice (S B) (some (p : Int)) (some (B.length : Int)) = S ((B.drop p).take 1) := by
        have := slice_S (l := B) (i := p) (j := B.length) (by (first | lia | omega)) (by (first | lia | omega))
        rwa [show B.length - p = 1 from by (first | lia | omega)] at this
      rw [e]
      refine hQt.op _ _ ?_
      exact h t9 s9 _ C9.keep (C9.get (p := (x, instObj 694 dx)) (by k_call_by "mem" 0)) (C9.get (p := (dx, _)) (by k_call_by "mem" 0)) ⟨_, tb, _, by with_reducible assumption, upd_there (ne_q (by exact Eq.refl false)) hb, by rw [show min (p + 1) B.length = B.length from by (first | lia | omega)]; exact upd_here, upd_none (ne_q (by exact Eq.refl false)) hc, upd_none (ne_q (by exact Eq.refl false)) hr⟩ C9.st
local macro_rules | `(tactic| k_call_by "fx" 0) => `(tactic| first | k_call_by "wa" 0 | ((show _ = false); decide +kernel) | ((show _ = true); decide +kernel))
local macro_rules | `(tactic| k_call_by "xc" 0) => `(tactic| first
  | ((with_reducible refine' r_in ?hb ?_); (case hb => k_call_by "fx" 0))
  | ((with_reducible refine' r_notin ?hb ?_); (case hb => k_call_by "fx" 0))
  | ((with_reducible refine' r_eqs ?hb ?_); (case hb => k_call_by "fx" 0))
  | ((with_reducible refine' r_nes ?hb ?_); (case hb => k_call_by "fx" 0))
  | ((with_reducible refine' r_intup2 (by k_call_by "wa" 0) ?hr ?_); (case hr => k_call_by "fx" 0)))
local macro_rules | `(tactic| k_call_by "xy" 0) => `(tactic| first
  | ((with_reducible refine r_t_nil (by k_call_by "wa" 0) ?_); intro _ _)
  | ((with_reducible refine r_t_cons (by k_call_by "wa" 0) ?_); intro _ _))
local macro_rules | `(tactic| k_call_by "xe" 0) => `(tactic| ((with_reducible refine r_tup2 (by k_call_by "wa" 0) ?_); intro _ _ _ _ _ _))
local macro_rules | `(tactic| k_call_by "xs" 0) => `(tactic| with_reducible refine wpAny_AugAssign_AttributeAny ?_)
/-! the lexer -/
noncomputable def WC : Str := Str.ofString "abcdfeghijklmnopqrstuvwxyzABCDEFGHIJKLMNOPQRSTUVWXYZ0123456789_" ++ Str.ofString "ßàáâãäåæçèéêëìíîïðñòóôõöøùúûüýþÿÀÁÂÃÄÅÆÇÈÉÊËÌÍÎÏÐÑÒÓÔÕÖØÙÚÛÜÝÞ"
structure LxS (ma : Str → Option Value) (x q1 q2 : Addr) : Prop where
  instream : ma (Str.ofString "instream") = some (.ref x)
  posix : ma (Str.ofString "posix") = some (.bool true)
  eof : ma (Str.ofString "eof") = some .none
  commenters : ∃ t, ma (Str.ofString "commenters") = some (.str (S []) t)
  wordchars : ∃ t, ma (Str.ofString "wordchars") = some (.str WC t)
  whitespace : ∃ t, ma (Str.ofString "whitespace") = some (.str (Str.ofString " \t\r\n") t)
  wsplit : ma (Str.ofString "whitespace_split") = some (.bool true)
  quotes : ∃ t, ma (Str.ofString "quotes") = some (.str (Str.ofString "'\"") t)
  escape : ∃ t, ma (Str.ofString "escape") = some (.str (Str.ofString "\\") t)
  escq : ∃ t, ma (Str.ofString "escapedquotes") = some (.str (Str.ofString "\"") t)
  pushback : ma (Str.ofString "pushback") = some (.ref q1)
  filestack : ma (Str.ofString "filestack") = some (.ref q2)
  debug : ∃ t, ma (Str.ofString "debug") = some (.int 0 t)
  source : ma (Str.ofString "source") = some .none
  punct : ∃ t, ma (Str.ofString "_punctuation_chars") = some (.str (S []) t)
  noRead : ma (Str.ofString "read_token") = none
  noGet : ma (Str.ofString "get_token") = none
theorem LxS.setD {ma : Str → Option Value} {x q1 q2 : Addr} (X : LxS ma x q1 q2) {n : Str} {v : Value} (h : n = Str.ofString "state" ∨ n = Str.ofString "token") : LxS (Mine.upd ma n v) x q1 q2 := by
  have key : ∀ a : String, a ≠ "state" → a ≠ "token" → Mine.upd ma n v (Str.ofString a) = ma (Str.ofString a) := fun a h1 h2 => by
    refine if_neg fun e => ?_
    rcases h with q | q
    · exact h1 (ofString_inj (e.trans q))
    · exact h2 (ofString_inj (e.trans q))
  obtain ⟨a1, a2, a3, a4, a5, a6, a7, a8, a9, a10, a11, a12, a13, a14, a15, a16, a17⟩ := X
  constructor <;> (rw [key _ (by decide) (by decide)]; assumption)

theorem punct_ok {k : Bool} {w : World} {mg mb m ma : Str → Option Value} {A : Around} {s₀ s : Shared} {g : Heap} {L lx dl : Addr} {ol : Obj} {n : Nat} {y : Str} {t : Tok} {expr : Bool} {news : List (Addr × Obj)} {Q E : Value → Shared → Prop}
    (C : Cx k s₀ g L s m news) (W : Wd w mg mb g) (hi : (lx, instObj 787 dl) ∈ news) (hd : (dl, ol) ∈ news) (hN : DNs n ol ma) (hp : ma (Str.ofString "_punctuation_chars") = some (.str y t)) (hne : lx ≠ dl) (R : Rm A 1 8)
    (h : ∀ s', Cx k s₀ g L s' m news → Q (.str y t) s') : wpAny (model P9 w) A (getAttr (.ref lx) (Str.ofString "punctuation_chars") expr) Q E s := by
  refine' get_prop (p := 719) (fget := 718) C.F W.X (inst_at C hi hd) ?a1 ?a2 ?a3 ?a4 ?a5 ?a6 ?_
  case a1 => kernel_rfl
  case a2 => kernel_rfl
  case a3 => k_is
  case a4 => k_is
  case a5 => k_is
  case a6 => k_is
  have D0 : Cx k s₀ g L { s with toks := s.toks + 1 } m news := C.toks
  have hq : ∀ q ∈ [(lx, instObj 787 dl), (dl, ol)], q ∈ news := fun q hq => by
    rcases List.mem_cons.mp hq with rfl | hq
    · exact hi
    · rw [List.mem_singleton.mp hq]; exact hd
  refine' enterH (k := k) (D := [(lx, instObj 787 dl), (dl, ol)]) (binds := [(Str.ofString "self", .ref lx)]) W D0.keep (fun q h => ⟨D0.get (hq q h), (C.N q (hq q h)).2.2⟩) (by simp [hne]) R.in1.room ?ho ?hcd ?hb ?hl ?hr ?_ ?h1 ?h2 ?h3 ?h4
  k_call_by "ent" 0
  intro L1 s1 WH hgh C1 hL
  refine hideQ fun Qt hQt => ?_
  k_call_by "go" 0
  rename_i C2
  have st2 := C2.st
  have C3 := D0.back0 (C2.all fun q h => D0.get (hq q h)) st2
  try dsimp only
  rw [handedOut_of rfl]
  exact wpAny_pure (h _ C3)
noncomputable def fin (tok : Tx) (q : Bool) : Option Tx := if tok = [] ∧ q = false then none else some tok
noncomputable def lexF : Option Nat → Tx → Bool → Tx → Option (Option Tx × Tx × Option Nat)
  | none, tok, q, [] => if tok = [] ∧ q = false then some (none, [], none) else none
  | none, _, _, _ :: _ => none
  | some st, tok, q, [] => if st = 32 ∨ st = 97 then some (fin tok q, [], none) else none
  | some st, tok, q, c :: r =>
    if st = 32 then (if c = 97 ∨ c = 98 then lexF (some 97) [c] q r else if c = 39 then lexF (some 39) tok q r else none)
    else if st = 97 then (if c = 32 then (if tok = [] ∧ q = false then none else some (fin tok q, r, some 32)) else if c = 39 ∨ c = 34 then lexF (some c) tok q r else if c = 97 ∨ c = 98 then lexF (some 97) (tok ++ [c]) q r else none)
    else if st = 39 then (if c = 39 then lexF (some 97) tok true r else lexF (some 39) (tok ++ [c]) true r)
    else if st = 34 then (if c = 34 then lexF (some 97) tok true r else if c = 39 then lexF (some 34) (tok ++ [c]) true r else none)
    else none
noncomputable def stIs : Option Nat → Value → Prop
  | none, v => v = .none
  | some c, v => ∃ y t, v = .str y t ∧ y = S [c]
theorem r_iadd_S {w : World} {A : Around} {E : Value → Shared → Prop} {k : Bool} {s₀ s : Shared} {g : Heap} {L : Addr} {m : Str → Option Value} {news : List (Addr × Obj)} {l l' : Tx} {t u : Tok} {Q : Value → Shared → Prop} (C : Cx k s₀ g L s m news) (hl : l.length + l'.length ≤ 2000000) (h : ∀ t' s', Cx k s₀ g L s' m news → Q (.str (S (l ++ l')) t') s') :
    wpAny (model P9 w) A (inplaceOp .Add (.str (S l) t) (.str (S l') u)) Q E s :=
  iadd_str (fun t' tk => by rw [S_append]; exact h t' _ C.toks) (by rw [S_length, S_length, sizeLine_eq]; (first | lia | omega))
theorem a_nl : ∀ c ∈ alpha, (S [c] == Str.ofString "\n") = false := by decide +kernel
theorem a_ws : ∀ c ∈ alpha, inS (Str.ofString " \t\r\n") (S [c]) = decide (c = 32) := by decide +kernel
theorem a_com : ∀ c ∈ alpha, inS (S []) (S [c]) = false := by decide +kernel
theorem a_esc : ∀ c ∈ alpha, inS (Str.ofString "\\") (S [c]) = decide (c = 92) := by decide +kernel
theorem a_wc : ∀ c ∈ alpha, inS WC (S [c]) = decide (c = 97 ∨ c = 98) := by decide +kernel
theorem a_q : ∀ c ∈ alpha, inS (Str.ofString "'\"") (S [c]) = decide (c = 39 ∨ c = 34) := by decide +kernel
theorem r_read {k : Bool} {w : World} {mg mb m : Str → Option Value} {A : Around} {s₀ s : Shared} {g : Heap} {L x dx : Addr} {o : Obj} {B : Tx} {p : Nat} {t : Tok} {R : List (Addr × Obj)} {Q E : Value → Shared → Prop}
    (C : Cx k s₀ g L s m ((x, instObj 694 dx) :: (dx, o) :: R)) (W : Wd w mg mb g) (hS : Strm o B p) (hB : B.length ≤ 1000000) (hp : p ≤ B.length) (Rr : Rm A 2 8)
    (h : ∀ t' s' o', Cx k s₀ g L s' m ((x, instObj 694 dx) :: (dx, o') :: R) → Strm o' B (min (p + 1) B.length) → Q (.str (S ((B.drop p).take 1)) t') s') :
    wpAny (model P9 w) A (call (.ref 640) [.ref x, .int 1 t]) Q E s := by
  have hne : x ≠ dx := by
    have := C.nd
    simp only [List.map_cons, List.nodup_cons, List.mem_cons, not_or] at this
    exact this.1.1
  refine read_ok (k := k) W C.keep (fun q hq => ?_) hne hS hB hp Rr fun t' s' o' h1 h2 h3 h4 st => h t' s' o' ?_ h4
  · have hq' : q ∈ (x, instObj 694 dx) :: (dx, o) :: R := by
      rcases List.mem_cons.mp hq with rfl | hq
      · exact .head _
      · rw [List.mem_singleton.mp hq]; exact .tail _ (.head _)
    exact ⟨C.get hq', (C.N q hq').2.2⟩
  · refine Cx.back (D := [(x, instObj 694 dx), (dx, o)]) (D' := [(x, instObj 694 dx), (dx, o')]) (g' := hideAll s.heap [x, dx]) C (fun b o e hb => hideAll_get _ e hb) h1 st (fun q hq => ?_) rfl
    rcases List.mem_cons.mp hq with rfl | hq
    · exact h2
    · rw [List.mem_singleton.mp hq]; exact h3

inductive Lc (k : Bool) (s₀ : Shared) (g : Heap) (L x dx lx dl q1 q2 : Addr) (B : Tx) (s : Shared) (p : Nat) (st : Option Nat) (tok : Tx) (q : Bool) : Prop
  | mk (m : Str → Option Value) (sv : Value) (tv : Str) (tt : Tok) (ox ol : Obj) (ma : Str → Option Value) (hC : Cx k s₀ g L s m [(x, instObj 694 dx), (dx, ox), (lx, instObj 787 dl), (dl, ol)]) (h1 : Strm ox B p) (h2 : DNs 19 ol ma) (h3 : LxS ma x q1 q2)
    (h4 : ma (Str.ofString "state") = some sv) (h5 : stIs st sv) (h6 : ma (Str.ofString "token") = some (.str tv tt)) (h7 : tv = S tok) (h8 : m (Str.ofString "self") = some (.ref lx)) (h9 : m (Str.ofString "quoted") = some (.bool q))
    (h10 : p ≤ B.length) (h11 : tok.length ≤ p) : Lc k s₀ g L x dx lx dl q1 q2 B s p st tok q
inductive Lst (k : Bool) (s₀ : Shared) (g : Heap) (L x dx lx dl q1 q2 : Addr) (B : Tx) (R : Option Tx × Tx × Option Nat) (n : Nat) (s : Shared) : Prop
  | mk (p : Nat) (st : Option Nat) (tok : Tx) (q : Bool) (h1 : Lc k s₀ g L x dx lx dl q1 q2 B s p st tok q) (h2 : lexF st tok q (B.drop p) = some R) (h3 : n = (B.drop p).length) : Lst k s₀ g L x dx lx dl q1 q2 B R n s
inductive Aft (k : Bool) (s₀ : Shared) (g : Heap) (L x dx lx dl q1 q2 : Addr) (B : Tx) (R : Option Tx × Tx × Option Nat) (s : Shared) : Prop
  | mk (p : Nat) (tok : Tx) (q : Bool) (h1 : Lc k s₀ g L x dx lx dl q1 q2 B s p R.2.2 tok q) (h2 : fin tok q = R.1) (h3 : B.drop p = R.2.1) : Aft k s₀ g L x dx lx dl q1 q2 B R s
theorem fx0 : (S [32] == Str.ofString " ") = true := by decide +kernel
theorem fx1 : (S [97] == Str.ofString " ") = false := by decide +kernel
theorem fx2 : (S [39] == Str.ofString " ") = false := by decide +kernel
theorem fx3 : (S [34] == Str.ofString " ") = false := by decide +kernel
theorem fx4 : inS (Str.ofString "'\"") (S [97]) = false := by decide +kernel
theorem fx5 : inS (Str.ofString "'\"") (S [39]) = true := by decide +kernel
theorem fx6 : inS (Str.ofString "'\"") (S [34]) = true := by decide +kernel
theorem fx7 : inS (Str.ofString "\\") (S [97]) = false := by decide +kernel
theorem fx8 : inS (Str.ofString "\\") (S [39]) = false := by decide +kernel
theorem fx9 : inS (Str.ofString "\"") (S [39]) = false := by decide +kernel
theorem fx10 : inS (Str.ofString "\"") (S [34]) = true := by decide +kernel
theorem fx11 : (S [97] == Str.ofString "c") = false := by decide +kernel
theorem fx12 : (S [39] == S [39]) = true := by decide +kernel
theorem fx13 : (S [34] == S [34]) = true := by decide +kernel
theorem fx14 : (S [39] == S [34]) = false := by decide +kernel
theorem fx15 : ([Str.ofString "a", Str.ofString "c"].any (· == S [97])) = true := by decide +kernel
theorem fx16 : (Str.ofString "" == Str.ofString "") = true := by decide +kernel
theorem fx17 : (S [] == Str.ofString "") = true := by decide +kernel
/-! an empty deque -/
noncomputable def deqObj : Obj := { cls := .type "collections.deque", dict := none, data := .fields #[.none, rawInt 0] }
theorem dq_mro : mroOf (.type "collections.deque") = pure [.type "collections.deque", .type "object"] := by rw [mroOf_type]; kernel_rfl
theorem dq_new : typeLookup (.type "collections.deque") "__new__" = pure (some (.builtin "collections.deque.__new__")) := by rw [typeLookup_type, builtinLookup_eq_fast]; kernel_rfl
theorem dq_nobool : typeLookup (.type "collections.deque") "__bool__" = pure none := by rw [typeLookup_type, builtinLookup_eq_fast]; kernel_rfl
theorem dq_slot_len : Slot "collections.deque" "__len__" "collections.deque.__len__" :=
  .of (owner := "collections.deque") (n := "__len__") (by rw [typeLookup_type, builtinLookup_eq_fast]; kernel_rfl) (by decide +kernel) (by decide +kernel) (by decide +kernel)
    (by first | exact .inl (by decide +kernel) | exact .inr (by decide +kernel)) (by rw [isSubtype_type]; kernel_rfl)
theorem dq_entry_len : entryFor table "collections.deque.__len__" = some Builtin.«collections.deque.__len__» := entryFor_of_tree (by kernel_rfl)
theorem dq_args_len (a : Value) : argsOk "collections.deque.__len__" ⟨[a], []⟩ := by unfold argsOk; kernel_rfl
theorem dq_slot_init : Slot "collections.deque" "__init__" "collections.deque.__init__" :=
  .of (owner := "collections.deque") (n := "__init__") (by rw [typeLookup_type, builtinLookup_eq_fast]; kernel_rfl) (by decide +kernel) (by decide +kernel) (by decide +kernel)
    (by first | exact .inl (by decide +kernel) | exact .inr (by decide +kernel)) (by rw [isSubtype_type]; kernel_rfl)
theorem dq_entry_init : entryFor table "collections.deque.__init__" = some Builtin.«collections.deque.__init__» := entryFor_of_tree (by kernel_rfl)
theorem dq_args_init (a : Value) : argsOk "collections.deque.__init__" ⟨[a], []⟩ := by unfold argsOk; kernel_rfl
theorem dq_entry_new : entryFor table "collections.deque.__new__" = some Builtin.«collections.deque.__new__» := entryFor_of_tree (by kernel_rfl)
theorem dq_sub : isSubtype (.type "collections.deque") (.type "collections.deque") = pure true := by rw [isSubtype_type]; kernel_rfl
theorem dq_called : TypeCalled "collections.deque" "collections.deque.__new__" "collections.deque.__init__" :=
  ⟨by decide +kernel, by decide +kernel, ⟨_, _, dq_mro⟩, madeBy_type dq_mro dq_new (by decide +kernel), by decide +kernel, dq_sub, dq_slot_init⟩
theorem dq_typeCall : checkTypeCall "collections.deque" ⟨[], []⟩ = pure () := by kernel_rfl
theorem dq_newCall : checkBuiltinCall "collections.deque.__new__" ⟨[.type "collections.deque"], []⟩ = pure () := by kernel_rfl
theorem dq_size {M : Model} {A : Around} {E : Value → Shared → Prop} {s : Shared} {a : Addr} {Q : Nat → Shared → Prop} (ho : s.heap.get? a = some deqObj) (h : Q 0 s) : wpAny M A (PySem.Builtin.Deque.size (.ref a)) Q E s := by
  unfold PySem.Builtin.Deque.size fieldsOf
  refine wpAny_bind (wpAny_bind (wpAny_loadPart ho ?_))
  exact wpAny_pure (wpAny_pure h)
theorem dq_meets_len (a : Addr) : Meets (Builtin.«collections.deque.__len__» ⟨[.ref a], []⟩) (fun _ R s => s.heap.get? a = some deqObj ∧ R (.ok (.ret (.int 0 s.toks))) { s with toks := s.toks + 1 }) := by
  intro prog w A R s h
  obtain ⟨ho, hR⟩ := h
  unfold Builtin.«collections.deque.__len__»
  refine wpAny_bind (m := slotArgs "__len__" 0 _) (wpAny_pure ?_)
  exact wpAny_bind (dq_size ho (wpAny_bind (wpAny_mkInt (wpAny_pure hR))))
theorem truthy_dq {prog : Program} {w : World} {A : Around} {E : Value → Shared → Prop} {s : Shared} {a : Addr} {Q : Bool → Shared → Prop} (ho : s.heap.get? a = some deqObj) (h : Q false { s with toks := s.toks + 1 + 1 }) : wpAny (model prog w) A (truthy (.ref a)) Q E s := by
  have hT : s.TypeIs (.ref a) "collections.deque" := ⟨_, ho, rfl⟩
  have key : wpAny (model prog w) A (runValue (.builtin "len" ⟨[.ref a], []⟩)) (fun r s' => r = .int 0 (s.toks + 1) ∧ Q false s') E s := by
    refine wpAny_runValue (codeAny_builtin entry_len ?_)
    rw [Around.under_plainId plain_len _]
    unfold Builtin.«len»
    refine wpAny_bind (m := oneArg "len" _) (wpAny_pure ?_)
    refine wpAny_bind (m := callSpecial? (.ref a) (Str.ofString "__len__")) (wpAny_callSpecial?_slot (name := Str.ofString "__len__") hT dq_slot_len
      (call_meets dq_slot_len hT dq_entry_len (dq_args_len _) (dq_meets_len a) ⟨ho, ?_⟩))
    show wpAny _ _ _ _ _ { s with toks := s.toks + 1 }
    refine wpAny_bind (wpAny_holding (wpAny_pure ?_))
    refine wpAny_bind (wpAny_letGo ?_)
    show wpAny _ _ (if (0 : Int) < 0 then _ else _) _ _ _
    rw [if_neg (by (first | lia | omega))]
    show wpAny _ _ (if (0 : Int) ≥ 2 ^ 63 then _ else _) _ _ _
    rw [if_neg (by (first | lia | omega))]
    exact wpAny_bind (wpAny_mkInt (wpAny_pure ⟨rfl, h⟩))
  unfold truthy
  first
    | refine wpAny_bind (wpAny_callSpecial?_none (name := Str.ofString "__bool__") hT dq_nobool ?_)
    | refine wpAny_bind (wpAny_pure (wpAny_bind (wpAny_callSpecial?_none (name := Str.ofString "__bool__") hT dq_nobool ?_)))
  first
    | refine wpAny_bind (wpAny_specialOf (name := Str.ofString "__len__") hT dq_slot_len.lookup ?_)
    | refine wpAny_bind (wpAny_pure (wpAny_bind (wpAny_specialOf (name := Str.ofString "__len__") hT dq_slot_len.lookup ?_)))
  first
    | exact wpAny_bind (wpAny_mono key (fun r s' h' => by obtain ⟨rfl, hq⟩ := h'; exact wpAny_pure hq) fun _ _ e => e)
    | exact wpAny_bind (wpAny_pure (wpAny_bind (wpAny_mono key (fun r s' h' => by obtain ⟨rfl, hq⟩ := h'; exact wpAny_pure hq) fun _ _ e => e)))
theorem dq_meets_new (x : Unit) : Meets (Builtin.«collections.deque.__new__» ⟨[.type "collections.deque"], []⟩) (fun _ R s => R (.ok (.ret (.ref s.heap.objs.size))) { s with heap := s.heap.push deqObj }) := by
  intro prog w A R s h
  unfold Builtin.«collections.deque.__new__» PySem.Builtin.Deque.newArgs
  have hsub := dq_sub
  obtain ⟨hp, g, d, tk, os⟩ := s
  try dsimp only
  wp_walk
  rw [show isSubtype (.type "collections.deque") (.type PySem.Builtin.Deque.ty) = pure true from dq_sub]
  refine wpAny_pure (wpAny_pure ?_)
  unfold PySem.Builtin.Deque.new
  wp_walk
  exact h
theorem dq_meets_init (a : Addr) : Meets (Builtin.«collections.deque.__init__» ⟨[.ref a], []⟩) (fun _ R s => s.heap.get? a = some deqObj ∧ (∀ h', Heap.SameBut a s.heap h' → h'.get? a = some deqObj → R (.ok (.ret .none)) { s with heap := h' })) := by
  intro prog w A R s h
  obtain ⟨ho, hR⟩ := h
  unfold Builtin.«collections.deque.__init__»
  obtain ⟨hp, g, d, tk, os⟩ := s
  try dsimp only
  wp_walk
  exact hR _ (Heap.SameBut.update ..) (Heap.get?_update_self _ ho rfl)
theorem call_dq {prog : Program} {w : World} {A : Around} {E : Value → Shared → Prop} {s : Shared} {Q : Value → Shared → Prop}
    (h : ∀ h', (∀ b o, s.heap.get? b = some o → h'.get? b = some o) → h'.get? s.heap.objs.size = some deqObj → Q (.ref s.heap.objs.size) { s with heap := h' }) : wpAny (model prog w) A (call (.type "collections.deque") []) Q E s := by
  refine callType_meets (Q₁ := fun obj s₁ => obj = .ref s.heap.objs.size ∧ s₁ = { s with heap := s.heap.push deqObj }) dq_called dq_typeCall dq_newCall dq_entry_new dq_entry_init (dq_meets_new ()) ⟨rfl, rfl⟩ ?_
  rintro obj s₁ ⟨rfl, rfl⟩
  have ho : (s.heap.push deqObj).get? s.heap.objs.size = some deqObj := Heap.get?_push_size _ rfl
  refine ⟨⟨_, ho, rfl⟩, dq_args_init _, _, dq_meets_init _, ho, fun h' hs ho' => ⟨rfl, h h' (fun b o e => ?_) ho'⟩⟩
  have hb : b ≠ s.heap.objs.size := Nat.ne_of_lt (Heap.lt_size e)
  rw [hs.2 b hb]
  exact Heap.get?_push_of_some _ e

/-- on the ledger -/
theorem r_dq {w : World} {A : Around} {E : Value → Shared → Prop} {k : Bool} {s₀ s : Shared} {g : Heap} {L : Addr} {m : Str → Option Value} {news : List (Addr × Obj)} {Q : Value → Shared → Prop} (C : Cx k s₀ g L s m news)
    (h : ∀ x s', Cx k s₀ g L s' m ((x, deqObj) :: news) → Q (.ref x) s') : wpAny (model P9 w) A (call (.type "collections.deque") []) Q E s := by
  refine call_dq fun h' hk ho => ?_
  have hx : s.heap.get? s.heap.objs.size = none := by
    cases e : s.heap.get? s.heap.objs.size with
    | none => rfl
    | some o => exact absurd (Heap.lt_size e) (Nat.lt_irrefl _)
  have C' : Cx k s₀ g L ⟨h', s.gens, s.drawn, s.toks, s.os⟩ m news := C.back0 hk .heap
  exact h _ _ (C.more C' hx ho)
theorem r_truthy_dq {w : World} {A : Around} {E : Value → Shared → Prop} {k : Bool} {s₀ s : Shared} {g : Heap} {L a : Addr} {m : Str → Option Value} {news : List (Addr × Obj)} {Q : Bool → Shared → Prop} (C : Cx k s₀ g L s m news) (ha : (a, deqObj) ∈ news)
    (h : ∀ s', Cx k s₀ g L s' m news → Q false s') : wpAny (model P9 w) A (truthy (.ref a)) Q E s := truthy_dq (C.get ha) (h _ C.toks)
local macro_rules | `(tactic| k_call_by "lxs" 0) => `(tactic| repeat (first | with_reducible assumption | refine LxS.setD ?_ (.inl rfl) | refine LxS.setD ?_ (.inr rfl)))
local macro_rules | `(tactic| k_call_by "lc" 0) => `(tactic| exact ⟨_, _, _, _, _, _, _, by with_reducible assumption, by with_reducible assumption, by with_reducible assumption, by k_call_by "lxs" 0, by k_call_by "lk" 0, by first | exact rfl | exact ⟨_, _, rfl, by first | rfl | decide +kernel⟩, by k_call_by "lk" 0, by first | rfl | decide +kernel, by k_call_by "lk" 0, by k_call_by "lk" 0, by (first | lia | omega), by first | (first | lia | omega) | (simp only [List.length_append, List.length_cons, List.length_nil]; (first | lia | omega))⟩)
local macro_rules | `(tactic| k_call_by "pun" 0) => `(tactic| (refine' punct_ok (by with_reducible assumption) (by with_reducible assumption) ?hi ?hd ?hN ?hv ?hne ?hR ?_; (case hi => k_call_by "mem" 0); (case hd => k_call_by "mem" 0); (case hN => with_reducible assumption); (case hv => k_call_by "lk" 0); (case hne => assumption); (case hR => exact Rm.deeper (Rm.le (by assumption) (by (first | lia | omega)) (by (first | lia | omega)))); intro _ _))
local macro_rules | `(tactic| k_call_by "fx" 0) => `(tactic| with_reducible first | exact fx0 | exact fx1 | exact fx2 | exact fx3 | exact fx4 | exact fx5 | exact fx6 | exact fx7 | exact fx8 | exact fx9 | exact fx10 | exact fx11 | exact fx12 | exact fx13 | exact fx14 | exact fx15 | exact fx16 | exact fx17)
local macro_rules | `(tactic| k_call_by "xc" 0) => `(tactic| first
  | with_reducible refine PySem.EqNone.eq_none_none ?_
  | with_reducible refine PySem.EqNone.eq_str_none ?_
  | with_reducible refine isnot_none_none ?_
  | ((with_reducible refine' isnot_none_ne ?hn ?_); (case hn => intro q; cases q)))
local macro_rules | `(tactic| k_call_by "ga" 0) => `(tactic| ((with_reducible show wpAny _ _ (getAttr (Value.ref _) (Str.ofString "punctuation_chars") _) _ _ _); k_call_by "pun" 0))
theorem readtok_ok {k : Bool} {w : World} {mg mb : Str → Option Value} {A : Around} {s : Shared} {g : Heap} {x dx lx dl q1 q2 : Addr} {ox ol : Obj} {ma : Str → Option Value} {B : Tx} {p : Nat} {st : Option Nat} {sv : Value} {r : Option Tx} {rest : Tx} {st' : Option Nat} {tv : Str} {tt : Tok} {Q E : Value → Shared → Prop}
    (W : Wd w mg mb g) (hg : g.StaysIn s.heap) (hD : ∀ q ∈ [(x, instObj 694 dx), (dx, ox), (lx, instObj 787 dl), (dl, ol)], s.heap.get? q.1 = some q.2 ∧ g.get? q.1 = none) (hnd : [x, dx, lx, dl].Nodup)
    (hS : Strm ox B p) (hN : DNs 19 ol ma) (hL : LxS ma x q1 q2) (hst : ma (Str.ofString "state") = some sv) (hsi : stIs st sv) (htk : ma (Str.ofString "token") = some (.str tv tt)) (htv : tv = S []) (hB : B.length ≤ 1000000) (hp : p ≤ B.length) (hG : Good B) (R : Rm A 4 20)
    (hx : lexF st [] false (B.drop p) = some (r, rest, st'))
    (h : ∀ s' ox' ol' ma' p' sv' v', (hideAll s.heap [x, dx, lx, dl]).StaysIn s'.heap → (∀ q ∈ [(x, instObj 694 dx), (dx, ox'), (lx, instObj 787 dl), (dl, ol')], s'.heap.get? q.1 = some q.2) → Strm ox' B p' → p' ≤ B.length → B.drop p' = rest → DNs 19 ol' ma' → LxS ma' x q1 q2 →
      ma' (Str.ofString "state") = some sv' → stIs st' sv' → (∃ tv tt, ma' (Str.ofString "token") = some (.str tv tt) ∧ tv = S []) → (match r with | none => v' = .none | some l => ∃ t, v' = .str (S l) t) → Stp k s s' → Q v' s') :
    wpAny (model P9 w) A (call (.ref 755) [.ref lx]) Q E s := by
  refine wpAny_call ?_
  refine' enterH (k := k) (D := [(x, instObj 694 dx), (dx, ox), (lx, instObj 787 dl), (dl, ol)]) (binds := [(Str.ofString "self", .ref lx)]) W hg hD hnd R.room ?ho ?hcd ?hb ?hl ?hr ?_ ?h1 ?h2 ?h3 ?h4
  k_call_by "ent" 0
  intro L s1 WH hgh C hL'
  refine hideQ fun Qt hQt => ?_
  k_call_by "go" 0
  rename_i C9
  have WH9 : Wd w mg mb (hideAll s.heap [x, dx, lx, dl]) := WH
  have C9' : Cx k s (hideAll s.heap [x, dx, lx, dl]) L _ _ _ := C9
  have hne : lx ≠ dl := by
    simp only [List.nodup_cons, List.mem_cons, not_or] at hnd
    exact hnd.2.2.1.1
  refine wpAny_mono (Q := fun f s' => f = .next ∧ Aft k s (hideAll s.heap [x, dx, lx, dl]) L x dx lx dl q1 q2 B (r, rest, st') s') (E := fun _ _ => False) ?wh ?tail fun _ _ z => z.elim
  case wh =>
    refine r_whileH (M := model P9 w) (Lst k s (hideAll s.heap [x, dx, lx, dl]) L x dx lx dl q1 q2 B (r, rest, st')) ?turn (B.drop p).length ⟨p, st, [], false, ⟨_, sv, tv, tt, ox, ol, ma, C9', hS, hN, hL, hst, hsi, htk, htv, by k_call_by "lk" 0, by k_call_by "lk" 0, hp, Nat.zero_le _⟩, hx, rfl⟩
    rintro n s2 ⟨p2, st2, tok2, qd2, ⟨m2, sv2, tv2, tt2, ox2, ol2, ma2, C2, hS2, hN2, hL2, hst2, hsi2, htk2, htv2, hself, hquo, hp2, htl2⟩, hx2, hn2⟩
    subst htv2
    obtain ⟨f1, f2, f3, ⟨t4, f4⟩, ⟨t5, f5⟩, ⟨t6, f6⟩, f7, ⟨t8, f8⟩, ⟨t9, f9⟩, ⟨t10, f10⟩, f11, f12, ⟨t13, f13⟩, f14, ⟨t15, f15⟩, f16, f17⟩ := id hL2
    obtain ⟨mb2, tb2, tp2, hNx, gb, gp, gc, gr⟩ := id hS2
    clear C C9 C9' WH
    intro Qt hQt
    k_call_by "go" 0
    refine r_read (by with_reducible assumption) WH9 hS2 hB hp2 (Rm.deeper (Rm.le R (by (first | lia | omega)) (by (first | lia | omega)))) fun t3 s3 ox3 C3 hS3 => ?_
    have hcl : ((B.drop p2).take 1 = [] ∧ B.drop p2 = [] ∧ min (p2 + 1) B.length = p2) ∨ ∃ c r2, (B.drop p2).take 1 = [c] ∧ B.drop p2 = c :: r2 ∧ c ∈ alpha ∧ min (p2 + 1) B.length = p2 + 1 ∧ B.drop (p2 + 1) = r2 ∧ p2 + 1 ≤ B.length := by
      cases e : B.drop p2 with
      | nil => exact .inl ⟨rfl, rfl, by have := List.drop_eq_nil_iff.mp e; (first | lia | omega)⟩
      | cons c r2 =>
        have hlt : p2 < B.length := by
          refine Nat.lt_of_not_le fun q => ?_
          rw [List.drop_eq_nil_of_le q] at e; cases e
        refine .inr ⟨c, r2, rfl, rfl, hG c ?_, by (first | lia | omega), ?_, hlt⟩
        · exact List.mem_of_mem_drop (e ▸ List.mem_cons_self ..)
        · rw [← List.drop_drop, e]; rfl
    have hnl : (S ((B.drop p2).take 1) == Str.ofString "\n") = false := by
      rcases hcl with ⟨e, _⟩ | ⟨c, r2, e, _, hc, _⟩
      · rw [e]; decide +kernel
      · rw [e]; exact a_nl c hc
    generalize (B.drop p2).take 1 = l at hcl hnl ⊢
    k_call_by "go" 0
    rcases st2 with _ | c2
    · obtain rfl : sv2 = .none := hsi2
      rcases hcl with ⟨rfl, e1, e2⟩ | ⟨c, r2, rfl, e1, hc, e2, e3, e4⟩
      · rw [e1] at hx2
        simp only [lexF] at hx2
        split at hx2
        · rename_i htq
          obtain ⟨rfl, rfl⟩ := htq
          cases hx2
          rw [e2] at hS3
          k_call_by "go" 0
          refine ⟨rfl, p2, [], false, ?_, rfl, e1⟩
          k_call_by "lc" 0
        · cases hx2
      · rw [e1] at hx2
        cases hx2
    · obtain ⟨y2, ty2, rfl, rfl⟩ := hsi2
      by_cases h32 : c2 = 32
      · subst h32
        rcases hcl with ⟨rfl, e1, e2⟩ | ⟨c, r2, rfl, e1, hc, e2, e3, e4⟩
        · rw [e1] at hx2
          simp only [lexF, true_or, if_true] at hx2
          cases hx2
          rw [e2] at hS3
          k_call_by "go" 0
          refine ⟨rfl, p2, tok2, qd2, ?_, rfl, e1⟩
          k_call_by "lc" 0
        · rw [e1] at hx2
          simp only [lexF, if_true] at hx2
          rw [e2] at hS3
          by_cases hc1 : c = 97 ∨ c = 98
          · rw [if_pos hc1] at hx2
            have g1 : inS (Str.ofString " \t\r\n") (S [c]) = false := by rw [a_ws c hc]; exact decide_eq_false (by (first | lia | omega))
            have g2 : inS (S []) (S [c]) = false := a_com c hc
            have g3 : inS (Str.ofString "\\") (S [c]) = false := by rw [a_esc c hc]; exact decide_eq_false (by (first | lia | omega))
            have g4 : inS WC (S [c]) = true := by rw [a_wc c hc]; exact decide_eq_true hc1
            k_call_by "go" 0
            refine ⟨r2.length, by rw [hn2, e1]; exact Nat.lt_succ_self _, p2 + 1, _, _, _, ?_, by rw [e3]; exact hx2, by rw [e3]⟩
            k_call_by "lc" 0
          · rw [if_neg hc1] at hx2
            split at hx2
            · rename_i hc2
              have g1 : inS (Str.ofString " \t\r\n") (S [c]) = false := by rw [a_ws c hc]; exact decide_eq_false (by (first | lia | omega))
              have g2 : inS (S []) (S [c]) = false := a_com c hc
              have g3 : inS (Str.ofString "\\") (S [c]) = false := by rw [a_esc c hc]; exact decide_eq_false (by (first | lia | omega))
              have g4 : inS WC (S [c]) = false := by rw [a_wc c hc]; exact decide_eq_false (by (first | lia | omega))
              have g5 : inS (Str.ofString "'\"") (S [c]) = true := by rw [a_q c hc]; exact decide_eq_true (by (first | lia | omega))
              subst hc2
              k_call_by "go" 0
              refine ⟨r2.length, by rw [hn2, e1]; exact Nat.lt_succ_self _, p2 + 1, _, _, _, ?_, by rw [e3]; exact hx2, by rw [e3]⟩
              k_call_by "lc" 0
            · cases hx2
      · by_cases h97 : c2 = 97
        · subst h97
          rcases hcl with ⟨rfl, e1, e2⟩ | ⟨c, r2, rfl, e1, hc, e2, e3, e4⟩
          · rw [e1] at hx2
            simp only [lexF, or_true, if_true] at hx2
            cases hx2
            rw [e2] at hS3
            k_call_by "go" 0
            refine ⟨rfl, p2, tok2, qd2, ?_, rfl, e1⟩
            k_call_by "lc" 0
          · rw [e1] at hx2
            simp only [lexF, show ¬ (97 = 32) from by (first | lia | omega), if_false, if_true] at hx2
            rw [e2] at hS3
            by_cases hc1 : c = 32
            · rw [if_pos hc1] at hx2
              split at hx2
              · cases hx2
              · rename_i htq
                cases hx2
                have g1 : inS (Str.ofString " \t\r\n") (S [c]) = true := by rw [a_ws c hc]; exact decide_eq_true (by (first | lia | omega))
                k_call_by "go" 0
                by_cases ht0 : tok2 = []
                · subst ht0
                  have hqt : qd2 = true := by
                    cases qd2 with
                    | true => rfl
                    | false => exact absurd ⟨rfl, rfl⟩ htq
                  subst hqt
                  k_call_by "go" 0
                  refine ⟨rfl, p2 + 1, [], true, ?_, rfl, e3⟩
                  k_call_by "lc" 0
                · refine r_truthy_S (by with_reducible assumption) (by (first | lia | omega)) fun s9 C9 _ => ?_
                  refine if_t (decide_eq_true ht0) ?_
                  k_call_by "go" 0
                  refine ⟨rfl, p2 + 1, tok2, qd2, ?_, rfl, e3⟩
                  k_call_by "lc" 0
            · rw [if_neg hc1] at hx2
              split at hx2
              · rename_i hc2
                have g1 : inS (Str.ofString " \t\r\n") (S [c]) = false := by rw [a_ws c hc]; exact decide_eq_false (by (first | lia | omega))
                have g2 : inS (S []) (S [c]) = false := a_com c hc
                have g5 : inS (Str.ofString "'\"") (S [c]) = true := by rw [a_q c hc]; exact decide_eq_true (by (first | lia | omega))
                k_call_by "go" 0
                refine ⟨r2.length, by rw [hn2, e1]; exact Nat.lt_succ_self _, p2 + 1, _, _, _, ?_, by rw [e3]; exact hx2, by rw [e3]⟩
                k_call_by "lc" 0
              · split at hx2
                · rename_i hc2 hc3
                  have g1 : inS (Str.ofString " \t\r\n") (S [c]) = false := by rw [a_ws c hc]; exact decide_eq_false (by (first | lia | omega))
                  have g2 : inS (S []) (S [c]) = false := a_com c hc
                  have g5 : inS (Str.ofString "'\"") (S [c]) = false := by rw [a_q c hc]; exact decide_eq_false (by (first | lia | omega))
                  have g3 : inS (Str.ofString "\\") (S [c]) = false := by rw [a_esc c hc]; exact decide_eq_false (by (first | lia | omega))
                  have g4 : inS WC (S [c]) = true := by rw [a_wc c hc]; exact decide_eq_true (by (first | lia | omega))
                  k_call_by "go" 0
                  refine r_iadd_S (by with_reducible assumption) (by simp only [List.length_cons, List.length_nil]; (first | lia | omega)) fun t8 s8 C8 => ?_
                  k_call_by "go" 0
                  refine ⟨r2.length, by rw [hn2, e1]; exact Nat.lt_succ_self _, p2 + 1, _, _, _, ?_, by rw [e3]; exact hx2, by rw [e3]⟩
                  k_call_by "lc" 0
                · cases hx2
        · by_cases h39 : c2 = 39
          · subst h39
            rcases hcl with ⟨rfl, e1, e2⟩ | ⟨c, r2, rfl, e1, hc, e2, e3, e4⟩
            · rw [e1] at hx2
              simp only [lexF, show ¬ (39 = 32 ∨ 39 = 97) from by (first | lia | omega), if_false] at hx2
              cases hx2
            · rw [e1] at hx2
              simp only [lexF, show ¬ (39 = 32) from by (first | lia | omega), show ¬ (39 = 97) from by (first | lia | omega), if_false, if_true] at hx2
              rw [e2] at hS3
              by_cases hc1 : c = 39
              · rw [if_pos hc1] at hx2
                subst hc1
                k_call_by "go" 0
                refine ⟨r2.length, by rw [hn2, e1]; exact Nat.lt_succ_self _, p2 + 1, _, _, _, ?_, by rw [e3]; exact hx2, by rw [e3]⟩
                k_call_by "lc" 0
              · rw [if_neg hc1] at hx2
                have g6 : (S [c] == S [39]) = false := by rw [S_beq]; exact decide_eq_false (by intro q; cases q; exact hc1 rfl)
                cases hb : inS (Str.ofString "\\") (S [c]) with
                | true =>
                  k_call_by "go" 0
                  refine r_iadd_S (by with_reducible assumption) (by simp only [List.length_cons, List.length_nil]; (first | lia | omega)) fun t8 s8 C8 => ?_
                  k_call_by "go" 0
                  refine ⟨r2.length, by rw [hn2, e1]; exact Nat.lt_succ_self _, p2 + 1, _, _, _, ?_, by rw [e3]; exact hx2, by rw [e3]⟩
                  k_call_by "lc" 0
                | false =>
                  k_call_by "go" 0
                  refine r_iadd_S (by with_reducible assumption) (by simp only [List.length_cons, List.length_nil]; (first | lia | omega)) fun t8 s8 C8 => ?_
                  k_call_by "go" 0
                  refine ⟨r2.length, by rw [hn2, e1]; exact Nat.lt_succ_self _, p2 + 1, _, _, _, ?_, by rw [e3]; exact hx2, by rw [e3]⟩
                  k_call_by "lc" 0
          · by_cases h34 : c2 = 34
            · subst h34
              rcases hcl with ⟨rfl, e1, e2⟩ | ⟨c, r2, rfl, e1, hc, e2, e3, e4⟩
              · rw [e1] at hx2
                simp only [lexF, show ¬ (34 = 32 ∨ 34 = 97) from by (first | lia | omega), if_false] at hx2
                cases hx2
              · rw [e1] at hx2
                simp only [lexF, show ¬ (34 = 32) from by (first | lia | omega), show ¬ (34 = 97) from by (first | lia | omega), show ¬ (34 = 39) from by (first | lia | omega), if_false, if_true] at hx2
                rw [e2] at hS3
                by_cases hc1 : c = 34
                · rw [if_pos hc1] at hx2
                  subst hc1
                  k_call_by "go" 0
                  refine ⟨r2.length, by rw [hn2, e1]; exact Nat.lt_succ_self _, p2 + 1, _, _, _, ?_, by rw [e3]; exact hx2, by rw [e3]⟩
                  k_call_by "lc" 0
                · rw [if_neg hc1] at hx2
                  split at hx2
                  · rename_i hc2
                    subst hc2
                    k_call_by "go" 0
                    refine r_iadd_S (by with_reducible assumption) (by simp only [List.length_cons, List.length_nil]; (first | lia | omega)) fun t8 s8 C8 => ?_
                    k_call_by "go" 0
                    refine ⟨r2.length, by rw [hn2, e1]; exact Nat.lt_succ_self _, p2 + 1, _, _, _, ?_, by rw [e3]; exact hx2, by rw [e3]⟩
                    k_call_by "lc" 0
                  · cases hx2
            · exfalso
              rcases hcl with ⟨rfl, e1, e2⟩ | ⟨c, r2, rfl, e1, hc, e2, e3, e4⟩ <;> rw [e1] at hx2 <;> simp [lexF, h32, h97, h39, h34] at hx2
  case tail =>
    clear C C9 C9' WH
    rintro f s9 ⟨rfl, p9, tok9, q9, ⟨m9, sv9, tv9, tt9, ox9, ol9, ma9, C9, hS9, hN9, hL9, hst9, hsi9, htk9, htv9, hself, hquo, hp9, htl9⟩, hfin, hrest⟩
    refine hideQ fun Qt hQt => ?_
    subst htv9
    obtain ⟨f1, f2, f3, ⟨t4, f4⟩, ⟨t5, f5⟩, ⟨t6, f6⟩, f7, ⟨t8, f8⟩, ⟨t9, f9⟩, ⟨t10, f10⟩, f11, f12, ⟨t13, f13⟩, f14, ⟨t15, f15⟩, f16, f17⟩ := id hL9
    have hq : (S tok9 == Str.ofString "") = decide (tok9 = []) := by
      rw [show Str.ofString "" = S [] from by decide +kernel, S_beq]
    k_call_by "go" 0
    have fnish : ∀ s' ol' ma' m' v' ttn tvn, Cx k s (hideAll s.heap [x, dx, lx, dl]) L s' m' [(x, instObj 694 dx), (dx, ox9), (lx, instObj 787 dl), (dl, ol')] → DNs 19 ol' ma' → LxS ma' x q1 q2 → ma' (Str.ofString "state") = some sv9 →
        ma' (Str.ofString "token") = some (.str tvn ttn) → tvn = S [] → (match r with | none => v' = .none | some l => ∃ t, v' = .str (S l) t) → Q v' s' := fun s' ol' ma' m' v' ttn tvn C' hN' hL' hs' ht' htv' hv' =>
      h s' ox9 ol' ma' p9 sv9 v' C'.keep (fun q hq => C'.get hq) hS9 hp9 hrest hN' hL' hs' hsi9 ⟨_, _, ht', htv'⟩ hv' C'.st
    cases q9 with
    | true =>
      k_call_by "go" 0
      have hr : r = some tok9 := hfin.symm.trans (if_neg (by simp))
      subst hr
      exact fnish _ _ _ _ _ _ _ (by with_reducible assumption) (by with_reducible assumption) (by k_call_by "lxs" 0) (by k_call_by "lk" 0) (by k_call_by "lk" 0) (by decide +kernel) ⟨_, rfl⟩
    | false =>
      by_cases ht0 : tok9 = []
      · have hr : r = none := hfin.symm.trans (if_pos ⟨ht0, rfl⟩)
        rw [decide_eq_true ht0] at hq
        k_call_by "go" 0
        subst hr
        exact fnish _ _ _ _ _ _ _ (by with_reducible assumption) (by with_reducible assumption) (by k_call_by "lxs" 0) (by k_call_by "lk" 0) (by k_call_by "lk" 0) (by decide +kernel) rfl
      · have hr : r = some tok9 := hfin.symm.trans (if_neg (fun z => ht0 z.1))
        rw [decide_eq_false ht0] at hq
        k_call_by "go" 0
        subst hr
        exact fnish _ _ _ _ _ _ _ (by with_reducible assumption) (by with_reducible assumption) (by k_call_by "lxs" 0) (by k_call_by "lk" 0) (by k_call_by "lk" 0) (by decide +kernel) ⟨_, rfl⟩
noncomputable def LxO (ol : Obj) (x q1 q2 : Addr) (st : Option Nat) : Prop := ∃ ma sv tv tt, DNs 19 ol ma ∧ LxS ma x q1 q2 ∧ ma (Str.ofString "state") = some sv ∧ stIs st sv ∧ ma (Str.ofString "token") = some (.str tv tt) ∧ tv = S []
noncomputable def tokV (r : Option Tx) (v : Value) : Prop := match r with | none => v = .none | some l => ∃ t, v = .str (S l) t
theorem r_dqg {w : World} {A : Around} {E : Value → Shared → Prop} {k : Bool} {s₀ s : Shared} {g : Heap} {L a : Addr} {m : Str → Option Value} {news : List (Addr × Obj)} {Q : Bool → Shared → Prop} (C : Cx k s₀ g L s m news) (ha : g.get? a = some deqObj)
    (h : ∀ s', Cx k s₀ g L s' m news → Q false s') : wpAny (model P9 w) A (truthy (.ref a)) Q E s := truthy_dq (C.keep _ _ ha) (h _ C.toks)
theorem mem4 {α : Type} {a b c d : α} {R : List α} {q : α} (h : q ∈ [a, b, c, d]) : q ∈ a :: b :: c :: d :: R := by
  rcases List.mem_cons.mp h with rfl | h
  · exact .head _
  rcases List.mem_cons.mp h with rfl | h
  · exact .tail _ (.head _)
  rcases List.mem_cons.mp h with rfl | h
  · exact .tail _ (.tail _ (.head _))
  rw [List.mem_singleton.mp h]; exact .tail _ (.tail _ (.tail _ (.head _)))
theorem r_readtok {k : Bool} {w : World} {mg mb m : Str → Option Value} {A : Around} {s₀ s : Shared} {g : Heap} {L x dx lx dl q1 q2 : Addr} {ox ol : Obj} {B : Tx} {p : Nat} {st : Option Nat} {r : Option Tx} {rest : Tx} {st' : Option Nat} {R : List (Addr × Obj)} {Q E : Value → Shared → Prop}
    (C : Cx k s₀ g L s m ((x, instObj 694 dx) :: (dx, ox) :: (lx, instObj 787 dl) :: (dl, ol) :: R)) (W : Wd w mg mb g) (hS : Strm ox B p) (hO : LxO ol x q1 q2 st) (hB : B.length ≤ 1000000) (hp : p ≤ B.length) (hG : Good B) (Rr : Rm A 4 20)
    (hx : lexF st [] false (B.drop p) = some (r, rest, st'))
    (h : ∀ v s' ox' ol' p', Cx k s₀ g L s' m ((x, instObj 694 dx) :: (dx, ox') :: (lx, instObj 787 dl) :: (dl, ol') :: R) → Strm ox' B p' → p' ≤ B.length → B.drop p' = rest → LxO ol' x q1 q2 st' → tokV r v → Q v s') :
    wpAny (model P9 w) A (call (.ref 755) [.ref lx]) Q E s := by
  obtain ⟨ma, sv, tv, tt, hN, hL, hst, hsi, htk, htv⟩ := hO
  have hnd : [x, dx, lx, dl].Nodup := by
    have := C.nd
    simp only [List.map_cons] at this
    exact this.sublist (List.Sublist.cons_cons _ (List.Sublist.cons_cons _ (List.Sublist.cons_cons _ (List.Sublist.cons_cons _ (List.nil_sublist _)))))
  refine readtok_ok (k := k) W C.keep (fun q hq => ⟨C.get (mem4 hq), (C.N q (mem4 hq)).2.2⟩) hnd hS hN hL hst hsi htk htv hB hp hG Rr hx fun s' ox' ol' ma' p' sv' v' h1 h2 h3 h4 h5 h6 h7 h8 h9 h10 h11 h12 => ?_
  obtain ⟨tv', tt', e1, e2⟩ := h10
  refine h v' s' ox' ol' p' ?_ h3 h4 h5 ⟨ma', sv', tv', tt', h6, h7, h8, h9, e1, e2⟩ h11
  exact Cx.back (D := [(x, instObj 694 dx), (dx, ox), (lx, instObj 787 dl), (dl, ol)]) (D' := [(x, instObj 694 dx), (dx, ox'), (lx, instObj 787 dl), (dl, ol')]) (g' := hideAll s.heap [x, dx, lx, dl]) C (fun b o e hb => hideAll_get _ e hb) h1 h12 h2 rfl
theorem gettok_ok {k : Bool} {w : World} {mg mb : Str → Option Value} {A : Around} {s : Shared} {g : Heap} {x dx lx dl q1 q2 : Addr} {ox ol : Obj} {B : Tx} {p : Nat} {st : Option Nat} {r : Option Tx} {rest : Tx} {st' : Option Nat} {Q E : Value → Shared → Prop}
    (W : Wd w mg mb g) (hg : g.StaysIn s.heap) (hD : ∀ q ∈ [(x, instObj 694 dx), (dx, ox), (lx, instObj 787 dl), (dl, ol)], s.heap.get? q.1 = some q.2 ∧ g.get? q.1 = none) (hnd : [x, dx, lx, dl].Nodup)
    (hq1 : s.heap.get? q1 = some deqObj) (hq2 : s.heap.get? q2 = some deqObj) (hn1 : q1 ∉ [x, dx, lx, dl]) (hn2 : q2 ∉ [x, dx, lx, dl])
    (hS : Strm ox B p) (hO : LxO ol x q1 q2 st) (hB : B.length ≤ 1000000) (hp : p ≤ B.length) (hG : Good B) (R : Rm A 5 24)
    (hx : lexF st [] false (B.drop p) = some (r, rest, st'))
    (h : ∀ v s' ox' ol' p', (hideAll s.heap [x, dx, lx, dl]).StaysIn s'.heap → (∀ q ∈ [(x, instObj 694 dx), (dx, ox'), (lx, instObj 787 dl), (dl, ol')], s'.heap.get? q.1 = some q.2) → Strm ox' B p' → p' ≤ B.length → B.drop p' = rest → LxO ol' x q1 q2 st' → tokV r v → Stp k s s' → Q v s') :
    wpAny (model P9 w) A (call (.ref 748) [.ref lx]) Q E s := by
  refine wpAny_call ?_
  refine' enterH (k := k) (D := [(x, instObj 694 dx), (dx, ox), (lx, instObj 787 dl), (dl, ol)]) (binds := [(Str.ofString "self", .ref lx)]) W hg hD hnd R.room ?ho ?hcd ?hb ?hl ?hr ?_ ?h1 ?h2 ?h3 ?h4
  k_call_by "ent" 0
  intro L s1 WH0 hgh C0 hL'
  refine hideQ fun Qt hQt => ?_
  have WH : Wd w mg mb (hideAll s.heap [x, dx, lx, dl]) := WH0
  have C : Cx k s (hideAll s.heap [x, dx, lx, dl]) L s1 (bnd [(Str.ofString "self", .ref lx)]) [(x, instObj 694 dx), (dx, ox), (lx, instObj 787 dl), (dl, ol)] := C0
  clear WH0 C0
  have gq1 : (hideAll s.heap [x, dx, lx, dl]).get? q1 = some deqObj := hideAll_get _ hq1 hn1
  have gq2 : (hideAll s.heap [x, dx, lx, dl]).get? q2 = some deqObj := hideAll_get _ hq2 hn2
  obtain ⟨ma, sv, tv, tt, hN, hL, hst, hsi, htk, htv⟩ := id hO
  obtain ⟨f1, f2, f3, ⟨t4, f4⟩, ⟨t5, f5⟩, ⟨t6, f6⟩, f7, ⟨t8, f8⟩, ⟨t9, f9⟩, ⟨t10, f10⟩, f11, f12, ⟨t13, f13⟩, f14, ⟨t15, f15⟩, f16, f17⟩ := id hL
  k_call_by "go" 0
  refine r_dqg (by with_reducible assumption) gq1 fun s2 C2 => ?_
  k_call_by "go" 0
  refine r_readtok (by with_reducible assumption) WH hS hO hB hp hG (Rm.deeper (Rm.le R (by (first | lia | omega)) (by (first | lia | omega)))) hx fun v s3 ox3 ol3 p3 C3 hS3 hp3 hr3 hO3 hv3 => ?_
  clear hN hL hst hsi htk htv f1 f2 f3 f4 f5 f6 f7 f8 f9 f10 f11 f12 f13 f14 f15 f16 f17
  obtain ⟨ma3, sv3, tv3, tt3, hN3, hL3, hst3, hsi3, htk3, htv3⟩ := id hO3
  obtain ⟨f1, f2, f3, ⟨t4, f4⟩, ⟨t5, f5⟩, ⟨t6, f6⟩, f7, ⟨t8, f8⟩, ⟨t9, f9⟩, ⟨t10, f10⟩, f11, f12, ⟨t13, f13⟩, f14, ⟨t15, f15⟩, f16, f17⟩ := id hL3
  k_call_by "go" 0
  rename_i C4
  cases r with
  | none =>
    obtain rfl : v = .none := hv3
    refine r_while (M := model P9 w) (fun _ s' => Cx k s (hideAll s.heap [x, dx, lx, dl]) L s' _ _) (fun n s5 C5 => ?_) 0 C4
    k_call_by "go" 0
    refine r_dqg (by with_reducible assumption) gq2 fun s6 C6 => ?_
    k_call_by "go" 0
    rename_i C9
    exact h .none _ ox3 ol3 p3 C9.keep (fun q hq => C9.get hq) hS3 hp3 hr3 hO3 rfl C9.st
  | some l =>
    obtain ⟨tl, rfl⟩ := hv3
    refine r_while (M := model P9 w) (fun _ s' => Cx k s (hideAll s.heap [x, dx, lx, dl]) L s' _ _) (fun n s5 C5 => ?_) 0 C4
    k_call_by "go" 0
    rename_i C9
    exact h _ _ ox3 ol3 p3 C9.keep (fun q hq => C9.get hq) hS3 hp3 hr3 hO3 ⟨_, rfl⟩ C9.st
theorem r_gettok {k : Bool} {w : World} {mg mb m : Str → Option Value} {A : Around} {s₀ s : Shared} {g : Heap} {L x dx lx dl q1 q2 : Addr} {ox ol : Obj} {B : Tx} {p : Nat} {st : Option Nat} {r : Option Tx} {rest : Tx} {st' : Option Nat} {R : List (Addr × Obj)} {Q E : Value → Shared → Prop}
    (C : Cx k s₀ g L s m ((x, instObj 694 dx) :: (dx, ox) :: (lx, instObj 787 dl) :: (dl, ol) :: R)) (W : Wd w mg mb g) (hq1 : s.heap.get? q1 = some deqObj) (hq2 : s.heap.get? q2 = some deqObj) (hn1 : q1 ∉ [x, dx, lx, dl]) (hn2 : q2 ∉ [x, dx, lx, dl])
    (hS : Strm ox B p) (hO : LxO ol x q1 q2 st) (hB : B.length ≤ 1000000) (hp : p ≤ B.length) (hG : Good B) (Rr : Rm A 5 24)
    (hx : lexF st [] false (B.drop p) = some (r, rest, st'))
    (h : ∀ v s' ox' ol' p', Cx k s₀ g L s' m ((x, instObj 694 dx) :: (dx, ox') :: (lx, instObj 787 dl) :: (dl, ol') :: R) → Strm ox' B p' → p' ≤ B.length → B.drop p' = rest → LxO ol' x q1 q2 st' → tokV r v → Q v s') :
    wpAny (model P9 w) A (call (.ref 748) [.ref lx]) Q E s := by
  have hnd : [x, dx, lx, dl].Nodup := by
    have := C.nd
    simp only [List.map_cons] at this
    exact this.sublist (List.Sublist.cons_cons _ (List.Sublist.cons_cons _ (List.Sublist.cons_cons _ (List.Sublist.cons_cons _ (List.nil_sublist _)))))
  refine gettok_ok (k := k) W C.keep (fun q hq => ⟨C.get (mem4 hq), (C.N q (mem4 hq)).2.2⟩) hnd hq1 hq2 hn1 hn2 hS hO hB hp hG Rr hx fun v' s' ox' ol' p' h1 h2 h3 h4 h5 h6 h7 h8 => ?_
  refine h v' s' ox' ol' p' ?_ h3 h4 h5 h6 h7
  exact Cx.back (D := [(x, instObj 694 dx), (dx, ox), (lx, instObj 787 dl), (dl, ol)]) (D' := [(x, instObj 694 dx), (dx, ox'), (lx, instObj 787 dl), (dl, ol')]) (g' := hideAll s.heap [x, dx, lx, dl]) C (fun b o e hb => hideAll_get _ e hb) h1 h8 h2 rfl
theorem boot_si : bootBuiltins (Str.ofString "StopIteration") = some (.type "StopIteration") := by decide +kernel
/-- entering a def that may raise -/
theorem enterE {k : Bool} {w : World} {mg mb : Str → Option Value} {A : Around} {s : Shared} {R : Result → Shared → Prop} {name qual : Str} {params : Arguments} {body : List Stmt} {scope : Scope} {dV kV doc pm cdv ct oc : Value} {an od : Option Addr} {osl : Array (Option Value)} {f : Addr} {args : Args} {binds rb : List (Str × Value)}
    {D : List (Addr × Obj)} {g : Heap} (W : Wd w mg mb g) (hg : g.StaysIn s.heap) (hD : ∀ p ∈ D, s.heap.get? p.1 = some p.2 ∧ g.get? p.1 = none) (hnd : (D.map (·.1)).Nodup) (hroom : A.depth < recursionLimit)
    (ho : (Mine.hd.heap_1 w.params).lookup f = some ⟨oc, od, .func (fnOf name qual params body scope dV kV doc pm an cdv ct), osl⟩) (hcd : codeIn (Mine.hd.heap_1 w.params) cdv qual = true)
    (hbind : BindsTo s (fnOf name qual params body scope dV kV doc pm an cdv ct) args binds) (hloc : ∀ y ∈ binds, scope.names.lookup y.1 = some .local)
    (hr : binds.reverse = rb)
    (h : ∀ L s', Wd w mg mb (hideAll s.heap (D.map (·.1))) → g.StaysIn (hideAll s.heap (D.map (·.1))) → Cx k s (hideAll s.heap (D.map (·.1))) L s' (bnd rb) D → L = s.heap.objs.size →
      wpAny (model P9 w) (A.deeper (envOf qual scope L f cdv)) (execs body (envOf qual scope L f cdv)) (fun fl s'' => R (.ok (.ret (match fl with | .ret v => v | _ => .none))) s'')
        (fun e s' => wpAny (model P9 w) (A.deeper (envOf qual scope L f cdv)) (leaving (envOf qual scope L f cdv) e) (fun _ s'' => R (.error e) s'') (fun e' s'' => R (.error e') s'') s') s')
    (hco : scope.isCoroutine = false) (hgen : scope.isGenerator = false) (hk : scope.kind = .function) (hcell : ∀ x ∈ scope.names, x.2 ≠ .cell) : codeAny (model P9 w) A (.call (.ref f) args) R s := by
  have st : g.StaysIn (hideAll s.heap (D.map (·.1))) := fun b o e => hideAll_get _ (hg b o e) fun q => by
    obtain ⟨p, hp, rfl⟩ := List.mem_map.mp q
    rw [(hD p hp).2] at e; cases e
  subst hr
  have W' := W.keeps hg
  have WH := W.keeps st
  refine codeAny_call_def (fd := fnOf name qual params body scope dV kV doc pm an cdv ct) (body := body) (binds := binds) hroom (W'.X _ _ ho) rfl W'.lim (codeRec_of W'.X hcd) rfl hbind hcell hloc (fun h₁ hns hk₁ => ?_) hco hgen hk
  exact h s.heap.objs.size _ WH st ⟨.heap, ⟨hns, fun b o e => hk₁ b o (of_hideAll _ e), Nat.le_of_eq (hideAll_size _ _)⟩, fun p hp => ⟨hk₁ _ _ (hD p hp).1, Nat.ne_of_lt (Heap.lt_size (hD p hp).1), hideAll_none _ (List.mem_map_of_mem hp)⟩, hnd⟩ rfl

theorem ff_hide {h base : Heap} {as : List Addr} : ∀ {l : List Env}, h.FunFrames base l → (∀ b ∈ l.filterMap (·.frame), b ∉ as) → (hideAll h as).FunFrames base l
  | [], _, _ => trivial
  | env :: r, ⟨hk, ⟨L, o, hf, hn, ho, hd⟩, hr⟩, hin => by
    rw [List.filterMap_cons, hf] at hin
    exact ⟨hk, ⟨L, o, hf, hn, hideAll_get _ ho (hin L (.head _)), hd⟩, ff_hide hr fun b hb => hin b (.tail _ hb)⟩
theorem hide_more (h : Heap) (as bs : List Addr) : (hideAll h (as ++ bs)).StaysIn (hideAll h as) := fun b o e => by
  by_cases hb : b ∈ as
  · rw [hideAll_none _ (List.mem_append_left _ hb)] at e; cases e
  · exact hideAll_get _ (of_hideAll _ e) hb
/-- what a StopIteration leaves: the frames of outer up to slots -/
structure Lft (s : Shared) (outer : List Env) (D D' : List (Addr × Obj)) (s' : Shared) : Prop where
  stays : (hideAll s.heap (D.map (·.1) ++ outer.filterMap (·.frame))).StaysIn s'.heap
  at' : ∀ q ∈ D', s'.heap.get? q.1 = some q.2
  slots : ∀ b ∈ outer.filterMap (·.frame), ∀ o, s.heap.get? b = some o → b ∉ D.map (·.1) → (∀ vs, o.data ≠ .fields vs) → ∃ sl, s'.heap.get? b = some { o with slots := sl }
theorem next_stop {k : Bool} {w : World} {mg mb : Str → Option Value} {A : Around} {s : Shared} {g : Heap} {x dx lx dl q1 q2 : Addr} {ox ol : Obj} {B : Tx} {p : Nat} {st : Option Nat} {rest : Tx} {st' : Option Nat} {outer : List Env} {Q : Option Value → Shared → Prop} {Qv E : Value → Shared → Prop}
    (W : Wd w mg mb g) (hg : g.StaysIn s.heap) (hD : ∀ q ∈ [(x, instObj 694 dx), (dx, ox), (lx, instObj 787 dl), (dl, ol)], s.heap.get? q.1 = some q.2 ∧ g.get? q.1 = none) (hnd : [x, dx, lx, dl].Nodup)
    (hst : A.frames = some outer) (hfr : s.heap.FunFrames (hideAll s.heap ([x, dx, lx, dl] ++ outer.filterMap (·.frame))) outer) (hfd : ∀ b ∈ outer.filterMap (·.frame), b ∉ [x, dx, lx, dl])
    (hq1 : s.heap.get? q1 = some deqObj) (hq2 : s.heap.get? q2 = some deqObj) (hn1 : q1 ∉ [x, dx, lx, dl]) (hn2 : q2 ∉ [x, dx, lx, dl])
    (hS : Strm ox B p) (hO : LxO ol x q1 q2 st) (hB : B.length ≤ 1000000) (hp : p ≤ B.length) (hG : Good B) (R : Rm A 6 30)
    (hx : lexF st [] false (B.drop p) = some (none, rest, st'))
    (h : ∀ s' ox' ol', Lft s outer [(x, instObj 694 dx), (dx, ox), (lx, instObj 787 dl), (dl, ol)] [(x, instObj 694 dx), (dx, ox'), (lx, instObj 787 dl), (dl, ol')] s' → Stp k s s' → Q none s') :
    wpAny (model P9 w) A (call (.ref 784) [.ref lx]) Qv (OwitStop (model P9 w) A Q E) s := by
  refine wpAny_call ?_
  refine' enterE (k := k) (D := [(x, instObj 694 dx), (dx, ox), (lx, instObj 787 dl), (dl, ol)]) (binds := [(Str.ofString "self", .ref lx)]) W hg hD hnd R.room ?ho ?hcd ?hb ?hl ?hr ?_ ?h1 ?h2 ?h3 ?h4
  k_call_by "ent" 0
  intro L s1 WH0 hgh C0 hL'
  refine hideQ fun Qt hQt => ?_
  have WH : Wd w mg mb (hideAll s.heap [x, dx, lx, dl]) := WH0
  have C : Cx k s (hideAll s.heap [x, dx, lx, dl]) L s1 (bnd [(Str.ofString "self", .ref lx)]) [(x, instObj 694 dx), (dx, ox), (lx, instObj 787 dl), (dl, ol)] := C0
  clear WH0 C0
  have gq1 : (hideAll s.heap [x, dx, lx, dl]).get? q1 = some deqObj := hideAll_get _ hq1 hn1
  have gq2 : (hideAll s.heap [x, dx, lx, dl]).get? q2 = some deqObj := hideAll_get _ hq2 hn2
  obtain ⟨ma, sv, tv, tt, hN, hL, hst0, hsi, htk, htv⟩ := id hO
  obtain ⟨f1, f2, f3, f4, f5, f6, f7, f8, f9, f10, f11, f12, f13, f14, f15, f16, f17⟩ := id hL
  k_call_by "go" 0
  refine r_gettok C WH (C.keep _ _ gq1) (C.keep _ _ gq2) hn1 hn2 hS hO hB hp hG (Rm.deeper (Rm.le R (by (first | lia | omega)) (by (first | lia | omega)))) hx fun v s3 ox3 ol3 p3 C3 hS3 hp3 hr3 hO3 hv3 => ?_
  clear hN hL hst0 hsi htk htv f1 f2 f3 f4 f5 f6 f7 f8 f9 f10 f11 f12 f13 f14 f15 f16 f17
  obtain ⟨ma3, sv3, tv3, tt3, hN3, hL3, hst3, hsi3, htk3, htv3⟩ := id hO3
  obtain ⟨f1, f2, f3, f4, f5, f6, f7, f8, f9, f10, f11, f12, f13, f14, f15, f16, f17⟩ := id hL3
  obtain rfl : v = .none := hv3
  k_call_by "go" 0
  rename_i C9
  refine owsi_raiseC (Rm.deeper (d := 0) (u := 0) (R.le (by first | decide | (first | lia | omega)) (by first | decide | (first | lia | omega)))).hand ?hx (fun h' e hm => ?_)
  case hx =>
    refine' r_bi C9 WH ?hx1 ⟨?he1, boot_si, ?he3⟩ ?_
    (case hx1 => k_call_by "kd" 0)
    (case he1 => k_is)
    (case he3 => exact ne_q (by exact Eq.refl false))
    exact ⟨rfl, rfl⟩
  refine leave_raiseK (base := hideAll s.heap ([x, dx, lx, dl] ++ outer.filterMap (·.frame))) (outer := outer) ⟨hst, hide_more _ _ _, ff_hide hfr hfd⟩ (Heap.MadeExc.of hm) C9.F C9.N (fun h2 t2 R2 U2 => ?_)
  obtain ⟨⟨Bb, hBb, hl2, hfl2, _⟩, _⟩ := R2
  obtain ⟨ob, hob, hobc⟩ := hfl2.there
  refine wpAny_isInstance (T := "StopIteration") ⟨ob, hob, hobc⟩ owsi_facts.sub ?_
  rw [if_pos rfl]
  refine h _ ox3 ol3 ⟨fun b o e => hfl2.1 _ _ (hBb _ _ e), fun q hq => hfl2.1 _ _ (hl2 q hq).1, fun b hb o e hnb hv => ?_⟩ (C9.st.trans .heap)
  exact U2 b o (hideAll_get _ e hnb) hv
theorem next_tok {k : Bool} {w : World} {mg mb : Str → Option Value} {A : Around} {s : Shared} {g : Heap} {x dx lx dl q1 q2 : Addr} {ox ol : Obj} {B : Tx} {p : Nat} {st : Option Nat} {l : Tx} {rest : Tx} {st' : Option Nat} {Q E : Value → Shared → Prop}
    (W : Wd w mg mb g) (hg : g.StaysIn s.heap) (hD : ∀ q ∈ [(x, instObj 694 dx), (dx, ox), (lx, instObj 787 dl), (dl, ol)], s.heap.get? q.1 = some q.2 ∧ g.get? q.1 = none) (hnd : [x, dx, lx, dl].Nodup)
    (hq1 : s.heap.get? q1 = some deqObj) (hq2 : s.heap.get? q2 = some deqObj) (hn1 : q1 ∉ [x, dx, lx, dl]) (hn2 : q2 ∉ [x, dx, lx, dl])
    (hS : Strm ox B p) (hO : LxO ol x q1 q2 st) (hB : B.length ≤ 1000000) (hp : p ≤ B.length) (hG : Good B) (R : Rm A 6 30)
    (hx : lexF st [] false (B.drop p) = some (some l, rest, st'))
    (h : ∀ t s' ox' ol' p', (hideAll s.heap [x, dx, lx, dl]).StaysIn s'.heap → (∀ q ∈ [(x, instObj 694 dx), (dx, ox'), (lx, instObj 787 dl), (dl, ol')], s'.heap.get? q.1 = some q.2) → Strm ox' B p' → p' ≤ B.length → B.drop p' = rest → LxO ol' x q1 q2 st' → Stp k s s' → Q (.str (S l) t) s') :
    wpAny (model P9 w) A (call (.ref 784) [.ref lx]) Q E s := by
  refine wpAny_call ?_
  refine' enterH (k := k) (D := [(x, instObj 694 dx), (dx, ox), (lx, instObj 787 dl), (dl, ol)]) (binds := [(Str.ofString "self", .ref lx)]) W hg hD hnd R.room ?ho ?hcd ?hb ?hl ?hr ?_ ?h1 ?h2 ?h3 ?h4
  k_call_by "ent" 0
  intro L s1 WH0 hgh C0 hL'
  refine hideQ fun Qt hQt => ?_
  have WH : Wd w mg mb (hideAll s.heap [x, dx, lx, dl]) := WH0
  have C : Cx k s (hideAll s.heap [x, dx, lx, dl]) L s1 (bnd [(Str.ofString "self", .ref lx)]) [(x, instObj 694 dx), (dx, ox), (lx, instObj 787 dl), (dl, ol)] := C0
  clear WH0 C0
  have gq1 : (hideAll s.heap [x, dx, lx, dl]).get? q1 = some deqObj := hideAll_get _ hq1 hn1
  have gq2 : (hideAll s.heap [x, dx, lx, dl]).get? q2 = some deqObj := hideAll_get _ hq2 hn2
  obtain ⟨ma, sv, tv, tt, hN, hL, hst0, hsi, htk, htv⟩ := id hO
  obtain ⟨f1, f2, f3, f4, f5, f6, f7, f8, f9, f10, f11, f12, f13, f14, f15, f16, f17⟩ := id hL
  k_call_by "go" 0
  refine r_gettok C WH (C.keep _ _ gq1) (C.keep _ _ gq2) hn1 hn2 hS hO hB hp hG (Rm.deeper (Rm.le R (by (first | lia | omega)) (by (first | lia | omega)))) hx fun v s3 ox3 ol3 p3 C3 hS3 hp3 hr3 hO3 hv3 => ?_
  clear hN hL hst0 hsi htk htv f1 f2 f3 f4 f5 f6 f7 f8 f9 f10 f11 f12 f13 f14 f15 f16 f17
  obtain ⟨ma3, sv3, tv3, tt3, hN3, hL3, hst3, hsi3, htk3, htv3⟩ := id hO3
  obtain ⟨f1, f2, f3, f4, f5, f6, f7, f8, f9, f10, f11, f12, f13, f14, f15, f16, f17⟩ := id hL3
  obtain ⟨tl, rfl⟩ := hv3
  k_call_by "go" 0
  rename_i C9
  exact h tl _ ox3 ol3 p3 C9.keep (fun q hq => C9.get hq) hS3 hp3 hr3 hO3 C9.st

/-- objects the same but for their slots -/
noncomputable def SlE (FO FO' : List (Addr × Obj)) : Prop := FO'.map (·.1) = FO.map (·.1) ∧ ∀ p ∈ FO', ∃ o, (p.1, o) ∈ FO ∧ ∃ sl, p.2 = { o with slots := sl }
theorem Cx.left {k : Bool} {s₀ s s' : Shared} {g : Heap} {L : Addr} {m : Str → Option Value} {D D' R0 FO : List (Addr × Obj)} {env : Env} {outer : List Env}
    (C : Cx k s₀ g L s m (D ++ (R0 ++ FO))) (hf : FO.map (·.1) = outer.filterMap (·.frame)) (hfo : ∀ p ∈ FO, ∀ vs, p.2.data ≠ .fields vs) (he : env.frame = some L) (T : Lft s (env :: outer) D D' s') (hn : D'.map (·.1) = D.map (·.1)) (st : Stp k s s') :
    ∃ FO', SlE FO FO' ∧ Cx k s₀ g L s' m (D' ++ (R0 ++ FO')) := by
  have hfm : (env :: outer).filterMap (·.frame) = L :: FO.map (·.1) := by rw [List.filterMap_cons, he, hf]
  have nd := C.nd
  simp only [List.map_append, List.nodup_append] at nd
  obtain ⟨ndD, ⟨ndR, ndF, ndRF⟩, ndDR⟩ := nd
  have memD : ∀ {b}, b ∈ D.map (·.1) → b ≠ L ∧ g.get? b = none := fun {b} hb => by
    obtain ⟨p, hp, rfl⟩ := List.mem_map.mp hb
    exact (C.N p (List.mem_append_left _ hp)).2
  have memF : ∀ {p}, p ∈ FO → s.heap.get? p.1 = some p.2 ∧ p.1 ≠ L ∧ g.get? p.1 = none := fun {p} hp => C.N p (List.mem_append_right _ (List.mem_append_right _ hp))
  have hLD : L ∉ D.map (·.1) := fun q => (memD q).1 rfl
  have hFD : ∀ {p}, p ∈ FO → p.1 ∉ D.map (·.1) := fun {p} hp q => ndDR p.1 q p.1 (List.mem_append_right _ (List.mem_map_of_mem hp)) rfl
  obtain ⟨oL, es, ep, hL, e1, e2⟩ := C.F.ns
  obtain ⟨sl, hL'⟩ := T.slots L (by rw [hfm]; exact .head _) oL hL hLD (fun vs q => by rw [e1] at q; cases q)
  have stay : ∀ b o, s.heap.get? b = some o → b ∉ D.map (·.1) → b ≠ L → b ∉ FO.map (·.1) → s'.heap.get? b = some o := fun b o e h1 h2 h3 => T.stays b o (hideAll_get _ e fun q => by
    rw [hfm] at q
    rcases List.mem_append.mp q with q | q
    · exact h1 q
    · rcases List.mem_cons.mp q with q | q
      · exact h2 q
      · exact h3 q)
  have hFs : ∀ p ∈ FO, ∃ sl, s'.heap.get? p.1 = some { p.2 with slots := sl } := fun p hp => T.slots p.1 (by rw [hfm]; exact .tail _ (List.mem_map_of_mem hp)) p.2 (memF hp).1 (hFD hp) (hfo p hp)
  refine ⟨FO.map fun p => (p.1, (s'.heap.get? p.1).getD p.2), ⟨by rw [List.map_map]; rfl, fun p hp => ?_⟩, C.st.trans st, ⟨⟨_, es, ep, hL', e1, e2⟩, fun b o e => ?_, C.F.above⟩, fun p hp => ?_, ?_⟩
  · obtain ⟨p0, h0, rfl⟩ := List.mem_map.mp hp
    obtain ⟨sl, h1⟩ := hFs p0 h0
    exact ⟨p0.2, h0, sl, by show (s'.heap.get? p0.1).getD p0.2 = _; rw [h1]; rfl⟩
  · refine stay b o (C.F.keep b o e) (fun q => ?_) (fun q => ?_) (fun q => ?_)
    · rw [(memD q).2] at e; cases e
    · subst q; exact absurd (Nat.lt_of_lt_of_le (Heap.lt_size e) C.F.above) (Nat.lt_irrefl _)
    · obtain ⟨p, hp, rfl⟩ := List.mem_map.mp q
      rw [(memF hp).2.2] at e; cases e
  · rcases List.mem_append.mp hp with hp | hp
    · have hb : p.1 ∈ D.map (·.1) := hn ▸ List.mem_map_of_mem hp
      exact ⟨T.at' p hp, memD hb⟩
    · rcases List.mem_append.mp hp with hp | hp
      · have P := C.N p (List.mem_append_right _ (List.mem_append_left _ hp))
        refine ⟨stay _ _ P.1 (fun q => ndDR p.1 q p.1 (List.mem_append_left _ (List.mem_map_of_mem hp)) rfl) P.2.1 (fun q => ndRF p.1 (List.mem_map_of_mem hp) p.1 q rfl), P.2⟩
      · obtain ⟨p0, h0, rfl⟩ := List.mem_map.mp hp
        obtain ⟨sl, h1⟩ := hFs p0 h0
        exact ⟨by show s'.heap.get? p0.1 = some ((s'.heap.get? p0.1).getD p0.2); rw [h1]; rfl, (memF h0).2⟩
  · have := C.nd
    simp only [List.map_append] at this ⊢
    rw [hn, List.map_map]
    exact this
theorem Cx.perm {k : Bool} {s₀ s : Shared} {g : Heap} {L : Addr} {m : Str → Option Value} {r r' : List (Addr × Obj)} (C : Cx k s₀ g L s m r) (h : r.Perm r') : Cx k s₀ g L s m r' :=
  ⟨C.st, C.F, fun p hp => C.N p (h.mem_iff.mpr hp), (h.map _).nodup_iff.mp C.nd⟩
inductive LexRun : Option Nat → Tx → List Tx → Prop
  | done {st : Option Nat} {inp rest : Tx} {st' : Option Nat} (h : lexF st [] false inp = some (none, rest, st')) : LexRun st inp []
  | tok {st : Option Nat} {inp rest l : Tx} {st' : Option Nat} {ts : List Tx} (h : lexF st [] false inp = some (some l, rest, st')) (r : LexRun st' rest ts) : LexRun st inp (l :: ts)
structure Otr (outer : List Env) (FO : List (Addr × Obj)) : Prop where
  map : FO.map (·.1) = outer.filterMap (·.frame)
  ok : ∀ env ∈ outer, env.scope.kind ≠ .module ∧ env.frame.isSome = true
  data : ∀ p ∈ FO, ∀ vs, p.2.data ≠ .fields vs
theorem ff_of {h base : Heap} : ∀ {l : List Env}, (∀ b ∈ l.filterMap (·.frame), base.get? b = none ∧ ∃ o, h.get? b = some o ∧ ∀ vs, o.data ≠ .fields vs) → (∀ env ∈ l, env.scope.kind ≠ .module ∧ env.frame.isSome = true) → h.FunFrames base l
  | [], _, _ => trivial
  | env :: r, hm, hk => by
    obtain ⟨k1, k2⟩ := hk env (.head _)
    obtain ⟨L, hL⟩ := Option.isSome_iff_exists.mp k2
    rw [List.filterMap_cons, hL] at hm
    obtain ⟨h1, o, h2, h3⟩ := hm L (.head _)
    exact ⟨k1, ⟨L, o, hL, h1, h2, h3⟩, ff_of (fun b hb => hm b (.tail _ hb)) fun e he => hk e (.tail _ he)⟩
noncomputable def lobj (acc : Array Value) (c : Nat) : Obj := { cls := .type "list", dict := none, data := .seq acc c, slots := #[] }

theorem ext_own {w : World} {A : Around} {R : Result → Shared → Prop} {I S : Addr} {res : Value} (J : Nat → Array Value → Shared → Prop)
    (turn : ∀ n acc s, J n acc s → wpAny (model P9 w) A.in1 (pyNext (.ref I)) (fun r s' => match r with
      | none => R (.ok (.ret res)) s'
      | some v => ∃ c, s'.heap.get? S = some (lobj acc c) ∧ acc.size < 1000000 ∧ ∀ h' c', Heap.SameBut S s'.heap h' → h'.get? S = some (lobj (acc.push v) c') → ∃ n', n' < n ∧ J n' (acc.push v) ⟨h', s'.gens, s'.drawn, s'.toks, s'.os⟩) (fun e s' => R (.error e) s') s) :
    ∀ n acc s, J n acc s → codeAny (model P9 w) A (.builtin "list.extend.loop" ⟨[.ref S, .ref I, res], []⟩) R s := by
  intro n
  induction n using Nat.strongRecOn with
  | ind n ih =>
    intro acc s hJ
    refine codeAny_builtin F.entry_extend_loop ?_
    rw [Around.under_plainId F.plain_extend_loop _]
    show wpAny _ A.in1 (pyNext (.ref I) >>= _) _ _ s
    refine wpAny_bind (wpAny_mono (turn n acc s hJ) (fun r s' hr => ?_) fun _ _ z => z)
    cases r with
    | none => exact wpAny_pure hr
    | some v =>
      obtain ⟨c, hS, hsz, hnx⟩ := hr
      show wpAny _ A.in1 (updateSeq S (·.push v) >>= _) _ _ _
      refine wpAny_bind ?_
      refine wpAny_updateSeq hS rfl ?_ (by rw [sizeLine_eq]; (first | lia | omega)) (by rw [Array.size_push, sizeLine_eq]; (first | lia | omega))
      obtain ⟨n', hn', hJ'⟩ := hnx _ _ (Heap.SameBut.update ..) (Heap.get?_update_self (Obj.mapSeq (·.push v)) hS rfl)
      exact wpAny_pure ⟨plainId_quiet F.plain_extend_loop _, ih n' hn' _ _ hJ'⟩

theorem iter_ok {k : Bool} {w : World} {mg mb : Str → Option Value} {A : Around} {s : Shared} {x : Addr} {Q E : Value → Shared → Prop}
    (W : Wd w mg mb s.heap) (R : Rm A 1 4) (h : ∀ s', s.heap.StaysIn s'.heap → Stp k s s' → Q (.ref x) s') : wpAny (model P9 w) A (call (.ref 777) [.ref x]) Q E s := by
  refine wpAny_call ?_
  refine' enter (k := k) (binds := [(Str.ofString "self", .ref x)]) W R.room ?ho ?hcd ?hb ?hl ?hr ?_ ?h1 ?h2 ?h3 ?h4
  k_call_by "ent" 0
  intro L s1 C hL
  k_call_by "go" 0
  exact h _ (Cx.keep (by assumption)) (Cx.st (by assumption))

abbrev D4 (x dx : Addr) (ox : Obj) (lx dl : Addr) (ol : Obj) (r : List (Addr × Obj)) : List (Addr × Obj) := (x, instObj 694 dx) :: (dx, ox) :: (lx, instObj 787 dl) :: (dl, ol) :: r

theorem in4 {k : Bool} {s₀ s : Shared} {g : Heap} {L x dx lx dl : Addr} {m : Str → Option Value} {ox ol : Obj} {R : List (Addr × Obj)} (C : Cx k s₀ g L s m (D4 x dx ox lx dl ol R)) : [x, dx, lx, dl].Nodup ∧ ∀ p ∈ R, p.1 ∉ [x, dx, lx, dl] := by
  have nd := C.nd
  have e : (D4 x dx ox lx dl ol R).map (·.1) = [x, dx, lx, dl] ++ R.map (·.1) := rfl
  rw [e, List.nodup_append] at nd
  exact ⟨nd.1, fun p hp q => nd.2.2 _ q _ (List.mem_map_of_mem hp) rfl⟩
theorem lex_ext {k : Bool} {w : World} {mg mb m : Str → Option Value} {A : Around} {s₀ s : Shared} {g : Heap} {L x dx lx dl q1 q2 S : Addr} {ox ol : Obj} {B : Tx} {p : Nat} {st : Option Nat} {ts : List Tx} {R0 FO : List (Addr × Obj)} {env : Env} {outer : List Env} {c0 : Nat} {R : Result → Shared → Prop} {res : Value}
    (C : Cx k s₀ g L s m (D4 x dx ox lx dl ol ((S, lobj #[] c0) :: (R0 ++ FO)))) (W : Wd w mg mb g) (hq1 : (q1, deqObj) ∈ R0) (hq2 : (q2, deqObj) ∈ R0)
    (hS : Strm ox B p) (hO : LxO ol x q1 q2 st) (hB : B.length ≤ 1000000) (hp : p ≤ B.length) (hG : Good B) (Rr : Rm A 6 32) (T : Otr outer FO)
    (hst : A.frames = some (env :: outer)) (he : env.frame = some L) (hek : env.scope.kind ≠ .module) (hrun : LexRun st (B.drop p) ts) (hts : ts.length ≤ 300000)
    (h : ∀ s' ox' ol' FO' vs c, SlE FO FO' → Cx k s₀ g L s' m (D4 x dx ox' lx dl ol' ((S, lobj vs.toArray c) :: (R0 ++ FO'))) → SVs vs ts → R (.ok (.ret res)) s') :
    codeAny (model P9 w) A (.builtin "list.extend.loop" ⟨[.ref S, .ref lx, res], []⟩) R s := by
  refine ext_own (J := fun n acc s' => ∃ ox ol p st ts0 ts1 c, Cx k s₀ g L s' m (D4 x dx ox lx dl ol ((S, lobj acc c) :: (R0 ++ FO))) ∧ Strm ox B p ∧ LxO ol x q1 q2 st ∧ p ≤ B.length ∧ LexRun st (B.drop p) ts1 ∧ SVs acc.toList ts0 ∧ ts0 ++ ts1 = ts ∧ n = ts1.length) ?_
    ts.length #[] s ⟨ox, ol, p, st, [], ts, c0, C, hS, hO, hp, hrun, .nil, rfl, rfl⟩
  rintro n acc s1 ⟨ox1, ol1, p1, st1, ts0, ts1, c1, C1, hS1, hO1, hp1, hrun1, hvs1, hts1, hn1⟩
  obtain ⟨nd4, nin4⟩ := in4 C1
  have mq1 : (q1, deqObj) ∈ (S, lobj acc c1) :: (R0 ++ FO) := .tail _ (List.mem_append_left _ hq1)
  have mq2 : (q2, deqObj) ∈ (S, lobj acc c1) :: (R0 ++ FO) := .tail _ (List.mem_append_left _ hq2)
  have up4 : ∀ {q : Addr × Obj}, q ∈ (S, lobj acc c1) :: (R0 ++ FO) → q ∈ D4 x dx ox1 lx dl ol1 ((S, lobj acc c1) :: (R0 ++ FO)) := fun h => .tail _ (.tail _ (.tail _ (.tail _ h)))
  refine owit_next (f := 784) C1.F W.X (inst_at C1 (C := 787) (x := lx) (dx := dl) (o := ol1) (by k_call_by "mem" 0) (by k_call_by "mem" 0)) (by k_is) (by k_is) ?_
  have hsz : acc.size = ts0.length := by have := hvs1.length; simpa using this
  have hlen : ts0.length + ts1.length = ts.length := by rw [← hts1, List.length_append]
  cases hrun1 with
  | tok hx hr =>
    rename_i rest1 l1 st2 ts2
    refine next_tok (k := k) W C1.keep (fun q hq => ⟨C1.get (mem4 hq), (C1.N q (mem4 hq)).2.2⟩) nd4 (C1.get (up4 mq1)) (C1.get (up4 mq2)) (nin4 _ mq1) (nin4 _ mq2) hS1 hO1 hB hp1 hG (Rr.le (by first | decide | (first | lia | omega)) (by first | decide | (first | lia | omega))).in1 hx fun t s2 ox2 ol2 p2 h1 h2 h3 h4 h5 h6 h7 => ?_
    have C2 : Cx k s₀ g L s2 m (D4 x dx ox2 lx dl ol2 ((S, lobj acc c1) :: (R0 ++ FO))) :=
      Cx.back (D := [(x, instObj 694 dx), (dx, ox1), (lx, instObj 787 dl), (dl, ol1)]) (D' := [(x, instObj 694 dx), (dx, ox2), (lx, instObj 787 dl), (dl, ol2)]) (g' := hideAll s1.heap [x, dx, lx, dl]) C1 (fun b o e hb => hideAll_get _ e hb) h1 h7 h2 rfl
    refine ⟨c1, C2.get (p := (S, lobj acc c1)) (.tail _ (.tail _ (.tail _ (.tail _ (.head _))))), by simp only [List.length_cons] at hlen; (first | lia | omega), fun h' c' hs ho => ⟨ts2.length, by rw [hn1]; exact Nat.lt_succ_self _, ox2, ol2, p2, st2, ts0 ++ [l1], ts2, c', ?_, h3, h6, h4, by rw [h5]; exact hr, ?_, by rw [← hts1]; simp, rfl⟩⟩
    · exact Cx.up C2 (.s (.s (.s (.s .z)))) hs ho
    · rw [Array.toList_push]
      exact hvs1.append (.cons .nil)
  | done hx =>
    rename_i rest1 st2
    refine next_stop (k := k) (outer := env :: outer) W C1.keep (fun q hq => ⟨C1.get (mem4 hq), (C1.N q (mem4 hq)).2.2⟩) nd4 hst ?ff ?fd (C1.get (up4 mq1)) (C1.get (up4 mq2)) (nin4 _ mq1) (nin4 _ mq2) hS1 hO1 hB hp1 hG (Rr.le (by first | decide | (first | lia | omega)) (by first | decide | (first | lia | omega))).in1 hx fun s2 ox2 ol2 hl h7 => ?_
    case ff =>
      refine ff_of (fun b hb => ⟨hideAll_none _ (List.mem_append_right _ hb), ?_⟩) fun e he' => ?_
      · rw [List.filterMap_cons, he, ← T.map] at hb
        rcases List.mem_cons.mp hb with rfl | hb
        · obtain ⟨oL, es, ep, hL, e1, _⟩ := C1.F.ns
          exact ⟨oL, hL, fun vs q => by rw [e1] at q; cases q⟩
        · obtain ⟨q, hq, rfl⟩ := List.mem_map.mp hb
          exact ⟨q.2, C1.get (up4 (.tail _ (List.mem_append_right _ hq))), T.data q hq⟩
      · rcases List.mem_cons.mp he' with rfl | he'
        · exact ⟨hek, by rw [he]; rfl⟩
        · exact T.ok e he'
    case fd =>
      intro b hb
      rw [List.filterMap_cons, he, ← T.map] at hb
      rcases List.mem_cons.mp hb with rfl | hb
      · intro q
        have : ∀ r ∈ [(x, instObj 694 dx), (dx, ox1), (lx, instObj 787 dl), (dl, ol1)], r.1 ≠ b := fun r hr => (C1.N r (mem4 hr)).2.1
        have q' : b ∈ [(x, instObj 694 dx), (dx, ox1), (lx, instObj 787 dl), (dl, ol1)].map (·.1) := q
        obtain ⟨r, hr, e⟩ := List.mem_map.mp q'
        exact this r hr e
      · obtain ⟨q, hq, rfl⟩ := List.mem_map.mp hb
        exact nin4 q (.tail _ (List.mem_append_right _ hq))
    obtain ⟨FO', hsl, C2⟩ := Cx.left (D := [(x, instObj 694 dx), (dx, ox1), (lx, instObj 787 dl), (dl, ol1)]) (D' := [(x, instObj 694 dx), (dx, ox2), (lx, instObj 787 dl), (dl, ol2)]) (R0 := (S, lobj acc c1) :: R0) (FO := FO) C1 T.map T.data he hl rfl h7
    have : ts0 = ts := by rw [← hts1]; simp
    subst this
    exact h s2 ox2 ol2 FO' acc.toList c1 hsl C2 hvs1
theorem lex_extend {k : Bool} {w : World} {mg mb m : Str → Option Value} {A : Around} {s₀ s : Shared} {g : Heap} {L x dx lx dl q1 q2 S : Addr} {ox ol : Obj} {B : Tx} {p : Nat} {st : Option Nat} {ts : List Tx} {R0 FO : List (Addr × Obj)} {env : Env} {outer : List Env} {c0 : Nat} {R : Result → Shared → Prop} {res : Value}
    (C0 : Cx k s₀ g L s m ((S, lobj #[] c0) :: D4 x dx ox lx dl ol (R0 ++ FO))) (W : Wd w mg mb g) (hq1 : (q1, deqObj) ∈ R0) (hq2 : (q2, deqObj) ∈ R0)
    (hS : Strm ox B p) (hO : LxO ol x q1 q2 st) (hB : B.length ≤ 1000000) (hp : p ≤ B.length) (hG : Good B) (Rr : Rm A 6 34) (T : Otr outer FO)
    (hst : A.frames = some (env :: outer)) (he : env.frame = some L) (hek : env.scope.kind ≠ .module) (hrun : LexRun st (B.drop p) ts) (hts : ts.length ≤ 300000)
    (h : ∀ s' ox' ol' FO' vs c, SlE FO FO' → Cx k s₀ g L s' m (D4 x dx ox' lx dl ol' ((S, lobj vs.toArray c) :: (R0 ++ FO'))) → SVs vs ts → R (.ok (.ret res)) s') :
    wpAny (model P9 w) A.in1 (Builtin.List.listExtendWith (.ref S) (.ref lx) res)
      (fun fin s' => match fin with | .done f => R (.ok f) s' | .again c' => c'.quiet = true ∧ codeAny (model P9 w) A c' R s') (fun e s' => R (.error e) s') s := by
  have C : Cx k s₀ g L s m (D4 x dx ox lx dl ol ((S, lobj #[] c0) :: (R0 ++ FO))) := C0.perm (by
    have : ((S, lobj #[] c0) :: ([(x, instObj 694 dx), (dx, ox), (lx, instObj 787 dl), (dl, ol)] ++ (R0 ++ FO))).Perm ([(x, instObj 694 dx), (dx, ox), (lx, instObj 787 dl), (dl, ol)] ++ (S, lobj #[] c0) :: (R0 ++ FO)) := List.perm_middle.symm
    exact this)
  have I := inst_at C (C := 787) (x := lx) (dx := dl) (o := ol) (by k_call_by "mem" 0) (by k_call_by "mem" 0)
  have X := W.X.keeps C.keep
  have hSI : S ≠ lx := by
    have := C0.nd
    simp only [List.map_cons, List.nodup_cons, List.mem_cons, not_or] at this
    exact this.1.2.2.1
  unfold Builtin.List.listExtendWith
  refine wpAny_bind (I.type.here ?_)
  have h1 : Builtin.List.listSameRef (.ref S) (.ref lx) = false := by simp [Builtin.List.listSameRef, hSI]
  have h2 : (Value.ref 787 == Value.type "list") = false := by rfl
  have h3 : (Value.ref 787 == Value.type "tuple") = false := by rfl
  simp only [h1, h2, h3, Bool.or_false, Bool.false_eq_true, if_false]
  refine wpAny_bind (owit_iter (f := 777) C.F W.X I (by k_is) (by k_is) ?_)
  refine iter_ok (k := k) (W.keeps C.keep) (Rr.le (by first | decide | (first | lia | omega)) (by first | decide | (first | lia | omega))).in1 fun s1 k1 st1 => ?_
  have C1 := C.back0 k1 st1
  have I1 := inst_at C1 (C := 787) (x := lx) (dx := dl) (o := ol) (by k_call_by "mem" 0) (by k_call_by "mem" 0)
  have X1 := W.X.keeps C1.keep
  refine owit_it C1.F W.X I1 (g := .ref 784) (by k_is) ?_
  refine wpAny_bind (wpAny_holding ?_)
  unfold Builtin.List.listLengthHint
  refine wpAny_bind (wpAny_bind (I1.type.here ((looks_findIn X1 (name := "__len__") (r := none) (by k_is)).here ?_)))
  show wpAny _ A.in1 (specialOf (Value.ref lx) (Str.ofString "__length_hint__") >>= _) _ _ _
  refine wpAny_bind (wpAny_bind (I1.type.here ((looks_findIn X1 (name := "__length_hint__") (r := none) (by k_is)).here ?_)))
  refine wpAny_pure ?_
  show wpAny _ A.in1 (rule "list.extend.makes-room" >>= fun _ => Builtin.List.listTouch (.ref S) >>= fun _ =>
    again (.builtin "list.extend.loop" ⟨[.ref S, .ref lx, res], []⟩)) _ _ _
  refine wpAny_bind (wpAny_rule ?_)
  refine wpAny_bind ?_
  show wpAny _ A.in1 (updateSeq S (·.push .none) >>= fun _ => updateSeq S (·.pop)) _ _ _
  have g1 : s1.heap.get? S = some (lobj #[] c0) := C1.get (p := (S, lobj #[] c0)) (.tail _ (.tail _ (.tail _ (.tail _ (.head _)))))
  refine wpAny_bind (wpAny_updateSeq g1 rfl ?_)
  have g2 := Heap.get?_update_self (Obj.mapSeq (·.push Value.none)) g1 rfl
  have C2 := C1.up (t := s1.toks) (.s (.s (.s (.s .z)))) (Heap.SameBut.update ..) g2
  refine wpAny_updateSeq (hz := by seq_fits) g2 rfl ?_
  have g3 := Heap.get?_update_self (Obj.mapSeq (·.pop)) g2 rfl
  have C3 := C2.up (t := s1.toks) (.s (.s (.s (.s .z)))) (Heap.SameBut.update ..) g3
  refine wpAny_pure ⟨plainId_quiet F.plain_extend_loop _, lex_ext (c0 := _) C3 W hq1 hq2 hS hO hB hp hG (Rr.le (by first | decide | (first | lia | omega)) (by first | decide | (first | lia | omega))) T hst he hek hrun hts h⟩
theorem list_lex {k : Bool} {w : World} {mg mb m : Str → Option Value} {A : Around} {s₀ s : Shared} {g : Heap} {L x dx lx dl q1 q2 : Addr} {ox ol : Obj} {B : Tx} {p : Nat} {st : Option Nat} {ts : List Tx} {R0 FO : List (Addr × Obj)} {env : Env} {outer : List Env} {Q E : Value → Shared → Prop}
    (C : Cx k s₀ g L s m (D4 x dx ox lx dl ol (R0 ++ FO))) (W : Wd w mg mb g) (hq1 : (q1, deqObj) ∈ R0) (hq2 : (q2, deqObj) ∈ R0)
    (hS : Strm ox B p) (hO : LxO ol x q1 q2 st) (hB : B.length ≤ 1000000) (hp : p ≤ B.length) (hG : Good B) (Rr : Rm A 6 36) (T : Otr outer FO)
    (hst : A.frames = some (env :: outer)) (he : env.frame = some L) (hek : env.scope.kind ≠ .module) (hrun : LexRun st (B.drop p) ts) (hts : ts.length ≤ 300000)
    (h : ∀ S s' ox' ol' FO' vs c, SlE FO FO' → Cx k s₀ g L s' m (D4 x dx ox' lx dl ol' ((S, lobj vs.toArray c) :: (R0 ++ FO'))) → SVs vs ts → Q (.ref S) s') :
    wpAny (model P9 w) A (call (.type "list") [.ref lx]) Q E s := by
  refine callType_codes (Q₁ := fun obj s₁ => obj = .ref s.heap.objs.size ∧ s₁ = { s with heap := s.heap.push { cls := .type "list", data := .seq #[] } }) F.called_list (F.typeCall_list_1 _) F.entry_list_init
    (code_list_new _ ⟨rfl, rfl⟩) fun obj s₁ h₁ => ?_
  obtain ⟨rfl, rfl⟩ := h₁
  have hlist : (s.heap.push { cls := .type "list", data := .seq #[] }).get? s.heap.objs.size = some { cls := .type "list", data := .seq #[] } := Heap.get?_push_size _ rfl
  refine ⟨⟨_, hlist, rfl⟩, F.args_list_init_2 _ _, ?_⟩
  have hx0 : s.heap.get? s.heap.objs.size = none := by
    cases e : s.heap.get? s.heap.objs.size with
    | none => rfl
    | some o => exact absurd (Heap.lt_size e) (Nat.lt_irrefl _)
  generalize hSdef : s.heap.objs.size = S at hlist hx0 ⊢
  have C1 : Cx k s₀ g L ⟨s.heap.push { cls := .type "list", data := .seq #[] }, s.gens, s.drawn, s.toks, s.os⟩ m ((S, lobj #[] 0) :: D4 x dx ox lx dl ol (R0 ++ FO)) :=
    C.more (C.back0 (fun b o e => Heap.get?_push_of_some _ e) .heap) hx0 hlist
  show wpAny _ A.in1.in1 (do let old ← Builtin.List.listItems (.ref S); Builtin.List.listUpdate (.ref S) (fun _ => #[]); letGo old.toList.reverse; Builtin.List.listExtendWith (.ref S) (.ref lx) .none) _ _ _
  refine wpAny_bind ?_
  unfold Builtin.List.listItems
  refine wpAny_bind (wpAny_seqItems hlist rfl (wpAny_pure ?_))
  show wpAny _ A.in1.in1 (updateSeq S (fun _ => #[]) >>= fun _ => letGo (#[] : Array Value).toList.reverse >>= fun _ => Builtin.List.listExtendWith (.ref S) (.ref lx) .none) _ _ _
  refine wpAny_bind (wpAny_updateSeq hlist rfl ?_)
  have C2 := C1.up (t := s.toks) (.z) (Heap.SameBut.update ..) (Heap.get?_update_self (Obj.mapSeq (fun _ => (#[] : Array Value))) hlist rfl)
  refine wpAny_bind (wpAny_letGo ?_)
  refine lex_extend (A := A.in1) (c0 := _) C2 W hq1 hq2 hS hO hB hp hG (Rr.le (by first | decide | (first | lia | omega)) (by first | decide | (first | lia | omega))).in1 T hst he hek hrun hts fun s' ox' ol' FO' vs c h1 h2 h3 => ⟨rfl, h S s' ox' ol' FO' vs c h1 h2 h3⟩
theorem obj_new {w : World} {A : Around} {E : Value → Shared → Prop} {s : Shared} {expr : Bool} {Q : Value → Shared → Prop} (X : (Mine.hd.heap_1 w.params).In s.heap)
    (h : Q (.builtin "object.__new__") { s with toks := s.toks + 1 }) : wpAny (model P9 w) A (getAttr (.type "object") (Str.ofString "__new__") expr) Q E s := by
  have hstub : opaqueClassAbove (.type "object") = pure none := by unfold opaqueClassAbove; dsimp only; rw [show Manifest.isStub "object" = false from by decide +kernel]; rfl
  have L0 : Looks (model P9 w) s.heap (typeOf (.type "object")) (.type "type") := Looks.of_pure (kitMeta_of (by decide +kernel))
  have LO : Looks (model P9 w) s.heap (opaqueClassAbove (.type "object")) none := Looks.of_pure hstub
  have hg : findIn (Mine.hd.heap_1 w.params) (.type "type") "__getattribute__" = some (some (.builtin "type.__getattribute__")) := type_tga
  have e : findCls (Mine.hd.heap_1 w.params) (.type "object") (.type "type") (Str.ofString "__new__") = some (.val (.builtin "object.__new__")) := by kernel_rfl
  refine cls_open X LO L0 hg (looks_hook X (r := none) (by rfl)) (by show subIn (Mine.hd.heap_1 w.params) _ _ = _; rfl) e ?_
  show wpAny _ _ (ret (Value.builtin "object.__new__")) _ _ _
  refine wpAny_pure ?_
  show wpAny (model P9 w) A (handedOut (.builtin "object.__new__")) Q E _
  rw [handedOut_of (by decide +kernel)]
  exact wpAny_pure h
theorem objm_new {w : World} {A : Around} {E : Value → Shared → Prop} {s : Shared} {pl : Sem Bool} {Q : Value × List Value → Shared → Prop} (X : (Mine.hd.heap_1 w.params).In s.heap)
    (h : Q (.builtin "object.__new__", []) { s with toks := s.toks + 1 }) : wpAny (model P9 w) A (getMethod (.type "object") (Str.ofString "__new__") pl) Q E s := by
  unfold getMethod
  have L1 : Looks (model P9 w) s.heap (specialOf (.type "object") (Str.ofString "__getattribute__")) (some (.builtin "type.__getattribute__")) := Looks.of_peek X (by kernel_rfl)
  refine wpAny_bind (L1.here ?_)
  try dsimp only
  rw [if_pos canon_tga]
  exact wpAny_bind (obj_new X (wpAny_pure h))
theorem new694 {w : World} {A : Around} {s : Shared} {R : Result → Shared → Prop} (X : (Mine.hd.heap_1 w.params).In s.heap) (hd : ((Mine.hd.heap_1 w.params).lookup 694).any (fun o => match o.data with | .cls cd => !cd.abstract && !cd.hasDel && !cd.mro.isEmpty | _ => false) = true)
    (hq : R (.ok (.ret (.ref (s.heap.objs.size + 1)))) ⟨(s.heap.push emptyDict).push (instObj 694 s.heap.objs.size), s.gens, s.drawn, s.toks, s.os⟩) :
    codeAny (model P9 w) A (.call (.builtin "object.__new__") ⟨[.ref 694], []⟩) R s := by
  obtain ⟨o, ho, hb⟩ := any_some hd
  obtain ⟨oc, od, dt, sl⟩ := o
  cases dt
  case cls cd =>
    simp only [Bool.and_eq_true, Bool.not_eq_true'] at hb
    obtain ⟨⟨e1, e2⟩, e4⟩ := hb
    have hC := X _ _ ho
    have self : Looks (model P9 w) s.heap (isSubtype (.ref 694) (.ref 694)) true := looks_mroIn X (by k_is)
    have top : Looks (model P9 w) s.heap (isSubtype (.ref 694) (.type "object")) true := looks_mroIn X (by k_is)
    have typ : Looks (model P9 w) s.heap (isInstance (.ref 694) (.type "type")) true := looks_instIn X (by k_is)
    have base : Looks (model P9 w) s.heap (Bind.staticBase (.ref 694)) (.type "object") := Looks.of_peek X (by kernel_rfl)
    have made : Looks (model P9 w) s.heap (Bind.madeBy (.type "object")) (some "object.__new__") := Looks.of_peek X (by kernel_rfl)
    have here : Looks (model P9 w) s.heap (Bind.madeHere "object.__new__" (.ref 694)) () := Looks.of_peek X (by kernel_rfl)
    obtain ⟨h, g, d, t, os⟩ := s
    have F := PySem.F.objNew
    refine codeAny_call_builtin_code (Code.quiet_builtin _ F.quiet) ?_
    simp only [checkBuiltinCall, F.kind, F.split, F.row]
    have args : Bind.checkArgs "object.__new__" ⟨.hand, "object.__new__", "__new__", .cls, []⟩ ⟨[.ref 694], []⟩ = pure () := by kernel_rfl
    rw [args]
    repeat (first | simp only [bne_self_eq_false, Bool.false_eq_true, if_false] | lk)
    refine codeAny_builtin F.entry ?_
    unfold Builtin.«object.__new__»
    have fin : ∀ A', wpAny (model P9 w) A' (do
        let d ← if typeHasDict (.ref 694) then some <$> alloc { cls := .type "dict", data := .dict #[] } else pure none
        ret (← newObj (.ref 694) .plain d)) (fun fin s' => match fin with | .done f => R (.ok f) s' | .again c' => c'.quiet = true ∧ codeAny (model P9 w) A c' R s') (fun e s' => R (.error e) s') ⟨h, g, d, t, os⟩ := by
      intro A'
      show wpAny _ _ ((alloc emptyDict >>= fun x => pure (some x)) >>= _) _ _ _
      refine wpAny_bind (wpAny_bind (wpAny_alloc (wpAny_pure (wpAny_bind ?_))))
      show wpAny _ _ (newObjAsIs _ _ _) _ _ _
      unfold newObjAsIs classHasDel
      refine wpAny_bind (wpAny_alloc (wpAny_bind (wpAny_bind (wpAny_load (Heap.get?_push_of_some _ (Heap.get?_push_of_some _ hC)) (wpAny_pure ?_)))))
      rw [e2]
      refine wpAny_pure (wpAny_pure ?_)
      show R _ _
      rw [Heap.size_push]
      exact hq
    repeat (first | simp only [e1, Bool.false_eq_true, if_false] | exact fin _ | lk)
  all_goals cases hb
theorem enterV {k : Bool} {w : World} {mg mb m₀ : Str → Option Value} {A : Around} {s₀ s : Shared} {g : Heap} {L₀ : Addr} {news : List (Addr × Obj)} {R : Result → Shared → Prop} {name qual : Str} {params : Arguments} {body : List Stmt} {scope : Scope} {dV kV doc pm cdv ct oc : Value} {an od : Option Addr} {osl : Array (Option Value)} {f : Addr} {args : Args}
    {vs : List Value} {g₁ : Addr → Sem (List (Str × Value))} {g₂ : Addr → Addr → Sem (List (Str × Value))} {binds : Addr → Addr → List (Str × Value)}
    (C : Cx k s₀ g L₀ s m₀ news) (W : Wd w mg mb g) (hroom : A.depth < recursionLimit)
    (ho : (Mine.hd.heap_1 w.params).lookup f = some ⟨oc, od, .func (fnOf name qual params body scope dV kV doc pm an cdv ct), osl⟩) (hcd : codeIn (Mine.hd.heap_1 w.params) cdv qual = true)
    (hp : peekA (Mine.hd.heap_1 w.params) ⟨P9, w.params⟩ (bindArgs (fnOf name qual params body scope dV kV doc pm an cdv ct) args) = some (({ cls := .type "tuple", data := .seq vs.toArray } : Obj), g₁))
    (hp₂ : ∀ D, peekA (Mine.hd.heap_1 w.params) ⟨P9, w.params⟩ (g₁ D) = some (dictOf [] 0, g₂ D)) (hk₂ : ∀ c D, g₂ c D = pure (binds c D))
    (hloc : ∀ c D, ∀ y ∈ binds c D, scope.names.lookup y.1 = some .local)
    (h : ∀ c D h'' L s', Cx k s₀ g L₀ ⟨h'', s.gens, s.drawn, s.toks, s.os⟩ m₀ news → Cx k s h'' L s' (bnd (binds c D).reverse) [] →
      wpAny (model P9 w) (A.deeper (envOf qual scope L f cdv)) (execs body (envOf qual scope L f cdv)) (fun fl s'' => R (.ok (.ret (match fl with | .ret v => v | _ => .none))) s'') (fun _ _ => False) s')
    (hco : scope.isCoroutine = false) (hgen : scope.isGenerator = false) (hk : scope.kind = .function) (hcell : ∀ x ∈ scope.names, x.2 ≠ .cell) : codeAny (model P9 w) A (.call (.ref f) args) R s := by
  have X := Kin W C
  refine codeAny_call_function (fd := fnOf name qual params body scope dV kV doc pm an cdv ct) (body := body) hroom (X _ _ ho) rfl hco hgen rfl (codeRec_of X hcd) ?_
  refine wp_of_peekA (o := ({ cls := .type "tuple", data := .seq vs.toArray } : Obj)) C.F C.N X rfl _ g₁ hp fun h' F' N' l => ?_
  have X' := W.X.keeps F'.keep
  refine wp_of_peekA (s := { s with heap := h' }) (o := dictOf [] 0) F' N' X' rfl _ (g₂ s.heap.objs.size) (hp₂ _) fun h'' F'' N'' l' => ?_
  rw [hk₂]
  refine wpAny_pure ?_
  have nd3 : (news.map (·.1)).Nodup := C.nd
  have C3 : Cx k s₀ g L₀ ⟨h'', s.gens, s.drawn, s.toks, s.os⟩ m₀ news := ⟨C.st.trans .heap, F'', fun p hp => N'' p (.tail _ (.tail _ hp)), nd3⟩
  have hlim := (W.keeps C3.keep).lim
  refine wpAny_newFunctionEnv hcell (hloc _ _) (fun h₁ hns hsb => ⟨hlim.fresh _ hsb, codeAny_func ?_⟩) hk
  have hk₁ : ∀ b o, h''.get? b = some o → h₁.get? b = some o := fun b o e => hsb.extBut b o (Nat.ne_of_lt (Heap.lt_size e)) (Heap.get?_push_of_some _ e)
  exact wpAny_mono (h _ _ h'' h''.objs.size _ C3 ⟨.heap, ⟨hns, hk₁, Nat.le_refl _⟩, News.nil, List.Pairwise.nil⟩) (fun _ _ z => z) fun _ _ z => z.elim
theorem r_isnot_K {k : Bool} {w : World} {mg mb m : Str → Option Value} {A : Around} {s₀ s : Shared} {g : Heap} {L a b : Addr} {news : List (Addr × Obj)} {Q E : Value → Shared → Prop} (C : Cx k s₀ g L s m news) (W : Wd w mg mb g)
    (ha : ((Mine.hd.heap_1 w.params).lookup a).any (fun o => o.cls == .type "type") = true) (hb : ((Mine.hd.heap_1 w.params).lookup b).isSome = true) (hab : a ≠ b) (h : Q (.bool true) s) : wpAny (model P9 w) A (compareOp .IsNot (.ref a) (.ref b)) Q E s := by
  have X := Kin W C
  obtain ⟨oa, h1, h2⟩ := any_some ha
  obtain ⟨ob, h3⟩ := Option.isSome_iff_exists.mp hb
  refine kto_isnot (X _ _ h1) (X _ _ h3) hab (fun q => ?_) h
  have h2' : oa.cls = .type "type" := eq_of_beq h2
  rw [h2'] at q
  exact absurd (Value.type.inj q) (by decide)
theorem new187 {k : Bool} {w : World} {mg mb m : Str → Option Value} {A : Around} {s₀ s : Shared} {g : Heap} {L : Addr} {v : Value} {news : List (Addr × Obj)} {Q E : Value → Shared → Prop}
    (C : Cx k s₀ g L s m news) (W : Wd w mg mb g) (R : Rm A 2 12)
    (h : ∀ x dx s', Cx k s₀ g L s' m ((x, instObj 694 dx) :: (dx, emptyDict) :: news) → Q (.ref x) s') : wpAny (model P9 w) A (call (.ref 187) [.ref 694, v]) Q E s := by
  refine wpAny_call ?_
  refine' enterV (k := k) (vs := [v]) (binds := fun c D => [(Str.ofString "cls", .ref 694), (Str.ofString "args", .ref c), (Str.ofString "kwargs", .ref D)]) C W R.room ?ho ?hcd ?hp ?hp2 ?hk2 ?hl ?_ ?h1 ?h2 ?h3 ?h4
  case ho => k_is
  case hcd => k_is
  case hp => exact rfl
  case hp2 => intro D; exact rfl
  case hk2 => intro c D; exact rfl
  case hl => intro c D; exact locs (by kernel_rfl)
  case h1 => exact rfl
  case h2 => exact rfl
  case h3 => exact rfl
  case h4 => decide +kernel
  intro c D h2 L1 s1 C0 C1
  simp only [List.reverse_cons, List.reverse_nil, List.nil_append, List.cons_append] at C1
  have W1 : Wd w mg mb h2 := W.keeps C0.keep
  k_call_by "go" 0
  refine r_isnot_K (by with_reducible assumption) W1 (by kernel_rfl) (by kernel_rfl) (by decide) ?_
  k_call_by "go" 0
  refine isnot_ref_same ?_
  k_call_by "go" 0
  refine objm_new (W1.X.keeps C1.keep) ?_
  have C6 := C1.toks (t := s1.toks + 1)
  try dsimp only
  k_call_by "go" 0
  refine wpAny_call (new694 (W1.X.keeps C6.keep) (by kernel_rfl) ?_)
  have k9 : ∀ b o, s1.heap.get? b = some o → ((s1.heap.push emptyDict).push (instObj 694 s1.heap.objs.size)).get? b = some o := fun b o e => Heap.get?_push_of_some _ (Heap.get?_push_of_some _ e)
  have n1 : ∀ (hh : Heap), hh.get? hh.objs.size = none := fun hh => by
    cases e : hh.get? hh.objs.size with
    | none => rfl
    | some o => exact absurd (Heap.lt_size e) (Nat.lt_irrefl _)
  have D1 : Cx k s₀ g L ⟨s1.heap, s1.gens, s1.drawn, s1.toks, s1.os⟩ m news := C0.back0 C1.keep ⟨C1.st.os, C1.st.gens, C1.st.calm⟩
  have D2 : Cx k s₀ g L ⟨s1.heap.push emptyDict, s1.gens, s1.drawn, s1.toks, s1.os⟩ m news := D1.back0 (fun b o e => Heap.get?_push_of_some _ e) .heap
  have D3 := D1.more D2 (n1 s1.heap) (Heap.get?_push_size _ rfl)
  have D4' : Cx k s₀ g L ⟨(s1.heap.push emptyDict).push (instObj 694 s1.heap.objs.size), s1.gens, s1.drawn, s1.toks + 1, s1.os⟩ m _ := D3.back0 (fun b o e => Heap.get?_push_of_some _ e) .heap
  have hsz : (s1.heap.push emptyDict).objs.size = s1.heap.objs.size + 1 := Heap.size_push ..
  have D5 := D3.more D4' (x := s1.heap.objs.size + 1) (by rw [← hsz]; exact n1 _) (by rw [← hsz]; exact Heap.get?_push_size _ rfl)
  exact h _ _ _ D5
/-! back from a call with fresh objects -/
theorem fresh_of {h : Heap} {as : List Addr} {x : Addr} (h1 : (hideAll h as).get? x = none) (h2 : x ∉ as) : h.get? x = none := by
  cases e : h.get? x with
  | none => rfl
  | some o => rw [hideAll_get _ e h2] at h1; cases h1
theorem Cx.adds {k : Bool} {s₀ s s' : Shared} {g : Heap} {L : Addr} {m : Str → Option Value} {R R' : List (Addr × Obj)} (C : Cx k s₀ g L s m R) (C' : Cx k s₀ g L s' m R') (hR : R'.map (·.1) = R.map (·.1)) :
    ∀ F : List (Addr × Obj), (F.map (·.1)).Nodup → (∀ p ∈ F, s.heap.get? p.1 = none ∧ s'.heap.get? p.1 = some p.2) → Cx k s₀ g L s' m (F ++ R') := by
  intro F nd h
  have inL : ∀ p ∈ F, p.1 ≠ L ∧ g.get? p.1 = none ∧ p.1 ∉ R'.map (·.1) := fun p hp => by
    obtain ⟨h1, _⟩ := h p hp
    refine ⟨fun q => ?_, ?_, fun q => ?_⟩
    · obtain ⟨oL, es, ep, hL, r⟩ := C.F.ns
      rw [q, hL] at h1; cases h1
    · cases e : g.get? p.1 with
      | none => rfl
      | some o' => rw [C.F.keep _ _ e] at h1; cases h1
    · rw [hR] at q
      obtain ⟨r, hr, e⟩ := List.mem_map.mp q
      have := (C.N r hr).1
      rw [e, h1] at this; cases this
  refine ⟨C'.st, C'.F, fun p hp => ?_, ?_⟩
  · rcases List.mem_append.mp hp with hp | hp
    · exact ⟨(h p hp).2, (inL p hp).1, (inL p hp).2.1⟩
    · exact C'.N p hp
  · rw [List.map_append, List.nodup_append]
    refine ⟨nd, C'.nd, fun a ha b hb e => ?_⟩
    obtain ⟨p, hp, rfl⟩ := List.mem_map.mp ha
    exact (inL p hp).2.2 (e ▸ hb)
theorem Cx.ret {k : Bool} {s₀ s s' : Shared} {g : Heap} {L L' : Addr} {m m' : Str → Option Value} {D D' F R : List (Addr × Obj)} (C : Cx k s₀ g L s m (D ++ R)) (C' : Cx k s (hideAll s.heap (D.map (·.1))) L' s' m' (D' ++ F)) (hn : D'.map (·.1) = D.map (·.1)) :
    Cx k s₀ g L s' m (F ++ (D' ++ R)) := by
  have C1 : Cx k s₀ g L s' m (D' ++ R) := Cx.back (g' := hideAll s.heap (D.map (·.1))) C (fun b o e hb => hideAll_get _ e hb) C'.keep C'.st (fun p hp => C'.get (List.mem_append_left _ hp)) hn
  have nd := C'.nd
  rw [List.map_append, List.nodup_append] at nd
  refine Cx.adds C C1 (by rw [List.map_append, List.map_append, hn]) F nd.2.1 fun p hp => ⟨fresh_of (C'.N p (List.mem_append_right _ hp)).2.2 fun q => ?_, C'.get (List.mem_append_right _ hp)⟩
  exact nd.2.2 p.1 (hn ▸ q) p.1 (List.mem_map_of_mem hp) rfl
theorem Cx.atL {k : Bool} {s₀ s : Shared} {g : Heap} {L : Addr} {m : Str → Option Value} {R : List (Addr × Obj)} (C : Cx k s₀ g L s m R) : ∃ oL, s.heap.get? L = some oL ∧ ∀ vs, oL.data ≠ .fields vs := by
  obtain ⟨oL, es, ep, hL, e, r⟩ := C.F.ns
  exact ⟨oL, hL, fun vs q => by rw [e] at q; cases q⟩
theorem Cx.gL {k : Bool} {s₀ s : Shared} {g : Heap} {L : Addr} {m : Str → Option Value} {R : List (Addr × Obj)} (C : Cx k s₀ g L s m R) : g.get? L = none := by
  cases e : g.get? L with
  | none => rfl
  | some o => exact absurd (Nat.lt_of_lt_of_le (Heap.lt_size e) C.F.above) (Nat.lt_irrefl _)
theorem Cx.hid {k : Bool} {s₀ s : Shared} {g : Heap} {L : Addr} {oL : Obj} {m : Str → Option Value} {D R FO : List (Addr × Obj)} (C : Cx k s₀ g L s m (D ++ (R ++ FO))) (hL : s.heap.get? L = some oL) :
    (∀ p ∈ D ++ (L, oL) :: FO, s.heap.get? p.1 = some p.2 ∧ g.get? p.1 = none) ∧ ((D ++ (L, oL) :: FO).map (·.1)).Nodup := by
  refine ⟨fun p hp => ?_, ?_⟩
  · rcases List.mem_append.mp hp with hp | hp
    · exact ⟨C.get (List.mem_append_left _ hp), (C.N p (List.mem_append_left _ hp)).2.2⟩
    · rcases List.mem_cons.mp hp with rfl | hp
      · exact ⟨hL, C.gL⟩
      · have hp' : p ∈ D ++ (R ++ FO) := List.mem_append_right _ (List.mem_append_right _ hp)
        exact ⟨C.get hp', (C.N p hp').2.2⟩
  · have nd := C.nd
    have e : ((D ++ (L, oL) :: FO).map (·.1)).Perm (L :: (D ++ FO).map (·.1)) := by
      rw [List.map_append, List.map_cons, List.map_append]; exact List.perm_middle
    rw [e.nodup_iff, List.nodup_cons]
    refine ⟨fun q => ?_, nd.sublist ((List.Sublist.append (List.Sublist.refl _) (List.sublist_append_right _ _)).map _)⟩
    obtain ⟨p, hp, rfl⟩ := List.mem_map.mp q
    have hp' : p ∈ D ++ (R ++ FO) := by
      rcases List.mem_append.mp hp with hp | hp
      · exact List.mem_append_left _ hp
      · exact List.mem_append_right _ (List.mem_append_right _ hp)
    exact (C.N p hp').2.1 rfl
theorem Otr.push {env : Env} {outer : List Env} {FO : List (Addr × Obj)} {L : Addr} {oL : Obj} (T : Otr outer FO) (he : env.frame = some L) (hek : env.scope.kind ≠ .module) (hd : ∀ vs, oL.data ≠ .fields vs) : Otr (env :: outer) ((L, oL) :: FO) where
  map := by rw [List.map_cons, List.filterMap_cons, he, T.map]
  ok := fun e h => by
    rcases List.mem_cons.mp h with rfl | h
    · exact ⟨hek, by rw [he]; rfl⟩
    · exact T.ok e h
  data := fun p h => by
    rcases List.mem_cons.mp h with rfl | h
    · exact hd
    · exact T.data p h
theorem Otr.sl {outer : List Env} {FO FO' : List (Addr × Obj)} (T : Otr outer FO) (h : SlE FO FO') : Otr outer FO' where
  map := h.1.trans T.map
  ok := T.ok
  data := fun p hp => by
    obtain ⟨o, ho, sl, e⟩ := h.2 p hp
    rw [e]; exact T.data _ ho
theorem SlE.refl (FO : List (Addr × Obj)) : SlE FO FO := ⟨rfl, fun p hp => ⟨p.2, hp, p.2.slots, rfl⟩⟩
theorem SlE.trans {a b c : List (Addr × Obj)} (h1 : SlE a b) (h2 : SlE b c) : SlE a c := ⟨h2.1.trans h1.1, fun p hp => by
  obtain ⟨o, ho, sl, e⟩ := h2.2 p hp
  obtain ⟨o', ho', sl', e'⟩ := h1.2 _ ho
  exact ⟨o', ho', sl, by rw [e]; dsimp only at e'; rw [e']⟩⟩
theorem Cx.retS {k : Bool} {s₀ s s' : Shared} {g : Heap} {L L' : Addr} {oL : Obj} {m m' : Str → Option Value} {D D' F R FO X : List (Addr × Obj)} (C : Cx k s₀ g L s m (D ++ (R ++ FO))) (hL : s.heap.get? L = some oL)
    (C' : Cx k s (hideAll s.heap ((D ++ (L, oL) :: FO).map (·.1))) L' s' m' (D' ++ (F ++ X))) (hX : SlE ((L, oL) :: FO) X) (hn : D'.map (·.1) = D.map (·.1)) :
    ∃ FO', SlE FO FO' ∧ Cx k s₀ g L s' m (F ++ (D' ++ (R ++ FO'))) := by
  obtain ⟨hX1, hX2⟩ := hX
  cases X with
  | nil => cases hX1
  | cons q FO' =>
  obtain ⟨Lq, oX⟩ := q
  simp only [List.map_cons, List.cons.injEq] at hX1
  obtain ⟨rfl, hm⟩ := hX1
  obtain ⟨hh, hnd⟩ := C.hid hL
  have hndF : ((Lq, oL) :: FO).map (·.1) |>.Nodup := by
    rw [List.map_append] at hnd
    exact (List.nodup_append.mp hnd).2.1
  rw [List.map_cons, List.nodup_cons] at hndF
  have hsl : ∃ sl, oX = { oL with slots := sl } := by
    obtain ⟨o, ho, sl, e⟩ := hX2 (Lq, oX) (.head _)
    rcases List.mem_cons.mp ho with ho | ho
    · cases ho; exact ⟨sl, e⟩
    · exact absurd (List.mem_map_of_mem (f := fun p : Addr × Obj => p.1) ho) hndF.1
  have hFO : SlE FO FO' := ⟨hm, fun p hp => by
    obtain ⟨o, ho, sl, e⟩ := hX2 p (.tail _ hp)
    rcases List.mem_cons.mp ho with ho | ho
    · have e1 : p.1 = Lq := congrArg Prod.fst ho
      have hin : p.1 ∈ FO.map (·.1) := hm ▸ List.mem_map_of_mem (f := fun p : Addr × Obj => p.1) hp
      rw [e1] at hin
      exact absurd hin hndF.1
    · exact ⟨o, ho, sl, e⟩⟩
  refine ⟨FO', hFO, ?_⟩
  have st' := C'.st
  have stay : ∀ b o, s.heap.get? b = some o → b ∉ (D ++ (Lq, oL) :: FO).map (·.1) → s'.heap.get? b = some o := fun b o e hb => C'.keep _ _ (hideAll_get _ e hb)
  have hLX : s'.heap.get? Lq = some oX := C'.get (p := (Lq, oX)) (List.mem_append_right _ (List.mem_append_right _ (.head _)))
  have C1 : Cx k s₀ g Lq s' m (D' ++ (R ++ FO')) := by
    obtain ⟨oL2, es, ep, hL2, e1, e2⟩ := C.F.ns
    have : oL2 = oL := by rw [hL] at hL2; cases hL2; rfl
    subst this
    obtain ⟨sl, rfl⟩ := hsl
    have nd := C.nd
    refine ⟨C.st.trans st', ⟨⟨_, es, ep, hLX, e1, e2⟩, fun b o e => stay b o (C.F.keep b o e) fun q => ?_, C.F.above⟩, fun p hp => ?_, by
      simp only [List.map_append] at nd ⊢; rw [hn, hm]; exact nd⟩
    · obtain ⟨p, hp, rfl⟩ := List.mem_map.mp q
      rw [(hh p hp).2] at e; cases e
    · rcases List.mem_append.mp hp with hp | hp
      · have : p.1 ∈ D.map (·.1) := hn ▸ List.mem_map_of_mem hp
        obtain ⟨p0, h0, e0⟩ := List.mem_map.mp this
        have P := C.N p0 (List.mem_append_left _ h0)
        exact ⟨C'.get (List.mem_append_left _ hp), by rw [← e0]; exact P.2⟩
      · rcases List.mem_append.mp hp with hp | hp
        · have P := C.N p (List.mem_append_right _ (List.mem_append_left _ hp))
          refine ⟨stay _ _ P.1 fun q => ?_, P.2⟩
          simp only [List.map_append, List.map_cons, List.mem_append, List.mem_cons] at q
          simp only [List.map_append, List.nodup_append] at nd
          rcases q with q | q | q
          · exact nd.2.2 p.1 q p.1 (List.mem_append_left _ (List.mem_map_of_mem hp)) rfl
          · exact P.2.1 q
          · exact nd.2.1.2.2 p.1 (List.mem_map_of_mem hp) p.1 q rfl
        · have : p.1 ∈ FO.map (·.1) := hm ▸ List.mem_map_of_mem hp
          obtain ⟨p0, h0, e0⟩ := List.mem_map.mp this
          have P := C.N p0 (List.mem_append_right _ (List.mem_append_right _ h0))
          exact ⟨C'.get (List.mem_append_right _ (List.mem_append_right _ (.tail _ hp))), by rw [← e0]; exact P.2⟩
  have nd := C'.nd
  rw [List.map_append, List.map_append, List.nodup_append, List.nodup_append] at nd
  refine Cx.adds C C1 (by simp only [List.map_append]; rw [hn, hm]) F nd.2.1.1 fun p hp => ?_
  have hp' : p ∈ D' ++ (F ++ (Lq, oX) :: FO') := List.mem_append_right _ (List.mem_append_left _ hp)
  refine ⟨fresh_of (C'.N p hp').2.2 fun q => ?_, C'.get hp'⟩
  rw [List.map_append, List.map_cons, List.mem_append] at q
  rcases q with q | q
  · exact nd.2.2 p.1 (hn ▸ q) p.1 (List.mem_append_left _ (List.mem_map_of_mem hp)) rfl
  · rw [← hm] at q
    exact nd.2.1.2.2 p.1 (List.mem_map_of_mem hp) p.1 q rfl
/-! lists in the ledger -/
noncomputable def lo (ys : List Value) (c : Nat) : Obj := { cls := .type "list", dict := none, data := .seq ys.toArray c, slots := #[] }
section
variable {k : Bool} {w : World} {A : Around} {E : Value → Shared → Prop} {s₀ s : Shared} {g : Heap} {L a : Addr} {m mg mb : Str → Option Value} {R : List (Addr × Obj)}
theorem Cx.fresh {R : List (Addr × Obj)} (C : Cx k s₀ g L s m R) {h' : Heap} {t : Nat} {o : Obj} (hk : s.heap.StaysIn h') (ho : h'.get? s.heap.objs.size = some o) : Cx k s₀ g L ⟨h', s.gens, s.drawn, t, s.os⟩ m ((s.heap.objs.size, o) :: R) := by
  have hx : s.heap.get? s.heap.objs.size = none := by
    cases e : s.heap.get? s.heap.objs.size with
    | none => rfl
    | some o => exact absurd (Heap.lt_size e) (Nat.lt_irrefl _)
  exact C.more (C.back0 hk .heap) hx ho
theorem Cx.push {R : List (Addr × Obj)} (C : Cx k s₀ g L s m R) {o : Obj} {t : Nat} (hf : o.isFreed = false := by rfl) : Cx k s₀ g L ⟨s.heap.push o, s.gens, s.drawn, t, s.os⟩ m ((s.heap.objs.size, o) :: R) :=
  C.fresh (fun _ _ e => Heap.get?_push_of_some _ e) (Heap.get?_push_size _ hf)
theorem Cx.isList {ys : List Value} {c : Nat} (C : Cx k s₀ g L s m R) (hm : (a, lo ys c) ∈ R) : s.heap.IsList a ys.toArray := ⟨_, C.get hm, rfl, c, rfl⟩
/-- a step that changes but one object -/
theorem Cx.iter {I : Addr} {o o' : Obj} {h' : Heap} {t : Nat} (C : Cx k s₀ g L s m ((I, o) :: R)) (hk : ∀ b o, b ∉ [I] → s.heap.get? b = some o → h'.get? b = some o) (ho : h'.get? I = some o') :
    Cx k s₀ g L ⟨h', s.gens, s.drawn, t, s.os⟩ m ((I, o') :: R) :=
  Cx.back (D := [(I, o)]) (D' := [(I, o')]) (g' := hideAll s.heap [I]) C (fun b o e hb => hideAll_get _ e hb) (fun b o e => hk b o (fun q => by rw [hideAll_none _ q] at e; cases e) (of_hideAll _ e)) .heap (fun p hp => by rw [List.mem_singleton.mp hp]; exact ho) rfl
theorem Cx.gone {I : Addr} {o : Obj} {h' : Heap} {t : Nat} (C : Cx k s₀ g L s m ((I, o) :: R)) (hk : ∀ b o, b ∉ [I] → s.heap.get? b = some o → h'.get? b = some o) :
    Cx k s₀ g L ⟨h', s.gens, s.drawn, t, s.os⟩ m R := by
  obtain ⟨-, hIL, hIg⟩ := C.N (I, o) (.head _)
  obtain ⟨oL, es, ep, hL, r⟩ := C.F.ns
  have nd := C.nd
  rw [List.map_cons, List.nodup_cons] at nd
  refine ⟨C.st.trans .heap, ⟨⟨oL, es, ep, hk _ _ (fun q => hIL (List.mem_singleton.mp q).symm) hL, r⟩, fun b o' e => hk b o' (fun q => ?_) (C.F.keep b o' e), C.F.above⟩, fun p hp => ?_, nd.2⟩
  · rw [List.mem_singleton.mp q, hIg] at e; cases e
  · have P := C.N p (.tail _ hp)
    refine ⟨hk _ _ (fun q => nd.1 ?_) P.1, P.2⟩
    have e : p.1 = I := List.mem_singleton.mp q
    exact List.mem_map.mpr ⟨p, hp, e⟩
theorem r_append {ys : List Value} {c : Nat} {x : Value} {nf : Obj → List (Addr × Obj)} {Q : Value → Shared → Prop} (C : Cx k s₀ g L s m R) (U : ∀ o', Up a (lo ys c) o' R (nf o')) (hz : ys.length ≤ 1000000)
    (h : ∀ s', Cx k s₀ g L s' m (nf (lo (ys ++ [x]) (c + 1))) → Q .none s') : wpAny (model P9 w) A (call (.builtin "list.append") [.ref a, x]) Q E s := by
  have ho : s.heap.get? a = some { cls := .type "list", data := .seq ys.toArray c } := C.get (U (lo ys c)).mem
  refine append_at ho (fun h' hs ho' => h _ ?_) (by rw [List.size_toArray, sizeLine_eq]; (first | lia | omega))
  refine C.up (t := s.toks) (U _) hs ?_
  rw [ho', List.push_toArray]; rfl
end
/-! loops -/
section
variable {k : Bool} {w : World} {A : Around} {E : Value → Shared → Prop} {s₀ s : Shared} {g : Heap} {L I : Addr} {m mg mb : Str → Option Value} {R : List (Addr × Obj)} {cn : Str} {cs : Scope} {f : Addr} {ccd : Value} {cl : List (Str × Addr)}
theorem r_stX {x : Str} {v : Value} {Q : Unit → Shared → Prop} (C : Cx k s₀ g L s m R) (hx : cs.names.lookup x = some .local) (h : ∀ s', Cx k s₀ g L s' (upd m x v) R → Q () s') (hk : cs.kind = .function := by rfl) :
    wpAny (model P9 w) A (storeName (envX cn cs L f ccd cl) x v) Q E s := storeX_L C.F C.N (fun h' F' N' => h _ (C.at F' N' C.nd)) hk hx
theorem cx_for {oI : Obj} {x : Str} {px : Pos} {body : List Stmt} {fp : List Addr} {n : Nat} {P : Nat → Value → Prop} {St : Nat → Heap → Prop} {Q : Flow → Shared → Prop}
    (W : Walks P9 w A I fp [I] n P St) (Sv : Heap → Prop) (hSt : ∀ i h h' o, St i h → h.get? I = some o → h'.get? I = some o → Sv h' → St i h') (hIo : ∀ i h, St i h → ∃ o, h.get? I = some o)
    (J : Nat → (Str → Option Value) → List (Addr × Obj) → Prop) (hSv : ∀ i m R s' o, J i m R → Cx k s₀ g L s' m ((I, o) :: R) → Sv s'.heap)
    (hx : cs.names.lookup x = some .local) (hk : cs.kind = .function) (C : Cx k s₀ g L s m ((I, oI) :: R)) (hst : St 0 s.heap) (hJ : J 0 m R)
    (turn : ∀ i v m R s' oI, i < n → P i v → J i m R → Cx k s₀ g L s' (upd m x v) ((I, oI) :: R) → wpAny (model P9 w) A (execs body (envX cn cs L f ccd cl)) (fun fl s'' => match fl with
      | .next | .cont => ∃ m' R', Cx k s₀ g L s'' m' ((I, oI) :: R') ∧ J (i + 1) m' R'
      | .brk => Q .next s''
      | .ret v => Q (.ret v) s'') (fun _ _ => False) s')
    (done : ∀ m R s', J n m R → Cx k s₀ g L s' m R → Q .next s') :
    codeAny (model P9 w) A (.forLoop (.Name x px) (.ref I) body [] (envX cn cs L f ccd cl)) (fun r s' => match r with | .ok fl => Q fl s' | .error e => cameBackBy (model P9 w) A (envX cn cs L f ccd cl) E e s') s := by
  refine codeAny_forLoop (fun c s' => ∃ i m R oI, i ≤ n ∧ c = n - i ∧ Cx k s₀ g L s' m ((I, oI) :: R) ∧ St i s'.heap ∧ J i m R) ?_ n ⟨0, m, R, oI, Nat.zero_le _, rfl, C, hst, hJ⟩
  rintro c s1 ⟨i, m1, R1, oI1, hi, rfl, C1, hst1, hJ1⟩
  by_cases hlt : i < n
  · refine W.item i s1 _ _ hlt hst1 fun v h' tk hP hst' hkp => ?_
    obtain ⟨o', ho'⟩ := hIo _ _ hst'
    have C2 := C1.iter (t := tk) hkp ho'
    refine wpAny_assign_Name (r_stX C2 hx (fun s2 C3 => ?_) hk)
    refine wpAny_mono (turn i v m1 R1 s2 o' hlt hP hJ1 C3) (fun fl s3 h3 => ?_) fun _ _ z => z.elim
    have key : (∃ m' R', Cx k s₀ g L s3 m' ((I, o') :: R') ∧ J (i + 1) m' R') → ∃ mm, mm < n - i ∧ ∃ i m R oI, i ≤ n ∧ mm = n - i ∧ Cx k s₀ g L s3 m ((I, oI) :: R) ∧ St i s3.heap ∧ J i m R := by
      rintro ⟨m', R', C4, hJ4⟩
      exact ⟨n - (i + 1), by (first | lia | omega), i + 1, m', R', o', hlt, rfl, C4, hSt _ _ _ _ hst' ho' (C4.get (.head _)) (hSv _ _ _ _ _ hJ4 C4), hJ4⟩
    cases fl with
    | next => exact key h3
    | cont => exact key h3
    | brk => exact h3
    | ret v => exact h3
  · have e : i = n := by (first | lia | omega)
    subst e
    refine W.done s1 _ _ hst1 fun h' tk hkp => ?_
    refine wpAny_execs_nil ?_
    refine done m1 R1 _ hJ1 ?_
    exact C1.gone hkp
/-- tests, elements: a comprehension of one clause -/
theorem cx_comp {oI : Obj} {elt iter : Expr} {x : Str} {px : Pos} {ifs : List Expr} {scope : Scope} {pos : Pos} {env : Env} {fp : List Addr} {n : Nat} {P : Nat → Value → Prop} {St : Nat → Heap → Prop} {Q : Value → Shared → Prop}
    (W : Walks P9 w A I fp [I] n P St) (Sv : Heap → Prop) (hSt : ∀ i h h' o, St i h → h.get? I = some o → h'.get? I = some o → Sv h' → St i h') (hIo : ∀ i h, St i h → ∃ o, h.get? I = some o)
    (J : Nat → List Value → List (Addr × Obj) → Prop) (hSv : ∀ i ys R s' o, J i ys R → Cx k s₀ g L s' m ((I, o) :: R) → Sv s'.heap) (hlen : ∀ i ys R, J i ys R → ys.length ≤ 1000000)
    (hcell : ∀ y ∈ scope.names, y.2 ≠ .cell) (hkind : scope.kind = .function) (hx : scope.names.lookup x = some .local)
    (C : Cx k s₀ g L s m ((I, oI) :: R)) (hst : St 0 s.heap) (hJ : J 0 [] R)
    (turn : ∀ i v ys R s' oI oC Cc D c mC, i < n → P i v → J i ys R → Cx k s₀ g L s' m ((I, oI) :: (Cc, oC) :: (D, lo ys c) :: R) → LCg.NsObj oC mC → mC x = some v →
      wpAny (model P9 w) A (forIn ifs true fun c r => if r = true then do let ok ← isTrue c (compEnvC scope cl Cc env) (eval c (compEnvC scope cl Cc env)); pure (ForInStep.yield ok) else pure (ForInStep.yield r)) (fun ok s2 =>
        if ok = true then wpAny (model P9 w) A (eval elt (compEnvC scope cl Cc env)) (fun y s3 => ∃ R', Cx k s₀ g L s3 m ((I, oI) :: (Cc, oC) :: (D, lo ys c) :: R') ∧ J (i + 1) (ys ++ [y]) R') (fun _ _ => False) s2
        else ∃ R', Cx k s₀ g L s2 m ((I, oI) :: (Cc, oC) :: (D, lo ys c) :: R') ∧ J (i + 1) ys R') (fun _ _ => False) s')
    (done : ∀ D ys c R s', J n ys R → Cx k s₀ g L s' m ((D, lo ys c) :: R) → Q (.ref D) s') :
    wpAny (model P9 w) A (newList []) (fun acc s₃ => wpAny (model P9 w) A (newFunctionEnv scope env.globals cl [] env.qual none .none (some env)) (fun cenv s₄ =>
      codeAny (model P9 w) A (.compStart (.ListComp elt [⟨.Name x px, iter, ifs, 0⟩] scope pos) 0 (.ref I) acc { cenv with scope := relabel scope env }) (compPost (model P9 w) A E none Q acc cenv.locals) s₄) E s₃) E s := by
  refine wpAny_newObj_type (wpAny_newFunctionEnv hcell (by intro y hy; simp at hy) (fun h₁ hns₁ hsb₁ => ?_) hkind)
  dsimp only at hns₁ hsb₁ ⊢
  have C0 : Cx k s₀ g L ⟨s.heap.push (lo [] 0), s.gens, s.drawn, s.toks, s.os⟩ m ((s.heap.objs.size, lo [] 0) :: (I, oI) :: R) := C.push
  obtain ⟨oC, hoC, hC0⟩ := LCg.ns_obj hns₁
  have hsz : (s.heap.push (lo [] 0)).objs.size = s.heap.objs.size + 1 := Heap.size_push ..
  have C1 : Cx k s₀ g L ⟨h₁, s.gens, s.drawn, s.toks, s.os⟩ m (((s.heap.push (lo [] 0)).objs.size, oC) :: (s.heap.objs.size, lo [] 0) :: (I, oI) :: R) :=
    C0.fresh (fun b o e => hsb₁.extBut b o (Nat.ne_of_lt (Heap.lt_size e)) (Heap.get?_push_of_some _ e)) hoC
  obtain ⟨D, hD⟩ : ∃ c, c = s.heap.objs.size := ⟨_, rfl⟩
  obtain ⟨Cc, hCc⟩ : ∃ c, c = (s.heap.push (lo [] 0)).objs.size := ⟨_, rfl⟩
  rw [← hCc, ← hD] at C1
  have C2 : Cx k s₀ g L ⟨h₁, s.gens, s.drawn, s.toks, s.os⟩ m ((I, oI) :: (Cc, oC) :: (D, lo [] 0) :: R) := C1.perm (List.perm_middle (l₁ := [(Cc, oC), (D, lo [] 0)]))
  have hst1 : St 0 h₁ := hSt 0 _ _ oI hst (C.get (.head _)) (C2.get (.head _)) (hSv 0 [] R _ oI hJ (C2.drop (.cons_cons _ (.cons _ (.cons _ (List.Sublist.refl _))))))
  have loop : ∀ tk, codeAny (model P9 w) A (.compLoop (.ListComp elt [⟨.Name x px, iter, ifs, 0⟩] scope pos) 0 (.ref I) (.ref D) (compEnvC scope cl Cc env)) (compPost (model P9 w) A E none Q (.ref D) Cc) ⟨h₁, s.gens, s.drawn, tk, s.os⟩ := by
    intro tk
    refine codeAny_compLoop_tests (fun q s' => ∃ i ys c R oI oC mC, i ≤ n ∧ q = n - i ∧ Cx k s₀ g L s' m ((I, oI) :: (Cc, oC) :: (D, lo ys c) :: R) ∧ St i s'.heap ∧ LCg.NsObj oC mC ∧ J i ys R) ?_ n
      ⟨0, [], 0, R, oI, oC, _, Nat.zero_le _, rfl, C2.toks, hst1, hC0, hJ⟩
    rintro q s1 ⟨i, ys, c, R1, oI1, oC1, mC1, hi, rfl, K1, hst1, hN1, hJ1⟩
    by_cases hlt : i < n
    · refine W.item i s1 _ _ hlt hst1 fun v h' tk' hP hst' hkp => ?_
      obtain ⟨o', ho'⟩ := hIo _ _ hst'
      have K2 := K1.iter (t := tk') hkp ho'
      have hCns : h'.Ns Cc mC1 := hN1.ns (K2.get (p := (Cc, oC1)) (.tail _ (.head _)))
      refine wpAny_assign_Name (wpAny_storeName_local (lookup_relabel_local hx) hCns (fun h₃ hn₃ hs₃ => ?_) (by simp [compEnvC, relabel, hkind]))
      obtain ⟨oC3, hoC3, hN3⟩ := LCg.ns_obj hn₃
      have K3 : Cx k s₀ g L ⟨h₃, s1.gens, s1.drawn, tk' + 1, s1.os⟩ m ((I, o') :: (Cc, oC3) :: (D, lo ys c) :: R1) := K2.up (o' := oC3) (.s .z) hs₃ hoC3
      have hst3 : St (i + 1) h₃ := hSt _ _ _ o' hst' ho' (K3.get (.head _)) (hSv i ys R1 _ o' hJ1 (K3.drop (.cons_cons _ (.cons _ (.cons _ (List.Sublist.refl _))))))
      refine wpAny_mono (turn i v ys R1 _ o' oC3 Cc D c _ hlt hP hJ1 K3 hN3 (by simp)) (fun ok s4 h4 => ?_) fun _ _ z => z.elim
      cases ok with
      | false =>
        simp only [Bool.false_eq_true, if_false] at h4 ⊢
        obtain ⟨R4, K4, hJ4⟩ := h4
        exact ⟨n - (i + 1), by (first | lia | omega), i + 1, ys, c, R4, o', oC3, _, hlt, rfl, K4, hSt _ _ _ o' hst3 (K3.get (.head _)) (K4.get (.head _)) (hSv _ _ R4 _ o' hJ4 (K4.drop (.cons_cons _ (.cons _ (.cons _ (List.Sublist.refl _)))))), hN3, hJ4⟩
      | true =>
        simp only [if_true] at h4 ⊢
        refine wpAny_mono h4 (fun y s5 h5 => ?_) fun _ _ z => z.elim
        obtain ⟨R5, K5, hJ5⟩ := h5
        refine r_append K5 (nf := fun o => (I, o') :: (Cc, oC3) :: (D, o) :: R5) (fun _ => .s (.s .z)) (by have := hlen _ _ _ hJ5; rw [List.length_append] at this; (first | lia | omega)) fun s6 K6 => ?_
        exact ⟨n - (i + 1), by (first | lia | omega), i + 1, ys ++ [y], c + 1, R5, o', oC3, _, hlt, rfl, K6, hSt _ _ _ o' hst3 (K3.get (.head _)) (K6.get (.head _)) (hSv _ _ R5 _ o' hJ5 (K6.drop (.cons_cons _ (.cons _ (.cons _ (List.Sublist.refl _)))))), hN3, hJ5⟩
    · have e : i = n := by (first | lia | omega)
      subst e
      refine W.done s1 _ _ hst1 fun h' tk' hkp => ?_
      have K2 : Cx k s₀ g L ⟨h', s1.gens, s1.drawn, tk', s1.os⟩ m ((Cc, oC1) :: (D, lo ys c) :: R1) := K1.gone hkp
      refine ⟨mC1, hN1.ns (K2.get (.head _)), fun h'' hs'' => done D ys c R1 _ hJ1 ?_⟩
      exact K2.gone fun b o hb e => hs''.extBut b o (fun q => hb (by rw [q]; exact .head _)) e
  subst hD hCc
  exact codeAny_compStart_list (loop _) (W.self 0 _ _ _ hst1 (loop _))
end
/-! lists: rules -/
theorem SVs.strs {vs : List Value} {ws : List Tx} (h : SVs vs ws) : StrsAre vs (ws.map S) := by
  induction h with
  | nil => exact .nil
  | cons _ ih => exact .cons _ _ ih
theorem any_S (ws : List Tx) (x : Tx) : (ws.map S).any (· == S x) = decide (x ∈ ws) := by
  induction ws with
  | nil => rfl
  | cons y r ih =>
    rw [List.map_cons, List.any_cons, ih, S_beq]
    by_cases h : y = x
    · subst h; simp
    · have : ¬ x = y := fun e => h e.symm
      simp [h, this]
theorem lo_mapSeq (f : Array Value → Array Value) (ys : List Value) (c : Nat) : ∃ n', Obj.mapSeq f (lo ys c) = lo (f ys.toArray).toList n' := by
  obtain ⟨n', e⟩ := Obj.data_mapSeq (o := lo ys c) (xs := ys.toArray) (n := c) rfl f
  refine ⟨n', ?_⟩
  have h1 : (Obj.mapSeq f (lo ys c)).cls = .type "list" := Obj.cls_mapSeq ..
  have h2 : (Obj.mapSeq f (lo ys c)).dict = none := by simp [Obj.mapSeq, lo]
  have h3 : (Obj.mapSeq f (lo ys c)).slots = #[] := by simp [Obj.mapSeq, lo]
  generalize Obj.mapSeq f (lo ys c) = o at *
  obtain ⟨a1, a2, a3, a4⟩ := o
  dsimp only at *
  subst h1 h2 h3 e
  unfold lo
  rw [Array.toArray_toList]
section
variable {k : Bool} {w : World} {A : Around} {E : Value → Shared → Prop} {s₀ s : Shared} {g : Heap} {L a b : Addr} {m mg mb : Str → Option Value} {R : List (Addr × Obj)} {env : Env}
theorem r_list0 {pos : Pos} {Q : Value → Shared → Prop} (C : Cx k s₀ g L s m R) (h : ∀ a s', Cx k s₀ g L s' m ((a, lo [] 0) :: R) → Q (.ref a) s') : wpAny (model P9 w) A (eval (.List [] pos) env) Q E s := by
  refine wpAny_List ?_
  show wpAny _ _ (spliced []) _ _ _
  exact spliced_nil ⟨Nat.zero_le _, h _ _ (C.push (o := lo [] 0))⟩
theorem r_list1 {e : Expr} {pos : Pos} {Q : Value → Shared → Prop} (he : starEach [e] env = [(false, eval e env)])
    (h : wpAny (model P9 w) A (eval e env) (fun v s1 => ∃ s₂ m₂ R₂, s₂ = s1 ∧ Cx k s₀ g L s₂ m₂ R₂ ∧ ∀ a s', Cx k s₀ g L s' m₂ ((a, lo [v] 0) :: R₂) → Q (.ref a) s') E s) : wpAny (model P9 w) A (eval (.List [e] pos) env) Q E s := by
  refine wpAny_List ?_
  rw [he]
  refine spliced_cons (M := model P9 w) (wpAny_mono h (fun v s1 h1 => ?_) fun _ _ z => z)
  obtain ⟨_, m₂, R₂, rfl, C, h⟩ := h1
  exact spliced_nil ⟨by rw [sizeLine_eq]; show 1 ≤ 16777216; (first | lia | omega), h _ _ (C.push (o := lo [v] 0))⟩
theorem r_llen {vs : List Value} {Q : Value → Shared → Prop} (C : Cx k s₀ g L s m R) (hl : s.heap.IsList a vs.toArray) (hz : vs.length ≤ 1000000) (h : ∀ t s', Cx k s₀ g L s' m R → Q (.int vs.length t) s') :
    wpAny (model P9 w) A (call (.builtin "len") [.ref a]) Q E s :=
  len_list hl (by rw [List.size_toArray]; (first | lia | omega)) (by rw [List.size_toArray]; exact h _ _ C.toks)
theorem r_item {value slice : Expr} {vs : List Value} {i : Int} {u : Tok} {x : Value} {Q : Value → Shared → Prop} (hl : s.heap.IsList a vs.toArray) (h0 : 0 ≤ i) (hx : vs[i.toNat]? = some x) (hz : vs.length ≤ 1000000) (h : Q x s)
    (hs : subscripted slice false (.ref a) (.int i u) = operate [.ref a, .int i u] (getItem (.ref a) (.int i u)) := by with_unfolding_all rfl) (hg : ∀ r, letTemporaryGo value (.ref a) r = pure () := by intro _; with_unfolding_all rfl) :
    wpAny (model P9 w) A (subscriptTail value slice (.ref a) (.int i u)) Q E s :=
  item_listL hl h0 (by have := (List.getElem?_eq_some_iff.mp hx).1; (first | lia | omega)) hx h hs hg
theorem r_ingm {vs : List Value} {name : Str} {id : String} {pl : Sem Bool} {c : Nat} {Q : Value × List Value → Shared → Prop} (C : Cx k s₀ g L s m R) (hm : (a, lo vs c) ∈ R) (slot : Slot "list" name id) (hty : typeOf (.builtin id) = pure (.type "method_descriptor"))
    (h : Q (.builtin id, [.ref a]) s) : wpAny (model P9 w) A (getMethod (.ref a) name pl) Q E s := kf_method C.N (its := vs.toArray) (n := c) hm slot hty h
theorem r_inS {vs : List Value} {ws : List Tx} {x : Tx} {t : Tok} {Q : Value → Shared → Prop} (hl : s.heap.IsList a vs.toArray) (hv : SVs vs ws) (h : Q (.bool (decide (x ∈ ws))) s) : wpAny (model P9 w) A (compareOp .In (.str (S x) t) (.ref a)) Q E s :=
  in_list_strs hl hv.strs (by rw [any_S]; exact h)
theorem r_ninS {vs : List Value} {ws : List Tx} {x : Tx} {t : Tok} {Q : Value → Shared → Prop} (hl : s.heap.IsList a vs.toArray) (hv : SVs vs ws) (h : Q (.bool (!decide (x ∈ ws))) s) : wpAny (model P9 w) A (compareOp .NotIn (.str (S x) t) (.ref a)) Q E s :=
  notin_list_strs hl hv.strs (by rw [any_S]; exact h)
theorem r_extend {ys vs : List Value} {c : Nat} {nf : Obj → List (Addr × Obj)} {Q : Value → Shared → Prop} (C : Cx k s₀ g L s m R) (U : ∀ o', Up a (lo ys c) o' R (nf o')) {c2 : Nat} (hb : s.heap.get? b = some (lo vs c2)) (hz : ys.length + vs.length ≤ 1000000)
    (h : ∀ c' s', Cx k s₀ g L s' m (nf (lo (ys ++ vs) c')) → Q .none s') : wpAny (model P9 w) A (call (.builtin "list.extend") [.ref a, .ref b]) Q E s := by
  have ho : s.heap.get? a = some (lo ys c) := C.get (U (lo ys c)).mem
  refine call_meets PySem.F.slot_list_extend ⟨_, ho, rfl⟩ PySem.F.entry_list_extend (PySem.F.args_list_extend_2 _ _) (AutoSeq1.list_extend_list_list_0 a ys.toArray c b vs.toArray c2 ?_ ?_ ?_) ⟨ho, hb, ?_⟩
  · have : Builtin.List.listTooLong (ys.toArray.size + vs.toArray.size) = false := by
      rw [List.size_toArray, List.size_toArray]
      unfold Builtin.List.listTooLong
      simp only [decide_eq_false_iff_not]
      rw [sizeLine_eq]; (first | lia | omega)
    rw [this]; simp
  · rw [List.size_toArray, sizeLine_eq]; (first | lia | omega)
  · rw [List.size_toArray, List.size_toArray, sizeLine_eq]; (first | lia | omega)
  · obtain ⟨n', e⟩ := lo_mapSeq (fun x => x ++ vs.toArray) ys c
    rw [List.append_toArray] at e
    exact h n' _ (C.up (t := s.toks) (U _) (Heap.SameBut.update ..) ((Heap.get?_update_self (Obj.mapSeq fun x => x ++ vs.toArray) ho rfl).trans (congrArg some e)))
end
/-! sources: ranges and lists -/
noncomputable def rngO (n : Int) (t u v : Tok) : Obj := { cls := .type "range", dict := none, data := .fields #[.int 0 t, .int n u, .int 1 v], slots := #[] }
section
variable {k : Bool} {w : World} {A : Around} {E : Value → Shared → Prop} {s₀ s : Shared} {g : Heap} {L a : Addr} {m mg mb : Str → Option Value} {R : List (Addr × Obj)} {cn : Str} {cs : Scope} {f : Addr} {ccd : Value} {cl : List (Str × Addr)}
theorem r_range {n : Int} {t : Tok} {Q : Value → Shared → Prop} (C : Cx k s₀ g L s m R) (h : ∀ r t1 u1 v1 s', Cx k s₀ g L s' m ((r, rngO n t1 u1 v1) :: R) → Q (.ref r) s') : wpAny (model P9 w) A (call (.type "range") [.int n t]) Q E s :=
  call_range_1 (h _ _ _ _ _ (C.push (o := rngO n s.toks t (s.toks + 1))))
theorem rng_size (n : Nat) : Builtin.Range.rangeSize 0 (n : Int) 1 = (n : Int) := by rw [rangeSize_one]; split <;> (first | lia | omega)
theorem rng_iter {n : Nat} {r : Addr} {t1 u1 v1 : Tok} {Q : Value → Shared → Prop} (C : Cx k s₀ g L s m R) (hr : s.heap.get? r = some (rngO n t1 u1 v1)) (hn : n ≤ 1000000)
    (h : ∀ I o s', Cx k s₀ g L s' m ((I, o) :: R) → IsRangeIter s'.heap I (0 + ((0 : Nat) : Int) * 1) ((n : Int) - ((0 : Nat) : Int)) 1 → Q (.ref I) s') : wpAny (model P9 w) A (pyIter (.ref r)) Q E s := by
  refine wpAny_pyIter_range (a := 0) (b := n) (c := 1) hr (small_one (by (first | lia | omega)) (by (first | lia | omega)) (by (first | lia | omega)) (by (first | lia | omega))) ?_
  refine h _ _ _ (C.push) ?_
  show (s.heap.push _).get? _ = some _
  rw [Heap.get?_push_size _ rfl, rng_size]
  simp
theorem for_range {n : Nat} {r : Addr} {t1 u1 v1 : Tok} {x : Str} {px : Pos} {body : List Stmt} {Q : Flow → Shared → Prop} (hh : A.handled = none) (J : Nat → (Str → Option Value) → List (Addr × Obj) → Prop)
    (C : Cx k s₀ g L s m R) (hr : s.heap.get? r = some (rngO n t1 u1 v1)) (hn : n ≤ 1000000) (hx : cs.names.lookup x = some .local) (hk : cs.kind = .function) (hJ : J 0 m R)
    (turn : ∀ (i : Nat) t m R s' I oI, i < n → J i m R → Cx k s₀ g L s' (upd m x (.int i t)) ((I, oI) :: R) → wpAny (model P9 w) A (execs body (envX cn cs L f ccd cl)) (fun fl s'' => match fl with
      | .next | .cont => ∃ m' R', Cx k s₀ g L s'' m' ((I, oI) :: R') ∧ J (i + 1) m' R'
      | .brk => Q .next s''
      | .ret v => Q (.ret v) s'') (fun _ _ => False) s')
    (done : ∀ m R s', J n m R → Cx k s₀ g L s' m R → Q .next s') :
    wpAny (model P9 w) A (pyIter (.ref r)) (fun it s₂ => codeAny (model P9 w) A (.forLoop (.Name x px) it body [] (envX cn cs L f ccd cl)) (fun r s' => match r with | .ok fl => Q fl s' | .error e => cameBackBy (model P9 w) A (envX cn cs L f ccd cl) E e s') s₂) E s := by
  refine rng_iter C hr hn fun I o s1 C1 hI => ?_
  refine cx_for (LCg.range_walks hh 0 n) (fun _ => True) (fun i h h' o st e e' _ => ?_) (fun i h st => ⟨_, st⟩) J (fun _ _ _ _ _ _ _ => trivial) hx hk C1 hI hJ ?_ done
  · have st' : h.get? I = some _ := st
    show h'.get? I = some _
    rw [e', ← e]; exact st'
  · rintro i v m1 R1 s2 oI hi ⟨t, rfl⟩ hJ1 C2
    rw [Int.zero_add] at C2
    exact turn i t m1 R1 s2 I oI hi hJ1 C2
theorem for_list {vs : List Value} {x : Str} {px : Pos} {body : List Stmt} {Q : Flow → Shared → Prop} (hh : A.handled = none) (J : Nat → (Str → Option Value) → List (Addr × Obj) → Prop)
    (C : Cx k s₀ g L s m R) (hl : s.heap.IsList a vs.toArray) (hsv : ∀ i m R s' I o, J i m R → Cx k s₀ g L s' m ((I, o) :: R) → s'.heap.IsList a vs.toArray) (hx : cs.names.lookup x = some .local) (hk : cs.kind = .function) (hJ : J 0 m R)
    (turn : ∀ (i : Nat) v m R s' I oI, vs[i]? = some v → J i m R → Cx k s₀ g L s' (upd m x v) ((I, oI) :: R) → wpAny (model P9 w) A (execs body (envX cn cs L f ccd cl)) (fun fl s'' => match fl with
      | .next | .cont => ∃ m' R', Cx k s₀ g L s'' m' ((I, oI) :: R') ∧ J (i + 1) m' R'
      | .brk => Q .next s''
      | .ret v => Q (.ret v) s'') (fun _ _ => False) s')
    (done : ∀ m R s', J vs.length m R → Cx k s₀ g L s' m R → Q .next s') :
    wpAny (model P9 w) A (pyIter (.ref a)) (fun it s₂ => codeAny (model P9 w) A (.forLoop (.Name x px) it body [] (envX cn cs L f ccd cl)) (fun r s' => match r with | .ok fl => Q fl s' | .error e => cameBackBy (model P9 w) A (envX cn cs L f ccd cl) E e s') s₂) E s := by
  refine wpAny_pyIter_list hl ?_
  have hne : a ≠ s.heap.objs.size := Nat.ne_of_lt (by obtain ⟨o, e, _⟩ := hl; exact Heap.lt_size e)
  have C1 : Cx k s₀ g L ⟨s.heap.push { cls := .type "list_iterator", data := .fields #[.ref a, .int 0 0] }, s.gens, s.drawn, s.toks, s.os⟩ m ((s.heap.objs.size, { cls := .type "list_iterator", data := .fields #[.ref a, .int 0 0] }) :: R) := C.push
  have hsz : vs.toArray.size = vs.length := List.size_toArray ..
  refine cx_for (n := vs.toArray.size) (Walks.list hh s.heap.objs.size a hne vs.toArray) (fun h => h.IsList a vs.toArray) (fun i h h' o st e e' hs => ?_) (fun i h st => ?_) J (fun i m R s' o hJ C => hsv i m R s' _ o hJ C) hx hk C1 ⟨⟨_, C1.get (.head _), rfl, rfl⟩, hl.at fun o e => Heap.get?_push_of_some _ e⟩ hJ ?_ (by rw [hsz]; exact done)
  · obtain ⟨o', q, r⟩ := st.1
    rw [e] at q; cases q
    exact ⟨⟨o, e', r⟩, hs⟩
  · obtain ⟨o', q, r⟩ := st.1
    exact ⟨o', q⟩
  · intro i v m1 R1 s2 oI hi hP hJ1 C2
    exact turn i v m1 R1 s2 _ oI (by simpa using hP) hJ1 C2
/-- a comprehension, its source told -/
theorem comp_open {elt iter : Expr} {x : Str} {px : Pos} {ifs : List Expr} {scope : Scope} {pos : Pos} {env : Env} {Q : Value → Shared → Prop}
    (hclos : closureFor scope env = pure cl) (hkind : scope.kind = .function) (hnames : ∀ y ∈ scope.names, y.2 = .local → scope.names.lookup y.1 = some .local)
    (h : wpAny (model P9 w) A (eval iter env) (fun xv s₁ => wpAny (model P9 w) A (pyIter xv) (fun it s₂ => wpAny (model P9 w) A (newList []) (fun acc s₃ => wpAny (model P9 w) A (newFunctionEnv scope env.globals cl [] env.qual none .none (some env)) (fun cenv s₄ =>
      codeAny (model P9 w) A (.compStart (.ListComp elt [⟨.Name x px, iter, ifs, 0⟩] scope pos) 0 it acc { cenv with scope := relabel scope env }) (compPost (model P9 w) A E none Q acc cenv.locals) s₄) E s₃) E s₂) E s₁) E s)
    (hs : ∀ x, foldedSetIterable iter env x = pure x := by intro _; rfl) :
    wpAny (model P9 w) A (eval (.ListComp elt [⟨.Name x px, iter, ifs, 0⟩] scope pos) env) Q E s := by
  rw [eval_ListComp]
  exact wpAny_comprehension_free (use := none) rfl hs hclos hkind hnames h
theorem comp_range {n : Nat} {r : Addr} {t1 u1 v1 : Tok} {elt iter : Expr} {x : Str} {px : Pos} {ifs : List Expr} {scope : Scope} {pos : Pos} {env : Env} {Q : Value → Shared → Prop} (hh : A.handled = none)
    (J : Nat → List Value → List (Addr × Obj) → Prop) (hlen : ∀ i ys R, J i ys R → ys.length ≤ 1000000) (hcell : ∀ y ∈ scope.names, y.2 ≠ .cell) (hkind : scope.kind = .function) (hx : scope.names.lookup x = some .local)
    (C : Cx k s₀ g L s m R) (hr : s.heap.get? r = some (rngO n t1 u1 v1)) (hn : n ≤ 1000000) (hJ : J 0 [] R)
    (turn : ∀ (i : Nat) t ys R s' I oI oC Cc D c mC, i < n → J i ys R → Cx k s₀ g L s' m ((I, oI) :: (Cc, oC) :: (D, lo ys c) :: R) → LCg.NsObj oC mC → mC x = some (.int i t) →
      wpAny (model P9 w) A (forIn ifs true fun c r => if r = true then do let ok ← isTrue c (compEnvC scope cl Cc env) (eval c (compEnvC scope cl Cc env)); pure (ForInStep.yield ok) else pure (ForInStep.yield r)) (fun ok s2 =>
        if ok = true then wpAny (model P9 w) A (eval elt (compEnvC scope cl Cc env)) (fun y s3 => ∃ R', Cx k s₀ g L s3 m ((I, oI) :: (Cc, oC) :: (D, lo ys c) :: R') ∧ J (i + 1) (ys ++ [y]) R') (fun _ _ => False) s2
        else ∃ R', Cx k s₀ g L s2 m ((I, oI) :: (Cc, oC) :: (D, lo ys c) :: R') ∧ J (i + 1) ys R') (fun _ _ => False) s')
    (done : ∀ D ys c R s', J n ys R → Cx k s₀ g L s' m ((D, lo ys c) :: R) → Q (.ref D) s') :
    wpAny (model P9 w) A (pyIter (.ref r)) (fun it s₂ => wpAny (model P9 w) A (newList []) (fun acc s₃ => wpAny (model P9 w) A (newFunctionEnv scope env.globals cl [] env.qual none .none (some env)) (fun cenv s₄ =>
      codeAny (model P9 w) A (.compStart (.ListComp elt [⟨.Name x px, iter, ifs, 0⟩] scope pos) 0 it acc { cenv with scope := relabel scope env }) (compPost (model P9 w) A E none Q acc cenv.locals) s₄) E s₃) E s₂) E s := by
  refine rng_iter C hr hn fun I o s1 C1 hI => ?_
  refine cx_comp (LCg.range_walks hh 0 n) (fun _ => True) (fun i h h' o st e e' _ => ?_) (fun i h st => ⟨_, st⟩) J (fun _ _ _ _ _ _ _ => trivial) hlen hcell hkind hx C1 hI hJ ?_ done
  · have st' : h.get? I = some _ := st
    show h'.get? I = some _
    rw [e', ← e]; exact st'
  · rintro i v ys R1 s2 oI oC Cc D c mC hi ⟨t, rfl⟩ hJ1 C2 hN hm
    rw [Int.zero_add] at hm
    exact turn i t ys R1 s2 I oI oC Cc D c mC hi hJ1 C2 hN hm
theorem comp_list {vs : List Value} {elt iter : Expr} {x : Str} {px : Pos} {ifs : List Expr} {scope : Scope} {pos : Pos} {env : Env} {Q : Value → Shared → Prop} (hh : A.handled = none)
    (J : Nat → List Value → List (Addr × Obj) → Prop) (hlen : ∀ i ys R, J i ys R → ys.length ≤ 1000000) (hcell : ∀ y ∈ scope.names, y.2 ≠ .cell) (hkind : scope.kind = .function) (hx : scope.names.lookup x = some .local)
    (C : Cx k s₀ g L s m R) (hl : s.heap.IsList a vs.toArray) (hsv : ∀ i ys R s' I o, J i ys R → Cx k s₀ g L s' m ((I, o) :: R) → s'.heap.IsList a vs.toArray) (hJ : J 0 [] R)
    (turn : ∀ (i : Nat) v ys R s' I oI oC Cc D c mC, vs[i]? = some v → J i ys R → Cx k s₀ g L s' m ((I, oI) :: (Cc, oC) :: (D, lo ys c) :: R) → LCg.NsObj oC mC → mC x = some v →
      wpAny (model P9 w) A (forIn ifs true fun c r => if r = true then do let ok ← isTrue c (compEnvC scope cl Cc env) (eval c (compEnvC scope cl Cc env)); pure (ForInStep.yield ok) else pure (ForInStep.yield r)) (fun ok s2 =>
        if ok = true then wpAny (model P9 w) A (eval elt (compEnvC scope cl Cc env)) (fun y s3 => ∃ R', Cx k s₀ g L s3 m ((I, oI) :: (Cc, oC) :: (D, lo ys c) :: R') ∧ J (i + 1) (ys ++ [y]) R') (fun _ _ => False) s2
        else ∃ R', Cx k s₀ g L s2 m ((I, oI) :: (Cc, oC) :: (D, lo ys c) :: R') ∧ J (i + 1) ys R') (fun _ _ => False) s')
    (done : ∀ D ys c R s', J vs.length ys R → Cx k s₀ g L s' m ((D, lo ys c) :: R) → Q (.ref D) s') :
    wpAny (model P9 w) A (pyIter (.ref a)) (fun it s₂ => wpAny (model P9 w) A (newList []) (fun acc s₃ => wpAny (model P9 w) A (newFunctionEnv scope env.globals cl [] env.qual none .none (some env)) (fun cenv s₄ =>
      codeAny (model P9 w) A (.compStart (.ListComp elt [⟨.Name x px, iter, ifs, 0⟩] scope pos) 0 it acc { cenv with scope := relabel scope env }) (compPost (model P9 w) A E none Q acc cenv.locals) s₄) E s₃) E s₂) E s := by
  refine wpAny_pyIter_list hl ?_
  have hne : a ≠ s.heap.objs.size := Nat.ne_of_lt (by obtain ⟨o, e, _⟩ := hl; exact Heap.lt_size e)
  have C1 : Cx k s₀ g L ⟨s.heap.push { cls := .type "list_iterator", data := .fields #[.ref a, .int 0 0] }, s.gens, s.drawn, s.toks, s.os⟩ m ((s.heap.objs.size, { cls := .type "list_iterator", data := .fields #[.ref a, .int 0 0] }) :: R) := C.push
  have hsz : vs.toArray.size = vs.length := List.size_toArray ..
  refine cx_comp (n := vs.toArray.size) (Walks.list hh s.heap.objs.size a hne vs.toArray) (fun h => h.IsList a vs.toArray) (fun i h h' o st e e' hs => ?_) (fun i h st => ?_) J (fun i ys R s' o hJ C => hsv i ys R s' _ o hJ C) hlen hcell hkind hx C1 ⟨⟨_, C1.get (.head _), rfl, rfl⟩, hl.at fun o e => Heap.get?_push_of_some _ e⟩ hJ ?_ (by rw [hsz]; exact done)
  · obtain ⟨o', q, r⟩ := st.1
    rw [e] at q; cases q
    exact ⟨⟨o, e', r⟩, hs⟩
  · obtain ⟨o', q, r⟩ := st.1
    exact ⟨o', q⟩
  · intro i v ys R1 s2 oI oC Cc D c mC hi hP hJ1 C2 hN hm
    exact turn i v ys R1 s2 _ oI oC Cc D c mC (by simpa using hP) hJ1 C2 hN hm
end
/-! the plain law: split undoes join -/
theorem lex_safe : ∀ (l tok : Tx) (q : Bool) (r : Tx), l.all safe = true → lexF (some 97) tok q (l ++ r) = lexF (some 97) (tok ++ l) q r
  | [], tok, q, r, _ => by simp
  | c :: l, tok, q, r, h => by
    simp only [List.all_cons, Bool.and_eq_true] at h
    have hc : c = 97 ∨ c = 98 := by simpa [safe] using h.1
    have ih := lex_safe l (tok ++ [c]) q r h.2
    rw [List.cons_append, lexF, if_neg (by (first | lia | omega)), if_pos rfl, if_neg (by (first | lia | omega)), if_neg (by (first | lia | omega)), if_pos hc, ih]
    simp
theorem lex_quoted : ∀ (l tok : Tx) (q : Bool) (r : Tx), Good l → lexF (some 39) tok q (replT l ++ 39 :: r) = lexF (some 97) (tok ++ l) true r
  | [], tok, q, r, _ => by simp [replT, lexF]
  | c :: l, tok, q, r, h => by
    have h2 : Good l := fun x hx => h x (List.mem_cons_of_mem _ hx)
    by_cases hc : c = 39
    · subst hc
      have ih := lex_quoted l (tok ++ [39]) true r h2
      simp only [replT, if_true, quo, List.cons_append, List.nil_append]
      simp [lexF, ih]
    · have ih := lex_quoted l (tok ++ [c]) true r h2
      simp only [replT, hc, if_false, List.cons_append]
      rw [lexF, if_neg (by (first | lia | omega)), if_neg (by (first | lia | omega)), if_pos rfl, if_neg hc, ih]
      simp
theorem lex_word (l r : Tx) (h : Good l) : ∃ q, (l = [] → q = true) ∧ lexF (some 32) [] false (quoteT l ++ r) = lexF (some 97) l q r := by
  unfold quoteT
  by_cases h0 : l = []
  · subst h0
    exact ⟨true, fun _ => rfl, by simp [lexF]⟩
  · rw [if_neg h0]
    by_cases hs : allSafe l = true
    · rw [if_pos hs]
      cases l with
      | nil => exact absurd rfl h0
      | cons c l =>
        unfold allSafe at hs
        simp only [List.all_cons, Bool.and_eq_true] at hs
        have hc : c = 97 ∨ c = 98 := by simpa [safe] using hs.1
        refine ⟨false, (fun q => absurd q (List.cons_ne_nil _ _)), ?_⟩
        rw [List.cons_append, lexF, if_pos rfl, if_pos hc, lex_safe l [c] false r hs.2]
        rfl
    · rw [if_neg hs]
      refine ⟨true, fun _ => rfl, ?_⟩
      rw [show [39] ++ replT l ++ [39] ++ r = 39 :: (replT l ++ 39 :: r) from by simp, lexF, if_pos rfl, if_neg (by (first | lia | omega)), if_pos rfl, lex_quoted l [] false r h]
      rfl
theorem fin_ok {l : Tx} {q : Bool} (h : l = [] → q = true) : fin l q = some l := by
  unfold fin
  rw [if_neg]
  rintro ⟨h1, h2⟩
  rw [h h1] at h2; cases h2
theorem joinT_cons (l m : Tx) (r : List Tx) : joinT (l :: m :: r) = quoteT l ++ 32 :: joinT (m :: r) := by
  simp [joinT, List.intercalate]
theorem joinT_one (l : Tx) : joinT [l] = quoteT l ++ [] := by simp [joinT, List.intercalate]
theorem lex_join : ∀ ws : List Tx, (∀ l ∈ ws, Good l) → LexRun (some 32) (joinT ws) ws
  | [], _ => .done (rest := []) (st' := none) (by simp [joinT, List.intercalate, lexF, fin])
  | [l], h => by
    obtain ⟨q, hq, e⟩ := lex_word l [] (h l (.head _))
    rw [joinT_one]
    refine .tok (rest := []) (st' := none) (by rw [e, lexF, if_pos (.inr rfl), fin_ok hq]) (.done (rest := []) (st' := none) (by simp [lexF]))
  | l :: m :: r, h => by
    obtain ⟨q, hq, e⟩ := lex_word l (32 :: joinT (m :: r)) (h l (.head _))
    rw [joinT_cons]
    refine .tok (rest := joinT (m :: r)) (st' := some 32) (by
      rw [e, lexF, if_neg (by (first | lia | omega)), if_pos rfl, if_pos rfl, if_neg, fin_ok hq]
      rintro ⟨h1, h2⟩
      rw [hq h1] at h2; cases h2) (lex_join (m :: r) fun x hx => h x (.tail _ hx))
/-! the signs and the lengths of a line -/
theorem good_nil : Good [] := fun _ h => nomatch h
theorem good_append {a b : Tx} (ha : Good a) (hb : Good b) : Good (a ++ b) := fun c hc => (List.mem_append.mp hc).elim (ha c) (hb c)
theorem good_cons {c : Nat} {b : Tx} (hc : c ∈ alpha) (hb : Good b) : Good (c :: b) := fun x hx => (List.mem_cons.mp hx).elim (fun e => e ▸ hc) (hb x)
theorem good_repl : ∀ {l : Tx}, Good l → Good (replT l)
  | [], _ => good_nil
  | c :: l, h => by
    have h2 : Good (replT l) := good_repl fun x hx => h x (List.mem_cons_of_mem _ hx)
    unfold replT
    split
    · exact good_append (by unfold Good; decide) h2
    · exact good_cons (h c (.head _)) h2
theorem good_quote {l : Tx} (h : Good l) : Good (quoteT l) := by
  unfold quoteT
  split
  · unfold Good; decide
  · split
    · exact h
    · exact good_append (good_append (by unfold Good; decide) (good_repl h)) (by unfold Good; decide)
theorem good_join : ∀ {ws : List Tx}, (∀ l ∈ ws, Good l) → Good (joinT ws)
  | [], _ => good_nil
  | [l], h => by rw [joinT_one]; exact good_append (good_quote (h l (.head _))) good_nil
  | l :: m :: r, h => by
    rw [joinT_cons]
    exact good_append (good_quote (h l (.head _))) (good_cons (by decide) (good_join fun x hx => h x (.tail _ hx)))
theorem joinT_length : ∀ ws : List Tx, (joinT ws).length ≤ (ws.map fun l => 5 * l.length + 3).sum
  | [] => Nat.le_refl _
  | [l] => by rw [joinT_one]; have := quoteT_length l; simp; (first | lia | omega)
  | l :: m :: r => by
    rw [joinT_cons]
    have h1 := quoteT_length l
    have h2 := joinT_length (m :: r)
    simp only [List.length_append, List.length_cons, List.map_cons, List.sum_cons] at h2 ⊢
    (first | lia | omega)
/-! forests: a word's text, what stands in it, what stands behind it -/
inductive Fo where
  | nil
  | cons (t : Tx) (k n : Fo)
noncomputable def Fo.lines : Fo → List Tx
  | .nil => []
  | .cons t k n => joinT (t :: k.lines) :: n.lines
noncomputable def Fo.size : Fo → Nat
  | .nil => 0
  | .cons _ k n => k.size + n.size + 1
noncomputable def Fo.ht : Fo → Nat
  | .nil => 0
  | .cons _ k n => max (k.ht + 1) n.ht
/-- a bound of the lines' lengths -/
noncomputable def Fo.wt : Fo → Nat
  | .nil => 0
  | .cons t k n => 5 * (5 * t.length + 3 + k.wt) + 3 + n.wt
noncomputable def Fo.good : Fo → Prop
  | .nil => True
  | .cons t k n => Good t ∧ k.good ∧ n.good
noncomputable def Fo.rest (out : List Tx) : Tx → Fo → Fo
  | _, .nil => .nil
  | above, .cons t k n => if above ++ t ∈ out then n.rest out above else .cons t (k.rest out (above ++ t ++ [46])) (n.rest out above)
noncomputable def Fo.read : Tx → Fo → List Tx
  | _, .nil => []
  | above, .cons t k n => (above ++ t) :: (k.read (above ++ t ++ [46]) ++ n.read above)
theorem Fo.lines_good : ∀ {f : Fo}, f.good → ∀ l ∈ f.lines, Good l
  | .nil, _ => fun _ h => nomatch h
  | .cons t k n, ⟨h1, h2, h3⟩ => fun l hl => by
    rcases List.mem_cons.mp hl with rfl | hl
    · exact good_join fun x hx => (List.mem_cons.mp hx).elim (fun e => e ▸ h1) (Fo.lines_good h2 x)
    · exact Fo.lines_good h3 l hl
theorem Fo.lines_wt : ∀ f : Fo, (f.lines.map fun l => 5 * l.length + 3).sum ≤ f.wt
  | .nil => Nat.le_refl _
  | .cons t k n => by
    have h1 := joinT_length (t :: k.lines)
    have h2 := Fo.lines_wt k
    have h3 := Fo.lines_wt n
    simp only [Fo.lines, Fo.wt, List.map_cons, List.sum_cons] at h1 ⊢
    (first | lia | omega)
theorem Fo.lines_len : ∀ f : Fo, f.lines.length ≤ f.size
  | .nil => Nat.le_refl _
  | .cons t k n => by have := Fo.lines_len n; simp only [Fo.lines, Fo.size, List.length_cons]; (first | lia | omega)
theorem Fo.rest_good {out : List Tx} : ∀ {f : Fo} {above : Tx}, f.good → (f.rest out above).good
  | .nil, _, _ => trivial
  | .cons t k n, above, ⟨h1, h2, h3⟩ => by
    unfold Fo.rest
    split
    · exact Fo.rest_good h3
    · exact ⟨h1, Fo.rest_good h2, Fo.rest_good h3⟩
theorem Fo.rest_wt {out : List Tx} : ∀ (f : Fo) (above : Tx), (f.rest out above).wt ≤ f.wt
  | .nil, _ => Nat.le_refl _
  | .cons t k n, above => by
    have h1 := Fo.rest_wt (out := out) k (above ++ t ++ [46])
    have h2 := Fo.rest_wt (out := out) n above
    unfold Fo.rest
    split
    · simp only [Fo.wt]; (first | lia | omega)
    · simp only [Fo.wt]; (first | lia | omega)
theorem Fo.rest_ht {out : List Tx} : ∀ (f : Fo) (above : Tx), (f.rest out above).ht ≤ f.ht
  | .nil, _ => Nat.le_refl _
  | .cons t k n, above => by
    have h1 := Fo.rest_ht (out := out) k (above ++ t ++ [46])
    have h2 := Fo.rest_ht (out := out) n above
    unfold Fo.rest
    split
    · simp only [Fo.ht]; (first | lia | omega)
    · simp only [Fo.ht]; (first | lia | omega)
/-! the forest of a list of words -/
noncomputable def kidsT (tops : List Int) (top : Int) : List Nat := (List.range tops.length).filter fun k => tops.getD k 0 == top
noncomputable def frst (texts : List Tx) (tops : List Int) : Nat → Int → Fo
  | 0, _ => .nil
  | f + 1, top => (kidsT tops top).foldr (fun (k : Nat) acc => .cons (texts.getD k []) (frst texts tops f k) acc) .nil
noncomputable def ordT (tops : List Int) : Nat → Int → List Nat
  | 0, _ => []
  | f + 1, top => (kidsT tops top).flatMap fun (k : Nat) => k :: ordT tops f k
structure Words (texts : List Tx) (tops : List Int) (names : List Tx) : Prop where
  len1 : texts.length = tops.length
  len2 : names.length = tops.length
  low : ∀ k, k < tops.length → -1 ≤ tops.getD k 0
  high : ∀ k, k < tops.length → tops.getD k 0 < k
  good : ∀ k, k < tops.length → Good (texts.getD k [])
  few : tops.length ≤ 6
  short : ∀ k, k < tops.length → (texts.getD k []).length ≤ 3
  dep : ∀ k, k < tops.length → (names.getD k []).count 46 ≤ 2
  name : ∀ k, k < tops.length → names.getD k [] = if tops.getD k 0 < 0 then texts.getD k [] else names.getD (tops.getD k 0).toNat [] ++ [46] ++ texts.getD k []
noncomputable def preT (names : List Tx) (top : Int) : Tx := if top < 0 then [] else names.getD top.toNat [] ++ [46]
/-- one of the outs stands around the name, or is the name -/
noncomputable def hit (out : List Tx) (name : Tx) : Bool := out.any fun m => m == name || (m ++ [46]).isPrefixOf name
theorem kids_mem {tops : List Int} {top : Int} {k : Nat} (h : k ∈ kidsT tops top) : k < tops.length ∧ tops.getD k 0 = top := by
  unfold kidsT at h
  obtain ⟨h1, h2⟩ := List.mem_filter.mp h
  exact ⟨List.mem_range.mp h1, by simpa using h2⟩
theorem Words.pre {texts names : List Tx} {tops : List Int} (W : Words texts tops names) {k : Nat} (hk : k < tops.length) : names.getD k [] = preT names (tops.getD k 0) ++ texts.getD k [] := by
  rw [W.name k hk]
  unfold preT
  split <;> simp
theorem preT_nat (names : List Tx) (k : Nat) : preT names (k : Int) = names.getD k [] ++ [46] := by
  unfold preT
  rw [if_neg (by (first | lia | omega))]
  simp
theorem read_fold {texts names : List Tx} {tops : List Int} (W : Words texts tops names) (f : Nat) (top : Int) (ih : ∀ k : Nat, (frst texts tops f k).read (preT names k) = (ordT tops f k).map fun j => names.getD j []) :
    ∀ ks : List Nat, (∀ k ∈ ks, k < tops.length ∧ tops.getD k 0 = top) →
      (ks.foldr (fun (k : Nat) acc => Fo.cons (texts.getD k []) (frst texts tops f k) acc) .nil).read (preT names top) = (ks.flatMap fun (k : Nat) => k :: ordT tops f k).map fun j => names.getD j []
  | [], _ => rfl
  | k :: r, h => by
    obtain ⟨h1, h2⟩ := h k (.head _)
    have hr := read_fold W f top ih r fun x hx => h x (.tail _ hx)
    have e := W.pre h1
    rw [h2] at e
    rw [List.foldr_cons, Fo.read, ← e, ← preT_nat, ih k, hr]
    simp
theorem read_forest {texts names : List Tx} {tops : List Int} (W : Words texts tops names) : ∀ (f : Nat) (top : Int), (frst texts tops f top).read (preT names top) = (ordT tops f top).map fun j => names.getD j []
  | 0, _ => rfl
  | f + 1, top => read_fold W f top (fun k => read_forest W f k) _ fun _ hk => kids_mem hk
theorem prefix_name {m a t : Tx} (ht : 46 ∉ t) : (m ++ [46]).isPrefixOf (a ++ [46] ++ t) = (m == a || (m ++ [46]).isPrefixOf a) := by
  have key : ∀ (m a : Tx), (m ++ [46]).isPrefixOf (a ++ [46] ++ t) = (m == a || (m ++ [46]).isPrefixOf a) := by
    intro m
    induction m with
    | nil =>
      intro a
      cases a with
      | nil => simp [List.isPrefixOf]
      | cons y a => simp [List.isPrefixOf]
    | cons x m ih =>
      intro a
      cases a with
      | nil =>
        have h1 : (m ++ [46]).isPrefixOf t = false := by
          cases e : (m ++ [46]).isPrefixOf t with
          | false => rfl
          | true =>
            have := List.isPrefixOf_iff_prefix.mp e
            exact absurd (this.subset (by simp)) ht
        simp [List.isPrefixOf, h1]
      | cons y a =>
        have := ih a
        simp only [List.append_assoc, List.cons_append, List.isPrefixOf, List.nil_append] at this ⊢
        by_cases hxy : x = y
        · subst hxy; simp [this]
        · have hb : (x == y) = false := beq_eq_false_iff_ne.mpr hxy
          simp [hb]
  exact key m a
theorem hit_root {out : List Tx} {t : Tx} (ht : 46 ∉ t) : hit out t = decide (t ∈ out) := by
  unfold hit
  rw [Bool.eq_iff_iff, List.any_eq_true]
  simp only [decide_eq_true_eq, Bool.or_eq_true, beq_iff_eq]
  constructor
  · rintro ⟨m, hm, rfl | h⟩
    · exact hm
    · exact absurd ((List.isPrefixOf_iff_prefix.mp h).subset (by simp)) ht
  · intro h; exact ⟨t, h, .inl rfl⟩
theorem hit_kid {out : List Tx} {a t : Tx} (ht : 46 ∉ t) : hit out (a ++ [46] ++ t) = (decide (a ++ [46] ++ t ∈ out) || hit out a) := by
  unfold hit
  rw [Bool.eq_iff_iff, List.any_eq_true]
  simp only [Bool.or_eq_true, beq_iff_eq, prefix_name ht, decide_eq_true_eq, List.any_eq_true]
  constructor
  · rintro ⟨m, hm, rfl | h⟩
    · exact .inl hm
    · exact .inr ⟨m, hm, h⟩
  · rintro (h | ⟨m, hm, h⟩)
    · exact ⟨_, h, .inl rfl⟩
    · exact ⟨m, hm, .inr h⟩
theorem good_nodot {t : Tx} (h : Good t) : 46 ∉ t := fun hm => by
  have := h 46 hm
  revert this; decide
theorem Words.hit {texts names : List Tx} {tops : List Int} (W : Words texts tops names) (out : List Tx) {k : Nat} (hk : k < tops.length) :
    hit out (names.getD k []) = (decide (names.getD k [] ∈ out) || (decide (0 ≤ tops.getD k 0) && Mine.hit out (names.getD (tops.getD k 0).toNat []))) := by
  have hd := good_nodot (W.good k hk)
  have e := W.name k hk
  by_cases h : tops.getD k 0 < 0
  · rw [if_pos h] at e
    rw [e, hit_root hd, decide_eq_false (by (first | lia | omega) : ¬ 0 ≤ tops.getD k 0)]
    simp
  · rw [if_neg h] at e
    rw [decide_eq_true (by (first | lia | omega) : 0 ≤ tops.getD k 0), Bool.true_and, e, hit_kid hd]
/-- all that stands in a word taken out is hit -/
theorem ord_hit {texts names : List Tx} {tops : List Int} (W : Words texts tops names) {out : List Tx} : ∀ (f : Nat) (k : Nat), hit out (names.getD k []) = true → ∀ j ∈ ordT tops f k, hit out (names.getD j []) = true
  | 0, _, _ => fun _ h => nomatch h
  | f + 1, k, hk => fun j hj => by
    unfold ordT at hj
    obtain ⟨i, hi, hj⟩ := List.mem_flatMap.mp hj
    obtain ⟨h1, h2⟩ := kids_mem hi
    have hi' : hit out (names.getD i []) = true := by
      rw [W.hit out h1, h2, decide_eq_true (by (first | lia | omega) : (0 : Int) ≤ k), show ((k : Nat) : Int).toNat = k from rfl, hk]
      simp
    rcases List.mem_cons.mp hj with rfl | hj
    · exact hi'
    · exact ord_hit W f i hi' j hj
noncomputable def okTop (out : List Tx) (names : List Tx) (top : Int) : Prop := top < 0 ∨ hit out (names.getD top.toNat []) = false
theorem rest_fold {texts names : List Tx} {tops : List Int} (W : Words texts tops names) {out : List Tx} (f : Nat) (top : Int) (ht : okTop out names top) (ih : ∀ k : Nat, okTop out names k → ((frst texts tops f k).rest out (preT names k)).read (preT names k) = ((ordT tops f k).map fun j => names.getD j []).filter fun x => !hit out x) :
    ∀ ks : List Nat, (∀ k ∈ ks, k < tops.length ∧ tops.getD k 0 = top) →
      ((ks.foldr (fun (k : Nat) acc => Fo.cons (texts.getD k []) (frst texts tops f k) acc) .nil).rest out (preT names top)).read (preT names top) = ((ks.flatMap fun (k : Nat) => k :: ordT tops f k).map fun j => names.getD j []).filter fun x => !hit out x
  | [], _ => rfl
  | k :: r, h => by
    obtain ⟨h1, h2⟩ := h k (.head _)
    have hr := rest_fold W f top ht ih r fun x hx => h x (.tail _ hx)
    have e := W.pre h1
    rw [h2] at e
    have hh := W.hit out h1
    rw [h2] at hh
    have hh2 : (decide (0 ≤ top) && hit out (names.getD top.toNat [])) = false := by
      rcases ht with ht | ht
      · rw [decide_eq_false (by (first | lia | omega))]; rfl
      · rw [ht]; simp
    rw [hh2, Bool.or_false] at hh
    rw [List.foldr_cons, Fo.rest, ← e]
    have e2 : (List.flatMap (fun (k : Nat) => k :: ordT tops f k) (k :: r)).map (fun j => names.getD j []) = names.getD k [] :: ((ordT tops f k).map (fun j => names.getD j []) ++ (r.flatMap fun (k : Nat) => k :: ordT tops f k).map fun j => names.getD j []) := by simp
    rw [e2, List.filter_cons, List.filter_append, ← hr]
    by_cases hm : names.getD k [] ∈ out
    · rw [decide_eq_true hm] at hh
      have hall : ((ordT tops f k).map (fun j => names.getD j [])).filter (fun x => !hit out x) = [] := by
        rw [List.filter_eq_nil_iff]
        intro x hx
        obtain ⟨j, hj, rfl⟩ := List.mem_map.mp hx
        rw [ord_hit W f k hh j hj]; simp
      rw [if_pos hm, hh, hall]
      simp
    · rw [decide_eq_false hm] at hh
      rw [if_neg hm, hh, Fo.read, ← e, ← preT_nat, ih k (.inr hh)]
      simp
theorem rest_forest {texts names : List Tx} {tops : List Int} (W : Words texts tops names) {out : List Tx} : ∀ (f : Nat) (top : Int), okTop out names top → ((frst texts tops f top).rest out (preT names top)).read (preT names top) = ((ordT tops f top).map fun j => names.getD j []).filter fun x => !hit out x
  | 0, _, _ => rfl
  | f + 1, top, ht => rest_fold W f top ht (fun k hk => rest_forest W f k hk) _ fun _ hk => kids_mem hk
/-! unorderable_list_difference -/
noncomputable def uldT : List Tx → List Tx → List Tx × List Tx
  | [], act => ([], act)
  | x :: r, act => if x ∈ act then uldT r (act.erase x) else let p := uldT r act; (x :: p.1, p.2)
theorem uld_perm (p : Tx → Bool) : ∀ (l act : List Tx), act.Perm (l.filter fun x => !p x) → uldT l act = (l.filter p, [])
  | [], act, h => by rw [List.filter_nil] at h; rw [h.eq_nil]; rfl
  | x :: r, act, h => by
    unfold uldT
    rw [List.filter_cons] at h ⊢
    cases hp : p x with
    | false =>
      rw [hp] at h
      simp only [Bool.not_false, if_true] at h
      have hx : x ∈ act := h.mem_iff.mpr (List.mem_cons_self ..)
      have h2 : (act.erase x).Perm (r.filter fun x => !p x) := by
        have := h.erase x
        simpa using this
      rw [if_pos hx, uld_perm p r _ h2]
      simp
    | true =>
      rw [hp] at h
      simp only [Bool.not_true, Bool.false_eq_true, if_false] at h
      have hx : x ∉ act := fun q => by
        have := h.mem_iff.mp q
        rw [List.mem_filter] at this
        rw [hp] at this; simp at this
      rw [if_neg hx, uld_perm p r act h]
      simp
theorem uld_row (p : Tx → Bool) (row : List Tx) : uldT row.reverse (row.filter fun x => !p x) = ((row.filter p).reverse, []) := by
  rw [uld_perm p row.reverse]
  · rw [List.filter_reverse]
  · rw [List.filter_reverse]
    exact (List.reverse_perm _).symm
/-! bounds of the forest -/
theorem Words.depk {texts names : List Tx} {tops : List Int} (W : Words texts tops names) {k : Nat} (hk : k < tops.length) (h : 0 ≤ tops.getD k 0) : (names.getD k []).count 46 = (names.getD (tops.getD k 0).toNat []).count 46 + 1 := by
  have hd := good_nodot (W.good k hk)
  rw [W.name k hk, if_neg (by (first | lia | omega))]
  simp only [List.count_append, List.count_cons_self, List.count_nil, Nat.zero_add]
  rw [List.count_eq_zero.mpr hd]
noncomputable def dpt (names : List Tx) (top : Int) : Nat := if top < 0 then 3 else 2 - (names.getD top.toNat []).count 46
theorem Words.dpt_kid {texts names : List Tx} {tops : List Int} (W : Words texts tops names) {top : Int} {k : Nat} (hk : k ∈ kidsT tops top) : dpt names top = dpt names k + 1 := by
  obtain ⟨h1, h2⟩ := kids_mem hk
  have hd := W.dep k h1
  unfold dpt
  rw [if_neg (by (first | lia | omega) : ¬ ((k : Nat) : Int) < 0)]
  by_cases h : top < 0
  · rw [if_pos h]
    have hd0 := good_nodot (W.good k h1)
    have e := W.name k h1
    rw [if_pos (by (first | lia | omega))] at e
    rw [show ((k : Nat) : Int).toNat = k from rfl, e, List.count_eq_zero.mpr hd0]
  · rw [if_neg h]
    have e := W.depk h1 (by (first | lia | omega))
    rw [h2] at e
    rw [show ((k : Nat) : Int).toNat = k from rfl, e]
    (first | lia | omega)
theorem kids_len {tops : List Int} {top : Int} : (kidsT tops top).length ≤ tops.length := by
  have := List.length_filter_le (fun k => tops.getD k 0 == top) (List.range tops.length)
  rwa [List.length_range] at this
theorem frst_ht {texts names : List Tx} {tops : List Int} (W : Words texts tops names) : ∀ (f : Nat) (top : Int), (frst texts tops f top).ht ≤ dpt names top
  | 0, _ => Nat.zero_le _
  | f + 1, top => by
    have key : ∀ ks : List Nat, (∀ k ∈ ks, k ∈ kidsT tops top) → (ks.foldr (fun (k : Nat) acc => Fo.cons (texts.getD k []) (frst texts tops f k) acc) .nil).ht ≤ dpt names top := by
      intro ks
      induction ks with
      | nil => intro _; exact Nat.zero_le _
      | cons k r ih =>
        intro h
        have h1 := frst_ht W f k
        have h2 := W.dpt_kid (h k (.head _))
        have h3 := ih fun x hx => h x (.tail _ hx)
        rw [List.foldr_cons, Fo.ht]
        (first | lia | omega)
    exact key _ fun _ h => h
noncomputable def wtB : Nat → Nat
  | 0 => 0
  | h + 1 => 6 * (93 + 5 * wtB h)
theorem frst_wt {texts names : List Tx} {tops : List Int} (W : Words texts tops names) : ∀ (f : Nat) (top : Int), (frst texts tops f top).wt ≤ wtB (dpt names top)
  | 0, _ => Nat.zero_le _
  | f + 1, top => by
    have key : ∀ ks : List Nat, (∀ k ∈ ks, k ∈ kidsT tops top) → ∃ b, (ks = [] ∨ wtB (dpt names top) = 6 * b) ∧ (ks.foldr (fun (k : Nat) acc => Fo.cons (texts.getD k []) (frst texts tops f k) acc) .nil).wt ≤ ks.length * b := by
      intro ks
      induction ks with
      | nil => intro _; exact ⟨0, .inl rfl, Nat.zero_le _⟩
      | cons k r ih =>
        intro h
        have h1 := frst_wt W f k
        have h2 := W.dpt_kid (h k (.head _))
        obtain ⟨b, hb, h3⟩ := ih fun x hx => h x (.tail _ hx)
        have h4 := W.short k (kids_mem (h k (.head _))).1
        refine ⟨93 + 5 * wtB (dpt names k), .inr (by rw [h2]; rfl), ?_⟩
        rw [List.foldr_cons, Fo.wt, List.length_cons, Nat.add_mul, Nat.one_mul]
        rcases hb with rfl | hb
        · simp only [List.foldr_nil, Fo.wt]; (first | lia | omega)
        · rw [h2] at hb
          have hbb : b = 93 + 5 * wtB (dpt names k) := by
            have : 6 * (93 + 5 * wtB (dpt names k)) = 6 * b := hb
            (first | lia | omega)
          rw [hbb] at h3
          (first | lia | omega)
    obtain ⟨b, hb, h⟩ := key (kidsT tops top) fun _ h => h
    refine Nat.le_trans (m := (kidsT tops top).length * b) h ?_
    rcases hb with hb | hb
    · rw [hb]; simp
    · rw [hb]; exact Nat.mul_le_mul_right _ (Nat.le_trans kids_len W.few)
theorem frst_good {texts names : List Tx} {tops : List Int} (W : Words texts tops names) : ∀ (f : Nat) (top : Int), (frst texts tops f top).good
  | 0, _ => trivial
  | f + 1, top => by
    have key : ∀ ks : List Nat, (∀ k ∈ ks, k ∈ kidsT tops top) → (ks.foldr (fun (k : Nat) acc => Fo.cons (texts.getD k []) (frst texts tops f k) acc) .nil).good := by
      intro ks
      induction ks with
      | nil => intro _; trivial
      | cons k r ih => intro h; exact ⟨W.good k (kids_mem (h k (.head _))).1, frst_good W f k, ih fun x hx => h x (.tail _ hx)⟩
    exact key _ fun _ h => h
theorem frst_lines (texts : List Tx) (tops : List Int) (f : Nat) (top : Int) : (frst texts tops (f + 1) top).lines = (kidsT tops top).map fun (k : Nat) => joinT (texts.getD k [] :: (frst texts tops f k).lines) := by
  show ((kidsT tops top).foldr (fun (k : Nat) acc => Fo.cons (texts.getD k []) (frst texts tops f k) acc) .nil).lines = _
  induction kidsT tops top with
  | nil => rfl
  | cons k r ih => rw [List.foldr_cons, Fo.lines, ih, List.map_cons]
noncomputable def ordB : Nat → Nat
  | 0 => 0
  | h + 1 => 6 * (1 + ordB h)
theorem ord_len {texts names : List Tx} {tops : List Int} (W : Words texts tops names) : ∀ (f : Nat) (top : Int), (ordT tops f top).length ≤ ordB (dpt names top)
  | 0, _ => Nat.zero_le _
  | f + 1, top => by
    have key : ∀ ks : List Nat, (∀ k ∈ ks, k ∈ kidsT tops top) → ∃ b, (ks = [] ∨ ordB (dpt names top) = 6 * b) ∧ (ks.flatMap fun (k : Nat) => k :: ordT tops f k).length ≤ ks.length * b := by
      intro ks
      induction ks with
      | nil => intro _; exact ⟨0, .inl rfl, Nat.zero_le _⟩
      | cons k r ih =>
        intro h
        have h1 := ord_len W f k
        have h2 := W.dpt_kid (h k (.head _))
        obtain ⟨b, hb, h3⟩ := ih fun x hx => h x (.tail _ hx)
        refine ⟨1 + ordB (dpt names k), .inr (by rw [h2]; rfl), ?_⟩
        rw [List.flatMap_cons, List.length_append, List.length_cons, List.length_cons, Nat.add_mul, Nat.one_mul]
        rcases hb with rfl | hb
        · simp only [List.flatMap_nil, List.length_nil]; (first | lia | omega)
        · rw [h2] at hb
          have hbb : b = 1 + ordB (dpt names k) := by
            have : 6 * (1 + ordB (dpt names k)) = 6 * b := hb
            (first | lia | omega)
          rw [hbb] at h3
          (first | lia | omega)
    obtain ⟨b, hb, h⟩ := key (kidsT tops top) fun _ h => h
    refine Nat.le_trans (m := (kidsT tops top).length * b) h ?_
    rcases hb with hb | hb
    · rw [hb]; simp
    · rw [hb]; exact Nat.mul_le_mul_right _ (Nat.le_trans kids_len W.few)
theorem ord_mem {tops : List Int} : ∀ (f : Nat) (top : Int), ∀ k ∈ ordT tops f top, k < tops.length
  | 0, _ => fun _ h => nomatch h
  | f + 1, top => fun k hk => by
    unfold ordT at hk
    obtain ⟨i, hi, hj⟩ := List.mem_flatMap.mp hk
    rcases List.mem_cons.mp hj with rfl | hj
    · exact (kids_mem hi).1
    · exact ord_mem f i k hj
theorem kids_high {texts names : List Tx} {tops : List Int} (W : Words texts tops names) {top : Int} {k : Nat} (hk : k ∈ kidsT tops top) : top < k := by
  obtain ⟨h1, h2⟩ := kids_mem hk
  have := W.high k h1
  (first | lia | omega)
/-- a word more -/
theorem Words.nil : Words [] [] [] := by
  constructor <;> first | rfl | (intro k hk; exact absurd hk (by simp)) | simp
theorem Words.snoc {texts names : List Tx} {tops : List Int} (W : Words texts tops names) (hn : tops.length < 6) {t : Tx} {top : Int} (ht : Good t) (hs : t.length ≤ 3) (h1 : -1 ≤ top) (h2 : top < tops.length)
    (h3 : 0 ≤ top → (names.getD top.toNat []).count 46 < 2) : Words (texts ++ [t]) (tops ++ [top]) (names ++ [if top < 0 then t else names.getD top.toNat [] ++ [46] ++ t]) := by
  have l1 := W.len1
  have l2 := W.len2
  have hd := good_nodot ht
  have g : ∀ {α : Type} (l : List α) (x d : α) (k : Nat), k < l.length + 1 → (l ++ [x]).getD k d = if k < l.length then l.getD k d else x := by
    intro α l x d k hk
    by_cases h : k < l.length
    · rw [if_pos h]; simp [List.getD, List.getElem?_append_left h]
    · rw [if_neg h]
      have : k = l.length := by (first | lia | omega)
      subst this
      simp [List.getD]
  have cut : ∀ k, k < (tops ++ [top]).length → k < tops.length ∨ k = tops.length := fun k hk => by
    rw [List.length_append, List.length_singleton] at hk; (first | lia | omega)
  have gt : ∀ k, k < tops.length + 1 → (tops ++ [top]).getD k 0 = if k < tops.length then tops.getD k 0 else top := fun k hk => g tops top 0 k hk
  have gx : ∀ k, k < tops.length + 1 → (texts ++ [t]).getD k [] = if k < tops.length then texts.getD k [] else t := fun k hk => by
    have := g texts t [] k (by (first | lia | omega)); rwa [l1] at this
  have gn : ∀ k, k < tops.length + 1 → (names ++ [if top < 0 then t else names.getD top.toNat [] ++ [46] ++ t]).getD k [] = if k < tops.length then names.getD k [] else (if top < 0 then t else names.getD top.toNat [] ++ [46] ++ t) := fun k hk => by
    have := g names (if top < 0 then t else names.getD top.toNat [] ++ [46] ++ t) [] k (by (first | lia | omega)); rwa [l2] at this
  constructor
  · simp [l1]
  · simp [l2]
  · intro k hk
    rcases cut k hk with h | rfl
    · rw [gt k (by (first | lia | omega)), if_pos h]; exact W.low k h
    · rw [gt _ (by (first | lia | omega)), if_neg (by (first | lia | omega))]; exact h1
  · intro k hk
    rcases cut k hk with h | rfl
    · rw [gt k (by (first | lia | omega)), if_pos h]; exact W.high k h
    · rw [gt _ (by (first | lia | omega)), if_neg (by (first | lia | omega))]; exact h2
  · intro k hk
    rcases cut k hk with h | rfl
    · rw [gx k (by (first | lia | omega)), if_pos h]; exact W.good k h
    · rw [gx _ (by (first | lia | omega)), if_neg (by (first | lia | omega))]; exact ht
  · simp; (first | lia | omega)
  · intro k hk
    rcases cut k hk with h | rfl
    · rw [gx k (by (first | lia | omega)), if_pos h]; exact W.short k h
    · rw [gx _ (by (first | lia | omega)), if_neg (by (first | lia | omega))]; exact hs
  · intro k hk
    rcases cut k hk with h | rfl
    · rw [gn k (by (first | lia | omega)), if_pos h]; exact W.dep k h
    · rw [gn _ (by (first | lia | omega)), if_neg (by (first | lia | omega))]
      split
      · rw [List.count_eq_zero.mpr hd]; (first | lia | omega)
      · have := h3 (by (first | lia | omega))
        simp only [List.count_append, List.count_cons_self, List.count_nil, Nat.zero_add, List.count_eq_zero.mpr hd]; (first | lia | omega)
  · intro k hk
    rcases cut k hk with h | rfl
    · rw [gn k (by (first | lia | omega)), if_pos h, gt k (by (first | lia | omega)), if_pos h, gx k (by (first | lia | omega)), if_pos h, W.name k h]
      by_cases h0 : tops.getD k 0 < 0
      · rw [if_pos h0, if_pos h0]
      · rw [if_neg h0, if_neg h0]
        have := W.high k h
        rw [gn (tops.getD k 0).toNat (by (first | lia | omega)), if_pos (by (first | lia | omega))]
    · have e1 := (gn tops.length (by (first | lia | omega))).trans (if_neg (Nat.lt_irrefl _))
      have e2 := (gt tops.length (by (first | lia | omega))).trans (if_neg (Nat.lt_irrefl _))
      have e3 := (gx tops.length (by (first | lia | omega))).trans (if_neg (Nat.lt_irrefl _))
      rw [e1, e2, e3]
      by_cases h0 : top < 0
      · rw [if_pos h0, if_pos h0]
      · have hlt : top.toNat < tops.length := by (first | lia | omega)
        have e4 := (gn top.toNat (Nat.lt_succ_of_lt hlt)).trans (if_pos hlt)
        rw [if_neg h0] at e4
        rw [if_neg h0, if_neg h0, e4]
theorem Words.name_len {texts names : List Tx} {tops : List Int} (W : Words texts tops names) : ∀ (f k : Nat), k < f → k < tops.length → (names.getD k []).length ≤ 3 + 4 * (names.getD k []).count 46
  | 0, _, h, _ => absurd h (Nat.not_lt_zero _)
  | f + 1, k, hf, hk => by
    have hs := W.short k hk
    have e := W.name k hk
    by_cases h0 : tops.getD k 0 < 0
    · rw [if_pos h0] at e; rw [e]; (first | lia | omega)
    · have hd := W.depk hk (by (first | lia | omega))
      have hh := W.high k hk
      have ih := W.name_len f (tops.getD k 0).toNat (by (first | lia | omega)) (by (first | lia | omega))
      rw [hd]
      rw [if_neg h0] at e
      rw [e]
      simp only [List.length_append, List.length_cons, List.length_nil]
      (first | lia | omega)
theorem Words.name_le {texts names : List Tx} {tops : List Int} (W : Words texts tops names) {k : Nat} (hk : k < tops.length) : (names.getD k []).length ≤ 11 := by
  have h1 := W.name_len (k + 1) k (Nat.lt_succ_self _) hk
  have h2 := W.dep k hk
  (first | lia | omega)
noncomputable def noA : Str → Option Value := fun _ => none
theorem noA_at {y : Str} : noA y = none := rfl
local macro_rules | `(tactic| k_call_by "lk" 0) => `(tactic| repeat' (first | with_reducible exact upd_here | with_reducible exact bnd_here | with_reducible assumption | with_reducible apply upd_there | with_reducible apply bnd_there | with_reducible apply upd_none | with_reducible exact noA_at | exact ne_q (Eq.refl false)))
local macro_rules | `(tactic| k_call_by "gon" 0) => `(tactic| repeat (first | ((with_reducible show wpAny _ _ (setAttr _ _ _) _ _ _); first | k_call_by "sx" 0 | k_call_by "sn" 0) | k_call_by "go1" 0))
noncomputable def mroOk (K : Frag) (C : Addr) : Bool := match clsIn K C with | some cd => !cd.mro.isEmpty | none => false
theorem cls_at {K : Frag} {C : Addr} (h : mroOk K C = true) : ∃ oc od cd sl, K.lookup C = some ⟨oc, od, .cls cd, sl⟩ ∧ cd.mro.isEmpty = false := by
  unfold mroOk clsIn at h
  generalize K.lookup C = x at h ⊢
  rcases x with _ | ⟨oc, od, dt, sl⟩
  · cases h
  · cases dt
    case cls cd => exact ⟨oc, od, cd, sl, rfl, by simpa using h⟩
    all_goals cases h

theorem Rm.under {A : Around} {d u : Nat} {C : Addr} {vals : List Value} {kw : List (Str × Value)} (R : Rm A (d + 1) (u + 1)) : Rm (A.under (.builtin "type.__call__" ⟨.ref C :: vals, kw⟩)) d u :=
  ⟨R.hand, by have := R.depth; show A.depth + 1 + d < _; (first | lia | omega), by have := R.units; show A.units + 1 + u < _; (first | lia | omega)⟩
theorem transl_ok {k : Bool} {w : World} {mg mb m ma : Str → Option Value} {A : Around} {s₀ s : Shared} {g : Heap} {L x dx : Addr} {o : Obj} {B : Tx} {t : Tok} {tn : Tok} {n : Nat} {news : List (Addr × Obj)} {Q E : Value → Shared → Prop}
    (C : Cx k s₀ g L s m news) (W : Wd w mg mb g) (hi : (x, instObj 694 dx) ∈ news) (hd : (dx, o) ∈ news) (hne : x ≠ dx) (hN : DNs n o ma) (hn : ma (Str.ofString "_StringIO__newline") = some (.str (Str.ofString "\n") tn)) (R : Rm A 1 4)
    (h : ∀ s', Cx k s₀ g L s' m news → Q (.str (S B) t) s') :
    wpAny (model P9 w) A (call (.ref 471) [.ref x, .str (S B) t]) Q E s := by
  have hq : ∀ q ∈ [(x, instObj 694 dx), (dx, o)], q ∈ news := fun q hq => by
    rcases List.mem_cons.mp hq with rfl | hq
    · exact hi
    · rw [List.mem_singleton.mp hq]; exact hd
  refine wpAny_call ?_
  refine' enterH (k := k) (D := [(x, instObj 694 dx), (dx, o)]) (binds := [(Str.ofString "self", .ref x), (Str.ofString "s", .str (S B) t)]) W C.keep (fun q h => ⟨C.get (hq q h), (C.N q (hq q h)).2.2⟩) (by simp [hne]) R.room ?ho ?hcd ?hb ?hl ?hr ?_ ?h1 ?h2 ?h3 ?h4
  k_call_by "ent" 0
  intro L1 s1 WH hgh C1 hL
  refine hideQ fun Qt hQt => ?_
  k_call_by "go" 0
  rename_i C2
  exact h _ (C.back0 (C2.all fun q h => C.get (hq q h)) C2.st)
theorem init464 {k : Bool} {w : World} {mg mb m : Str → Option Value} {A : Around} {s₀ s : Shared} {g : Heap} {L x dx : Addr} {B : Tx} {t : Tok} {news : List (Addr × Obj)} {Q E : Value → Shared → Prop}
    (C : Cx k s₀ g L s m ((x, instObj 694 dx) :: (dx, emptyDict) :: news)) (W : Wd w mg mb g) (R : Rm A 2 8)
    (h : ∀ o s', Cx k s₀ g L s' m ((x, instObj 694 dx) :: (dx, o) :: news) → Strm o B 0 → Q .none s') :
    wpAny (model P9 w) A (call (.ref 464) [.ref x, .str (S B) t]) Q E s := by
  have hne : x ≠ dx := by
    have := C.nd
    simp only [List.map_cons, List.nodup_cons, List.mem_cons, not_or] at this
    exact this.1.1
  have hq : ∀ q ∈ [(x, instObj 694 dx), (dx, emptyDict)], q ∈ (x, instObj 694 dx) :: (dx, emptyDict) :: news := fun q hq => by
    rcases List.mem_cons.mp hq with rfl | hq
    · exact .head _
    · rw [List.mem_singleton.mp hq]; exact .tail _ (.head _)
  have hgs := C.keep
  have hN0 : DNs 0 emptyDict noA := DNs.empty
  refine wpAny_call ?_
  refine' enterH (k := k) (D := [(x, instObj 694 dx), (dx, emptyDict)]) (binds := [(Str.ofString "self", .ref x), (Str.ofString "initial_value", .str (S B) t), (Str.ofString "newline", .str (Str.ofString "\n") 904)]) W C.keep (fun q h => ⟨C.get (hq q h), (C.N q (hq q h)).2.2⟩) (by simp [hne]) R.room ?ho ?hcd ?hb ?hl ?hr ?_ ?h1 ?h2 ?h3 ?h4
  k_call_by "entd" 0
  intro L1 s1 WH hgh C1 hL
  refine hideQ fun Qt hQt => ?_
  k_call_by "go" 0
  k_call_by "sn" 0
  k_call_by "go" 0
  k_call_by "sn" 0
  k_call_by "go" 0
  k_call_by "sn" 0
  k_call_by "go" 0
  refine transl_ok (by with_reducible assumption) WH (by k_call_by "mem" 0) (by k_call_by "mem" 0) hne (by with_reducible assumption) (by k_call_by "lk" 0) (Rm.deeper (R.le (by first | decide | (first | lia | omega)) (by first | decide | (first | lia | omega)))) fun _ _ => ?_
  try dsimp only
  k_call_by "go" 0
  rename_i D9 C9
  refine h _ _ (Cx.back (D := [(x, instObj 694 dx), (dx, emptyDict)]) (D' := [(x, instObj 694 dx), (dx, _)]) (g' := hideAll s.heap [x, dx]) C (fun b o e hb => hideAll_get _ e hb) C9.keep C9.st (fun q hq => C9.get hq) rfl) ?_
  exact ⟨_, _, _, D9, by k_call_by "lk" 0, (by show _ = some (Value.int 0 _); k_call_by "lk" 0), by k_call_by "lk" 0, by k_call_by "lk" 0⟩
theorem r_sio {k : Bool} {w : World} {mg mb m : Str → Option Value} {A : Around} {s₀ s : Shared} {g : Heap} {L : Addr} {B : Tx} {t : Tok} {news : List (Addr × Obj)} {Q E : Value → Shared → Prop}
    (C : Cx k s₀ g L s m news) (W : Wd w mg mb g) (R : Rm A 4 20)
    (h : ∀ x dx o s', Cx k s₀ g L s' m ((x, instObj 694 dx) :: (dx, o) :: news) → Strm o B 0 → Q (.ref x) s') : wpAny (model P9 w) A (call (.ref 694) [.str (S B) t]) Q E s := by
  have X := Kin W C
  obtain ⟨oc, od, cd, sl, ho694, e4⟩ := cls_at (K := Mine.hd.heap_1 w.params) (C := 694) (by kernel_rfl)
  have hC := X _ _ ho694
  have hcall : Looks (model P9 w) s.heap (specialOf (.ref 694) "__call__") (some (.builtin "type.__call__")) := looks_specialIn X (by k_is)
  have htyp : Looks (model P9 w) s.heap (isInstance (.ref 694) (.type "type")) true := looks_instIn X (by k_is)
  refine wpAny_call (codeAny_of_tree ?_)
  show wpAny _ _ (callAny (.ref 694) _) _ _ _
  refine nd_load hC ?_
  show wpAny _ _ (callAny.viaDunder (.ref 694) _) _ _ _
  unfold callAny.viaDunder
  refine wpAny_bind (hcall.here ?_)
  try dsimp only
  rw [tc_bind]
  refine wpAny_bind (wpAny_pure (wpAny_bind (wpAny_pure ?_)))
  refine wpAny_pure (a := Fin.again (.call (.builtin "type.__call__") ⟨[.ref 694, .str (S B) t], []⟩)) (And.intro rfl ?_)
  refine codeAny_call_builtin_at (Code.quiet_builtin _ (by decide +kernel)) entry_typeCall (check_slot tc_kind tc_split htyp (tc_args _ _ _) ?_)
  unfold Builtin.«type.__call__»
  have hm : Looks (model P9 w) s.heap (mroOf (.ref 694)) cd.mro := ((Looks.ld (part := none) hC).andThen .now).andThen .now
  have hmade : Looks (model P9 w) s.heap (Bind.madeBy (.ref 694)) none := Looks.of_peek X (by kernel_rfl)
  iterate 6 (first | (with_reducible show wpAny _ _ (getAttr _ _ _) _ _ _) | simp only [e4, Bool.false_eq_true, if_false] | lk)
  refine hmade.here ?_
  refine wpAny_bind ?_
  refine' cls_sm (K := Mine.hd.heap_1 w.params) (p := 191) (f := .ref 187) (mc := .type "type") C.F W.X ?c1 ?c2 ?c3 ?c4 rfl ?_
  case c1 => k_is
  case c2 => kernel_rfl
  case c3 => k_is
  case c4 => k_is
  refine wpAny_bind (wpAny_holding ?_)
  refine new187 (C.toks) W (Rm.under (R.le (by first | decide | (first | lia | omega)) (by first | decide | (first | lia | omega)))) fun x dx s1 C1 => ?_
  have X1 := Kin W C1
  have I1 := inst_at C1 (C := 694) (x := x) (dx := dx) (o := emptyDict) (by k_call_by "mem" 0) (by k_call_by "mem" 0)
  have T1 : Looks (model P9 w) s1.heap (isInstance (.ref x) (.ref 694)) true := I1.type.andThen (looks_mroIn X1 (by k_is))
  refine wpAny_bind (T1.here ?_)
  simp only [Bool.not_true, Bool.false_eq_true, if_false]
  refine wpAny_bind (wpAny_holding ?_)
  refine special_fn (f := 464) X1 I1 (by k_is) (by k_is) ?_
  refine init464 C1 W (Rm.under (R.le (by first | decide | (first | lia | omega)) (by first | decide | (first | lia | omega)))) fun o s2 C2 hS => ?_
  try dsimp only
  rw [if_neg (by decide)]
  exact wpAny_pure (h x dx o s2 C2 hS)
/-! shlex.__init__ -/
structure LxI (ma : Str → Option Value) (x q1 q2 : Addr) : Prop where
  instream : ma (Str.ofString "instream") = some (.ref x)
  posix : ma (Str.ofString "posix") = some (.bool true)
  eof : ma (Str.ofString "eof") = some .none
  commenters : ∃ v, ma (Str.ofString "commenters") = some v
  wordchars : ∃ t, ma (Str.ofString "wordchars") = some (.str WC t)
  whitespace : ∃ t, ma (Str.ofString "whitespace") = some (.str (Str.ofString " \t\r\n") t)
  wsplit : ∃ v, ma (Str.ofString "whitespace_split") = some v
  quotes : ∃ t, ma (Str.ofString "quotes") = some (.str (Str.ofString "'\"") t)
  escape : ∃ t, ma (Str.ofString "escape") = some (.str (Str.ofString "\\") t)
  escq : ∃ t, ma (Str.ofString "escapedquotes") = some (.str (Str.ofString "\"") t)
  pushback : ma (Str.ofString "pushback") = some (.ref q1)
  filestack : ma (Str.ofString "filestack") = some (.ref q2)
  debug : ∃ t, ma (Str.ofString "debug") = some (.int 0 t)
  source : ma (Str.ofString "source") = some .none
  punct : ∃ t, ma (Str.ofString "_punctuation_chars") = some (.str (S []) t)
  noRead : ma (Str.ofString "read_token") = none
  noGet : ma (Str.ofString "get_token") = none
theorem r_iadd {w : World} {A : Around} {E : Value → Shared → Prop} {k : Bool} {s₀ s : Shared} {g : Heap} {L : Addr} {m : Str → Option Value} {news : List (Addr × Obj)} {x y : Str} {t u : Tok} {Q : Value → Shared → Prop} (C : Cx k s₀ g L s m news) (hl : x.length + y.length ≤ 2000000) (h : ∀ t' s', Cx k s₀ g L s' m news → Q (.str (x ++ y) t') s') :
    wpAny (model P9 w) A (inplaceOp .Add (.str x t) (.str y u)) Q E s :=
  iadd_str (fun t' tk => h t' _ C.toks) (by rw [sizeLine_eq]; (first | lia | omega))
theorem e_nil : Str.ofString "" = S [] := by decide +kernel
theorem r_t_e {w : World} {A : Around} {E : Value → Shared → Prop} {k : Bool} {s₀ s : Shared} {g : Heap} {L : Addr} {m : Str → Option Value} {news : List (Addr × Obj)} {t : Tok} {Q : Bool → Shared → Prop} (C : Cx k s₀ g L s m news) (h : ∀ s', Cx k s₀ g L s' m news → Q false s') : wpAny (model P9 w) A (truthy (.str (Str.ofString "") t)) Q E s := by
  rw [e_nil]; exact r_t_nil C h
theorem perm6 {α : Type} (q2 q1 x d l e : α) : [q2, q1, x, d, l, e].Perm ([l, e] ++ [x, d, q1, q2]) := by
  have h1 : [q2, q1, x, d, l, e].Perm [e, l, d, x, q1, q2] := (List.reverse_perm _).symm
  have h2 : [e, l, d, x, q1, q2].Perm [l, e, d, x, q1, q2] := List.Perm.swap ..
  have h3 : [l, e, d, x, q1, q2].Perm [l, e, x, d, q1, q2] := .cons _ (.cons _ (List.Perm.swap ..))
  exact h1.trans (h2.trans h3)
theorem perm6' {α : Type} (q2 q1 x d l e : α) (r : List α) : ([x, d, q1, q2] ++ ([l, e] ++ r)).Perm (x :: d :: l :: e :: q1 :: q2 :: r) := by
  have h : ([q1, q2] ++ ([l, e] ++ r)).Perm ([l, e] ++ ([q1, q2] ++ r)) := by
    rw [← List.append_assoc, ← List.append_assoc]
    exact List.Perm.append_right _ List.perm_append_comm
  exact .cons _ (.cons _ h)
theorem lxi_ok {k : Bool} {w : World} {mg mb m : Str → Option Value} {A : Around} {s₀ s : Shared} {g : Heap} {L lx dl : Addr} {B : Tx} {t : Tok} {news : List (Addr × Obj)} {R : Result → Shared → Prop}
    (C : Cx k s₀ g L s m ((lx, instObj 787 dl) :: (dl, emptyDict) :: news)) (W : Wd w mg mb g) (Rr : Rm A 6 30)
    (h : ∀ x dx ox q1 q2 ol s' ma sv st tv tt, Cx k s₀ g L s' m (D4 x dx ox lx dl ol ((q1, deqObj) :: (q2, deqObj) :: news)) → Strm ox B 0 → DNs 19 ol ma → LxI ma x q1 q2 → ma (Str.ofString "state") = some (.str sv st) → sv = S [32] →
      ma (Str.ofString "token") = some (.str tv tt) → tv = S [] → R (.ok (.ret .none)) s') :
    codeAny (model P9 w) A (.call (.ref 711) ⟨[.ref lx, .str (S B) t], [(Str.ofString "posix", .bool true)]⟩) R s := by
  have hne : lx ≠ dl := by
    have := C.nd
    simp only [List.map_cons, List.nodup_cons, List.mem_cons, not_or] at this
    exact this.1.1
  have hq : ∀ q ∈ [(lx, instObj 787 dl), (dl, emptyDict)], q ∈ (lx, instObj 787 dl) :: (dl, emptyDict) :: news := fun q hq => by
    rcases List.mem_cons.mp hq with rfl | hq
    · exact .head _
    · rw [List.mem_singleton.mp hq]; exact .tail _ (.head _)
  have hgs := C.keep
  have hN0 : DNs 0 emptyDict noA := DNs.empty
  refine' enterH (k := k) (D := [(lx, instObj 787 dl), (dl, emptyDict)]) (binds := [(Str.ofString "self", .ref lx), (Str.ofString "instream", .str (S B) t), (Str.ofString "infile", .none), (Str.ofString "posix", .bool true), (Str.ofString "punctuation_chars", .bool false)]) W C.keep (fun q h => ⟨C.get (hq q h), (C.N q (hq q h)).2.2⟩) (by simp [hne]) Rr.room ?ho ?hcd ?hb ?hl ?hr ?_ ?h1 ?h2 ?h3 ?h4
  k_call_by "entd" 0
  intro L1 s1 WH hgh C1 hL
  refine hideQ fun Qt hQt => ?_
  k_call_by "go" 0
  refine IsiPair.str_str ?_
  k_call_by "go" 0
  refine r_sio (by with_reducible assumption) WH (Rm.deeper (Rr.le (by first | decide | (first | lia | omega)) (by first | decide | (first | lia | omega)))) fun x dx ox s2 C2 hS2 => ?_
  k_call_by "gon" 0
  refine r_iadd (by with_reducible assumption) (by decide +kernel) fun t3 s3 C3 => ?_
  k_call_by "gon" 0
  refine r_dq (by with_reducible assumption) fun q1 s4 C4 => ?_
  k_call_by "gon" 0
  refine r_dq (by with_reducible assumption) fun q2 s5 C5 => ?_
  k_call_by "gon" 0
  refine r_t_e (by with_reducible assumption) fun s6 C6 => ?_
  k_call_by "gon" 0
  have C7 := Cx.ret (D := [(lx, instObj 787 dl), (dl, emptyDict)]) (D' := [(lx, instObj 787 dl), (dl, _)]) (F := [(x, instObj 694 dx), (dx, ox), (q1, deqObj), (q2, deqObj)]) C (C6.perm (perm6 _ _ _ _ _ _)) rfl
  refine h x dx ox q1 q2 _ _ _ _ _ _ _ (C7.perm (perm6' _ _ _ _ _ _ _)) hS2 (by with_reducible assumption) ?_ (by k_call_by "lk" 0) (by decide +kernel) (by k_call_by "lk" 0) e_nil
  constructor
  all_goals first | exact ⟨_, by k_call_by "lk" 0⟩ | (unfold WC; exact ⟨_, by k_call_by "lk" 0⟩) | (rw [← e_nil]; exact ⟨_, by k_call_by "lk" 0⟩) | k_call_by "lk" 0
/-! split -/
theorem LxI.toS {ma : Str → Option Value} {x q1 q2 : Addr} {tc : Tok} (X : LxI ma x q1 q2) : LxS (upd (upd ma (Str.ofString "whitespace_split") (.bool true)) (Str.ofString "commenters") (.str (Str.ofString "") tc)) x q1 q2 := by
  have key : ∀ a : String, a ≠ "whitespace_split" → a ≠ "commenters" → upd (upd ma (Str.ofString "whitespace_split") (.bool true)) (Str.ofString "commenters") (.str (Str.ofString "") tc) (Str.ofString a) = ma (Str.ofString a) := fun a h1 h2 =>
    (if_neg fun e => h2 (ofString_inj e)).trans (if_neg fun e => h1 (ofString_inj e))
  obtain ⟨a1, a2, a3, a4, a5, a6, a7, a8, a9, a10, a11, a12, a13, a14, a15, a16, a17⟩ := X
  constructor
  case commenters => rw [← e_nil]; exact ⟨tc, upd_here⟩
  case wsplit => exact upd_there (ne_q (by exact Eq.refl false)) upd_here
  all_goals (rw [key _ (by decide) (by decide)]; assumption)
theorem deeper_frames {A : Around} {env : Env} {outer : List Env} (h : A.frames = some outer) : (A.deeper env).frames = some (env :: outer) := by
  show A.frames.map _ = _
  rw [h]; rfl
theorem r_cls {k : Bool} {w : World} {mg mb m : Str → Option Value} {A : Around} {s₀ s : Shared} {g : Heap} {L Cc : Addr} {news : List (Addr × Obj)} {vals : List Value} {kw : List (Str × Value)} {fI : Addr} {Q E : Value → Shared → Prop}
    (C : Cx k s₀ g L s m news) (W : Wd w mg mb g) (hm : makesIn (Mine.hd.heap_1 w.params) Cc = true) (hi : findIn (Mine.hd.heap_1 w.params) (.ref Cc) "__init__" = some (some (.ref fI))) (hf : typeIn (Mine.hd.heap_1 w.params) (.ref fI) = some (.type "function"))
    (h : ∀ x dx s', Cx k s₀ g L s' m ((x, instObj Cc dx) :: (dx, emptyDict) :: news) →
      codeAny (model P9 w) (A.under (.builtin "type.__call__" ⟨.ref Cc :: vals, kw⟩)) (.call (.ref fI) ⟨.ref x :: vals, kw⟩) (InitBack x fun r s' => match r with | .ok (.ret v) => Q v s' | .ok _ => False | .error e => E e s') s') :
    wpAny (model P9 w) A (call (.ref Cc) vals kw) Q E s := by
  refine wpAny_call (make_K C.F C.N (Kin W C) hm hi hf fun x dx h' F' N' h1 h2 => ?_)
  refine h x dx _ ⟨C.st.trans .heap, F', N', ?_⟩
  have nd := C.nd_cons (x := dx) (o := emptyDict) h1
  rw [List.map_cons, List.nodup_cons]
  refine ⟨fun q => ?_, nd⟩
  obtain ⟨p, hp, e⟩ := List.mem_map.mp q
  have e' : p.1 = x := e
  rcases List.mem_cons.mp hp with rfl | hp
  · exact absurd h2 (by rw [← e']; exact Nat.lt_irrefl _)
  · have := h1 p hp
    rw [e'] at this
    exact absurd (Nat.lt_trans this h2) (Nat.lt_irrefl _)
theorem r_split {k : Bool} {w : World} {mg mb m : Str → Option Value} {A : Around} {s₀ s : Shared} {g : Heap} {L : Addr} {B : Tx} {t : Tok} {R FO : List (Addr × Obj)} {ts : List Tx} {env : Env} {outer : List Env} {Q E : Value → Shared → Prop}
    (C : Cx k s₀ g L s m (R ++ FO)) (W : Wd w mg mb g) (T : Otr outer FO) (hst : A.frames = some (env :: outer)) (he : env.frame = some L) (hek : env.scope.kind ≠ .module)
    (hB : B.length ≤ 1000000) (hG : Good B) (hrun : LexRun (some 32) B ts) (hts : ts.length ≤ 300000) (Rr : Rm A 8 50)
    (h : ∀ X s' FO' vs c, SlE FO FO' → Cx k s₀ g L s' m ((X, lobj vs.toArray c) :: (R ++ FO')) → SVs vs ts → Q (.ref X) s') :
    wpAny (model P9 w) A (call (.ref 799) [.str (S B) t]) Q E s := by
  obtain ⟨oL, hL, hdL⟩ := C.atL
  obtain ⟨hh, hnd⟩ := C.hid (D := []) hL
  have hgs := C.keep
  have T1 := T.push he hek hdL
  refine wpAny_call ?_
  refine' enterH (k := k) (D := (L, oL) :: FO) (binds := [(Str.ofString "s", .str (S B) t), (Str.ofString "comments", .bool false), (Str.ofString "posix", .bool true)]) W C.keep hh hnd Rr.room ?ho ?hcd ?hb ?hl ?hr ?_ ?h1 ?h2 ?h3 ?h4
  k_call_by "entd" 0
  intro L1 s1 WH hgh C1 hL1
  refine hideQ fun Qt hQt => ?_
  k_call_by "go" 0
  refine wpAny_Call_Name_kw ?_
  k_call_by "go" 0
  refine callWith_KW (K := Mine.hd.heap_1 w.params) (h₀ := s.heap) (by exact W.X.keeps hgs) (by kernel_rfl) rfl ?_
  show wpAny (model P9 w) _ (spliced [(false, eval _ _)]) _ _ _
  refine spliced_cons ?_
  k_call_by "go" 0
  refine spliced_nil ?_
  refine kwAll_cons ?_
  k_call_by "go" 0
  refine kwAll_nil ?_
  k_call_by "go" 0
  refine r_cls (fI := 711) (by with_reducible assumption) WH (by kernel_rfl) (by k_is) (by k_is) fun lx dl s2 C2 => ?_
  refine lxi_ok C2 WH (Rm.under (Rm.deeper (Rr.le (by first | decide | (first | lia | omega)) (by first | decide | (first | lia | omega))))) fun x dx ox q1 q2 ol s3 ma sv st tv tt C3 hS hN hI hs1 hs2 ht1 ht2 => ⟨rfl, ?_⟩
  obtain ⟨vc, hvc⟩ := hI.commenters
  obtain ⟨vw, hvw⟩ := hI.wsplit
  try dsimp only
  k_call_by "go" 0
  rename_i tc _ _ _ N9 C9
  have hO : LxO _ x q1 q2 (some 32) := ⟨_, _, _, _, N9, hI.toS, by k_call_by "lk" 0, ⟨sv, st, rfl, hs2⟩, by k_call_by "lk" 0, ht2⟩
  refine list_lex (R0 := [(q1, deqObj), (q2, deqObj)]) (FO := (L, oL) :: FO) C9 WH (.head _) (.tail _ (.head _)) hS hO hB (Nat.zero_le _) hG (Rm.deeper (Rr.le (by first | decide | (first | lia | omega)) (by first | decide | (first | lia | omega)))) T1 (deeper_frames hst) rfl (fun q => by cases q) (by rw [List.drop_zero]; exact hrun) hts fun X s4 ox4 ol4 FO4 vs c hsl C4 hvs => ?_
  try dsimp only
  obtain ⟨FO', hsl', C5⟩ := Cx.retS (D := []) (D' := []) (F := [(x, instObj 694 dx), (dx, ox4), (lx, instObj 787 dl), (dl, ol4), (X, lobj vs.toArray c), (q1, deqObj), (q2, deqObj)]) C hL C4 hsl rfl
  refine hQt.op _ _ ?_
  exact h X s4 FO' vs c hsl' (C5.drop (List.Sublist.append (l₁ := [(X, lobj vs.toArray c)]) (.cons _ (.cons _ (.cons _ (.cons _ (.cons_cons _ (List.nil_sublist _)))))) (List.Sublist.refl _))) hvs
local macro_rules | `(tactic| k_call_by "gm" 0) => `(tactic| first
  | ((with_reducible show wpAny _ _ (getMethod (Value.ref _) (Str.ofString "append") _) _ _ _); refine r_ingm (by k_call_by "wa" 0) (by k_call_by "mem" 0) slot_list_append type_list_append ?_)
  | ((with_reducible show wpAny _ _ (getMethod (Value.ref _) (Str.ofString "extend") _) _ _ _); refine r_ingm (by k_call_by "wa" 0) (by k_call_by "mem" 0) PySem.F.slot_list_extend PySem.F.type_list_extend ?_)
  | ((with_reducible show wpAny _ _ (getMethod (Value.ref _) (Str.ofString "pop") _) _ _ _); refine r_ingm (by k_call_by "wa" 0) (by k_call_by "mem" 0) PySem.F.slot_list_pop PySem.F.type_list_pop ?_)
  | ((with_reducible show wpAny _ _ (getMethod (Value.ref _) (Str.ofString "remove") _) _ _ _); refine r_ingm (by k_call_by "wa" 0) (by k_call_by "mem" 0) PySem.F.slot_list_remove PySem.F.type_list_remove ?_))
local macro_rules | `(tactic| k_call_by "app" 0) => `(tactic| ((with_reducible show wpAny _ _ (call (Value.builtin "list.append") [Value.ref _, _] _) _ _ _); refine' r_append (by k_call_by "wa" 0) ?U ?hz ?_; (case U => k_call_by "up" 0); (case hz => first | (first | lia | omega) | (simp only [List.length_append, List.length_cons, List.length_nil]; (first | lia | omega))); intro _ _))
local macro_rules | `(tactic| k_call_by "xb" 0) => `(tactic| with_reducible refine wpAny_pure ?_)
/-! _law_order -/
theorem IntsAre.append' {vs vs' : List Value} {ns ns' : List Int} (h : IntsAre vs ns) (h' : IntsAre vs' ns') : IntsAre (vs ++ vs') (ns ++ ns') := by
  induction h with
  | nil => exact h'
  | cons n t _ ih => exact .cons n t ih
theorem IntsAre.at' {vs : List Value} {ns : List Int} (h : IntsAre vs ns) : ∀ {i : Nat}, i < ns.length → ∃ t, vs[i]? = some (.int (ns.getD i 0) t) := by
  induction h with
  | nil => intro i hi; exact absurd hi (Nat.not_lt_zero _)
  | cons n t _ ih =>
    intro i hi
    cases i with
    | zero => exact ⟨t, rfl⟩
    | succ i => obtain ⟨t', e⟩ := ih (Nat.lt_of_succ_lt_succ hi); exact ⟨t', by simpa using e⟩
theorem IntsAre.len' {vs : List Value} {ns : List Int} (h : IntsAre vs ns) : vs.length = ns.length := by
  induction h with
  | nil => rfl
  | cons _ _ _ ih => simp [ih]
noncomputable def ordP (tops : List Int) (f : Nat) (top : Int) (i : Nat) : List Int := (((List.range i).filter fun k => tops.getD k 0 == top).flatMap fun (k : Nat) => k :: ordT tops f k).map fun k : Nat => (k : Int)
theorem ordP_succ (tops : List Int) (f : Nat) (top : Int) (i : Nat) : ordP tops f top (i + 1) = ordP tops f top i ++ if tops.getD i 0 = top then (i : Int) :: (ordT tops f i).map (fun k : Nat => (k : Int)) else [] := by
  unfold ordP
  rw [List.range_succ, List.filter_append, List.flatMap_append, List.map_append]
  congr 1
  rw [List.filter_cons, List.filter_nil]
  by_cases h : tops.getD i 0 = top
  · rw [if_pos (by rw [h]; exact beq_self_eq_true _), if_pos h]
    simp
  · rw [if_neg (by rw [beq_iff_eq]; exact h), if_neg h]
    rfl
theorem ordP_mono (tops : List Int) (f : Nat) (top : Int) (i : Nat) : ∀ d, (ordP tops f top i).length ≤ (ordP tops f top (i + d)).length
  | 0 => Nat.le_refl _
  | d + 1 => by
    have := ordP_mono tops f top i d
    rw [← Nat.add_assoc, ordP_succ, List.length_append]
    (first | lia | omega)
theorem ordP_len {tops : List Int} (hlen : ∀ f top, (ordT tops f top).length ≤ 1000) {f : Nat} {top : Int} {i : Nat} (hi : i ≤ tops.length) : (ordP tops f top i).length ≤ 1000 := by
  have h1 := ordP_mono tops f top i (tops.length - i)
  rw [show i + (tops.length - i) = tops.length from by (first | lia | omega)] at h1
  have h2 := hlen (f + 1) top
  have h3 : (ordP tops f top tops.length).length = (ordT tops (f + 1) top).length := by unfold ordP; rw [List.length_map]; rfl
  (first | lia | omega)
theorem order_ok {k : Bool} {w : World} {mg mb : Str → Option Value} {tops : List Int} (hn : tops.length ≤ 6) (hhigh : ∀ i, i < tops.length → tops.getD i 0 < i) (hlen : ∀ f top, (ordT tops f top).length ≤ 1000) : ∀ (f : Nat) {A : Around} {s : Shared} {a : Addr} {vs : List Value} {top : Int} {t : Tok} {Q E : Value → Shared → Prop}
    (W : Wd w mg mb s.heap) (R : Rm A (2 * f + 2) (8 * f + 12)) (hl : s.heap.IsList a vs.toArray) (hv : IntsAre vs tops) (h1 : (tops.length : Int) - top ≤ f) (h2 : top < tops.length)
    (h : ∀ r us c s', s.heap.StaysIn s'.heap → Stp k s s' → s.heap.get? r = none → s'.heap.get? r = some (lo us c) → IntsAre us ((ordT tops f top).map fun k : Nat => (k : Int)) → Q (.ref r) s'),
    wpAny (model P9 w) A (call (.ref 852) [.ref a, .int top t]) Q E s
  | 0, _, _, _, _, _, _, _, _, _, _, _, _, h1, h2, _ => by (first | lia | omega)
  | f + 1, A, s, a, vs, top, t, Q, E, W, R, hl, hv, h1, h2, h => by
    refine wpAny_call ?_
    refine' enter (k := k) (binds := [(Str.ofString "tops", .ref a), (Str.ofString "top", .int top t)]) W R.room ?ho ?hcd ?hb ?hl ?hr ?_ ?h1 ?h2 ?h3 ?h4
    k_call_by "ent" 0
    intro L s1 C hL
    refine hideQ fun Qt hQt => ?_
    k_call_by "go" 0
    refine r_list0 (by with_reducible assumption) fun o s2 C2 => ?_
    k_call_by "go" 0
    rename_i C3
    refine wpAny_For ?_
    k_call_by "go" 0
    refine r_llen C3 (hl.at fun o e => C3.keep _ _ e) (by rw [IntsAre.len' hv]; (first | lia | omega)) fun t4 s4 C4 => ?_
    k_call_by "go" 0
    refine r_range C4 fun r t1 u1 v1 s5 C5 => ?_
    have hvl := IntsAre.len' hv
    rw [hvl] at C5
    refine for_range (n := tops.length) (Rm.deeper (d := 0) (u := 0) (R.le (by first | decide | (first | lia | omega)) (by first | decide | (first | lia | omega)))).hand (fun i m' R' => ∃ us c, R' = [(r, rngO tops.length t1 u1 v1), (o, lo us c)] ∧ m' (Str.ofString "order") = some (.ref o) ∧ m' (Str.ofString "tops") = some (.ref a) ∧ m' (Str.ofString "top") = some (.int top t) ∧ IntsAre us (ordP tops f top i))
      C5 (C5.get (.head _)) (by (first | lia | omega)) (by k_call_by "kd" 0) rfl ⟨[], 0, rfl, by k_call_by "lk" 0, by k_call_by "lk" 0, by k_call_by "lk" 0, .nil⟩ ?turn ?done
    case turn =>
      rintro i ti m6 R6 s6 I oI hi ⟨us, c, rfl, g1, g2, g3, hus⟩ C6
      refine hideQ fun Qt hQt => ?_
      have hul : us.length ≤ 1000 := by
        have := IntsAre.len' hus
        rw [this]; exact ordP_len hlen (by (first | lia | omega))
      obtain ⟨tx, hx⟩ := IntsAre.at' hv hi
      k_call_by "go" 0
      refine r_item (hl.at fun o e => C6.keep _ _ e) (by (first | lia | omega)) (by rw [Int.toNat_natCast]; exact hx) (by (first | lia | omega)) ?_
      k_call_by "go" 0
      by_cases he : tops.getD i 0 = top
      · refine if_t (by rw [he]; exact beq_self_eq_true _) ?_
        k_call_by "go" 0
        k_call_by "app" 0
        try dsimp only
        k_call_by "go" 0
        rename_i C7
        have hhi := hhigh i hi
        rw [he] at hhi
        refine order_ok (k := k) hn hhigh hlen f (W.keeps C7.keep) (Rm.deeper (R.le (by first | decide | (first | lia | omega)) (by first | decide | (first | lia | omega)))) (hl.at fun o e => C7.keep _ _ e) hv (by (first | lia | omega)) (by (first | lia | omega)) fun r2 us2 c2 s8 k8 st8 n8 e8 hus2 => ?_
        have C8 := C7.more (C7.back0 k8 st8) n8 e8
        have hul2 : us2.length ≤ 1000 := by
          have := IntsAre.len' hus2
          rw [this, List.length_map]; exact hlen _ _
        try dsimp only
        refine r_extend (nf := fun o' => [(r2, lo us2 c2), (I, oI), (r, rngO tops.length t1 u1 v1), (o, o')]) C8 (by k_call_by "up" 0) e8 (by simp only [List.length_append, List.length_cons, List.length_nil]; (first | lia | omega)) fun c9 s9 C9 => ?_
        k_call_by "go" 0
        refine ⟨_, _, C9.drop (.cons _ (List.Sublist.refl _)), _, _, rfl, by k_call_by "lk" 0, by k_call_by "lk" 0, by k_call_by "lk" 0, ?_⟩
        rw [ordP_succ, if_pos he, List.append_assoc]
        exact IntsAre.append' hus (.cons _ _ hus2)
      · refine if_f (by rw [beq_eq_false_iff_ne]; exact he) ?_
        k_call_by "go" 0
        refine ⟨_, _, C6, us, c, rfl, by k_call_by "lk" 0, by k_call_by "lk" 0, by k_call_by "lk" 0, ?_⟩
        rw [ordP_succ, if_neg he, List.append_nil]; exact hus
    case done =>
      rintro m6 R6 s6 ⟨us, c, rfl, g1, g2, g3, hus⟩ C6
      refine hideQ fun Qt hQt => ?_
      k_call_by "go" 0
      refine h o us c s6 C6.keep C6.st ?_ (C6.get (.tail _ (.head _))) hus
      exact (C6.N (o, lo us c) (.tail _ (.head _))).2.2
/-! slices, sums; what a call hides holds no list -/
theorem Cx.more1 {k : Bool} {s₀ s : Shared} {g h' : Heap} {L D : Addr} {m : Str → Option Value} {R : List (Addr × Obj)} {o : Obj} {t : Nat} (C : Cx k s₀ g L s m R) (F : Fr g L h' m) (N : News g L h' ((D, o) :: R)) (hlt : ∀ p ∈ R, p.1 < D) : Cx k s₀ g L ⟨h', s.gens, s.drawn, t, s.os⟩ m ((D, o) :: R) :=
  C.at F N (C.nd_cons hlt)
section
variable {k : Bool} {w : World} {A : Around} {E : Value → Shared → Prop} {s₀ s : Shared} {g : Heap} {L a b : Addr} {m mg mb : Str → Option Value} {R : List (Addr × Obj)} {env : Env}
theorem r_lslice {value slice : Expr} {vs zs : List Value} {vl vu : Value} {lo₁ hi₁ : Option Int} {Q : Value → Shared → Prop} (C : Cx k s₀ g L s m R) (hl : s.heap.IsList a vs.toArray) (hz : vs.length ≤ 1000000) (pl : IsPart vl lo₁) (pu : IsPart vu hi₁) (e : kms_pick vs lo₁ hi₁ = zs)
    (h : ∀ D s', Cx k s₀ g L s' m ((D, lo zs 0) :: R) → Q (.ref D) s')
    (hs : subscripted slice false (.ref a) (.ref s.heap.objs.size) = operate [.ref s.heap.objs.size, .ref a] (getItem (.ref a) (.ref s.heap.objs.size)) := by with_unfolding_all rfl) (ht : ∀ r, letTemporaryGo value (.ref a) r = pure () := by intro _; with_unfolding_all rfl) :
    wpAny (model P9 w) A (subscriptTail value slice (.ref a) (.ref s.heap.objs.size)) Q E { s with heap := s.heap.push { cls := .type "slice", data := .fields #[vl, vu, .none] } } :=
  kms_slice_lit C.F C.N hl pl pu e (fun D h' F' N' lt => h D _ (C.more1 F' N' lt)) hs ht (by rw [List.size_toArray, sizeLine_eq]; (first | lia | omega))
theorem r_ladd {vs ws : List Value} {Q : Value → Shared → Prop} (C : Cx k s₀ g L s m R) (hl : s.heap.IsList a vs.toArray) (hb : s.heap.IsList b ws.toArray) (hz : vs.length + ws.length ≤ 1000000)
    (h : ∀ D s', Cx k s₀ g L s' m ((D, lo (vs ++ ws) 0) :: R) → Q (.ref D) s') : wpAny (model P9 w) A (binaryOp .Add (.ref a) (.ref b)) Q E s :=
  add_lists C.F C.N hl hb (fun h' F' N' => h _ _ (C.more1 F' N' C.lt)) (by rw [sizeLine_eq]; (first | lia | omega))
end
theorem pick_from1 (x : Value) (r : List Value) : kms_pick (x :: r) (some 1) none = r := by
  unfold kms_pick kms_lo kms_hi
  simp
theorem pick_to1 (x : Value) (r : List Value) : kms_pick (x :: r) none (some 1) = [x] := by
  unfold kms_pick kms_lo kms_hi
  simp
noncomputable def NoSeq (FO : List (Addr × Obj)) : Prop := ∀ p ∈ FO, ∀ xs n, p.2.data ≠ .seq xs n
theorem NoSeq.sl {FO FO' : List (Addr × Obj)} (h : NoSeq FO) (x : SlE FO FO') : NoSeq FO' := fun p hp xs n => by
  obtain ⟨o, ho, sl, e⟩ := x.2 p hp
  rw [e]; exact h _ ho xs n
theorem Cx.atL2 {k : Bool} {s₀ s : Shared} {g : Heap} {L : Addr} {m : Str → Option Value} {R : List (Addr × Obj)} (C : Cx k s₀ g L s m R) : ∃ oL, s.heap.get? L = some oL ∧ (∀ vs, oL.data ≠ .fields vs) ∧ ∀ xs n, oL.data ≠ .seq xs n := by
  obtain ⟨oL, es, ep, hL, e, r⟩ := C.F.ns
  exact ⟨oL, hL, fun vs q => by (rw [e] at q; cases q), fun xs n q => by (rw [e] at q; cases q)⟩
theorem NoSeq.push {L : Addr} {oL : Obj} {FO : List (Addr × Obj)} (h : NoSeq FO) (h2 : ∀ xs n, oL.data ≠ .seq xs n) : NoSeq ((L, oL) :: FO) := fun p hp => by
  rcases List.mem_cons.mp hp with rfl | hp
  · exact h2
  · exact h p hp
theorem hid_list {k : Bool} {s₀ s : Shared} {g : Heap} {L a : Addr} {oL : Obj} {m : Str → Option Value} {D R FO : List (Addr × Obj)} {vs : List Value} {c : Nat} (C : Cx k s₀ g L s m (D ++ (R ++ FO))) (hL : s.heap.get? L = some oL) (nd : NoSeq D) (nq : NoSeq ((L, oL) :: FO)) (ha : s.heap.get? a = some (lo vs c)) :
    (hideAll s.heap ((D ++ (L, oL) :: FO).map (·.1))).get? a = some (lo vs c) := by
  refine hideAll_get _ ha fun q => ?_
  obtain ⟨p, hp, e⟩ := List.mem_map.mp q
  have h1 := ((C.hid hL).1 p hp).1
  rw [show p.1 = a from e, ha] at h1
  rcases List.mem_append.mp hp with hp | hp
  · exact nd p hp vs.toArray c (by rw [← Option.some.inj h1]; rfl)
  · exact nq p hp vs.toArray c (by rw [← Option.some.inj h1]; rfl)
theorem JT.noSeq {oJ : Obj} (j : JT oJ) : NoSeq [(801, oJ)] := fun p hp xs n q => by
  rw [List.mem_singleton.mp hp] at q
  obtain ⟨ps, e, _⟩ := j
  have q' : oJ.data = .seq xs n := q
  have e' : oJ.data = .fields ps := by rw [e]
  rw [e'] at q'; cases q'
theorem r_join {w : World} {mg mb m : Str → Option Value} {A : Around} {s₀ s : Shared} {g : Heap} {L a : Addr} {oJ : Obj} {vs : List Value} {c : Nat} {ws : List Tx} {R : List (Addr × Obj)} {Q E : Value → Shared → Prop}
    (C : Cx false s₀ g L s m ((801, oJ) :: R)) (W : Wd w mg mb g) (jt : JT oJ) (Rr : Rm A 5 40) (ha : s.heap.get? a = some (lo vs c)) (hv : SVs vs ws) (hgd : ∀ l ∈ ws, Good l) (hln : (ws.map fun l => 5 * l.length + 3).sum ≤ 600000)
    (h : ∀ t' s' oJ', Cx false s₀ g L s' m ((801, oJ') :: R) → JT oJ' → Q (.str (S (joinT ws)) t') s') :
    wpAny (model P9 w) A (call (.ref 806) [.ref a]) Q E s := by
  have hne : a ≠ 801 := fun q => by
    have h1 := C.get (p := (801, oJ)) (.head _)
    rw [← q, ha] at h1
    obtain ⟨ps, e, _⟩ := jt
    have e' : oJ.data = .fields ps := by rw [e]
    have e2 : lo vs c = oJ := Option.some.inj h1
    rw [← e2] at e'; cases e'
  refine join_ok (k := false) W C.keep (C.get (p := (801, oJ)) (.head _)) (C.N (801, oJ) (.head _)).2.2 jt Rr ⟨c, vs, ha, hv⟩ hgd hln hne fun t' s' oJ' h1 h2 h3 st => h t' s' oJ' ?_ h3
  refine Cx.back (D := [(801, oJ)]) (D' := [(801, oJ')]) (g' := hideAll s.heap [801]) C (fun b o e hb => hideAll_get _ e hb) h1 st (fun p hp => by rw [List.mem_singleton.mp hp]; exact h2) rfl
/-! _law_rest -/
theorem Fo.lines_len_wt (F : Fo) : 3 * F.lines.length ≤ F.wt := by
  have h := Fo.lines_wt F
  have h2 : ∀ ws : List Tx, 3 * ws.length ≤ (ws.map fun l => 5 * l.length + 3).sum := by
    intro ws
    induction ws with
    | nil => exact Nat.le_refl _
    | cons x r ih => simp only [List.map_cons, List.sum_cons, List.length_cons]; (first | lia | omega)
  have := h2 F.lines
  (first | lia | omega)
theorem e_dot : Str.ofString "." = S [46] := by decide +kernel
inductive RInv (o b : Addr) (FO0 : List (Addr × Obj)) (ab : Tx) (t : Tok) (out : List Tx) (F : Fo) (hh : Nat) (i : Nat) (m' : Str → Option Value) (R' : List (Addr × Obj)) : Prop
  | mk (oJ' : Obj) (us : List Value) (c : Nat) (FO' : List (Addr × Obj)) (F' : Fo) (dn : List Tx) (e : R' = (801, oJ') :: (o, lo us c) :: FO') (h1 : JT oJ') (h2 : SlE FO0 FO') (g1 : m' (Str.ofString "rest") = some (.ref o)) (g2 : m' (Str.ofString "above") = some (.str (S ab) t)) (g3 : m' (Str.ofString "out") = some (.ref b))
    (h3 : F'.lines = F.lines.drop i) (h4 : SVs us dn) (h5 : dn ++ (Fo.rest out ab F').lines = (F.rest out ab).lines) (h6 : F'.good) (h7 : F'.wt ≤ F.wt) (h8 : F'.ht ≤ hh) (h9 : us.length ≤ i) : RInv o b FO0 ab t out F hh i m' R'
theorem rest_ok {w : World} {mg mb : Str → Option Value} {out : List Tx} {vb : List Value} {cb : Nat} (hvb : SVs vb out) : ∀ (hh : Nat) {F : Fo} {A : Around} {s₀ s : Shared} {g : Heap} {L a b : Addr} {oJ : Obj} {m : Str → Option Value} {R FO : List (Addr × Obj)} {env : Env} {outer : List Env} {va : List Value} {ca : Nat} {ab : Tx} {t : Tok} {Q E : Value → Shared → Prop}
    (hht : F.ht ≤ hh) (C : Cx false s₀ g L s m ((801, oJ) :: (R ++ FO))) (W : Wd w mg mb g) (jt : JT oJ) (T : Otr outer FO) (nq : NoSeq FO) (hst : A.frames = some (env :: outer)) (he : env.frame = some L) (hek : env.scope.kind ≠ .module)
    (ha : s.heap.get? a = some (lo va ca)) (hva : SVs va F.lines) (hb : s.heap.get? b = some (lo vb cb)) (hg : F.good) (hwt : ab.length + F.wt ≤ 600000) (Rr : Rm A (4 * hh + 14) (20 * hh + 80))
    (h : ∀ r vs c s' FO' oJ', SlE FO FO' → Cx false s₀ g L s' m ((r, lo vs c) :: (801, oJ') :: (R ++ FO')) → JT oJ' → SVs vs (F.rest out ab).lines → Q (.ref r) s'),
    wpAny (model P9 w) A (call (.ref 838) [.ref a, .str (S ab) t, .ref b]) Q E s := by
  intro hh
  induction hh using Nat.strongRecOn with
  | ind hh ih =>
  intro F A s₀ s g L a b oJ m R FO env outer va ca ab t Q E hht C W jt T nq hst he hek ha hva hb hg hwt Rr h
  obtain ⟨oL, hL, hdL, hsL⟩ := C.atL2
  obtain ⟨hh1, hnd⟩ := C.hid (D := [(801, oJ)]) hL
  have hgs := C.keep
  have T1 := T.push he hek hdL
  have nq1 := NoSeq.push (L := L) nq hsL
  have ga : (hideAll s.heap (((801, oJ) :: (L, oL) :: FO).map (·.1))).get? a = some (lo va ca) := hid_list (D := [(801, oJ)]) C hL jt.noSeq nq1 ha
  have gb : (hideAll s.heap (((801, oJ) :: (L, oL) :: FO).map (·.1))).get? b = some (lo vb cb) := hid_list (D := [(801, oJ)]) C hL jt.noSeq nq1 hb
  refine wpAny_call ?_
  refine' enterH (k := false) (D := (801, oJ) :: (L, oL) :: FO) (binds := [(Str.ofString "lines", .ref a), (Str.ofString "above", .str (S ab) t), (Str.ofString "out", .ref b)]) W C.keep hh1 hnd Rr.room ?ho ?hcd ?hb ?hl ?hr ?_ ?h1 ?h2 ?h3 ?h4
  k_call_by "ent" 0
  intro L1 s1 WH hgh C1 hL1
  refine hideQ fun Qt hQt => ?_
  obtain ⟨gg, hgg⟩ : ∃ x, x = hideAll s.heap (((801, oJ) :: (L, oL) :: FO).map (·.1)) := ⟨_, rfl⟩
  rw [← hgg] at WH C1 ga gb
  k_call_by "go" 0
  refine r_list0 C1 fun o s2 C2 => ?_
  k_call_by "go" 0
  rename_i C3
  refine wpAny_For ?_
  k_call_by "go" 0
  have ila : ∀ {s' : Shared} {m' R'}, Cx false s gg L1 s' m' R' → s'.heap.IsList a va.toArray := fun K => ⟨_, K.keep _ _ ga, rfl, ca, rfl⟩
  have ilb : ∀ {s' : Shared} {m' R'}, Cx false s gg L1 s' m' R' → s'.heap.IsList b vb.toArray := fun K => ⟨_, K.keep _ _ gb, rfl, cb, rfl⟩
  refine for_list (vs := va) (Rm.deeper (d := 0) (u := 0) (Rr.le (by first | decide | (first | lia | omega)) (by first | decide | (first | lia | omega)))).hand (RInv o b ((L, oL) :: FO) ab t out F hh) (C3.perm (List.Perm.swap ..)) (ila C3) (fun i m R s' I o _ K => ila K) (by k_call_by "kd" 0) rfl
    ⟨oJ, [], 0, _, F, [], rfl, jt, SlE.refl _, by k_call_by "lk" 0, by k_call_by "lk" 0, by k_call_by "lk" 0, rfl, .nil, rfl, hg, Nat.le_refl _, hht, Nat.le_refl _⟩ ?turn ?done
  case turn =>
    rintro i v m6 R6 s6 I oI hvi ⟨oJ6, us, c, FO6, F6, dn, rfl, jt6, hsl6, g1, g2, g3, hF6, hus, hdn, hgd6, hwt6, hht6, hul⟩ C6
    refine hideQ fun Qt hQt => ?_
    obtain ⟨tl, l, rfl, hl⟩ := hva.get hvi
    cases F6 with
    | nil =>
      have : F.lines[i]? = none := List.getElem?_eq_none (List.drop_eq_nil_iff.mp hF6.symm)
      rw [this] at hl; cases hl
    | cons tx fk fn =>
    obtain ⟨hil, hle⟩ := List.getElem?_eq_some_iff.mp hl
    have hdr : F.lines.drop i = l :: F.lines.drop (i + 1) := by rw [List.drop_eq_getElem_cons hil, hle]
    rw [hdr] at hF6
    obtain ⟨rfl, hFn⟩ : joinT (tx :: fk.lines) = l ∧ fn.lines = F.lines.drop (i + 1) := by
      rw [Fo.lines] at hF6
      exact List.cons.inj hF6
    have hw : 5 * (5 * tx.length + 3 + fk.wt) + 3 + fn.wt ≤ F.wt := hwt6
    have hhk : max (fk.ht + 1) fn.ht ≤ hh := hht6
    obtain ⟨hgt, hgk, hgn⟩ : Good tx ∧ fk.good ∧ fn.good := hgd6
    have hgl : ∀ x ∈ tx :: fk.lines, Good x := fun x hx => (List.mem_cons.mp hx).elim (fun e => e ▸ hgt) (Fo.lines_good hgk x)
    have hlen : (joinT (tx :: fk.lines)).length ≤ 600000 := by
      have h1 := joinT_length (tx :: fk.lines)
      have h2 := Fo.lines_wt fk
      simp only [List.map_cons, List.sum_cons] at h1
      (first | lia | omega)
    have hkl := Fo.lines_len_wt fk
    have hil6 : i ≤ 300000 := by have := Fo.lines_len_wt F; (first | lia | omega)
    have T6 := T1.sl hsl6
    have nq6 := nq1.sl hsl6
    k_call_by "go" 0
    refine r_split (R := [(I, oI), (801, oJ6), (o, lo us c)]) (FO := FO6) C6 WH T6 (deeper_frames hst) rfl (fun q => by cases q) (by (first | lia | omega)) (good_join hgl) (lex_join _ hgl) (by rw [List.length_cons]; (first | lia | omega)) (Rm.deeper (Rr.le (by first | decide | (first | lia | omega)) (by first | decide | (first | lia | omega)))) fun X s7 FO7 vx cx hsl7 (C7 : Cx false s gg L1 s7 _ ((X, lo vx cx) :: (I, oI) :: (801, oJ6) :: (o, lo us c) :: FO7)) hvx => ?_
    cases hvx with
    | cons hvr =>
    rename_i tt vr
    have hvl := hvr.length
    try dsimp only
    k_call_by "go" 0
    rename_i C8
    refine r_item (C8.isList (.head _)) (by (first | lia | omega)) rfl (by rw [List.length_cons]; (first | lia | omega)) ?_
    k_call_by "go" 0
    refine r_add_S C8 (by (first | lia | omega)) fun t9 s9 C9 => ?_
    k_call_by "go" 0
    refine r_ninS (ilb C9) hvb ?_
    k_call_by "go" 0
    by_cases hin : ab ++ tx ∈ out
    · refine if_f (by rw [decide_eq_true hin]; rfl) ?_
      k_call_by "go" 0
      refine ⟨_, _, C9.drop (.cons _ (List.Sublist.refl _)), oJ6, us, c, FO7, fn, dn, rfl, jt6, hsl6.trans hsl7, by k_call_by "lk" 0, by k_call_by "lk" 0, by k_call_by "lk" 0, hFn, hus, ?_, hgn, by (first | lia | omega), by (first | lia | omega), by (first | lia | omega)⟩
      rw [← hdn, Fo.rest, if_pos hin]
    · refine if_t (by rw [decide_eq_false hin]; rfl) ?_
      k_call_by "go" 0
      rename_i C9b
      refine r_lslice C9b (C9b.isList (.head _)) (by rw [List.length_cons]; (first | lia | omega)) .none (.int _ _) (pick_to1 _ _) fun D1 s10 C10 => ?_
      k_call_by "go" 0
      rename_i C11
      refine r_lslice C11 (C11.isList (.tail _ (.head _))) (by rw [List.length_cons]; (first | lia | omega)) (.int _ _) .none (pick_from1 _ _) fun D2 s12 C12 => ?_
      k_call_by "go" 0
      rename_i C13
      refine r_item (C13.isList (.tail _ (.tail _ (.head _)))) (by (first | lia | omega)) rfl (by rw [List.length_cons]; (first | lia | omega)) ?_
      refine r_add_S C13 (by (first | lia | omega)) fun t14 s14 C14 => ?_
      k_call_by "go" 0
      rename_i C15
      rw [e_dot]
      refine r_add_S C15 (by rw [List.length_append, List.length_cons, List.length_nil]; (first | lia | omega)) fun t16 s16 C16 => ?_
      k_call_by "go" 0
      have C17 := C16.perm (List.perm_middle (l₁ := [(D2, lo vr 0), (D1, lo [Value.str (S tx) tt] 0), (X, lo (Value.str (S tx) tt :: vr) cx), (I, oI)]))
      refine ih (hh - 1) (by (first | lia | omega)) (F := fk) (R := [(D2, lo vr 0), (D1, lo [Value.str (S tx) tt] 0), (X, lo (Value.str (S tx) tt :: vr) cx), (I, oI), (o, lo us c)]) (FO := FO7) (by (first | lia | omega)) C17 WH jt6 (T6.sl hsl7) (nq6.sl hsl7) (deeper_frames hst) rfl (fun q => by cases q)
        (C17.get (p := (D2, lo vr 0)) (.tail _ (.head _))) hvr (C17.keep _ _ gb) hgk (by simp only [List.length_append, List.length_cons, List.length_nil]; (first | lia | omega)) (Rm.deeper (Rr.le (by first | decide | (first | lia | omega)) (by first | decide | (first | lia | omega)))) fun r vr2 c2 s18 FO8 oJ8 hsl8 C18 jt8 hvr2 => ?_
      try dsimp only
      k_call_by "go" 0
      have hrw := Fo.rest_wt (out := out) fk (ab ++ tx ++ [46])
      have hrl := Fo.lines_len_wt (fk.rest out (ab ++ tx ++ [46]))
      have hrs := Fo.lines_wt (fk.rest out (ab ++ tx ++ [46]))
      have hvl2 := hvr2.length
      have C18' : Cx false s gg L1 s18 _ ((r, lo vr2 c2) :: (801, oJ8) :: (D2, lo vr 0) :: (D1, lo [Value.str (S tx) tt] 0) :: (X, lo (Value.str (S tx) tt :: vr) cx) :: (I, oI) :: (o, lo us c) :: FO8) := C18
      refine r_ladd C18' (C18'.isList (by k_call_by "mem" 0)) (C18'.isList (.head _)) (by rw [List.length_cons, List.length_nil]; (first | lia | omega)) fun D3 s19 C19 => ?_
      k_call_by "go" 0
      have C20 := C19.perm (List.perm_middle (l₁ := [(D3, lo ([Value.str (S tx) tt] ++ vr2) 0), (r, lo vr2 c2)]))
      refine r_join C20 WH jt8 (Rm.deeper (Rr.le (by first | decide | (first | lia | omega)) (by first | decide | (first | lia | omega)))) (C20.get (p := (D3, lo ([Value.str (S tx) tt] ++ vr2) 0)) (.tail _ (.head _))) (ws := tx :: (fk.rest out (ab ++ tx ++ [46])).lines) (.cons hvr2)
        (fun x hx => (List.mem_cons.mp hx).elim (fun e => e ▸ hgt) (Fo.lines_good (Fo.rest_good hgk) x)) (by rw [List.map_cons, List.sum_cons]; (first | lia | omega)) fun t21 s21 oJ21 C21 jt21 => ?_
      k_call_by "go" 0
      k_call_by "app" 0
      k_call_by "go" 0
      rename_i C22
      refine ⟨_, _, (C22.perm (List.perm_middle (l₁ := [(801, oJ21), (D3, lo ([Value.str (S tx) tt] ++ vr2) 0), (r, lo vr2 c2), (D2, lo vr 0), (D1, lo [Value.str (S tx) tt] 0), (X, lo (Value.str (S tx) tt :: vr) cx)]))).drop (.cons_cons _ (.cons_cons _ (.cons _ (.cons _ (.cons _ (.cons _ (.cons _ (List.Sublist.refl _)))))))),
        oJ21, us ++ [.str (S (joinT (tx :: (fk.rest out (ab ++ tx ++ [46])).lines))) t21], c + 1, FO8, fn, dn ++ [joinT (tx :: (fk.rest out (ab ++ tx ++ [46])).lines)], rfl, jt21, (hsl6.trans hsl7).trans hsl8, by k_call_by "lk" 0, by k_call_by "lk" 0, by k_call_by "lk" 0, hFn, hus.append (.cons .nil), ?_, hgn, by (first | lia | omega), by (first | lia | omega), by rw [List.length_append, List.length_cons, List.length_nil]; (first | lia | omega)⟩
      rw [← hdn, Fo.rest, if_neg hin, Fo.lines, List.append_assoc]
      rfl
  case done =>
    rintro m6 R6 s6 ⟨oJ6, us, c, FO6, F6, dn, rfl, jt6, hsl6, g1, g2, g3, hF6, hus, hdn, hgd6, hwt6, hht6, hul⟩ C6
    refine hideQ fun Qt hQt => ?_
    have hnil : F6 = .nil := by
      rw [List.drop_eq_nil_of_le (by rw [hva.length]; exact Nat.le_refl _)] at hF6
      cases F6 with
      | nil => rfl
      | cons _ _ _ => cases hF6
    subst hnil
    have hdn' : dn = (F.rest out ab).lines := by rw [← hdn]; simp [Fo.rest, Fo.lines]
    subst hdn'
    k_call_by "go" 0
    subst hgg
    obtain ⟨FO', hsl', C5⟩ := Cx.retS (D := [(801, oJ)]) (D' := [(801, oJ6)]) (F := [(o, lo us c)]) C hL C6 hsl6 rfl
    exact h o us c _ FO' oJ6 hsl' C5 jt6 hus
/-! _law_read -/
theorem Fo.read_len : ∀ (F : Fo) (ab : Tx), 3 * (F.read ab).length ≤ F.wt
  | .nil, _ => Nat.le_refl _
  | .cons t k n, ab => by
    have h1 := Fo.read_len k (ab ++ t ++ [46])
    have h2 := Fo.read_len n ab
    simp only [Fo.read, Fo.wt, List.length_cons, List.length_append] at h1 h2 ⊢
    (first | lia | omega)
inductive EInv (o : Addr) (FO0 : List (Addr × Obj)) (ab : Tx) (t : Tok) (F : Fo) (hh : Nat) (i : Nat) (m' : Str → Option Value) (R' : List (Addr × Obj)) : Prop
  | mk (us : List Value) (c : Nat) (FO' : List (Addr × Obj)) (F' : Fo) (dn : List Tx) (e : R' = (o, lo us c) :: FO') (h2 : SlE FO0 FO') (g1 : m' (Str.ofString "names") = some (.ref o)) (g2 : m' (Str.ofString "above") = some (.str (S ab) t))
    (h3 : F'.lines = F.lines.drop i) (h4 : SVs us dn) (h5 : dn ++ Fo.read ab F' = F.read ab) (h6 : F'.good) (h7 : F'.wt ≤ F.wt) (h8 : F'.ht ≤ hh) : EInv o FO0 ab t F hh i m' R'
theorem lread_ok {w : World} {mg mb : Str → Option Value} : ∀ (hh : Nat) {F : Fo} {A : Around} {s₀ s : Shared} {g : Heap} {L a : Addr} {m : Str → Option Value} {R FO : List (Addr × Obj)} {env : Env} {outer : List Env} {va : List Value} {ca : Nat} {ab : Tx} {t : Tok} {Q E : Value → Shared → Prop}
    (hht : F.ht ≤ hh) (C : Cx false s₀ g L s m (R ++ FO)) (W : Wd w mg mb g) (T : Otr outer FO) (nq : NoSeq FO) (hst : A.frames = some (env :: outer)) (he : env.frame = some L) (hek : env.scope.kind ≠ .module)
    (ha : s.heap.get? a = some (lo va ca)) (hva : SVs va F.lines) (hg : F.good) (hwt : ab.length + F.wt ≤ 600000) (Rr : Rm A (4 * hh + 14) (20 * hh + 80))
    (h : ∀ r vs c s' FO', SlE FO FO' → Cx false s₀ g L s' m ((r, lo vs c) :: (R ++ FO')) → SVs vs (F.read ab) → Q (.ref r) s'),
    wpAny (model P9 w) A (call (.ref 845) [.ref a, .str (S ab) t]) Q E s := by
  intro hh
  induction hh using Nat.strongRecOn with
  | ind hh ih =>
  intro F A s₀ s g L a m R FO env outer va ca ab t Q E hht C W T nq hst he hek ha hva hg hwt Rr h
  obtain ⟨oL, hL, hdL, hsL⟩ := C.atL2
  obtain ⟨hh1, hnd⟩ := C.hid (D := []) hL
  have hgs := C.keep
  have T1 := T.push he hek hdL
  have nq1 := NoSeq.push (L := L) nq hsL
  have ga : (hideAll s.heap (((L, oL) :: FO).map (·.1))).get? a = some (lo va ca) := hid_list (D := []) C hL (fun _ h => nomatch h) nq1 ha
  refine wpAny_call ?_
  refine' enterH (k := false) (D := (L, oL) :: FO) (binds := [(Str.ofString "lines", .ref a), (Str.ofString "above", .str (S ab) t)]) W C.keep hh1 hnd Rr.room ?ho ?hcd ?hb ?hl ?hr ?_ ?h1 ?h2 ?h3 ?h4
  k_call_by "ent" 0
  intro L1 s1 WH hgh C1 hL1
  refine hideQ fun Qt hQt => ?_
  obtain ⟨gg, hgg⟩ : ∃ x, x = hideAll s.heap (((L, oL) :: FO).map (·.1)) := ⟨_, rfl⟩
  rw [← hgg] at WH C1 ga
  k_call_by "go" 0
  refine r_list0 C1 fun o s2 C2 => ?_
  k_call_by "go" 0
  rename_i C3
  refine wpAny_For ?_
  k_call_by "go" 0
  have ila : ∀ {s' : Shared} {m' R'}, Cx false s gg L1 s' m' R' → s'.heap.IsList a va.toArray := fun K => ⟨_, K.keep _ _ ga, rfl, ca, rfl⟩
  have hFr := Fo.read_len F ab
  refine for_list (vs := va) (Rm.deeper (d := 0) (u := 0) (Rr.le (by first | decide | (first | lia | omega)) (by first | decide | (first | lia | omega)))).hand (EInv o ((L, oL) :: FO) ab t F hh) C3 (ila C3) (fun i m R s' I o _ K => ila K) (by k_call_by "kd" 0) rfl
    ⟨[], 0, _, F, [], rfl, SlE.refl _, by k_call_by "lk" 0, by k_call_by "lk" 0, rfl, .nil, rfl, hg, Nat.le_refl _, hht⟩ ?turn ?done
  case turn =>
    rintro i v m6 R6 s6 I oI hvi ⟨us, c, FO6, F6, dn, rfl, hsl6, g1, g2, hF6, hus, hdn, hgd6, hwt6, hht6⟩ C6
    refine hideQ fun Qt hQt => ?_
    obtain ⟨tl, l, rfl, hl⟩ := hva.get hvi
    cases F6 with
    | nil =>
      have : F.lines[i]? = none := List.getElem?_eq_none (List.drop_eq_nil_iff.mp hF6.symm)
      rw [this] at hl; cases hl
    | cons tx fk fn =>
    obtain ⟨hil, hle⟩ := List.getElem?_eq_some_iff.mp hl
    have hdr : F.lines.drop i = l :: F.lines.drop (i + 1) := by rw [List.drop_eq_getElem_cons hil, hle]
    rw [hdr] at hF6
    obtain ⟨rfl, hFn⟩ : joinT (tx :: fk.lines) = l ∧ fn.lines = F.lines.drop (i + 1) := by
      rw [Fo.lines] at hF6
      exact List.cons.inj hF6
    have hw : 5 * (5 * tx.length + 3 + fk.wt) + 3 + fn.wt ≤ F.wt := hwt6
    have hhk : max (fk.ht + 1) fn.ht ≤ hh := hht6
    obtain ⟨hgt, hgk, hgn⟩ : Good tx ∧ fk.good ∧ fn.good := hgd6
    have hgl : ∀ x ∈ tx :: fk.lines, Good x := fun x hx => (List.mem_cons.mp hx).elim (fun e => e ▸ hgt) (Fo.lines_good hgk x)
    have hlen : (joinT (tx :: fk.lines)).length ≤ 600000 := by
      have h1 := joinT_length (tx :: fk.lines)
      have h2 := Fo.lines_wt fk
      simp only [List.map_cons, List.sum_cons] at h1
      (first | lia | omega)
    have hkl := Fo.lines_len_wt fk
    have hul : us.length + (1 + (Fo.read (ab ++ tx ++ [46]) fk).length) ≤ 600000 := by
      have h1 := congrArg List.length hdn
      rw [List.length_append, Fo.read, List.length_cons, List.length_append] at h1
      have h2 := hus.length
      (first | lia | omega)
    have T6 := T1.sl hsl6
    have nq6 := nq1.sl hsl6
    k_call_by "go" 0
    refine r_split (R := [(I, oI), (o, lo us c)]) (FO := FO6) C6 WH T6 (deeper_frames hst) rfl (fun q => by cases q) (by (first | lia | omega)) (good_join hgl) (lex_join _ hgl) (by rw [List.length_cons]; (first | lia | omega)) (Rm.deeper (Rr.le (by first | decide | (first | lia | omega)) (by first | decide | (first | lia | omega)))) fun X s7 FO7 vx cx hsl7 (C7 : Cx false s gg L1 s7 _ ((X, lo vx cx) :: (I, oI) :: (o, lo us c) :: FO7)) hvx => ?_
    cases hvx with
    | cons hvr =>
    rename_i tt vr
    have hvl := hvr.length
    try dsimp only
    k_call_by "go" 0
    rename_i C8
    refine r_item (C8.isList (.head _)) (by (first | lia | omega)) rfl (by rw [List.length_cons]; (first | lia | omega)) ?_
    refine r_add_S C8 (by (first | lia | omega)) fun t9 s9 C9 => ?_
    k_call_by "go" 0
    k_call_by "app" 0
    k_call_by "go" 0
    rename_i C11
    refine r_lslice C11 (C11.isList (.head _)) (by rw [List.length_cons]; (first | lia | omega)) (.int _ _) .none (pick_from1 _ _) fun D2 s12 C12 => ?_
    k_call_by "go" 0
    rename_i C13
    refine r_item (C13.isList (.tail _ (.head _))) (by (first | lia | omega)) rfl (by rw [List.length_cons]; (first | lia | omega)) ?_
    refine r_add_S C13 (by (first | lia | omega)) fun t14 s14 C14 => ?_
    k_call_by "go" 0
    rename_i C15
    rw [e_dot]
    refine r_add_S C15 (by rw [List.length_append, List.length_cons, List.length_nil]; (first | lia | omega)) fun t16 s16 C16 => ?_
    k_call_by "go" 0
    refine ih (hh - 1) (by (first | lia | omega)) (F := fk) (R := [(D2, lo vr 0), (X, lo (Value.str (S tx) tt :: vr) cx), (I, oI), (o, lo (us ++ [.str (S (ab ++ tx)) t9]) (c + 1))]) (FO := FO7) (by (first | lia | omega)) C16 WH (T6.sl hsl7) (nq6.sl hsl7) (deeper_frames hst) rfl (fun q => by cases q)
      (C16.get (p := (D2, lo vr 0)) (.head _)) hvr hgk (by simp only [List.length_append, List.length_cons, List.length_nil]; (first | lia | omega)) (Rm.deeper (Rr.le (by first | decide | (first | lia | omega)) (by first | decide | (first | lia | omega)))) fun r vr2 c2 s18 FO8 hsl8 C18 hvr2 => ?_
    have hvl2 := hvr2.length
    have C18' : Cx false s gg L1 s18 _ ((r, lo vr2 c2) :: (D2, lo vr 0) :: (X, lo (Value.str (S tx) tt :: vr) cx) :: (I, oI) :: (o, lo (us ++ [.str (S (ab ++ tx)) t9]) (c + 1)) :: FO8) := C18
    try dsimp only
    refine r_extend (nf := fun o' => (r, lo vr2 c2) :: (D2, lo vr 0) :: (X, lo (Value.str (S tx) tt :: vr) cx) :: (I, oI) :: (o, o') :: FO8) C18' (by k_call_by "up" 0) (C18'.get (p := (r, lo vr2 c2)) (.head _)) (by rw [List.length_append, List.length_cons, List.length_nil]; (first | lia | omega)) fun c9 s19 C19 => ?_
    k_call_by "go" 0
    refine ⟨_, _, C19.drop (.cons _ (.cons _ (.cons _ (List.Sublist.refl _)))), _, c9, FO8, fn, dn ++ (ab ++ tx) :: Fo.read (ab ++ tx ++ [46]) fk, rfl, (hsl6.trans hsl7).trans hsl8, by k_call_by "lk" 0, by k_call_by "lk" 0, hFn, ?_, ?_, hgn, by (first | lia | omega), by (first | lia | omega)⟩
    · rw [List.append_assoc]
      exact hus.append (.cons hvr2)
    · rw [← hdn, Fo.read, List.append_assoc]
      rfl
  case done =>
    rintro m6 R6 s6 ⟨us, c, FO6, F6, dn, rfl, hsl6, g1, g2, hF6, hus, hdn, hgd6, hwt6, hht6⟩ C6
    refine hideQ fun Qt hQt => ?_
    have hnil : F6 = .nil := by
      rw [List.drop_eq_nil_of_le (by rw [hva.length]; exact Nat.le_refl _)] at hF6
      cases F6 with
      | nil => rfl
      | cons _ _ _ => cases hF6
    subst hnil
    have hdn' : dn = F.read ab := by rw [← hdn]; simp [Fo.read]
    subst hdn'
    k_call_by "go" 0
    subst hgg
    obtain ⟨FO', hsl', C5⟩ := Cx.retS (D := []) (D' := []) (F := [(o, lo us c)]) C hL C6 hsl6 rfl
    exact h o us c _ FO' hsl' C5 hus
/-! a def whose names are captured -/
theorem CellsAre.addrs {cm : Str → Option Value} {cs : List (Str × Addr)} {cells : List (Addr × Obj)} (x : CellsAre cm cs cells) : cells.map (·.1) = cs.map (·.2) := by
  induction x with
  | nil => rfl
  | cons _ _ ih => simp [ih]
theorem enterC {k : Bool} {w : World} {mg mb : Str → Option Value} {A : Around} {s : Shared} {R : Result → Shared → Prop} {name qual : Str} {params : Arguments} {body : List Stmt} {scope : Scope} {dV kV doc pm cdv ct oc : Value} {an od : Option Addr} {osl : Array (Option Value)} {f : Addr} {args : Args} {binds : List (Str × Value)} {mL mC : Str → Option Value}
    {D : List (Addr × Obj)} {g : Heap} {cl : Addr → List (Str × Addr)} (W : Wd w mg mb g) (hg : g.StaysIn s.heap) (hD : ∀ p ∈ D, s.heap.get? p.1 = some p.2 ∧ g.get? p.1 = none) (hnd : (D.map (·.1)).Nodup) (hroom : A.depth < recursionLimit)
    (ho : (Mine.hd.heap_1 w.params).lookup f = some ⟨oc, od, .func (fnOf name qual params body scope dV kV doc pm an cdv ct), osl⟩) (hcd : codeIn (Mine.hd.heap_1 w.params) cdv qual = true)
    (hbind : BindsTo s (fnOf name qual params body scope dV kV doc pm an cdv ct) args binds) (hkind : (binds.all fun y => scope.names.lookup y.1 == some .local || scope.names.lookup y.1 == some .cell) = true) (hcn : ((cellsFrom 0 scope.names []).map (·.1)).Nodup)
    (hcl : ∀ L, cellsFrom (L + 1) scope.names [] = cl L) (hL : ∀ L, bindL (envOfC qual scope L f cdv).kindOf binds (fun _ => none) = mL) (hC : ∀ L, bindC (envOfC qual scope L f cdv).kindOf binds (fun _ => none) = mC)
    (h : ∀ L s' cells, Wd w mg mb (hideAll s.heap (D.map (·.1))) → g.StaysIn (hideAll s.heap (D.map (·.1))) → Cx k s (hideAll s.heap (D.map (·.1))) L s' mL (cells ++ D) → CellsAre mC (cl L) cells → L = s.heap.objs.size →
      wpAny (model P9 w) (A.deeper (envX qual scope L f cdv (cl L))) (execs body (envX qual scope L f cdv (cl L))) (fun fl s'' => R (.ok (.ret (match fl with | .ret v => v | _ => .none))) s'') (fun _ _ => False) s')
    (hco : scope.isCoroutine = false) (hgen : scope.isGenerator = false) (hk : scope.kind = .function) : codeAny (model P9 w) A (.call (.ref f) args) R s := by
  have st : g.StaysIn (hideAll s.heap (D.map (·.1))) := fun b o e => hideAll_get _ (hg b o e) fun q => by
    obtain ⟨p, hp, rfl⟩ := List.mem_map.mp q
    rw [(hD p hp).2] at e; cases e
  have W' := W.keeps hg
  have WH := W.keeps st
  refine codeAny_call_function (fd := fnOf name qual params body scope dV kV doc pm an cdv ct) (body := body) hroom (W'.X _ _ ho) rfl hco hgen rfl (codeRec_of W'.X hcd) (hbind _ _ _ _ ?_)
  refine wpAny_newFunctionEnv_cells hk (kindsX hkind _) fun env' he s' x => ?_
  subst he
  refine ⟨W'.lim.keeps x.toInCall.keep, codeAny_func ?_⟩
  obtain ⟨h₁, tk, rfl, _⟩ := x.done
  have hk₁ := x.toInCall.keep
  obtain ⟨cells, NC, Y⟩ := Cl.news (h₀ := s.heap) (Nat.le_refl _) fun n c hm => ⟨x.cell n c (lookup_of_mem_nodup (cellsFrom_names scope.names 0 (s.heap.objs.size + 1) [] [] rfl ▸ hcn) hm), x.above n c hm⟩
  have hns := x.toInCall.ns
  have e1 := hL s.heap.objs.size
  have e2 := hC s.heap.objs.size
  have e3 := hcl s.heap.objs.size
  have Y2 : CellsAre mC (cl s.heap.objs.size) cells := e3 ▸ e2 ▸ Y
  have hns2 : h₁.Ns s.heap.objs.size mL := e1 ▸ hns
  have ee : newEnv scope s.heap.objs.size mainGlobals (cellsFrom (s.heap.objs.size + 1) scope.names []) (qual ++ ".<locals>.") (some f) cdv none builtinsNs = envX qual scope s.heap.objs.size f cdv (cl s.heap.objs.size) := by rw [e3]; rfl
  show wpAny _ (A.deeper (newEnv scope s.heap.objs.size mainGlobals (cellsFrom (s.heap.objs.size + 1) scope.names []) (qual ++ ".<locals>.") (some f) cdv none builtinsNs)) (execs body (newEnv scope s.heap.objs.size mainGlobals (cellsFrom (s.heap.objs.size + 1) scope.names []) (qual ++ ".<locals>.") (some f) cdv none builtinsNs)) _ _ _
  rw [ee]
  refine wpAny_mono (h s.heap.objs.size _ cells WH st ⟨.heap, ⟨hns2, fun b o e => hk₁ b o (of_hideAll _ e), Nat.le_of_eq (hideAll_size _ _)⟩, fun p hp => ?_, ?_⟩ Y2 rfl) (fun _ _ z => z) fun _ _ z => z.elim
  · rcases List.mem_append.mp hp with hp | hp
    · refine ⟨(NC p hp).1, (NC p hp).2.1, ?_⟩
      cases q : (hideAll s.heap (D.map (·.1))).get? p.1 with
      | none => rfl
      | some o => have := of_hideAll _ q; rw [(NC p hp).2.2] at this; cases this
    · exact ⟨hk₁ _ _ (hD p hp).1, Nat.ne_of_lt (Heap.lt_size (hD p hp).1), hideAll_none _ (List.mem_map_of_mem hp)⟩
  · rw [List.map_append, List.nodup_append]
    refine ⟨?_, hnd, fun a ha b hb e => ?_⟩
    · rw [CellsAre.addrs Y, List.nodup_iff_pairwise_ne, List.pairwise_map]
      exact x.apart
    · obtain ⟨p, hp, rfl⟩ := List.mem_map.mp ha
      obtain ⟨q, hq, rfl⟩ := List.mem_map.mp hb
      have := (NC p hp).2.2
      rw [e, (hD q hq).1] at this; cases this

section
variable {M : Model} {A : Around} {E : Value → Shared → Prop} {c : Bool} {s₀ s : Shared} {g : Heap} {L a Cc d : Addr} {m mg mb mC : Str → Option Value} {cn : Str} {cs scope : Scope} {ccd : Value} {cl : List (Str × Addr)} {x : Str} {pos : Pos} {v : Value}
  {news : List (Addr × Obj)} {w : World} {o oC : Obj} {env : Env} {Q : Value → Shared → Prop}
theorem r_ldX (C : Cx c s₀ g L s m news) (hx : cs.names.lookup x = some .local) (hv : m x = some v) (h : Q v s) (hk : cs.kind = .function := by rfl) (hd : (x == ("__debug__" : Str)) = false := by decide) :
    wpAny M A (eval (.Name x pos) (envX cn cs L a ccd cl)) Q E s := nameX_L C.F hv h hk hx hd
theorem r_glX (C : Cx c s₀ g L s m news) (W : Wd w mg mb g) (hx : cs.names.lookup x = some .globalImplicit) (e : nsIn (Mine.hd.heap_1 w.params) mainGlobals x = some (some v)) (h : Q v s)
    (hk : cs.kind = .function := by rfl) (hd : (x == ("__debug__" : Str)) = false := by decide) : wpAny M A (eval (.Name x pos) (envX cn cs L a ccd cl)) Q E s :=
  nameX_K C.F W.X (W.T) e h hk hx hd
theorem r_biX (C : Cx c s₀ g L s m news) (W : Wd w mg mb g) (hx : cs.names.lookup x = some .globalImplicit) (e : nsIn (Mine.hd.heap_1 w.params) mainGlobals x = some none ∧ bootBuiltins x = some v ∧ x ≠ "__name__") (h : Q v s)
    (hk : cs.kind = .function := by rfl) (hd : (x == ("__debug__" : Str)) = false := by decide) : wpAny M A (eval (.Name x pos) (envX cn cs L a ccd cl)) Q E s :=
  nameX_B C.F W.X (W.T) e.1 e.2.1 e.2.2 h hk hx hd
theorem r_celX (C : Cx c s₀ g L s m news) (hx : cs.names.lookup x = some .cell) (hc : cl.lookup x = some d) (hm : (d, o) ∈ news) (hd : o.data = .cell (some v)) (h : Q v s) (hk : cs.kind = .function := by rfl) (hb : (x == ("__debug__" : Str)) = false := by decide) :
    wpAny M A (eval (.Name x pos) (envX cn cs L a ccd cl)) Q E s := nameX_C C.N hc hm hd h hk hx hb
theorem r_ldK (C : Cx c s₀ g L s m news) (hm : (Cc, oC) ∈ news) (hN : LCg.NsObj oC mC) (hv : mC x = some v) (h : Q v s) (hk : (compEnvC scope cl Cc env).scope.kind = .function) (hx : (compEnvC scope cl Cc env).kindOf x = some .local) (hd : (x == ("__debug__" : Str)) = false := by decide) :
    wpAny M A (eval (.Name x pos) (compEnvC scope cl Cc env)) Q E s := wpAny_Name (wpAny_loadName_local hk hx (hN.ns (C.get hm)) hv h) hd
theorem r_celK (C : Cx c s₀ g L s m news) (hc : cl.lookup x = some d) (hm : (d, o) ∈ news) (hd : o.data = .cell (some v)) (h : Q v s) (hk : (compEnvC scope cl Cc env).scope.kind = .function) (hx : (compEnvC scope cl Cc env).kindOf x = some .cell) (hb : (x == ("__debug__" : Str)) = false := by decide) :
    wpAny M A (eval (.Name x pos) (compEnvC scope cl Cc env)) Q E s := lcf_cell C.N hc hm hd h hk hx hb
theorem r_glK (C : Cx c s₀ g L s m news) (W : Wd w mg mb g) (e : nsIn (Mine.hd.heap_1 w.params) mainGlobals x = some (some v)) (h : Q v s) (hg : (compEnvC scope cl Cc env).globals = mainGlobals) (hk : (compEnvC scope cl Cc env).scope.kind = .function) (hx : (compEnvC scope cl Cc env).kindOf x = some .globalImplicit) (hd : (x == ("__debug__" : Str)) = false := by decide) :
    wpAny M A (eval (.Name x pos) (compEnvC scope cl Cc env)) Q E s := nameG_K C.F W.X W.T e h hg hk hx hd
theorem r_biK (C : Cx c s₀ g L s m news) (W : Wd w mg mb g) (e : nsIn (Mine.hd.heap_1 w.params) mainGlobals x = some none ∧ bootBuiltins x = some v ∧ x ≠ "__name__") (h : Q v s) (hg : (compEnvC scope cl Cc env).globals = mainGlobals) (hb : (compEnvC scope cl Cc env).builtins = builtinsNs) (hk : (compEnvC scope cl Cc env).scope.kind = .function) (hx : (compEnvC scope cl Cc env).kindOf x = some .globalImplicit) (hd : (x == ("__debug__" : Str)) = false := by decide) :
    wpAny M A (eval (.Name x pos) (compEnvC scope cl Cc env)) Q E s :=
  Name_function_global hk hx (loadGlobal_builtin (env := compEnvC scope cl Cc env) (by rw [hg]; exact W.T.g.keeps C.F.keep) (mg_none_of W.X W.T.g e.1) (by rw [hb]; exact W.T.b.keeps C.F.keep) ((W.T.builtins x e.2.2).trans e.2.1) h) hd
end
section
variable {M : Model} {A : Around} {E : Value → Shared → Prop} {k : Bool} {s₀ s : Shared} {g : Heap} {L a d : Addr} {m : Str → Option Value} {cn : Str} {cs : Scope} {ccd : Value} {cl : List (Str × Addr)} {x : Str} {v : Value} {v0 : Option Value} {news : List (Addr × Obj)} {o : Obj}
theorem r_stC {nf : Obj → List (Addr × Obj)} {Q : Unit → Shared → Prop} (C : Cx k s₀ g L s m news) (hx : cs.names.lookup x = some .cell) (hc : cl.lookup x = some d) (U : ∀ o', Up d o o' news (nf o')) (hd : o.data = .cell v0)
    (h : ∀ o' s', o'.data = .cell (some v) → Cx k s₀ g L s' m (nf o') → Q () s') (hk : cs.kind = .function := by rfl) : wpAny M A (storeName (envX cn cs L a ccd cl) x v) Q E s := by
  have hm := C.get (U o).mem
  refine wpAny_storeName_cell hk hx hc ⟨o, hm, hd⟩ fun h' hv hs => ?_
  obtain ⟨o', ho', hd'⟩ := hv
  exact h o' _ hd' (C.up (t := s.toks) (U o') hs ho')
end
local macro_rules | `(tactic| k_call_by "kc" 0) => `(tactic| repeat' (first | with_reducible exact lk_here | with_reducible apply lk_there | exact ne_q (Eq.refl false)))
local macro_rules | `(tactic| k_call_by "ld" 0) => `(tactic| first
  | (refine' r_ldX (by k_call_by "wa" 0) ?hx ?hv ?_; (case hx => k_call_by "kd" 0); (case hv => k_call_by "lk" 0))
  | (refine' r_celX (by k_call_by "wa" 0) ?hx ?hc ?hm ?hd ?_; (case hx => k_call_by "kd" 0); (case hc => k_call_by "kc" 0); (case hm => k_call_by "mem" 0); (case hd => k_call_by "wa" 0)))
local macro_rules | `(tactic| k_call_by "gl" 0) => `(tactic| (refine' r_glX (by k_call_by "wa" 0) (by k_call_by "wa" 0) ?hx ?he ?_; (case hx => k_call_by "kd" 0); (case he => k_is)))
local macro_rules | `(tactic| k_call_by "bi" 0) => `(tactic| (refine' r_biX (by k_call_by "wa" 0) (by k_call_by "wa" 0) ?hx ⟨?he1, ?he2, ?he3⟩ ?_; (case hx => k_call_by "kd" 0); (case he1 => k_is); (case he2 => boot_fast); (case he3 => exact ne_q (Eq.refl false))))
local macro_rules | `(tactic| k_call_by "st" 0) => `(tactic| first
  | (refine' r_stX (by k_call_by "wa" 0) ?hx ?_; (case hx => k_call_by "kd" 0); intro _ _)
  | (refine' r_stC (by k_call_by "wa" 0) ?hx ?hc ?U ?hd ?_; (case hx => k_call_by "kd" 0); (case hc => k_call_by "kc" 0); (case U => k_call_by "up" 0); (case hd => k_call_by "wa" 0); intro _ _ _ _))
local macro_rules | `(tactic| k_call_by "nk" 0) => `(tactic| first
  | (refine' r_ldK (by k_call_by "wa" 0) ?hm ?hN ?hv ?_ ?hk ?hx; (case hm => k_call_by "mem" 0); (case hN => k_call_by "wa" 0); (case hv => k_call_by "wa" 0); (case hk => exact rfl); (case hx => kernel_rfl))
  | (refine' r_celK (by k_call_by "wa" 0) ?hc ?hm ?hd ?_ ?hk ?hx; (case hc => k_call_by "kc" 0); (case hm => k_call_by "mem" 0); (case hd => k_call_by "wa" 0); (case hk => exact rfl); (case hx => kernel_rfl))
  | (refine' r_glK (by k_call_by "wa" 0) (by k_call_by "wa" 0) ?he ?_ ?hg ?hk ?hx; (case he => k_is); (case hg => exact rfl); (case hk => exact rfl); (case hx => kernel_rfl))
  | (refine' r_biK (by k_call_by "wa" 0) (by k_call_by "wa" 0) ⟨?he1, ?he2, ?he3⟩ ?_ ?hg ?hb ?hk ?hx; (case he1 => k_is); (case he2 => boot_fast); (case he3 => exact ne_q (Eq.refl false)); (case hg => exact rfl); (case hb => exact rfl); (case hk => exact rfl); (case hx => kernel_rfl)))
local macro_rules | `(tactic| k_call_by "xe" 0) => `(tactic| ((with_reducible show wpAny _ _ (eval (PySem.Expr.Name _ _) (compEnvC _ _ _ _)) _ _ _); k_call_by "nk" 0))
/-! _law_lines -/
noncomputable def linP (texts : List Tx) (tops : List Int) (f : Nat) (top : Int) (i : Nat) : List Tx := ((List.range i).filter fun k => tops.getD k 0 == top).map fun (k : Nat) => joinT (texts.getD k [] :: (frst texts tops f k).lines)
theorem linP_succ (texts : List Tx) (tops : List Int) (f : Nat) (top : Int) (i : Nat) : linP texts tops f top (i + 1) = linP texts tops f top i ++ if tops.getD i 0 = top then [joinT (texts.getD i [] :: (frst texts tops f i).lines)] else [] := by
  unfold linP
  rw [List.range_succ, List.filter_append, List.map_append]
  congr 1
  rw [List.filter_cons, List.filter_nil]
  by_cases h : tops.getD i 0 = top
  · rw [if_pos (by rw [h]; exact beq_self_eq_true _), if_pos h]; rfl
  · rw [if_neg (by rw [beq_iff_eq]; exact h), if_neg h]; rfl
theorem linP_len (texts : List Tx) (tops : List Int) (f : Nat) (top : Int) (i : Nat) : (linP texts tops f top i).length ≤ i := by
  unfold linP
  rw [List.length_map]
  have := List.length_filter_le (fun k => tops.getD k 0 == top) (List.range i)
  rwa [List.length_range] at this
theorem SVs.at' {vs : List Value} {ws : List Tx} (h : SVs vs ws) : ∀ {i : Nat}, i < ws.length → ∃ t, vs[i]? = some (.str (S (ws.getD i [])) t) := by
  induction h with
  | nil => intro i hi; exact absurd hi (Nat.not_lt_zero _)
  | @cons t w vs ws _ ih =>
    intro i hi
    cases i with
    | zero => exact ⟨t, rfl⟩
    | succ i => obtain ⟨t', e⟩ := ih (Nat.lt_of_succ_lt_succ hi); exact ⟨t', by simpa using e⟩
theorem wtB_le {n : Nat} (h : n ≤ 2) : wtB n ≤ 17298 := by
  rcases (by (first | lia | omega) : n = 0 ∨ n = 1 ∨ n = 2) with h | h | h <;> rw [h] <;> decide
theorem dpt_nat (names : List Tx) (k : Nat) : dpt names (k : Int) ≤ 2 := by
  unfold dpt
  rw [if_neg (by (first | lia | omega))]
  (first | lia | omega)
theorem lines_ok {w : World} {mg mb : Str → Option Value} {texts names : List Tx} {tops : List Int} (Wo : Words texts tops names) : ∀ (f : Nat) {A : Around} {s₀ s : Shared} {g : Heap} {L a b : Addr} {oJ : Obj} {m : Str → Option Value} {R : List (Addr × Obj)} {va vb : List Value} {ca cb : Nat} {top : Int} {t : Tok} {Q E : Value → Shared → Prop}
    (C : Cx false s₀ g L s m ((801, oJ) :: R)) (W : Wd w mg mb g) (jt : JT oJ) (ha : s.heap.get? a = some (lo va ca)) (hva : SVs va texts) (hb : s.heap.get? b = some (lo vb cb)) (hvb : IntsAre vb tops) (h1 : (tops.length : Int) - top ≤ f) (h2 : top < tops.length) (h3 : -1 ≤ top) (Rr : Rm A (4 * f + 10) (20 * f + 60))
    (h : ∀ r vs c s' oJ', Cx false s₀ g L s' m ((r, lo vs c) :: (801, oJ') :: R) → JT oJ' → SVs vs (frst texts tops f top).lines → Q (.ref r) s'),
    wpAny (model P9 w) A (call (.ref 831) [.ref a, .ref b, .int top t]) Q E s
  | 0, _, _, _, _, _, _, _, _, _, _, _, _, _, _, _, _, _, _, _, _, _, _, _, _, _, h1, h2, _, _, _ => by (first | lia | omega)
  | f + 1, A, s₀, s, g, L, a, b, oJ, m, R, va, vb, ca, cb, top, t, Q, E, C, W, jt, ha, hva, hb, hvb, h1, h2, h3, Rr, h => by
    have hgs := C.keep
    have hD : ∀ p ∈ [(801, oJ)], s.heap.get? p.1 = some p.2 ∧ g.get? p.1 = none := fun p hp => by rw [List.mem_singleton.mp hp]; exact ⟨C.get (.head _), (C.N _ (.head _)).2.2⟩
    have gl : ∀ {d vs c}, s.heap.get? d = some (lo vs c) → (hideAll s.heap ([(801, oJ)].map (·.1))).get? d = some (lo vs c) := fun {d vs c} e => hideAll_get _ e fun q => by
      obtain ⟨p, hp, e2⟩ := List.mem_map.mp q
      have h1 := (hD p hp).1
      rw [show p.1 = d from e2, e] at h1
      exact jt.noSeq p hp _ _ (by rw [← Option.some.inj h1]; rfl)
    have ga := gl ha
    have gb := gl hb
    refine wpAny_call ?_
    refine' enterC (k := false) (D := [(801, oJ)]) (binds := [(Str.ofString "texts", .ref a), (Str.ofString "tops", .ref b), (Str.ofString "top", .int top t)]) (cl := fun L => [(Str.ofString "top", L + 3), (Str.ofString "tops", L + 2), (Str.ofString "texts", L + 1)]) (mL := noA) (mC := upd (upd (upd noA (Str.ofString "texts") (.ref a)) (Str.ofString "tops") (.ref b)) (Str.ofString "top") (.int top t)) W C.keep hD (List.nodup_cons.mpr ⟨List.not_mem_nil, List.nodup_nil⟩) Rr.room ?ho ?hcd ?hb ?hkind ?hcn ?hcl ?hL ?hC ?_ ?h1 ?h2 ?h3
    case ho => k_is
    case hcd => k_is
    case hb => exact BindsTo.of_eq (by kernel_rfl)
    case hkind => kernel_rfl
    case hcn => decide +kernel
    case hcl => intro L; kernel_rfl
    case hL => intro L; kernel_rfl
    case hC => intro L; kernel_rfl
    case h1 => exact rfl
    case h2 => exact rfl
    case h3 => exact rfl
    intro L1 s1 cells WH hgh C1 hcells hL1
    refine hideQ fun Qt hQt => ?_
    obtain ⟨o1, o2, o3, rfl, d1, d2, d3⟩ := hcells.three
    have e1 : o1.data = .cell (some (.int top t)) := d1.trans (congrArg Data.cell (by k_call_by "lk" 0))
    have e2 : o2.data = .cell (some (.ref b)) := d2.trans (congrArg Data.cell (by k_call_by "lk" 0))
    have e3 : o3.data = .cell (some (.ref a)) := d3.trans (congrArg Data.cell (by k_call_by "lk" 0))
    clear d1 d2 d3 hcells
    have C2 : Cx false s (hideAll s.heap ([(801, oJ)].map (·.1))) L1 s1 noA [(801, oJ), (L1 + 3, o1), (L1 + 2, o2), (L1 + 1, o3)] := C1.perm (List.perm_middle (l₁ := [(L1 + 3, o1), (L1 + 2, o2), (L1 + 1, o3)]))
    obtain ⟨gg, hgg⟩ : ∃ x, x = hideAll s.heap ([(801, oJ)].map (·.1)) := ⟨_, rfl⟩
    rw [← hgg] at WH C2 ga gb
    clear C1 gl
    k_call_by "go" 0
    refine comp_open (cl := [(Str.ofString "tops", L1 + 2), (Str.ofString "top", L1 + 3), (Str.ofString "texts", L1 + 1)]) (by kernel_rfl) rfl (by decide +kernel) ?_
    k_call_by "go" 0
    have hvl := IntsAre.len' hvb
    have hal := hva.length
    have hn6 := Wo.few
    have hl1 := Wo.len1
    have ila : ∀ {s' : Shared} {m' R'}, Cx false s gg L1 s' m' R' → s'.heap.IsList a va.toArray := fun K => ⟨_, K.keep _ _ ga, rfl, ca, rfl⟩
    have ilb : ∀ {s' : Shared} {m' R'}, Cx false s gg L1 s' m' R' → s'.heap.IsList b vb.toArray := fun K => ⟨_, K.keep _ _ gb, rfl, cb, rfl⟩
    refine r_llen C2 (ilb C2) (by (first | lia | omega)) fun t4 s4 C4 => ?_
    k_call_by "go" 0
    refine r_range C4 fun r t1 u1 v1 s5 C5 => ?_
    rw [hvl] at C5
    have C6 : Cx false s gg L1 s5 noA [(801, oJ), (r, rngO tops.length t1 u1 v1), (L1 + 3, o1), (L1 + 2, o2), (L1 + 1, o3)] := C5.perm (List.Perm.swap ..)
    refine comp_range (n := tops.length) (Rm.deeper (d := 0) (u := 0) (Rr.le (by first | decide | (first | lia | omega)) (by first | decide | (first | lia | omega)))).hand (fun i ys R' => ∃ oJ', R' = [(801, oJ'), (r, rngO tops.length t1 u1 v1), (L1 + 3, o1), (L1 + 2, o2), (L1 + 1, o3)] ∧ JT oJ' ∧ SVs ys (linP texts tops f top i) ∧ i ≤ tops.length)
      (fun i ys R' ⟨_, _, _, hy, hi⟩ => by have := hy.length; have := linP_len texts tops f top i; (first | lia | omega)) (by decide +kernel) rfl (by k_call_by "kd" 0) C6 (C6.get (.tail _ (.head _))) (by (first | lia | omega)) ⟨oJ, rfl, jt, .nil, Nat.zero_le _⟩ ?turn ?done
    case turn =>
      rintro i ti ys R6 s6 I oI oC Cc D c mC hi ⟨oJ6, rfl, jt6, hys, _⟩ C7 hN hm
      refine hideQ fun Qt hQt => ?_
      obtain ⟨tx, hx⟩ := IntsAre.at' hvb hi
      refine wpAny_tests_one ?_
      k_call_by "go" 0
      refine r_item (ilb C7) (by (first | lia | omega)) (by rw [Int.toNat_natCast]; exact hx) (by (first | lia | omega)) ?_
      k_call_by "go" 0
      by_cases he : tops.getD i 0 = top
      · refine if_t (by rw [he]; exact beq_self_eq_true _) ?_
        have hhi := Wo.high i hi
        rw [he] at hhi
        obtain ⟨tt, htt⟩ := hva.at' (i := i) (by (first | lia | omega))
        k_call_by "go" 0
        refine r_list1 (k := false) (s₀ := s) (g := gg) (L := L1) rfl ?_
        k_call_by "go" 0
        refine r_item (ila C7) (by (first | lia | omega)) (by rw [Int.toNat_natCast]; exact htt) (by (first | lia | omega)) ?_
        refine ⟨_, _, _, rfl, C7, fun l1 s8 C8 => ?_⟩
        k_call_by "go" 0
        have C9 := C8.perm (List.perm_middle (l₁ := [(l1, lo [Value.str (S (texts.getD i [])) tt] 0), (I, oI), (Cc, oC), (D, lo ys c)]))
        refine lines_ok Wo f C9 WH jt6 (C9.keep _ _ ga) hva (C9.keep _ _ gb) hvb (by (first | lia | omega)) (by (first | lia | omega)) (by (first | lia | omega)) (Rm.deeper (Rr.le (by first | decide | (first | lia | omega)) (by first | decide | (first | lia | omega)))) fun r2 v2 c2 s10 oJ10 C10 jt10 hv2 => ?_
        have C10' : Cx false s gg L1 s10 noA ((r2, lo v2 c2) :: (801, oJ10) :: (l1, lo [Value.str (S (texts.getD i [])) tt] 0) :: (I, oI) :: (Cc, oC) :: (D, lo ys c) :: [(r, rngO tops.length t1 u1 v1), (L1 + 3, o1), (L1 + 2, o2), (L1 + 1, o3)]) := C10
        have hgi := frst_good Wo f i
        have hwi := Nat.le_trans (frst_wt Wo f i) (wtB_le (dpt_nat names i))
        have hl2 := Fo.lines_len_wt (frst texts tops f i)
        have hs2 := Fo.lines_wt (frst texts tops f i)
        have hv2l := hv2.length
        have hsh := Wo.short i hi
        try dsimp only
        refine r_ladd C10' (C10'.isList (by k_call_by "mem" 0)) (C10'.isList (.head _)) (by rw [List.length_cons, List.length_nil]; (first | lia | omega)) fun D3 s11 C11 => ?_
        k_call_by "go" 0
        have C12 := C11.perm (List.perm_middle (l₁ := [(D3, lo ([Value.str (S (texts.getD i [])) tt] ++ v2) 0), (r2, lo v2 c2)]))
        refine r_join C12 WH jt10 (Rm.deeper (Rr.le (by first | decide | (first | lia | omega)) (by first | decide | (first | lia | omega)))) (C12.get (p := (D3, lo ([Value.str (S (texts.getD i [])) tt] ++ v2) 0)) (.tail _ (.head _))) (ws := texts.getD i [] :: (frst texts tops f i).lines) (.cons hv2)
          (fun x hx => (List.mem_cons.mp hx).elim (fun e => e ▸ Wo.good i hi) (Fo.lines_good hgi x)) (by rw [List.map_cons, List.sum_cons]; (first | lia | omega)) fun t13 s13 oJ13 C13 jt13 => ?_
        have C14 := C13.drop (news' := (801, oJ13) :: (I, oI) :: (Cc, oC) :: (D, lo ys c) :: [(r, rngO tops.length t1 u1 v1), (L1 + 3, o1), (L1 + 2, o2), (L1 + 1, o3)]) (.cons_cons _ (.cons _ (.cons _ (.cons _ (List.Sublist.refl _)))))
        refine ⟨_, C14.perm (List.perm_middle (l₁ := [(I, oI), (Cc, oC), (D, lo ys c)])).symm, oJ13, rfl, jt13, ?_, hi⟩
        rw [linP_succ, if_pos he]
        exact hys.append (.cons .nil)
      · refine if_f (by rw [beq_eq_false_iff_ne]; exact he) ?_
        refine ⟨_, C7, oJ6, rfl, jt6, ?_, hi⟩
        rw [linP_succ, if_neg he, List.append_nil]; exact hys
    case done =>
      rintro D ys c R6 s6 ⟨oJ6, rfl, jt6, hys, _⟩ C7
      refine hQt.op _ _ ?_
      subst hgg
      try dsimp only
      have C8 := Cx.ret (D := [(801, oJ)]) (D' := [(801, oJ6)]) (F := [(D, lo ys c), (r, rngO tops.length t1 u1 v1), (L1 + 3, o1), (L1 + 2, o2), (L1 + 1, o3)]) C (C7.perm (List.Perm.swap ..)) rfl
      refine h D ys c _ oJ6 (C8.drop (.cons_cons _ (.cons _ (.cons _ (.cons _ (.cons _ (List.Sublist.refl _))))))) jt6 ?_
      rw [frst_lines]
      exact hys
/-! unorderable_list_difference: rules -/
theorem SVs.nthIs {vs : List Value} {ws : List Tx} (h : SVs vs ws) (x : Tx) : x ∈ ws → ∃ j, j < vs.length ∧ (∃ v, vs[j]? = some v ∧ isStrOf (S x) v = true) ∧ (∀ m, m < j → ∀ v, vs[m]? = some v → isStrOf (S x) v = false) ∧ SVs (vs.eraseIdx j) (ws.erase x) := by
  induction h with
  | nil => intro hx; cases hx
  | @cons t y vs ws hv ih =>
    intro hx
    by_cases h : y = x
    · subst h
      refine ⟨0, Nat.succ_pos _, ⟨_, rfl, beq_self_eq_true _⟩, fun m hm => absurd hm (Nat.not_lt_zero _), ?_⟩
      rw [List.erase_cons_head]; exact hv
    · have hx' : x ∈ ws := (List.mem_cons.mp hx).elim (fun e => absurd e.symm h) id
      obtain ⟨j, h1, ⟨v, h2, h3⟩, h4, h5⟩ := ih hx'
      have hb : isStrOf (S x) (.str (S y) t) = false := by
        show (S y == S x) = false
        rw [S_beq]; exact decide_eq_false h
      refine ⟨j + 1, Nat.succ_lt_succ h1, ⟨v, by simpa using h2, h3⟩, fun m hm v' hv' => ?_, ?_⟩
      · cases m with
        | zero => simp only [List.getElem?_cons_zero, Option.some.injEq] at hv'; rw [← hv']; exact hb
        | succ m => exact h4 m (Nat.lt_of_succ_lt_succ hm) v' (by simpa using hv')
      · rw [List.eraseIdx_cons_succ, List.erase_cons_tail (by simpa using h)]
        exact .cons h5
theorem SVs.noneIs {vs : List Value} {ws : List Tx} (h : SVs vs ws) {x : Tx} (hx : x ∉ ws) : ∀ v ∈ vs, isStrOf (S x) v = false := by
  induction h with
  | nil => intro v hv; cases hv
  | @cons t y vs ws _ ih =>
    intro v hv
    rcases List.mem_cons.mp hv with rfl | hv
    · show (S y == S x) = false
      rw [S_beq]; exact decide_eq_false fun e => hx (e ▸ List.mem_cons_self ..)
    · exact ih (fun q => hx (List.mem_cons_of_mem _ q)) v hv
theorem SVs.snoc {vs : List Value} {ws : List Tx} {x : Tx} (h : SVs vs (ws ++ [x])) : ∃ us t, vs = us ++ [.str (S x) t] ∧ SVs us ws := by
  induction ws generalizing vs with
  | nil =>
    cases h with
    | cons h => cases h; exact ⟨[], _, rfl, .nil⟩
  | cons y r ih =>
    cases h with
    | cons h => obtain ⟨us, t, rfl, h2⟩ := ih h; exact ⟨_ :: us, t, rfl, .cons h2⟩
section
variable {k : Bool} {w : World} {A : Around} {E : Value → Shared → Prop} {s₀ s : Shared} {g : Heap} {L a b : Addr} {m mg mb : Str → Option Value} {R : List (Addr × Obj)} {env : Env}
theorem r_ltruth {vs : List Value} {Q : Bool → Shared → Prop} (C : Cx k s₀ g L s m R) (hl : s.heap.IsList a vs.toArray) (hz : vs.length ≤ 1000000) (h : ∀ s', Cx k s₀ g L s' m R → Q (decide (vs ≠ [])) s') : wpAny (model P9 w) A (truthy (.ref a)) Q E s := by
  refine wpAny_truthy_list hl (by rw [List.size_toArray]; (first | lia | omega)) ?_
  have e : (!vs.toArray.isEmpty) = decide (vs ≠ []) := by cases vs <;> simp
  rw [e]
  exact h _ C.toks
theorem r_pop {us : List Value} {c : Nat} {v : Value} {nf : Obj → List (Addr × Obj)} {Q : Value → Shared → Prop} (C : Cx k s₀ g L s m R) (U : ∀ o', Up a (lo (us ++ [v]) c) o' R (nf o')) (hz : us.length ≤ 1000000)
    (h : ∀ c' s', Cx k s₀ g L s' m (nf (lo us c')) → Q v s') : wpAny (model P9 w) A (call (.builtin "list.pop") [.ref a]) Q E s := by
  have ho : s.heap.get? a = some (lo (us ++ [v]) c) := C.get (U (lo (us ++ [v]) c)).mem
  refine call_meets PySem.F.slot_list_pop ⟨_, ho, rfl⟩ PySem.F.entry_list_pop (PySem.F.args_list_pop_1 _) (MeetsSeq.list_pop_last a (us ++ [v]).toArray c v ?_ ?_) ⟨ho, ?_⟩
  · rw [List.size_toArray, List.getElem?_toArray, List.length_append, List.length_singleton]
    simp
  · rw [List.size_toArray, List.length_append, List.length_singleton, sizeLine_eq]; (first | lia | omega)
  · obtain ⟨n', e⟩ := lo_mapSeq (fun xs => xs.eraseIdxIfInBounds ((us ++ [v]).toArray.size - 1)) (us ++ [v]) c
    have e2 : ((us ++ [v]).toArray.eraseIdxIfInBounds ((us ++ [v]).toArray.size - 1)).toList = us := by
      rw [Array.toList_eraseIdxIfInBounds]
      simp [List.eraseIdx_append_of_length_le]
    rw [e2] at e
    exact h n' _ (C.up (t := s.toks) (U _) (Heap.SameBut.update ..) ((Heap.get?_update_self (Obj.mapSeq fun xs => xs.eraseIdxIfInBounds ((us ++ [v]).toArray.size - 1)) ho rfl).trans (congrArg some e)))
theorem r_remY {vs : List Value} {ws : List Tx} {c : Nat} {x : Tx} {t : Tok} {nf : Obj → List (Addr × Obj)} {Q : Value → Shared → Prop} (C : Cx k s₀ g L s m R) (U : ∀ o', Up a (lo vs c) o' R (nf o')) (hv : SVs vs ws) (hx : x ∈ ws) (hz : vs.length ≤ 1000000)
    (h : ∀ vs' c' s', SVs vs' (ws.erase x) → Cx k s₀ g L s' m (nf (lo vs' c')) → Q .none s') : wpAny (model P9 w) A (call (.builtin "list.remove") [.ref a, .str (S x) t]) Q E s := by
  have ho : s.heap.get? a = some (lo vs c) := C.get (U (lo vs c)).mem
  obtain ⟨j, h1, ⟨v, h2, h3⟩, h4, h5⟩ := hv.nthIs x hx
  have hej : vs[j] = v := by rw [List.getElem?_eq_getElem h1] at h2; exact Option.some.inj h2
  refine call_meets PySem.F.slot_list_remove ⟨_, ho, rfl⟩ PySem.F.entry_list_remove (PySem.F.args_list_remove_2 _ _)
    (MeetsSeq.list_remove a vs.toArray c (.str (S x) t) (isStrOf (S x)) (fun y hy => eq_isStrOf (S x) t hv.strs y (by simpa using hy)) j (by rw [List.size_toArray]; exact h1) (by rw [List.getElem_toArray, hej]; exact h3)
      (fun m hm hlt => by rw [List.getElem_toArray]; exact h4 m hlt _ (List.getElem?_eq_getElem _)) (by rw [List.size_toArray, sizeLine_eq]; (first | lia | omega))) ⟨ho, ?_⟩
  obtain ⟨n', e⟩ := lo_mapSeq (fun xs => xs.eraseIdxIfInBounds j) vs c
  have e2 : (vs.toArray.eraseIdxIfInBounds j).toList = vs.eraseIdx j := by rw [Array.toList_eraseIdxIfInBounds]
  rw [e2] at e
  exact h _ n' _ h5 (C.up (t := s.toks) (U _) (Heap.SameBut.update ..) ((Heap.get?_update_self (Obj.mapSeq fun xs => xs.eraseIdxIfInBounds j) ho rfl).trans (congrArg some e)))
theorem r_remN {vs : List Value} {ws : List Tx} {c : Nat} {x : Tx} {t : Tok} {Q : Value → Shared → Prop} (hh : A.handled = none) (C : Cx k s₀ g L s m R) (hm : (a, lo vs c) ∈ R) (hv : SVs vs ws) (hx : x ∉ ws)
    (h : ∀ h' tk e, Heap.NewExc s.heap h' e "ValueError" → E (.ref e) { s with heap := h', toks := tk }) : wpAny (model P9 w) A (call (.builtin "list.remove") [.ref a, .str (S x) t]) Q E s := by
  have ho : s.heap.get? a = some (lo vs c) := C.get hm
  refine call_meets PySem.F.slot_list_remove ⟨_, ho, rfl⟩ PySem.F.entry_list_remove (PySem.F.args_list_remove_2 _ _)
    (MeetsSeq.list_remove_none a vs.toArray c (.str (S x) t) (isStrOf (S x)) (fun y hy => eq_isStrOf (S x) t hv.strs y (by simpa using hy)) (fun m hm => by rw [List.getElem_toArray]; exact hv.noneIs hx _ (List.getElem_mem _))) ⟨ho, hh, h⟩
noncomputable def tupO (vs : List Value) : Obj := { cls := .type "tuple", data := .seq vs.toArray }
theorem r_tup2n {e1 e2 : Expr} {kk : Nat} {pos : Pos} {Q : Value → Shared → Prop} (he : starEach [e1, e2] env = [(false, eval e1 env), (false, eval e2 env)])
    (h : wpAny (model P9 w) A (eval e1 env) (fun v1 s1 => wpAny (model P9 w) A (eval e2 env) (fun v2 s2 => ∃ s₃ m₃ R₃, s₃ = s2 ∧ Cx k s₀ g L s₃ m₃ R₃ ∧ ∀ tp s', Cx k s₀ g L s' m₃ ((tp, tupO [v1, v2]) :: R₃) → Q (.ref tp) s') E s1) E s) :
    wpAny (model P9 w) A (eval (.Tuple [e1, e2] kk pos) env) Q E s := by
  refine Tuple_ ?_
  rw [he]
  refine spliced_cons (M := model P9 w) (wpAny_mono h (fun v1 s1 h1 => ?_) fun _ _ z => z)
  refine spliced_cons (M := model P9 w) (wpAny_mono h1 (fun v2 s2 h2 => ?_) fun _ _ z => z)
  obtain ⟨_, m₃, R₃, rfl, C, h⟩ := h2
  refine spliced_nil (newTuple_N C.F C.N (fun h' F' N' => h _ _ (C.more1 F' N' C.lt)) ?_)
  rw [sizeLine_eq]; show 2 ≤ 16777216; (first | lia | omega)
end
noncomputable def Otd (FO : List (Addr × Obj)) : Prop := ∀ p ∈ FO, ∃ es ep, p.2.data = .dict es ep
theorem Otd.sl {FO FO' : List (Addr × Obj)} (h : Otd FO) (x : SlE FO FO') : Otd FO' := fun p hp => by
  obtain ⟨o, ho, sl, e⟩ := x.2 p hp
  rw [e]; exact h _ ho
theorem Otd.push {L : Addr} {oL : Obj} {FO : List (Addr × Obj)} (h : Otd FO) (h2 : ∃ es ep, oL.data = .dict es ep) : Otd ((L, oL) :: FO) := fun p hp => by
  rcases List.mem_cons.mp hp with rfl | hp
  · exact h2
  · exact h p hp
theorem Otd.noSeq {FO : List (Addr × Obj)} (h : Otd FO) : NoSeq FO := fun p hp xs n q => by
  obtain ⟨es, ep, e⟩ := h p hp
  rw [e] at q; cases q
theorem frs_of : ∀ {outer : List Env} {FO : List (Addr × Obj)}, Otr outer FO → Otd FO → TI.Frs outer FO
  | [], FO, T, _ => by
    have := T.map
    cases FO with
    | nil => trivial
    | cons _ _ => cases this
  | env :: r, FO, T, D => by
    have hm := T.map
    obtain ⟨k1, k2⟩ := T.ok env (.head _)
    obtain ⟨a, ha⟩ := Option.isSome_iff_exists.mp k2
    rw [List.filterMap_cons, ha] at hm
    cases FO with
    | nil => cases hm
    | cons p FO =>
      simp only [List.map_cons, List.cons.injEq] at hm
      exact ⟨k1, by rw [ha, hm.1], D p (.head _), frs_of ⟨hm.2, fun e he => T.ok e (.tail _ he), fun q hq => T.data q (.tail _ hq)⟩ fun q hq => D q (.tail _ hq)⟩
theorem sle_of : ∀ {a b : List (Addr × Obj)}, TI.SameUp a b → SlE a b
  | [], [], _ => SlE.refl _
  | [], _ :: _, h => h.elim
  | _ :: _, [], h => h.elim
  | p :: ps, q :: qs, ⟨h1, ⟨sl, h2⟩, h3⟩ => by
    obtain ⟨i1, i2⟩ := sle_of h3
    refine ⟨by rw [List.map_cons, List.map_cons, i1, h1], fun x hx => ?_⟩
    rcases List.mem_cons.mp hx with rfl | hx
    · exact ⟨p.2, by rw [h1]; exact .head _, sl, h2⟩
    · obtain ⟨o, ho, sl', e⟩ := i2 x hx
      exact ⟨o, .tail _ ho, sl', e⟩
theorem Cx.atL3 {k : Bool} {s₀ s : Shared} {g : Heap} {L : Addr} {m : Str → Option Value} {R : List (Addr × Obj)} (C : Cx k s₀ g L s m R) : ∃ oL, s.heap.get? L = some oL ∧ ∃ es ep, oL.data = .dict es ep := by
  obtain ⟨oL, es, ep, hL, e, r⟩ := C.F.ns
  exact ⟨oL, hL, es, ep, e⟩
/-! unorderable_list_difference -/
theorem caughtV {k : Bool} {w : World} {mg mb m : Str → Option Value} {A₀ : Around} {E : Value → Shared → Prop} {s₀ s : Shared} {g h' : Heap} {L f e tk : Nat} {cn : Str} {cs : Scope} {ccd : Value} {new FO : List (Addr × Obj)} {l : List Env} {np pos : Pos} {b₀ : Stmt} {suite : List Stmt} {rest : List ExceptHandler} {Q : Flow → Shared → Prop}
    (C : Cx k s₀ g L s m (new ++ FO)) (W : Wd w mg mb g) (T : Otr l FO) (D : Otd FO) (hfr : A₀.frames = some l) (hx : Heap.NewExc s.heap h' e "ValueError") (hk : cs.kind = .function) (hxk : cs.names.lookup (Str.ofString "ValueError") = some .globalImplicit)
    (h : ∀ FO' s'', SlE FO FO' → Cx k s₀ g L s'' m (new ++ FO') → wpAny (model P9 w) ((A₀.deeper (envOf cn cs L f ccd)).mark (some (.ref e))) (execs (b₀ :: suite) (envOf cn cs L f ccd)) Q (fun _ _ => False) s'') :
    wpAny (model P9 w) (A₀.deeper (envOf cn cs L f ccd)) (noteFrame (.ref e) (envOf cn cs L f ccd)) (fun _ s₂ => wpAny (model P9 w) (A₀.deeper (envOf cn cs L f ccd)) (setFlight (.ref e) none) (fun _ s₃ =>
      wpAny (model P9 w) (A₀.deeper (envOf cn cs L f ccd)) (handleBy (.ref e) (envOf cn cs L f ccd) (.ExceptHandler (some (.Name (Str.ofString "ValueError") np)) none (b₀ :: suite) pos :: rest)) Q E s₃) E s₂) E ⟨h', s.gens, s.drawn, tk, s.os⟩ := by
  have nd := C.nd
  rw [List.map_append] at nd
  refine TLg.noted_newA (h := s.heap) (new := new) hfr (frs_of T D) hx C.F C.N (fun p hp hm => ?_) (fun h2 FO2 SU2 Fs2 H2 => ?_) hk
  · rcases List.mem_cons.mp hm with q | hm
    · exact (C.N p (List.mem_append_left _ hp)).2.1 q
    · exact (List.nodup_append.mp nd).2.2 p.1 (List.mem_map_of_mem hp) p.1 hm rfl
  have hsl : SlE FO FO2 := sle_of SU2
  have nd2 : ((new ++ FO2).map (·.1)).Nodup := by rw [List.map_append, hsl.1]; exact nd
  have H2' : TT.HeldNA g L (Shared.mk h2 s.gens s.drawn tk s.os).heap m e "ValueError" (new ++ FO2) (rawInt L) := H2
  refine TT.HeldNA.land H2' fun h3 H3 => ?_
  have C3 : Cx k s₀ g L ⟨h3, s.gens, s.drawn, tk, s.os⟩ m (new ++ FO2) := ⟨C.st.trans .heap, H3.held.fr, H3.made, nd2⟩
  have H3' : TT.HeldNA g L (Shared.mk h3 s.gens s.drawn tk s.os).heap m e "ValueError" (new ++ FO2) .none := H3
  refine wpAny_handleBy_builtin (X := "ValueError") (T := "ValueError") (b := true) PySem.F.isExc_ValueError PySem.F.notTuple_ValueError (by rw [isSubtype_type]; kernel_rfl) ?_
  refine' r_bi (v := .type "ValueError") C3 W hxk ⟨?he1, ?he2, ?he3⟩ ?_ hk
  case he1 => k_is
  case he2 => exact PyProof.Rows.Boot.«ValueError»
  case he3 => exact ne_q (by exact Eq.refl false)
  refine ⟨rfl, H3'.isA, ?_⟩
  rw [if_pos rfl]
  refine H3'.lands fun h4 F4 N4 => ?_
  refine wpAny_mono (h FO2 ⟨h4, s.gens, s.drawn, tk, s.os⟩ hsl ⟨C.st.trans .heap, F4, N4, nd2⟩) (fun _ _ z => z) fun _ _ z => z.elim
inductive UTl (s : Shared) (gg : Heap) (L1 mi a b : Addr) (FO0 : List (Addr × Obj)) (expd act : List Tx) (s' : Shared) : Prop
  | mk (m' : Str → Option Value) (us1 : List Value) (c1 : Nat) (vb1 : List Value) (cb1 : Nat) (vm : List Value) (cm : Nat) (FO' : List (Addr × Obj)) (mis act1 : List Tx) (hC : Cx false s gg L1 s' m' ((mi, lo vm cm) :: (a, lo us1 c1) :: (b, lo vb1 cb1) :: FO')) (h2 : SlE FO0 FO')
    (g1 : m' (Str.ofString "actual") = some (.ref b)) (g2 : m' (Str.ofString "missing") = some (.ref mi)) (h3 : SVs vb1 act1) (h4 : SVs vm mis) (h5 : uldT expd.reverse act = (mis, act1)) : UTl s gg L1 mi a b FO0 expd act s'
inductive UWh (s : Shared) (gg : Heap) (L1 mi a b : Addr) (FO0 : List (Addr × Obj)) (expd act : List Tx) (la lb : Nat) (n : Nat) (s' : Shared) : Prop
  | mk (m' : Str → Option Value) (us1 : List Value) (c1 : Nat) (vb1 : List Value) (cb1 : Nat) (vm : List Value) (cm : Nat) (FO' : List (Addr × Obj)) (e1 act1 mis : List Tx) (hC : Cx false s gg L1 s' m' ((mi, lo vm cm) :: (a, lo us1 c1) :: (b, lo vb1 cb1) :: FO')) (h2 : SlE FO0 FO')
    (g0 : m' (Str.ofString "expected") = some (.ref a)) (g1 : m' (Str.ofString "actual") = some (.ref b)) (g2 : m' (Str.ofString "missing") = some (.ref mi))
    (h3 : SVs us1 e1) (h4 : SVs vb1 act1) (h5 : SVs vm mis) (h6 : uldT expd.reverse act = (mis ++ (uldT e1.reverse act1).1, (uldT e1.reverse act1).2)) (h7 : n = us1.length) (h8 : vm.length + us1.length ≤ la) (h9 : vb1.length ≤ lb) : UWh s gg L1 mi a b FO0 expd act la lb n s'
theorem uld_ok {w : World} {mg mb m : Str → Option Value} {A : Around} {s₀ s : Shared} {g : Heap} {L a b : Addr} {R FO : List (Addr × Obj)} {env : Env} {outer : List Env} {va vb : List Value} {ca cb : Nat} {expd act : List Tx} {Q E : Value → Shared → Prop}
    (C : Cx false s₀ g L s m ((a, lo va ca) :: (b, lo vb cb) :: (R ++ FO))) (W : Wd w mg mb g) (T : Otr outer FO) (Dt : Otd FO) (hst : A.frames = some (env :: outer)) (he : env.frame = some L) (hek : env.scope.kind ≠ .module)
    (hva : SVs va expd) (hvb : SVs vb act) (hla : va.length ≤ 1000) (hlb : vb.length ≤ 1000) (Rr : Rm A 4 20)
    (h : ∀ tp mi vm cm va' ca' vb' cb' s' FO', SlE FO FO' → Cx false s₀ g L s' m ((tp, tupO [.ref mi, .ref b]) :: (mi, lo vm cm) :: (a, lo va' ca') :: (b, lo vb' cb') :: (R ++ FO')) → SVs vm (uldT expd.reverse act).1 → SVs vb' (uldT expd.reverse act).2 → Q (.ref tp) s') :
    wpAny (model P9 w) A (call (.ref 821) [.ref a, .ref b]) Q E s := by
  obtain ⟨oL, hL, hdL⟩ := C.atL3
  obtain ⟨hh1, hnd⟩ := Cx.hid (D := [(a, lo va ca), (b, lo vb cb)]) C hL
  have T1 := T.push he hek (oL := oL) (fun vs q => by obtain ⟨es, ep, e⟩ := hdL; rw [e] at q; cases q)
  have D1 := Otd.push (L := L) Dt hdL
  refine wpAny_call ?_
  refine' enterH (k := false) (D := (a, lo va ca) :: (b, lo vb cb) :: (L, oL) :: FO) (binds := [(Str.ofString "expected", .ref a), (Str.ofString "actual", .ref b)]) W C.keep hh1 hnd Rr.room ?ho ?hcd ?hb ?hl ?hr ?_ ?h1 ?h2 ?h3 ?h4
  k_call_by "ent" 0
  intro L1 s1 WH hgh C1 hL1
  refine hideQ fun Qt hQt => ?_
  obtain ⟨gg, hgg⟩ : ∃ x, x = hideAll s.heap (((a, lo va ca) :: (b, lo vb cb) :: (L, oL) :: FO).map (·.1)) := ⟨_, rfl⟩
  rw [← hgg] at WH C1
  k_call_by "go" 0
  refine r_list0 C1 fun mi s2 C2 => ?_
  k_call_by "go" 0
  rename_i C3
  refine wpAny_mono (Q := fun f s' => f = .next ∧ UTl s gg L1 mi a b ((L, oL) :: FO) expd act s') (E := fun _ _ => False) ?wh ?tail fun _ _ z => z.elim
  case wh =>
    refine r_whileH (M := model P9 w) (UWh s gg L1 mi a b ((L, oL) :: FO) expd act va.length vb.length) ?turn va.length
      ⟨_, va, ca, vb, cb, [], 0, _, expd, act, [], C3, SlE.refl _, by k_call_by "lk" 0, by k_call_by "lk" 0, by k_call_by "lk" 0, hva, hvb, .nil, rfl, rfl, by simp, Nat.le_refl _⟩
    rintro n s4 ⟨m4, us1, c1, vb1, cb1, vm, cm, FO4, e1, act1, mis, C4, hsl4, g1, g2, g3, hus, hvb1, hvm, hu, rfl, hl1, hl2⟩ Qw hQw
    k_call_by "go" 0
    refine r_ltruth C4 (C4.isList (.tail _ (.head _))) (by (first | lia | omega)) fun s5 C5 => ?_
    by_cases h0 : us1 = []
    · refine if_f (decide_eq_false (by simpa using h0)) ?_
      subst h0
      cases hus
      exact ⟨rfl, _, _, _, _, _, _, _, _, _, _, C5, hsl4, g2, g3, hvb1, hvm, by rw [hu]; simp [uldT]⟩
    · refine if_t (decide_eq_true h0) ?_
      have hne : e1 ≠ [] := fun q => by
        subst q; cases hus; exact h0 rfl
      obtain ⟨e0, x, rfl⟩ : ∃ e0 x, e1 = e0 ++ [x] := ⟨e1.dropLast, e1.getLast hne, (List.dropLast_concat_getLast hne).symm⟩
      obtain ⟨us, t, rfl, hus0⟩ := hus.snoc
      rw [List.length_append, List.length_singleton] at hl1
      rw [List.reverse_append, List.reverse_singleton, List.singleton_append] at hu
      k_call_by "go" 0
      refine r_pop (nf := fun o' => (mi, lo vm cm) :: (a, o') :: (b, lo vb1 cb1) :: FO4) C5 (by k_call_by "up" 0) (by (first | lia | omega)) fun c6 s6 C6 => ?_
      try dsimp only
      k_call_by "go" 0
      rename_i C7
      refine wpAny_Try_except ?_
      have T4 := T1.sl hsl4
      have D4t := D1.sl hsl4
      by_cases hx : x ∈ act1
      · k_call_by "go" 0
        refine r_remY (nf := fun o' => (mi, lo vm cm) :: (a, lo us c6) :: (b, o') :: FO4) C7 (by k_call_by "up" 0) hvb1 hx (by (first | lia | omega)) fun vb8 c8 s8 hvb8 C8 => ?_
        have hl8 := hvb8.length
        have hl8' := hvb1.length
        have hle := List.length_erase_le (a := x) (l := act1)
        k_call_by "go" 0
        refine ⟨us.length, by rw [List.length_append, List.length_singleton]; (first | lia | omega), _, us, c6, vb8, c8, vm, cm, FO4, e0, act1.erase x, mis, C8, hsl4, by k_call_by "lk" 0, by k_call_by "lk" 0, by k_call_by "lk" 0, hus0, hvb8, hvm, ?_, rfl, by (first | lia | omega), by (first | lia | omega)⟩
        rw [hu, uldT, if_pos hx]
      · k_call_by "go" 0
        refine r_remN (Rm.deeper (d := 0) (u := 0) (Rr.le (by first | decide | (first | lia | omega)) (by first | decide | (first | lia | omega)))).hand C7 (.tail _ (.tail _ (.head _))) hvb1 hx fun h8 tk8 ex hx8 => ?_
        refine caughtV (new := [(mi, lo vm cm), (a, lo us c6), (b, lo vb1 cb1)]) C7 WH T4 D4t hst hx8 rfl (by k_call_by "kd" 0) fun FO9 s9 hsl9 (C9 : Cx false s gg L1 s9 _ ((mi, lo vm cm) :: (a, lo us c6) :: (b, lo vb1 cb1) :: FO9)) => ?_
        k_call_by "go" 0
        k_call_by "app" 0
        k_call_by "go" 0
        rename_i C10
        refine ⟨us.length, by rw [List.length_append, List.length_singleton]; (first | lia | omega), _, us, c6, vb1, cb1, vm ++ [.str (S x) t], cm + 1, FO9, e0, act1, mis ++ [x], C10, hsl4.trans hsl9, by k_call_by "lk" 0, by k_call_by "lk" 0, by k_call_by "lk" 0, hus0, hvb1, hvm.append (.cons .nil), ?_, rfl, by rw [List.length_append, List.length_singleton]; (first | lia | omega), hl2⟩
        rw [hu, uldT, if_neg hx, List.append_assoc]
        rfl
  case tail =>
    rintro fl s9 ⟨rfl, m9, us9, c9, vb9, cb9, vm9, cm9, FO9, mis9, act9, C9, hsl9, g2, g3, hvb9, hvm9, hu9⟩
    refine hideQ fun Qt hQt => ?_
    k_call_by "go" 0
    refine r_tup2n (k := false) (s₀ := s) (g := gg) (L := L1) rfl ?_
    k_call_by "go" 0
    refine ⟨_, _, _, rfl, C9, fun tp s10 C10 => ?_⟩
    try dsimp only
    subst hgg
    have C11 := C10.perm (r' := [(a, lo us9 c9), (b, lo vb9 cb9)] ++ ([(tp, tupO [.ref mi, .ref b]), (mi, lo vm9 cm9)] ++ FO9)) (List.perm_append_comm_assoc [(tp, tupO [.ref mi, .ref b]), (mi, lo vm9 cm9)] [(a, lo us9 c9), (b, lo vb9 cb9)] FO9)
    obtain ⟨FO', hsl', C12⟩ := Cx.retS (D := [(a, lo va ca), (b, lo vb cb)]) (D' := [(a, lo us9 c9), (b, lo vb9 cb9)]) (F := [(tp, tupO [.ref mi, .ref b]), (mi, lo vm9 cm9)]) C hL C11 hsl9 rfl
    k_call_by "go" 0
    exact h tp mi vm9 cm9 us9 c9 vb9 cb9 s10 FO' hsl' C12 (by rw [hu9]; exact hvm9) (by rw [hu9]; exact hvb9)
/-! _law_due: rules -/
section
variable {k : Bool} {w : World} {A : Around} {E : Value → Shared → Prop} {s₀ s : Shared} {g : Heap} {L a b : Addr} {m mg mb : Str → Option Value} {R : List (Addr × Obj)} {env : Env}
theorem r_list3 {e1 e2 e3 : Expr} {pos : Pos} {Q : Value → Shared → Prop} (he : starEach [e1, e2, e3] env = [(false, eval e1 env), (false, eval e2 env), (false, eval e3 env)])
    (h : wpAny (model P9 w) A (eval e1 env) (fun v1 s1 => wpAny (model P9 w) A (eval e2 env) (fun v2 s2 => wpAny (model P9 w) A (eval e3 env) (fun v3 s3 => ∃ s₃ m₃ R₃, s₃ = s3 ∧ Cx k s₀ g L s₃ m₃ R₃ ∧ ∀ tp s', Cx k s₀ g L s' m₃ ((tp, lo [v1, v2, v3] 0) :: R₃) → Q (.ref tp) s') E s2) E s1) E s) :
    wpAny (model P9 w) A (eval (.List [e1, e2, e3] pos) env) Q E s := by
  refine wpAny_List ?_
  rw [he]
  refine spliced_cons (M := model P9 w) (wpAny_mono h (fun v1 s1 h1 => ?_) fun _ _ z => z)
  refine spliced_cons (M := model P9 w) (wpAny_mono h1 (fun v2 s2 h2 => ?_) fun _ _ z => z)
  refine spliced_cons (M := model P9 w) (wpAny_mono h2 (fun v3 s3 h3 => ?_) fun _ _ z => z)
  obtain ⟨_, m₃, R₃, rfl, C, h⟩ := h3
  exact spliced_nil ⟨by rw [sizeLine_eq]; show 3 ≤ 16777216; (first | lia | omega), h _ _ (C.push (o := lo [v1, v2, v3] 0))⟩
theorem r_rev {ops : List Value} {value slice : Expr} {vs : List Value} {t : Tok} {Q : Value → Shared → Prop} (C : Cx k s₀ g L s m R) (hl : s.heap.IsList a vs.toArray) (hz : vs.length ≤ 1000000)
    (h : ∀ D s', Cx k s₀ g L s' m ((D, lo vs.reverse 0) :: R) → Q (.ref D) s')
    (hs : subscripted slice false (.ref a) (.ref s.heap.objs.size) = operate ops (getItem (.ref a) (.ref s.heap.objs.size)) := by with_unfolding_all rfl) (ht : ∀ r, letTemporaryGo value (.ref a) r = pure () := by intro _; with_unfolding_all rfl) :
    wpAny (model P9 w) A (subscriptTail value slice (.ref a) (.ref s.heap.objs.size)) Q E { s with heap := s.heap.push { cls := .type "slice", data := .fields #[.none, .none, .int (-1) t] } } :=
  krv_lit C.F C.N hl (.int _ _) rfl (fun D h' F' N' lt => h D _ (C.more1 F' N' lt)) hs ht (by rw [List.size_toArray, sizeLine_eq]; (first | lia | omega))
theorem r_tslice1 {value slice : Expr} {x : Value} {vs : List Value} {t : Tok} {Q : Value → Shared → Prop} (C : Cx k s₀ g L s m R) (ha : s.heap.get? a = some (tupO (x :: vs))) (hz : vs.length ≤ 1000)
    (h : ∀ D s', Cx k s₀ g L s' m ((D, tupO vs) :: R) → Q (.ref D) s')
    (hs : subscripted slice false (.ref a) (.ref s.heap.objs.size) = operate [.ref s.heap.objs.size, .ref a] (getItem (.ref a) (.ref s.heap.objs.size)) := by with_unfolding_all rfl) (ht : ∀ r, letTemporaryGo value (.ref a) r = pure () := by intro _; with_unfolding_all rfl) :
    wpAny (model P9 w) A (subscriptTail value slice (.ref a) (.ref s.heap.objs.size)) Q E { s with heap := s.heap.push { cls := .type "slice", data := .fields #[.int 1 t, .none, .none] } } :=
  slice_tuple_from (a := 1) (items := (x :: vs).toArray) C.F C.N ⟨_, ha, rfl, _, rfl⟩ (Nat.le_refl _) (by rw [List.size_toArray, List.length_cons]; (first | lia | omega)) (fun h' F' N' => h _ _ (C.more1 F' N' fun p hp => Nat.lt_succ_of_lt (C.lt p hp))) hs ht (by rw [List.size_toArray, List.length_cons, sizeLine_eq]; (first | lia | omega))
theorem r_unpack {elts : List Expr} {kk : Nat} {pos : Pos} {vs : List Value} {Q : Unit → Shared → Prop} (C : Cx k s₀ g L s m R) (ha : s.heap.get? a = some (tupO vs)) (hh : A.handled = none) (hn : (assignEach elts env).length = vs.length) (hstar : (assignEach elts env).findIdx? (·.1) = none)
    (h : ∀ s', Cx k s₀ g L s' m R → wpAny (model P9 w) A (assignInOrder ((assignEach elts env).map (·.2)) vs) Q E s') : wpAny (model P9 w) A (assign (.Tuple elts kk pos) env (.ref a)) Q E s :=
  unpackN_ (items := vs.toArray) C.F C.N ⟨_, ha, rfl, _, rfl⟩ hh (by rw [List.size_toArray]; exact hn) hstar fun h' F' N' => h _ (C.at F' N' C.nd)
end
noncomputable def ResAt (h : Heap) (r : Addr) (l1 l2 l3 l4 : List Tx) : Prop := ∃ a1 a2 a3 a4 a5 v1 v2 v3 v4 c c1 c2 c3 c4, h.get? r = some (lo [.ref a1, .ref a2, .ref a5] c) ∧ h.get? a1 = some (lo v1 c1) ∧ SVs v1 l1 ∧ h.get? a2 = some (tupO [.ref a3, .ref a4]) ∧ h.get? a3 = some (lo v2 c2) ∧ SVs v2 l2 ∧
  h.get? a4 = some (lo v3 c3) ∧ SVs v3 l3 ∧ h.get? a5 = some (lo v4 c4) ∧ SVs v4 l4
theorem ResAt.keeps {h h' : Heap} {r : Addr} {l1 l2 l3 l4 : List Tx} (x : ResAt h r l1 l2 l3 l4) (k : h.StaysIn h') : ResAt h' r l1 l2 l3 l4 := by
  obtain ⟨a1, a2, a3, a4, a5, v1, v2, v3, v4, c, c1, c2, c3, c4, e1, e2, e3, e4, e5, e6, e7, e8, e9, e10⟩ := x
  exact ⟨a1, a2, a3, a4, a5, v1, v2, v3, v4, c, c1, c2, c3, c4, k _ _ e1, k _ _ e2, e3, k _ _ e4, k _ _ e5, e6, k _ _ e7, e8, k _ _ e9, e10⟩
theorem SVs.reverse {vs : List Value} {ws : List Tx} (h : SVs vs ws) : SVs vs.reverse ws.reverse := by
  induction h with
  | nil => exact .nil
  | cons _ ih => rw [List.reverse_cons, List.reverse_cons]; exact ih.append (.cons .nil)
/-! _law_due -/
noncomputable def rowT (names : List Tx) (tops : List Int) : List Tx := (ordT tops (tops.length + 1) (-1)).map fun j => names.getD j []
noncomputable def ansT (out : List Tx) (row : List Tx) : List Tx := row.map fun x => if hit out x = true then [49] else [48]
theorem nat_ints_at {us : List Value} {l : List Nat} (h : IntsAre us (l.map fun k : Nat => (k : Int))) {i : Nat} {v : Value} (hv : us[i]? = some v) : ∃ j t, l[i]? = some j ∧ v = .int (j : Int) t := by
  have hl := IntsAre.len' h
  have hi : i < us.length := (List.getElem?_eq_some_iff.mp hv).1
  rw [hl, List.length_map] at hi
  obtain ⟨t, e⟩ := IntsAre.at' h (i := i) (by rw [List.length_map]; exact hi)
  refine ⟨l[i], t, List.getElem?_eq_getElem hi, ?_⟩
  rw [hv] at e
  rw [Option.some.inj e]
  congr 1
  simp [List.getD, hi]
theorem e_zero : Str.ofString "0" = S [48] := by decide +kernel
theorem e_one : Str.ofString "1" = S [49] := by decide +kernel
inductive DInv (r : Addr) (us : List Value) (c : Nat) (an go ke t3 a2 a3 a4 : Addr) (names : List Tx) (tops : List Int) (out : List Tx) (i : Nat) (m' : Str → Option Value) (R' : List (Addr × Obj)) : Prop
  | mk (va : List Value) (ca : Nat) (vg : List Value) (cg : Nat) (vk : List Value) (ck : Nat) (e : R' = [(r, lo us c), (an, lo va ca), (go, lo vg cg), (ke, lo vk ck), (t3, tupO [.ref a2, .ref a3, .ref a4])])
    (g1 : m' (Str.ofString "tops") = some (.ref a2)) (g2 : m' (Str.ofString "names") = some (.ref a3)) (g3 : m' (Str.ofString "out") = some (.ref a4)) (g4 : m' (Str.ofString "kept") = some (.ref ke)) (g5 : m' (Str.ofString "gone") = some (.ref go)) (g6 : m' (Str.ofString "answers") = some (.ref an))
    (h1 : SVs vk (((rowT names tops).take i).filter fun x => !hit out x)) (h2 : SVs vg (((rowT names tops).take i).filter fun x => hit out x)) (h3 : SVs va (ansT out ((rowT names tops).take i))) (h4 : i ≤ us.length) : DInv r us c an go ke t3 a2 a3 a4 names tops out i m' R'
inductive DAt (k : Bool) (s : Shared) (gg : Heap) (L an go ke a2 a3 a4 : Addr) (N : List (Addr × Obj)) (j : Nat) (t : Tok) (top' : Int) (s' : Shared) : Prop
  | mk (m' : Str → Option Value) (t' : Tok) (hC : Cx k s gg L s' m' N)
    (g1 : m' (Str.ofString "tops") = some (.ref a2)) (g2 : m' (Str.ofString "names") = some (.ref a3)) (g3 : m' (Str.ofString "out") = some (.ref a4)) (g4 : m' (Str.ofString "kept") = some (.ref ke)) (g5 : m' (Str.ofString "gone") = some (.ref go)) (g6 : m' (Str.ofString "answers") = some (.ref an))
    (g7 : m' (Str.ofString "k") = some (.int (j : Int) t)) (g8 : m' (Str.ofString "top") = some (.int top' t')) : DAt k s gg L an go ke a2 a3 a4 N j t top' s'
inductive DTl (k : Bool) (s : Shared) (gg : Heap) (L an go ke a2 a3 a4 : Addr) (N : List (Addr × Obj)) (j : Nat) (t : Tok) (names out : List Tx) (s' : Shared) : Prop
  | mk (top' : Int) (h1 : DAt k s gg L an go ke a2 a3 a4 N j t top' s') (h2 : (top' < 0 ∧ hit out (names.getD j []) = false) ∨ (0 ≤ top' ∧ hit out (names.getD j []) = true)) : DTl k s gg L an go ke a2 a3 a4 N j t names out s'
inductive DWh (k : Bool) (s : Shared) (gg : Heap) (L an go ke a2 a3 a4 : Addr) (N : List (Addr × Obj)) (j : Nat) (t : Tok) (names out : List Tx) (tops : List Int) (n : Nat) (s' : Shared) : Prop
  | mk (top' : Int) (h1 : DAt k s gg L an go ke a2 a3 a4 N j t top' s') (b1 : -1 ≤ top') (b2 : top' < tops.length) (b3 : top' < 0 → hit out (names.getD j []) = false) (b4 : 0 ≤ top' → hit out (names.getD j []) = hit out (names.getD top'.toNat [])) (b5 : n = (top' + 1).toNat) : DWh k s gg L an go ke a2 a3 a4 N j t names out tops n s'
theorem due_ok {k : Bool} {w : World} {mg mb : Str → Option Value} {texts names out : List Tx} {tops : List Int} (Wo : Words texts tops names) {A : Around} {s : Shared} {fa a1 a2 a3 a4 : Addr} {vt vn vo : List Value} {ct cn co : Nat} {Q E : Value → Shared → Prop}
    (W : Wd w mg mb s.heap) (R : Rm A 30 200) (hf : s.heap.get? fa = some (tupO [.ref a1, .ref a2, .ref a3, .ref a4])) (h2 : s.heap.get? a2 = some (lo vt ct)) (hvt : IntsAre vt tops) (h3 : s.heap.get? a3 = some (lo vn cn)) (hvn : SVs vn names) (h4 : s.heap.get? a4 = some (lo vo co)) (hvo : SVs vo out) (hlo : vo.length ≤ 1000)
    (h : ∀ r s', s.heap.StaysIn s'.heap → Stp k s s' → ResAt s'.heap r ((rowT names tops).filter fun x => !hit out x) ((rowT names tops).filter fun x => hit out x).reverse [] (ansT out (rowT names tops) ++ ansT out (rowT names tops)) → Q (.ref r) s') :
    wpAny (model P9 w) A (call (.ref 864) [.ref fa]) Q E s := by
  have hn6 := Wo.few
  have hl2 := Wo.len2
  have hlv := IntsAre.len' hvt
  have hlvn := hvn.length
  refine wpAny_call ?_
  refine' enter (k := k) (binds := [(Str.ofString "forest", .ref fa)]) W R.room ?ho ?hcd ?hb ?hl ?hr ?_ ?h1 ?h2 ?h3 ?h4
  k_call_by "ent" 0
  intro L s1 C hL
  refine hideQ fun Qt hQt => ?_
  obtain ⟨gg, hgg⟩ : ∃ x, x = s.heap := ⟨_, rfl⟩
  rw [← hgg] at C W hf h2 h3 h4
  have il2 : ∀ {s' : Shared} {m' R'}, Cx k s gg L s' m' R' → s'.heap.IsList a2 vt.toArray := fun K => ⟨_, K.keep _ _ h2, rfl, ct, rfl⟩
  have il3 : ∀ {s' : Shared} {m' R'}, Cx k s gg L s' m' R' → s'.heap.IsList a3 vn.toArray := fun K => ⟨_, K.keep _ _ h3, rfl, cn, rfl⟩
  have il4 : ∀ {s' : Shared} {m' R'}, Cx k s gg L s' m' R' → s'.heap.IsList a4 vo.toArray := fun K => ⟨_, K.keep _ _ h4, rfl, co, rfl⟩
  k_call_by "go" 0
  refine Assign_Tuple ?_
  k_call_by "go" 0
  rename_i C2
  refine r_tslice1 C2 (C2.keep _ _ hf) (by simp) fun t3 s3 C3 => ?_
  refine r_unpack C3 (C3.get (.head _)) (Rm.deeper (d := 0) (u := 0) (R.le (by first | decide | (first | lia | omega)) (by first | decide | (first | lia | omega)))).hand rfl rfl fun s4 C4 => ?_
  iterate 3
    refine assignInOrder_cons ?_
    show wpAny _ _ (assign (.Name _ _) _ _) _ _ _
    refine wpAny_assign_Name ?_
    k_call_by "st" 0
  refine assignInOrder_nil ?_
  k_call_by "go" 0
  rename_i C5
  refine r_list0 C5 fun ke s6 C6 => ?_
  k_call_by "go" 0
  rename_i C7
  refine r_list0 C7 fun go s8 C8 => ?_
  k_call_by "go" 0
  rename_i C9
  refine r_list0 C9 fun an s10 C10 => ?_
  k_call_by "go" 0
  rename_i C11
  refine wpAny_For ?_
  k_call_by "go" 0
  rename_i C12
  have hlen : ∀ f top, (ordT tops f top).length ≤ 1000 := fun f top => by
    have h1 := ord_len Wo f top
    have h2 : ordB (dpt names top) ≤ 258 := by
      have : dpt names top ≤ 3 := by unfold dpt; split <;> (first | lia | omega)
      rcases (by (first | lia | omega) : dpt names top = 0 ∨ dpt names top = 1 ∨ dpt names top = 2 ∨ dpt names top = 3) with h | h | h | h <;> rw [h] <;> decide
    (first | lia | omega)
  refine order_ok (k := k) (by (first | lia | omega)) Wo.high hlen (tops.length + 1) (W.keeps C12.keep) (Rm.deeper (R.le (by first | decide | (first | lia | omega)) (by first | decide | (first | lia | omega)))) (il2 C12) hvt (by (first | lia | omega)) (by (first | lia | omega)) fun r us c s13 k13 st13 n13 e13 hus => ?_
  have C13 := C12.more (C12.back0 k13 st13) n13 e13
  try dsimp only
  have hul : us.length = (ordT tops (tops.length + 1) (-1)).length := by rw [IntsAre.len' hus, List.length_map]
  have hul2 := hlen (tops.length + 1) (-1)
  have hmem : ∀ i j, (ordT tops (tops.length + 1) (-1))[i]? = some j → j < tops.length := fun i j e => ord_mem _ _ _ (List.mem_of_getElem? e)
  refine for_list (vs := us) (Rm.deeper (d := 0) (u := 0) (R.le (by first | decide | (first | lia | omega)) (by first | decide | (first | lia | omega)))).hand (DInv r us c an go ke t3 a2 a3 a4 names tops out) C13 (C13.isList (.head _))
    (fun i m R s' I o ⟨va, ca, vg, cg, vk, ck, e, _, _, _, _, _, _, _, _, _, _⟩ K => by subst e; exact K.isList (.tail _ (.head _))) (by k_call_by "kd" 0) rfl
    ⟨[], 0, [], 0, [], 0, rfl, by k_call_by "lk" 0, by k_call_by "lk" 0, by k_call_by "lk" 0, by k_call_by "lk" 0, by k_call_by "lk" 0, by k_call_by "lk" 0, .nil, .nil, .nil, Nat.zero_le _⟩ ?turn ?done
  case turn =>
    rintro i v m6 R6 s6 I oI hvi ⟨va, ca, vg, cg, vk, ck, rfl, g1, g2, g3, g4, g5, g6, hvk, hvg, hva, hi⟩ C6
    refine hideQ fun Qt hQt => ?_
    obtain ⟨j, t, hj, rfl⟩ := nat_ints_at hus hvi
    have hjn := hmem i j hj
    have hiu : i < us.length := (List.getElem?_eq_some_iff.mp hvi).1
    have hrow : (rowT names tops)[i]? = some (names.getD j []) := by unfold rowT; rw [List.getElem?_map, hj]; rfl
    have htake : (rowT names tops).take (i + 1) = (rowT names tops).take i ++ [names.getD j []] := by rw [List.take_add_one, hrow]; rfl
    k_call_by "go" 0
    rename_i C7
    refine wpAny_mono (Q := fun f s' => f = .next ∧ DTl k s gg L an go ke a2 a3 a4 [(I, oI), (r, lo us c), (an, lo va ca), (go, lo vg cg), (ke, lo vk ck), (t3, tupO [.ref a2, .ref a3, .ref a4])] j t names out s') (E := fun _ _ => False) ?wh ?tail fun _ _ z => z.elim
    case wh =>
      refine r_whileH (M := model P9 w) (DWh k s gg L an go ke a2 a3 a4 [(I, oI), (r, lo us c), (an, lo va ca), (go, lo vg cg), (ke, lo vk ck), (t3, tupO [.ref a2, .ref a3, .ref a4])] j t names out tops) ?turn2 ((j : Int) + 1).toNat
        ⟨(j : Int), ⟨_, t, C7, by k_call_by "lk" 0, by k_call_by "lk" 0, by k_call_by "lk" 0, by k_call_by "lk" 0, by k_call_by "lk" 0, by k_call_by "lk" 0, by k_call_by "lk" 0, by k_call_by "lk" 0⟩, by (first | lia | omega), by (first | lia | omega), (fun q => by (first | lia | omega)), (fun _ => by rw [Int.toNat_natCast]), rfl⟩
      rintro n s8 ⟨top8, ⟨m8, t8, C8, f1, f2, f3, f4, f5, f6, f7, f8⟩, b1, b2, b3, b4, rfl⟩ Qw hQw
      k_call_by "go" 0
      by_cases h0 : 0 ≤ top8
      · refine if_t (decide_eq_true h0) ?_
        have hlt : top8.toNat < tops.length := by (first | lia | omega)
        obtain ⟨tt, htt⟩ := hvn.at' (i := top8.toNat) (by (first | lia | omega))
        k_call_by "go" 0
        rename_i C9
        refine r_item (il3 C9) h0 htt (by (first | lia | omega)) ?_
        k_call_by "go" 0
        refine r_ninS (il4 C9) hvo ?_
        k_call_by "go" 0
        have hW := Wo.hit out hlt
        by_cases hin : names.getD top8.toNat [] ∈ out
        · rw [decide_eq_true hin] at hW
          refine if_f (by rw [decide_eq_true hin]; rfl) ?_
          k_call_by "go" 0
          exact ⟨rfl, top8, ⟨m8, t8, C9, f1, f2, f3, f4, f5, f6, f7, f8⟩, .inr ⟨h0, by rw [b4 h0, hW]; rfl⟩⟩
        · rw [decide_eq_false hin] at hW
          refine if_t (by rw [decide_eq_false hin]; rfl) ?_
          k_call_by "go" 0
          obtain ⟨ti, hti⟩ := IntsAre.at' hvt (i := top8.toNat) hlt
          refine r_item (il2 C9) h0 hti (by (first | lia | omega)) ?_
          k_call_by "go" 0
          rename_i C10
          have hlow := Wo.low _ hlt
          have hhigh := Wo.high _ hlt
          refine ⟨(tops.getD top8.toNat 0 + 1).toNat, by (first | lia | omega), tops.getD top8.toNat 0, ⟨_, ti, C10, by k_call_by "lk" 0, by k_call_by "lk" 0, by k_call_by "lk" 0, by k_call_by "lk" 0, by k_call_by "lk" 0, by k_call_by "lk" 0, by k_call_by "lk" 0, by k_call_by "lk" 0⟩, hlow, by (first | lia | omega), (fun q => ?_), (fun q => ?_), rfl⟩
          · rw [b4 h0, hW, decide_eq_false (by (first | lia | omega) : ¬ 0 ≤ tops.getD top8.toNat 0)]; rfl
          · rw [b4 h0, hW, decide_eq_true q]; rfl
      · refine if_f (decide_eq_false h0) ?_
        k_call_by "go" 0
        rename_i C9
        exact ⟨rfl, top8, ⟨m8, t8, C9, f1, f2, f3, f4, f5, f6, f7, f8⟩, .inl ⟨by (first | lia | omega), b3 (by (first | lia | omega))⟩⟩
    case tail =>
      rintro fl s8 ⟨rfl, top8, ⟨m8, t8, C8, f1, f2, f3, f4, f5, f6, f7, f8⟩, hcase⟩
      refine hideQ fun Qt hQt => ?_
      obtain ⟨tt, htt⟩ := hvn.at' (i := j) (by (first | lia | omega))
      have hvkl := hvk.length
      have hvgl := hvg.length
      have hval := hva.length
      have hk1 := List.length_filter_le (fun x => !hit out x) ((rowT names tops).take i)
      have hg1 := List.length_filter_le (fun x => hit out x) ((rowT names tops).take i)
      have ha1 : (ansT out ((rowT names tops).take i)).length = ((rowT names tops).take i).length := List.length_map ..
      have ht1 : ((rowT names tops).take i).length ≤ i := by rw [List.length_take]; exact Nat.min_le_left _ _
      k_call_by "go" 0
      rcases hcase with ⟨h0, hh⟩ | ⟨h0, hh⟩
      · refine if_t (decide_eq_true h0) ?_
        k_call_by "go" 0
        rename_i C9
        refine r_item (il3 C9) (by (first | lia | omega)) (by rw [Int.toNat_natCast]; exact htt) (by (first | lia | omega)) ?_
        k_call_by "app" 0
        k_call_by "go" 0
        k_call_by "app" 0
        k_call_by "go" 0
        rename_i tz _ _ C11
        rw [e_zero] at C11
        refine ⟨_, _, C11, va ++ [.str (S [48]) tz], ca + 1, vg, cg, vk ++ [.str (S (names.getD j [])) tt], ck + 1, rfl, by k_call_by "lk" 0, by k_call_by "lk" 0, by k_call_by "lk" 0, by k_call_by "lk" 0, by k_call_by "lk" 0, by k_call_by "lk" 0, ?_, ?_, ?_, hiu⟩
        · rw [htake, List.filter_append, List.filter_cons, hh]; exact hvk.append (.cons .nil)
        · rw [htake, List.filter_append, List.filter_cons, hh]; simpa using hvg
        · rw [htake]; unfold ansT at hva ⊢; rw [List.map_append, List.map_cons, hh]; exact hva.append (.cons .nil)
      · refine if_f (decide_eq_false (by (first | lia | omega))) ?_
        k_call_by "go" 0
        rename_i C9
        refine r_item (il3 C9) (by (first | lia | omega)) (by rw [Int.toNat_natCast]; exact htt) (by (first | lia | omega)) ?_
        k_call_by "app" 0
        k_call_by "go" 0
        k_call_by "app" 0
        k_call_by "go" 0
        rename_i tz _ _ C11
        rw [e_one] at C11
        refine ⟨_, _, C11, va ++ [.str (S [49]) tz], ca + 1, vg ++ [.str (S (names.getD j [])) tt], cg + 1, vk, ck, rfl, by k_call_by "lk" 0, by k_call_by "lk" 0, by k_call_by "lk" 0, by k_call_by "lk" 0, by k_call_by "lk" 0, by k_call_by "lk" 0, ?_, ?_, ?_, hiu⟩
        · rw [htake, List.filter_append, List.filter_cons, hh]; simpa using hvk
        · rw [htake, List.filter_append, List.filter_cons, hh]; exact hvg.append (.cons .nil)
        · rw [htake]; unfold ansT at hva ⊢; rw [List.map_append, List.map_cons, hh]; exact hva.append (.cons .nil)
  case done =>
    rintro m6 R6 s6 ⟨va, ca, vg, cg, vk, ck, rfl, g1, g2, g3, g4, g5, g6, hvk, hvg, hva, hi⟩ C6
    refine hideQ fun Qt hQt => ?_
    have htk : (rowT names tops).take us.length = rowT names tops := List.take_of_length_le (by unfold rowT; rw [List.length_map, hul]; exact Nat.le_refl _)
    rw [htk] at hvk hvg hva
    have hrl : (rowT names tops).length ≤ 1000 := by unfold rowT; rw [List.length_map]; exact hul2
    have hvgl := hvg.length
    have hval := hva.length
    have hg1 := List.length_filter_le (fun x => hit out x) (rowT names tops)
    have ha1 : (ansT out (rowT names tops)).length = (rowT names tops).length := List.length_map ..
    k_call_by "go" 0
    refine r_list3 (k := k) (s₀ := s) (g := gg) (L := L) rfl ?_
    k_call_by "go" 0
    refine r_tup2n (k := k) (s₀ := s) (g := gg) (L := L) rfl ?_
    k_call_by "go" 0
    rename_i C7
    refine r_rev C7 (C7.isList (by k_call_by "mem" 0)) (by (first | lia | omega)) fun d1 s8 C8 => ?_
    refine r_list0 C8 fun d2 s9 C9 => ?_
    refine ⟨_, _, _, rfl, C9, fun tp s10 C10 => ?_⟩
    k_call_by "go" 0
    refine r_ladd C10 (C10.isList (by k_call_by "mem" 0)) (C10.isList (by k_call_by "mem" 0)) (by (first | lia | omega)) fun d3 s11 C11 => ?_
    refine ⟨_, _, _, rfl, C11, fun rr s12 C12 => ?_⟩
    try dsimp only
    subst hgg
    k_call_by "go" 0
    refine h rr s12 C12.keep C12.st ⟨ke, tp, d1, d2, d3, vk, _, [], _, 0, ck, 0, 0, 0, C12.get (p := (rr, _)) (.head _), C12.get (p := (ke, lo vk ck)) (by k_call_by "mem" 0), hvk, C12.get (p := (tp, tupO [.ref d1, .ref d2])) (by k_call_by "mem" 0), C12.get (p := (d1, lo vg.reverse 0)) (by k_call_by "mem" 0), hvg.reverse, C12.get (p := (d2, lo [] 0)) (by k_call_by "mem" 0), .nil, C12.get (p := (d3, lo (va ++ va) 0)) (by k_call_by "mem" 0), hva.append hva⟩
/-! sets of texts -/
namespace SF
theorem entry_set_iter : entryFor table "set.__iter__" = some Builtin.«frozenset.__iter__» := entryFor_alias (id' := "frozenset.__iter__") (by kernel_rfl) rfl (by decide +kernel) (by kernel_rfl)
theorem slot_seti_next : Slot "set_iterator" "__next__" "set_iterator.__next__" :=
  .of (owner := "set_iterator") (n := "__next__") (by rw [typeLookup_type, builtinLookup_eq_fast]; kernel_rfl) (by decide +kernel) (by decide +kernel) (by decide +kernel)
    (by first | exact .inl (by decide +kernel) | exact .inr (by decide +kernel)) (by rw [isSubtype_type]; kernel_rfl)
theorem entry_seti_next : entryFor table "set_iterator.__next__" = some Builtin.«set_iterator.__next__» := entryFor_of_tree (by kernel_rfl)
theorem owner_seti : Manifest.owners.lookup (String.ofList ['r', 'o', 't', 'a', 'r', 'e', 't', 'i', '_', 't', 'e', 's'].reverse) = some Manifest.sig_set_iterator := by kernel_rfl
theorem args_seti_next (a : Value) : argsOk "set_iterator.__next__" ⟨[a], []⟩ := by
  unfold argsOk; rw [signature?_of (id := "set_iterator.__next__") (n := ['_', '_', 't', 'x', 'e', 'n', '_', '_']) (o := ['r', 'o', 't', 'a', 'r', 'e', 't', 'i', '_', 't', 'e', 's']) (by kernel_rfl) owner_seti]; kernel_rfl
theorem slot_seti_iter : Slot "set_iterator" "__iter__" "set_iterator.__iter__" :=
  .of (owner := "set_iterator") (n := "__iter__") (by rw [typeLookup_type, builtinLookup_eq_fast]; kernel_rfl) (by decide +kernel) (by decide +kernel) (by decide +kernel)
    (by first | exact .inl (by decide +kernel) | exact .inr (by decide +kernel)) (by rw [isSubtype_type]; kernel_rfl)
theorem entry_seti_iter : entryFor table "set_iterator.__iter__" = some Builtin.«dict_keyiterator.__iter__» :=
  entryFor_alias (id' := "dict_keyiterator.__iter__") (by kernel_rfl) rfl (by decide +kernel) (by kernel_rfl)
theorem args_seti_iter (a : Value) : argsOk "set_iterator.__iter__" ⟨[a], []⟩ := by
  unfold argsOk; rw [signature?_of (id := "set_iterator.__iter__") (n := ['_', '_', 'r', 'e', 't', 'i', '_', '_']) (o := ['r', 'o', 't', 'a', 'r', 'e', 't', 'i', '_', 't', 'e', 's']) (by kernel_rfl) owner_seti]; kernel_rfl
end SF
/-- a set of texts, its table led as this world has it, plain only while empty -/
noncomputable def SSet (w : World) (n : Nat) (o : Obj) (S : Str → Bool) : Prop := o.ExactSet ∧ ∃ es ep t, o.data = .set es ep t ∧ ElemsOf (strKind P9 w) es.toList ∧ (∀ k, S k = true ↔ ∃ e ∈ es.toList, (strKind P9 w).is k e.2 = true) ∧
  es.size ≤ n ∧ t.fits es.size = true ∧ t.led = (!w.params.followText "set-order") ∧ (es.size ≠ 0 → t.plain = false)
theorem SSet.congr {w : World} {n : Nat} {o : Obj} {S S' : Str → Bool} (h : SSet w n o S) (e : ∀ k, S k = S' k) : SSet w n o S' := by
  have : S = S' := funext e
  subst this; exact h
theorem SSet.obj {w : World} {n : Nat} {o : Obj} {S : Str → Bool} (h : SSet w n o S) : ∃ m, m ≤ n ∧ o.SetObjOf (strKind P9 w) S m :=
  let ⟨hex, es, ep, t, hd, hel, hm, hn, hf, _, _⟩ := h; ⟨es.size, hn, hex, es, ep, t, hd, hel, hm, rfl, hf⟩
theorem osi_led (t : SetTable) (n : Nat) : (t.orStandIn n).led = t.led ∧ (t.plain = false → (t.orStandIn n).plain = false) := by
  unfold SetTable.orStandIn
  split
  · exact ⟨rfl, id⟩
  · exact ⟨rfl, fun _ => rfl⟩
theorem lay_led (t : SetTable) (es : Array (Int × Value)) (h : Int) (x : Value) : (layNew t es h x).2.1.led = t.led ∧ (t.plain = false → (layNew t es h x).2.1.plain = false) := by
  unfold layNew
  cases t.freeSlot h with
  | none => exact ⟨rfl, fun _ => rfl⟩
  | some p =>
    obtain ⟨slot, wd⟩ := p
    exact osi_led (t.put slot).1 _
theorem laid_led {mask f m : Nat} {l p : Bool} {hs : Array Int} {r} (h : SetTable.laid mask f m l p hs = some r) : r.1.led = l ∧ r.1.plain = p := by
  unfold SetTable.laid at h
  cases e : SetTable.layClean mask hs with
  | none => rw [e] at h; cases h
  | some ow => rw [e] at h; cases h; exact ⟨rfl, rfl⟩
theorem relay_led (t : SetTable) (es : Array (Int × Value)) (n : Nat) : (relayAll t es n).2.1.led = t.led ∧ (t.plain = false → (relayAll t es n).2.1.plain = false) := by
  unfold relayAll
  split
  · rename_i t' ord e
    have := laid_led e
    dsimp only at this ⊢
    split
    · exact ⟨this.1, fun h => this.2.trans h⟩
    · exact ⟨rfl, fun _ => rfl⟩
  · exact ⟨rfl, fun _ => rfl⟩
section
variable {w : World} {A : Around} {E : Value → Shared → Prop} {s : Shared} {n : Nat}
theorem sset_put {a : Addr} {o : Obj} {es : Array (Int × Value)} {ep : Nat} {t : SetTable} (ho : s.heap.get? a = some o) (hex : o.ExactSet) (hd : o.data = .set es ep t) {es' : Array (Int × Value)} {t' : SetTable} {S' : Str → Bool}
    (hel : ElemsOf (strKind P9 w) es'.toList) (hm : ∀ k, S' k = true ↔ ∃ e ∈ es'.toList, (strKind P9 w).is k e.2 = true) (hz : es'.size ≤ n) (hf : t'.fits es'.size = true) (hl : t'.led = (!w.params.followText "set-order")) (hp : t'.plain = false) :
    ∃ o', (s.heap.update a (Obj.putSet es' t')).get? a = some o' ∧ SSet w n o' S' ∧ o'.ExactSet ∧ o'.data = .set es' (ep + 1) t' := by
  have hg : (s.heap.update a (Obj.putSet es' t')).get? a = some { o with data := .set es' (ep + 1) t' } := by
    have := Heap.get?_update_self (Obj.putSet es' t') ho (by rw [putSet_of es' t' hd]; rfl)
    rw [putSet_of es' t' hd] at this; exact this
  exact ⟨_, hg, ⟨hex, es', ep + 1, t', rfl, hel, hm, hz, hf, hl, fun _ => hp⟩, hex, rfl⟩
theorem sset_tail {g : Bool → Sem Unit} (hg : ∀ (b : Bool) (s₁ : Shared) (Q' : Unit → Shared → Prop), Q' () s₁ → wpAny (model P9 w) A (g b) Q' E s₁)
    {a : Addr} {o : Obj} {es : Array (Int × Value)} {ep : Nat} {t : SetTable} (ho : s.heap.get? a = some o) (hex : o.ExactSet) (hd : o.data = .set es ep t)
    {es1 : Array (Int × Value)} {t2 : SetTable} {S' : Str → Bool} (hel1 : ElemsOf (strKind P9 w) es1.toList) (hmem1 : ∀ k', S' k' = true ↔ ∃ e ∈ es1.toList, (strKind P9 w).is k' e.2 = true)
    (hz : es1.size ≤ n) (hb1 : n < scanBound) (hf2 : t2.fits es1.size = true) (hl : t2.led = (!w.params.followText "set-order")) (hp : t2.plain = false) {wasDummy : Bool} {R : Option Bool → Shared → Prop}
    (h : ∀ h' o', Heap.SameBut a s.heap h' → h'.get? a = some o' → SSet w n o' S' → R (some true) { s with heap := h' }) :
    wpAny (model P9 w) A (do
        storeSet a es1 t2
        if (!wasDummy && t2.tooFull) = true then do
            g (relayAll t2 es1 (SetTable.grown es1.size)).2.2
            storeSet a (relayAll t2 es1 (SetTable.grown es1.size)).1 (relayAll t2 es1 (SetTable.grown es1.size)).2.1
            pure (some true)
          else pure (some true)) R E s := by
  refine wpAny_bind (wpAny_storeSet_of ho hd ?_ (fits_of_scanBound (by (first | lia | omega))))
  obtain ⟨o1, ho1, hS1, hex1, hd1⟩ := sset_put (n := n) ho hex hd hel1 hmem1 hz hf2 hl hp
  have hsb1 := Heap.SameBut.update s.heap a (Obj.putSet es1 t2)
  split
  · have hpm := relayAll_perm t2 es1 (SetTable.grown es1.size)
    have hfr := relayAll_fits t2 es1 (SetTable.grown es1.size)
    have hld := relay_led t2 es1 (SetTable.grown es1.size)
    generalize hRl : relayAll t2 es1 (SetTable.grown es1.size) = Rl at hpm hfr hld ⊢
    obtain ⟨es2, t3, gave2⟩ := Rl
    dsimp only at hpm hfr hld ⊢
    have hel2 : ElemsOf (strKind P9 w) es2.toList := hel1.perm hpm
    have hmem2 : ∀ k', S' k' = true ↔ ∃ e ∈ es2.toList, (strKind P9 w).is k' e.2 = true := fun k' => (hmem1 k').trans ⟨fun ⟨e, he, q⟩ => ⟨e, hpm.mem_iff.mpr he, q⟩, fun ⟨e, he, q⟩ => ⟨e, hpm.mem_iff.mp he, q⟩⟩
    have hsz : es2.size = es1.size := by rw [← Array.length_toList, hpm.length_eq, Array.length_toList]
    refine wpAny_bind (hg _ _ _ ?_)
    refine wpAny_bind (wpAny_storeSet_of ho1 hd1 ?_ (fits_of_scanBound (by (first | lia | omega))))
    obtain ⟨o2, ho2, hS2, -, -⟩ := sset_put (s := { s with heap := s.heap.update a (Obj.putSet es1 t2) }) (n := n) ho1 hex1 hd1 hel2 hmem2 (by (first | lia | omega)) hfr (hld.1.trans hl) (hld.2 hp)
    exact wpAny_pure (h _ o2 (hsb1.trans (Heap.SameBut.update _ a _)) ho2 hS2)
  · exact wpAny_pure (h _ o1 hsb1 ho1 hS1)
theorem sset_add {a : Addr} {o : Obj} {S : Str → Bool} {x : Str} {tk : Tok} {Q : Bool → Shared → Prop} (ho : s.heap.get? a = some o) (hS : SSet w n o S) (hroom : n + 1 < scanBound)
    (h : ∀ b h' o', Heap.SameBut a s.heap h' → h'.get? a = some o' → SSet w (n + 1) o' (fun k' => S k' || decide (k' = x)) → Q b { s with heap := h' }) :
    wpAny (model P9 w) A (setAddHashed a (.str x tk) ((strKind P9 w).hash x)) Q E s := by
  have hkey : (strKind P9 w).is x (.str x tk) = true := strKind_is _ _ _ _
  have hsc : (Value.str x tk).scannable = true := rfl
  obtain ⟨hex, es, ep, t, hd, hel, hmem, hb, hf, hl, hp⟩ := hS
  unfold setAddHashed setAddHashedIn
  refine wpAny_holding (wpAny_bind (wpAny_setState_of ho hd hf ?_))
  try dsimp only
  rw [byScan_of hsc (by (first | lia | omega)) hel]
  simp only [↓reduceIte]
  unfold setAddByScan
  refine wpAny_bind ?_
  refine wpAny_bind (wpAny_rule ?_)
  refine wpAny_bind (wpAny_setScan_of hkey ho hd hf hel ?_)
  cases hr : List.findIdx? (fun e => (strKind P9 w).is x e.2) es.toList with
  | some j =>
    try dsimp only
    obtain ⟨hj, hpj, _⟩ := List.findIdx?_eq_some_iff_getElem.mp hr
    have hSk : S x = true := (hmem x).mpr ⟨es.toList[j], List.getElem_mem hj, hpj⟩
    refine wpAny_pure (wpAny_pure ?_)
    have e : s = { s with heap := s.heap } := by cases s; rfl
    rw [e]
    exact h _ s.heap o (Heap.SameBut.refl a s.heap) ho ⟨hex, es, ep, t, hd, hel, fun k' => by
      rw [Bool.or_eq_true, decide_eq_true_eq, ← hmem k']
      exact ⟨fun hk => hk.elim id (fun e => e ▸ hSk), .inl⟩, by (first | lia | omega), hf, hl, hp⟩
  | none =>
    try dsimp only
    have hgw : ∀ (b : Bool) {s₁ : Shared} {Q' : Unit → Shared → Prop}, Q' () s₁ → wpAny (model P9 w) A (match b with | true => rule "set.scan.the-table-gave-way" | false => pure ()) Q' E s₁ :=
      fun b s₁ Q' hq => by cases b <;> first | exact wpAny_pure hq | exact wpAny_rule hq
    have hperm := layNew_perm t es ((strKind P9 w).hash x) (.str x tk)
    have hfits := layNew_fits t es ((strKind P9 w).hash x) (.str x tk)
    have hled := lay_led t es ((strKind P9 w).hash x) (.str x tk)
    generalize hL : layNew t es ((strKind P9 w).hash x) (.str x tk) = L at hperm hfits hled ⊢
    obtain ⟨es1, t1, wasDummy, gave⟩ := L
    dsimp only at hperm hfits hled ⊢
    rw [Array.toList_push] at hperm
    have hel1 : ElemsOf (strKind P9 w) es1.toList := (hel.push hkey hsc).perm hperm
    have hmem1 : ∀ k', (S k' || decide (k' = x)) = true ↔ ∃ e ∈ es1.toList, (strKind P9 w).is k' e.2 = true := mem_push_iff hkey hmem hperm
    have hz1 : es1.size ≤ n + 1 := by rw [← Array.length_toList, hperm.length_eq, List.length_append, Array.length_toList]; simpa using hb
    refine wpAny_bind (hgw _ ?_)
    split
    · refine wpAny_bind ?_
      rw [hashByValue_scannable 8 hsc]
      refine wpAny_pure ?_
      refine sset_tail (n := n + 1) ?_ ho hex hd hel1 hmem1 hz1 hroom ?_ ?_ ?_ ?_
      · intro b s₁ Q' hq; cases b <;> first | exact wpAny_pure hq | exact wpAny_rule hq
      · split
        · exact hfits
        · exact SetTable.fits_plain_off hfits
      · simp only [plainKind, Bool.false_eq_true, if_false]
        exact hled.1.trans hl
      · rfl
      · intro h' o' hsb ho' hS'; dsimp only; exact wpAny_pure (h _ h' o' hsb ho' hS')
    · rename_i hpl
      refine wpAny_bind (wpAny_pure ?_)
      simp only [↓reduceIte]
      refine sset_tail (n := n + 1) ?_ ho hex hd hel1 hmem1 hz1 hroom hfits (hled.1.trans hl) (by simpa using hpl) ?_
      · intro b s₁ Q' hq; cases b <;> first | exact wpAny_pure hq | exact wpAny_rule hq
      · intro h' o' hsb ho' hS'; dsimp only; exact wpAny_pure (h _ h' o' hsb ho' hS')
end
/-! set(a list of texts) -/
theorem sset_fresh (w : World) (n : Nat) : SSet w n { cls := .type "set", dict := none, data := .set #[] 0 (.fresh 0 0 (!w.params.followText "set-order")) } (fun _ => false) :=
  ⟨⟨rfl, rfl, rfl⟩, #[], 0, _, rfl, fun e he => by simp at he, fun k => by simp, Nat.zero_le _, by rfl, rfl, fun h => absurd rfl h⟩
section
variable {w : World} {A : Around} {E : Value → Shared → Prop} {s : Shared}
theorem sset_new1 (a : Value) {Q₁ : Value → Shared → Prop}
    (h : Q₁ (.ref s.heap.objs.size) { s with heap := s.heap.push { cls := .type "set", dict := none, data := .set #[] 0 (.fresh 0 0 (!w.params.followText "set-order")) } }) :
    codeAny (model P9 w) A (.call (.builtin "set.__new__") ⟨[.type "set", a], []⟩) (wants Q₁ E) s := by
  refine codeAny_of_tree ?_
  show wpAny _ A.in1 (do checkBuiltinCall "set.__new__" ⟨[.type "set", a], []⟩; again (.builtin "set.__new__" ⟨[.type "set", a], []⟩)) _ _ s
  refine wpAny_bind (wpAny_of_eq (F.newCall_set_1 a) (wpAny_pure ⟨plainId_quiet F.plain_set_new _, codeAny_builtin F.entry_set_new ?_⟩))
  rw [Around.under_plainId F.plain_set_new _]
  unfold Builtin.«set.__new__» Builtin.Frozenset.newClass
  have hsub := sub_set_self
  obtain ⟨hp, g, d, tk, os⟩ := s
  try dsimp only
  wp_walk
  refine wpAny_askSetting (wpAny_pure ?_)
  try dsimp only
  simp only [newObj]
  refine wpAny_bind (wpAny_alloc (wpAny_pure ?_))
  exact wpAny_pure h
theorem sset_loop {R : Result → Shared → Prop} {I S : Addr} {fp wr : List Addr} {n : Nat} {P : Nat → Value → Prop} {St : Nat → Heap → Prop} (W : Walks P9 w A.in1 I fp wr n P St) (hSf : S ∉ fp) (ts : List Str) (hts : ts.length = n)
    (hval : ∀ i v, P i v → ∃ x t, v = .str x t ∧ ts[i]? = some x) (hb : n + 1 < scanBound) :
    ∀ (k i : Nat) (s : Shared) (o : Obj), n - i = k → i ≤ n → St i s.heap → s.heap.get? S = some o → SSet w i o (fun x => decide (x ∈ ts.take i)) →
      (∀ h' tk o', h'.get? S = some o' → SSet w n o' (fun x => decide (x ∈ ts)) → (∀ b o, b ≠ S → b ∉ wr → s.heap.get? b = some o → h'.get? b = some o) → R (.ok (.ret .none)) { s with heap := h', toks := tk }) →
      codeAny (model P9 w) A (.builtin "set.update.loop" ⟨[.ref S, .ref I], []⟩) R s := by
  have hSw : S ∉ wr := fun h => hSf (W.sub _ h)
  intro k
  induction k with
  | zero =>
    intro i s o hk hi hst ho hS hR
    have hin : i = n := by (first | lia | omega)
    subst hin
    refine codeAny_builtin PyProof.Rows.F.entry_set_update_loop ?_
    rw [Around.under_plainId PyProof.Rows.F.plain_set_update_loop _]
    show wpAny _ A.in1 (pyNext (.ref I) >>= _) _ _ s
    refine wpAny_bind (W.done s _ _ hst fun h' tk hm => ?_)
    show wpAny _ A.in1 (ret Value.none) _ _ _
    refine wpAny_pure (hR h' tk o (hm S o hSw ho) (hS.congr fun x => by rw [List.take_of_length_le (by (first | lia | omega))]) fun b o' _ hb e => hm b o' hb e)
  | succ k ih =>
    intro i s o hk hi hst ho hS hR
    have hlt : i < n := by (first | lia | omega)
    refine codeAny_builtin PyProof.Rows.F.entry_set_update_loop ?_
    rw [Around.under_plainId PyProof.Rows.F.plain_set_update_loop _]
    show wpAny _ A.in1 (pyNext (.ref I) >>= _) _ _ s
    refine wpAny_bind (W.item i s _ _ hlt hst fun v h1 tk1 hP hst1 hm => ?_)
    obtain ⟨x, t, rfl, hx⟩ := hval i v hP
    show wpAny _ A.in1 (holding [Value.str x t] (setAdd S (.str x t)) >>= _) _ _ _
    refine wpAny_bind (wpAny_holding ?_)
    unfold setAdd
    refine wpAny_holding ?_
    refine wpAny_bind ((strKind P9 w).pyHash (k := x) (strKind_is _ _ _ _) ?_)
    refine sset_add (n := i) (o := o) (hm S o hSw ho) hS (by (first | lia | omega)) fun b h2 o2 hsb ho2 hS2 => ?_
    have htk : ts.take (i + 1) = ts.take i ++ [x] := by rw [List.take_succ, hx]; rfl
    refine wpAny_pure ⟨plainId_quiet PyProof.Rows.F.plain_set_update_loop _, ih (i + 1) _ o2 (by (first | lia | omega)) hlt (W.frame _ _ _ hst1 fun b hb o e => ?_) ho2 (hS2.congr fun y => ?_) fun h3 tk3 o3 ho3 hS3 hk3 => ?_⟩
    · show h2.get? b = some o
      rw [hsb.2 b (fun h : b = S => hSf (by rw [← h]; exact hb))]; exact e
    · rw [htk]; simp [List.mem_append]
    · refine hR h3 tk3 o3 ho3 hS3 fun b o hb hw e => hk3 b o hb hw ?_
      show h2.get? b = some o
      rw [hsb.2 b hb]; exact hm b o hw e
set_option maxHeartbeats 3200000 in
theorem sset_list {l : Addr} {items : Array Value} {ts : List Str} {Q : Value → Shared → Prop} (hh : A.handled = none) (hl : s.heap.IsList l items) (hi : items.size = ts.length)
    (hv : ∀ (i : Nat) v, items[i]? = some v → ∃ x t, v = .str x t ∧ ts[i]? = some x) (hb : ts.length + 1 < scanBound)
    (h : ∀ (h' : Heap) (tk : Nat) o, h'.get? s.heap.objs.size = some o → SSet w ts.length o (fun x => decide (x ∈ ts)) → s.heap.StaysIn h' → Q (.ref s.heap.objs.size) { s with heap := h', toks := tk }) :
    wpAny (model P9 w) A (call (.type "set") [.ref l]) Q E s := by
  obtain ⟨c, tl, hmro⟩ := F.called_set.mro
  have hmade := F.called_set.made
  have hsub := F.called_set.sub
  refine wpAny_call (codeAny_of_tree ?_)
  show wpAny _ _ (callAny (.type "set") _) _ _ _
  refine wpAny_pure ⟨Code.quiet_builtin _ (by decide +kernel), codeAny_builtin F.entry_type_call ?_⟩
  rw [Around.under_plain (weight_type_call_type "set" [.ref l] []) rfl]
  have h1 := F.called_set.notType
  have h2 := F.called_set.canCreate
  have hct := F.typeCall_set_1 (.ref l)
  repeat (any_goals (first | assumption | wp_step))
  obtain ⟨led, hled⟩ : ∃ x, x = (!w.params.followText "set-order") := ⟨_, rfl⟩
  have hS0 : SSet w 0 { cls := .type "set", dict := none, data := .set #[] 0 (.fresh 0 0 led) } (fun x => decide (x ∈ ts.take 0)) := by rw [hled]; exact (sset_fresh w 0).congr fun _ => by simp
  refine codeAny_mono (sset_new1 (.ref l) (E := E) (Q₁ := fun obj s₁ => obj = .ref s.heap.objs.size ∧ s₁ = { s with heap := s.heap.push { cls := .type "set", dict := none, data := .set #[] 0 (.fresh 0 0 led) } }) ⟨rfl, by rw [hled]⟩) fun r s₁ hr => ?_
  clear hled
  cases r with
  | error e => exact hr
  | ok fl =>
    cases fl with
    | ret obj =>
      obtain ⟨rfl, rfl⟩ := hr
      have hS : (s.heap.push { cls := .type "set", dict := none, data := .set #[] 0 (.fresh 0 0 led) }).get? s.heap.objs.size = some { cls := .type "set", dict := none, data := .set #[] 0 (.fresh 0 0 led) } := Heap.get?_push_size _ rfl
      have hT : Shared.TypeIs { s with heap := s.heap.push { cls := .type "set", dict := none, data := .set #[] 0 (.fresh 0 0 led) } } (.ref s.heap.objs.size) "set" := ⟨_, hS, rfl⟩
      have hli := F.called_set.init.lookup
      have hbi := F.called_set.init.bind (.ref s.heap.objs.size)
      repeat (any_goals (first | assumption | wp_step))
      refine codeAny_mono (codeAny_call_builtin (R := wants (fun r s₂ => r = .none ∧ ∃ h' tk o', s₂ = { s with heap := h', toks := tk } ∧ h'.get? s.heap.objs.size = some o' ∧ SSet w ts.length o' (fun x => decide (x ∈ ts)) ∧ s.heap.StaysIn h') E) F.called_set.init.plain F.entry_set_init (check_set_init_1 hT ?_)) fun r₂ s₂ hr₂ => ?_
      · have hl1 : (s.heap.push { cls := .type "set", dict := none, data := .set #[] 0 (.fresh 0 0 led) }).IsList l items := hl.push _
        have hsls := F.sub_list_set
        have hslf := F.sub_list_frozenset
        have hne : (Value.type "list" == Value.type "dict") = false := by decide
        have hlS : l < s.heap.objs.size := by obtain ⟨o, e, _⟩ := hl; exact Heap.lt_size e
        obtain ⟨ol, hol, hcl, nl, hdl⟩ := hl1
        obtain ⟨ocls, odict, odata, oslots⟩ := ol
        simp only at hcl hdl
        subst hcl; subst hdl
        have hl1 : (s.heap.push { cls := .type "set", dict := none, data := .set #[] 0 (.fresh 0 0 led) }).IsList l items := ⟨_, hol, rfl, nl, rfl⟩
        unfold Builtin.«set.__init__» noKeywords Builtin.Frozenset.updateFrom
        generalize hPI : pyIter = PI
        wp_walk
        subst hPI
        refine wpAny_pyIter_list hl1 ?_
        refine wpAny_bind (wpAny_runValue ?_)
        have hh3 : A.in1.in1.in1.handled = none := by simp [hh]
        have hneI : l ≠ (s.heap.push { cls := .type "set", dict := none, data := .set #[] 0 (.fresh 0 0 led) }).objs.size := by
          rw [Heap.size_push]; exact Nat.ne_of_lt (Nat.lt_succ_of_lt hlS)
        have hSf : s.heap.objs.size ∉ [(s.heap.push { cls := .type "set", dict := none, data := .set #[] 0 (.fresh 0 0 led) }).objs.size, l] := by
          rw [Heap.size_push]; simp only [List.mem_cons, List.mem_singleton, List.not_mem_nil, or_false, not_or]
          exact ⟨Nat.ne_of_lt (Nat.lt_succ_self _), Nat.ne_of_gt hlS⟩
        refine sset_loop (Walks.list hh3 _ l hneI items) hSf ts hi.symm hv (by (first | lia | omega)) (items.size - 0) 0 _ _ (by (first | lia | omega)) (Nat.zero_le _)
          ⟨⟨_, Heap.get?_push_size _ rfl, rfl, rfl⟩, (hl1.push _)⟩ (Heap.get?_push_of_some _ hS) hS0 fun h' tk o' ho' hS' hk' => ?_
        show wpAny _ _ _ _ _ _
        refine wpAny_pure ?_
        show wpAny _ _ (ret Value.none) _ _ _
        refine wpAny_pure ⟨rfl, h', tk, o', rfl, ho', hi ▸ hS', fun b o e => ?_⟩
        have hb := Heap.lt_size e
        have hb1 : b ≠ s.heap.objs.size := Nat.ne_of_lt hb
        have hb2 : b ≠ (s.heap.push { cls := .type "set", dict := none, data := .set #[] 0 (.fresh 0 0 led) }).objs.size := by
          rw [Heap.size_push]; exact Nat.ne_of_lt (Nat.lt_succ_of_lt hb)
        exact hk' b o hb1 (by simp only [List.mem_singleton]; exact hb2) (Heap.get?_push_of_some _ (Heap.get?_push_of_some _ e))
      · cases r₂ with
        | error e => exact hr₂
        | ok fl₂ =>
          cases fl₂ with
          | ret r =>
            obtain ⟨rfl, h', tk, o', rfl, ho', hS', hk'⟩ := hr₂
            repeat (any_goals (first | assumption | wp_step))
            exact h _ _ o' ho' hS' hk'
          | _ => exact hr₂.elim
    | _ => exact hr.elim
end
theorem SVs.strAt {vs : List Value} {ts : List Tx} (h : SVs vs ts) : ∀ (i : Nat) v, vs.toArray[i]? = some v → ∃ x t, v = .str x t ∧ (ts.map S)[i]? = some x := by
  intro i v hv
  rw [List.getElem?_toArray] at hv
  obtain ⟨t, l, rfl, hl⟩ := h.get hv
  exact ⟨S l, t, rfl, by rw [List.getElem?_map, hl]; rfl⟩
theorem r_set {k : Bool} {w : World} {A : Around} {E : Value → Shared → Prop} {s₀ s : Shared} {g : Heap} {L a : Addr} {m : Str → Option Value} {R : List (Addr × Obj)} {vs : List Value} {ts : List Tx} {Q : Value → Shared → Prop}
    (C : Cx k s₀ g L s m R) (hh : A.handled = none) (hl : s.heap.IsList a vs.toArray) (hv : SVs vs ts) (hb : ts.length ≤ 1000)
    (h : ∀ r o s', Cx k s₀ g L s' m ((r, o) :: R) → SSet w ts.length o (fun x => decide (x ∈ ts.map S)) → Q (.ref r) s') : wpAny (model P9 w) A (call (.type "set") [.ref a]) Q E s := by
  have hn := hv.length
  refine sset_list (ts := ts.map S) hh hl (by simp [hn]) hv.strAt (by rw [List.length_map]; show _ < 4096; (first | lia | omega)) fun h' tk o ho hS hk => ?_
  rw [List.length_map] at hS
  exact h _ o _ (C.fresh hk ho) hS
/-! a walk through a set of texts -/
theorem erase_perm {α : Type} : ∀ (l : List α) (i : Nat) (h : i < l.length), (l[i] :: l.eraseIdx i).Perm l
  | x :: l, 0, _ => List.Perm.refl _
  | x :: l, i + 1, h => ((List.Perm.swap ..).trans ((erase_perm l i (Nat.lt_of_succ_lt_succ h)).cons x))
theorem pick_go {α : Type} (next : Nat → Nat) : ∀ (fuel k : Nat) (left : List α) (out : Array α), fuel = left.length → ((pickOrder.go next fuel k left out).toList).Perm (out.toList ++ left)
  | 0, k, left, out, h => by
    rw [pickOrder.go, List.length_eq_zero_iff.mp h.symm, List.append_nil]
  | fuel + 1, k, left, out, h => by
    have hl : 0 < left.length := by (first | lia | omega)
    have hj : next k % left.length < left.length := Nat.mod_lt _ hl
    rw [pickOrder.go, List.getElem?_eq_getElem hj]
    try dsimp only
    have ih := pick_go next fuel (k + 1) (left.eraseIdx (next k % left.length)) (out.push left[next k % left.length]) (by rw [List.length_eraseIdx_of_lt hj]; (first | lia | omega))
    refine ih.trans ?_
    rw [Array.toList_push, List.append_assoc]
    refine List.Perm.append_left _ ?_
    exact erase_perm _ _ hj
theorem pick_perm {α : Type} (next : Nat → Nat) (xs : Array α) : (pickOrder next xs).toList.Perm xs.toList := by
  have := pick_go next xs.size 0 xs.toList #[] Array.length_toList.symm
  simpa [pickOrder] using this
section
variable {w : World} {A : Around} {E : Value → Shared → Prop} {s : Shared}
theorem w_choose {src : Source} {n : Nat} {Q : Nat → Shared → Prop} (hn : n ≠ 0) (h : ∀ i d, i < n → Q i { s with drawn := d }) : wpAny (model P9 w) A (choose src n) Q E s := by
  intro Γ p hΓ
  show Sem.wp _ Γ (.choose src n .pure) _ _ _ _
  rw [Sem.wp_choose]
  exact ⟨hn, h _ _ (Nat.mod_lt _ (Nat.pos_of_ne_zero hn))⟩
theorem w_draw {α : Type} : ∀ (n : Nat) (xs : List α) (s : Shared) {Q : List α → Shared → Prop}, n = xs.length → (∀ ys d, ys.Perm xs → Q ys { s with drawn := d }) → wpAny (model P9 w) A (drawOrder n xs) Q E s
  | 0, xs, s, Q, hn, h => by
    rw [drawOrder]
    rw [List.length_eq_zero_iff.mp hn.symm] at h
    exact wpAny_pure (h [] s.drawn (List.Perm.refl _))
  | n + 1, [], s, Q, hn, h => by cases hn
  | n + 1, x :: xs, s, Q, hn, h => by
    rw [drawOrder]
    refine wpAny_bind (w_choose (by simp) fun i d hi => ?_)
    rw [List.getElem?_eq_getElem hi]
    try dsimp only
    refine wpAny_bind (w_draw n ((x :: xs).eraseIdx i) _ (by rw [List.length_eraseIdx_of_lt hi]; (first | lia | omega)) fun ys d' hp => ?_)
    refine wpAny_pure (h _ d' ?_)
    exact (hp.cons _).trans (erase_perm _ _ hi)
    all_goals simp
end
noncomputable def sitO (vs : List Value) : Obj := { cls := .type "set_iterator", data := .fields vs.toArray }
noncomputable def plO (pl : List Nat) : Obj := { cls := .type "tuple", data := .seq (pl.map fun (i : Nat) => rawInt i).toArray }
theorem set_ne_none (a : Addr) : (Value.ref a == Value.none) = false := rfl
section
variable {w : World} {A : Around} {E : Value → Shared → Prop} {s : Shared} {I S T : Addr} {o : Obj} {es : Array (Int × Value)} {ep : Nat} {t : SetTable}
theorem si_stop {vs : List Value} {i : Nat} {x : Value} {h0 : Heap} (hh : A.handled = none) (ho : s.heap.get? I = some (sitO vs)) (hi : i < vs.length) (hk : Heap.ExtBut I h0 s.heap)
    {Q : Option Value → Shared → Prop} (hQ : ∀ h', Heap.ExtBut I h0 h' → Q none { s with heap := h' }) :
    wpAny (model P9 w) A.in1 (do setField (.ref I) i x; raiseNew (← newExc (.type "StopIteration") []) : Sem Fin) (fun fin s' => ∃ r, fin = .done (.ret r) ∧ False)
      (fun e s' => wpAny (model P9 w) A (do if ← isInstance e (.type "StopIteration") then pure none else throw e : Sem (Option Value)) Q E s') s := by
  refine wpAny_bind (wpAny_setField ho rfl (by simpa using hi) ?_)
  have k1 : Heap.ExtBut I h0 (s.heap.update I (Obj.mapFields (·.setIfInBounds i x))) := fun b o hb e => (Heap.SameBut.update ..).extBut b o hb (hk b o hb e)
  refine wpAny_bind ?_
  simp only [newExc, newTuple]
  refine wpAny_bind (wpAny_newObj_type ?_ (by size_fits))
  refine wpAny_bind (m := firstArgMember _ _) (wpAny_of_eq (a := Value.none) (by first | rfl | (simp only [firstArgMember]; rfl)) ?_)
  refine wpAny_newObj_type ?_ (by size_fits)
  simp only [raiseNew]
  refine wpAny_bind (wpAny_handled ?_)
  rw [show A.in1.handled = none from hh]
  refine wpAny_bind (wpAny_pure (wpAny_throw ?_))
  refine wpAny_bind (wpAny_isInstance (T := "StopIteration") (b := true) ⟨_, Heap.get?_push_size _ rfl, rfl⟩ isSubtype_stop ?_)
  exact wpAny_pure (hQ _ ((k1.push _).push _))
theorem si_open {vs : List Value} {Q : Option Value → Shared → Prop} (ho : s.heap.get? I = some (sitO vs))
    (h : wpAny (model P9 w) A.in1 (Builtin.«set_iterator.__next__» ⟨[.ref I], []⟩) (fun fin s' => ∃ r, fin = .done (.ret r) ∧ Q (some r) s')
      (fun e s' => wpAny (model P9 w) A (do if ← isInstance e (.type "StopIteration") then pure none else throw e : Sem (Option Value)) Q E s') s) : wpAny (model P9 w) A (pyNext (.ref I)) Q E s := by
  have hTy : s.TypeIs (.ref I) "set_iterator" := ⟨_, ho, rfl⟩
  unfold pyNext
  refine wpAny_bind (wpAny_attempt (wpAny_callSpecial?_slot (name := Str.ofString "__next__") hTy SF.slot_seti_next (wpAny_call_entry SF.slot_seti_next hTy SF.entry_seti_next ?_ (SF.args_seti_next _))))
  refine wpAny_mono h (fun fin s' ⟨r, e, hq⟩ => ⟨r, e, wpAny_pure hq⟩) fun _ _ x => x
theorem si_body {a1 : Value} {i n : Nat} {Q : Fin → Shared → Prop} (ho : s.heap.get? I = some (sitO [a1, .int i 0, .ref S, .int n 0, .int ep 0])) (hS : s.heap.get? S = some o) (hd : o.data = .set es ep t) (hf : t.fits es.size = true) (hn : es.size = n)
    (h : wpAny (model P9 w) A (do
      if let .int slot _ := a1 then
        match ← setNext S slot.toNat (i : Int).toNat (ep : Int).toNat with
        | some (x, next) =>
          setField (.ref I) 0 (rawInt next)
          setField (.ref I) 1 (rawInt ((i : Int) + 1))
          ret x
        | none => setField (.ref I) 2 .none; raiseNew (← newExc (.type "StopIteration") [])
      else
        let some places ← seqItems? a1 | unsupported "internal:set_iterator"
        match places[(i : Int).toNat]? with
        | some (.int place _) =>
          let x ← setNextDrawn S place.toNat (ep : Int).toNat
          setField (.ref I) 1 (rawInt ((i : Int) + 1))
          ret x
        | some _ => unsupported "internal:set_iterator"
        | none => setField (.ref I) 0 (rawInt 0); setField (.ref I) 2 .none; raiseNew (← newExc (.type "StopIteration") []) : Sem Fin) Q E s) :
    wpAny (model P9 w) A (Builtin.«set_iterator.__next__» ⟨[.ref I], []⟩) Q E s := by
  unfold Builtin.«set_iterator.__next__»
  refine wpAny_bind (wpAny_pure ?_)
  refine wpAny_bind (wpAny_fieldsOf ho rfl ?_)
  try dsimp only
  refine wpAny_bind (wpAny_setEntries_of hS hd hf ?_)
  have e : ((es.size : Int) != (n : Int)) = false := by rw [hn]; simp
  simp only [e, Bool.false_eq_true, if_false]
  exact h
theorem si_set {vs vs' : List Value} {i : Nat} {x : Value} {h0 : Heap} (ho : h0.get? I = some (sitO vs)) (hv : (vs.toArray.setIfInBounds i x) = vs'.toArray) :
    (h0.update I (Obj.mapFields (·.setIfInBounds i x))).get? I = some (sitO vs') := by
  have := Heap.get?_update_self (Obj.mapFields (·.setIfInBounds i x)) ho rfl
  rw [this]
  show some { sitO vs with data := .fields (vs.toArray.setIfInBounds i x) } = _
  rw [hv]; rfl
theorem si_draw_item {pl : List Nat} {i : Nat} {p : Nat} {e : Int × Value} {n : Nat} {Q : Option Value → Shared → Prop} (ho : s.heap.get? I = some (sitO [.ref T, .int i 0, .ref S, .int n 0, .int ep 0]))
    (hS : s.heap.get? S = some o) (hd : o.data = .set es ep t) (hf : t.fits es.size = true) (hn : es.size = n) (hT : s.heap.get? T = some (plO pl)) (hp : pl[i]? = some p) (he : es[p]? = some e)
    (hQ : ∀ h', h'.get? I = some (sitO [.ref T, .int (i + 1 : Nat) 0, .ref S, .int n 0, .int ep 0]) → Heap.SameBut I s.heap h' → Q (some e.2) { s with heap := h' }) : wpAny (model P9 w) A (pyNext (.ref I)) Q E s := by
  refine si_open ho (si_body ho hS hd hf hn ?_)
  try dsimp only
  refine wpAny_bind (wpAny_seqItems hT rfl ?_)
  have e1 : ((pl.map fun (i : Nat) => rawInt i).toArray[(i : Int).toNat]?) = some (.int (p : Int) 0) := by
    rw [Int.toNat_natCast, List.getElem?_toArray, List.getElem?_map, hp]; rfl
  try dsimp only
  rw [e1]
  try dsimp only
  refine wpAny_bind ?_
  unfold setNextDrawn
  refine wpAny_bind (wpAny_setState_of hS hd hf ?_)
  simp only [Int.toNat_natCast, bne_self_eq_false, Bool.false_eq_true, if_false, he]
  refine wpAny_pure ?_
  refine wpAny_bind (wpAny_setField ho rfl (by simp) ?_)
  exact wpAny_pure ⟨_, rfl, hQ _ (si_set ho rfl) (Heap.SameBut.update ..)⟩
theorem si_draw_end {pl : List Nat} {i n : Nat} {Q : Option Value → Shared → Prop} (hh : A.handled = none) (ho : s.heap.get? I = some (sitO [.ref T, .int i 0, .ref S, .int n 0, .int ep 0]))
    (hS : s.heap.get? S = some o) (hd : o.data = .set es ep t) (hf : t.fits es.size = true) (hn : es.size = n) (hT : s.heap.get? T = some (plO pl)) (hp : pl[i]? = none)
    (hQ : ∀ h', Heap.ExtBut I s.heap h' → Q none { s with heap := h' }) : wpAny (model P9 w) A (pyNext (.ref I)) Q E s := by
  refine si_open ho (si_body ho hS hd hf hn ?_)
  try dsimp only
  refine wpAny_bind (wpAny_seqItems hT rfl ?_)
  have e1 : ((pl.map fun (i : Nat) => rawInt i).toArray[(i : Int).toNat]?) = none := by
    rw [Int.toNat_natCast, List.getElem?_toArray, List.getElem?_map, hp]; rfl
  try dsimp only
  rw [e1]
  try dsimp only
  refine wpAny_bind (wpAny_setField ho rfl (by simp) ?_)
  refine wpAny_mono (si_stop (s := { s with heap := _ }) (h0 := s.heap) hh (si_set (vs' := [rawInt 0, .int i 0, .ref S, .int n 0, .int ep 0]) ho rfl) (by simp) (Heap.SameBut.update ..).extBut hQ) (fun _ _ ⟨r, e, f⟩ => f.elim) fun _ _ x => x
end
section
variable {w : World} {A : Around} {E : Value → Shared → Prop} {s : Shared} {I S T : Addr} {o : Obj} {es : Array (Int × Value)} {ep : Nat} {t : SetTable}
theorem si_place_item {slot i j n : Nat} {x : Value} {Q : Option Value → Shared → Prop} (ho : s.heap.get? I = some (sitO [.int slot 0, .int i 0, .ref S, .int n 0, .int ep 0]))
    (hS : s.heap.get? S = some o) (hd : o.data = .set es ep t) (hf : t.fits es.size = true) (hn : es.size = n)
    (hnx : ∀ (A : Around) (Q : Option (Value × Nat) → Shared → Prop) (E : Value → Shared → Prop), Q (some (x, j)) s → wpAny (model P9 w) A (setNext S slot i ep) Q E s)
    (hQ : ∀ h', h'.get? I = some (sitO [.int j 0, .int (i + 1 : Nat) 0, .ref S, .int n 0, .int ep 0]) → Heap.SameBut I s.heap h' → Q (some x) { s with heap := h' }) : wpAny (model P9 w) A (pyNext (.ref I)) Q E s := by
  refine si_open ho (si_body ho hS hd hf hn ?_)
  try dsimp only
  refine wpAny_bind ?_
  simp only [Int.toNat_natCast]
  refine hnx _ _ _ ?_
  try dsimp only
  refine wpAny_bind (wpAny_setField ho rfl (by simp) ?_)
  have h1 := si_set (vs' := [.int j 0, .int i 0, .ref S, .int n 0, .int ep 0]) ho (i := 0) (x := rawInt j) rfl
  refine wpAny_bind (wpAny_setField (s := { s with heap := _ }) h1 rfl (by simp) ?_)
  refine wpAny_pure ⟨_, rfl, hQ _ (si_set h1 rfl) ((Heap.SameBut.update ..).trans (Heap.SameBut.update ..))⟩
theorem si_place_end {slot i n : Nat} {Q : Option Value → Shared → Prop} (hh : A.handled = none) (ho : s.heap.get? I = some (sitO [.int slot 0, .int i 0, .ref S, .int n 0, .int ep 0]))
    (hS : s.heap.get? S = some o) (hd : o.data = .set es ep t) (hf : t.fits es.size = true) (hn : es.size = n)
    (hnx : ∀ (A : Around) (Q : Option (Value × Nat) → Shared → Prop) (E : Value → Shared → Prop), Q none s → wpAny (model P9 w) A (setNext S slot i ep) Q E s)
    (hQ : ∀ h', Heap.ExtBut I s.heap h' → Q none { s with heap := h' }) : wpAny (model P9 w) A (pyNext (.ref I)) Q E s := by
  refine si_open ho (si_body ho hS hd hf hn ?_)
  try dsimp only
  refine wpAny_bind ?_
  simp only [Int.toNat_natCast]
  refine hnx _ _ _ ?_
  try dsimp only
  refine wpAny_mono (si_stop (h0 := s.heap) hh ho (by simp) (fun _ _ _ e => e) hQ) (fun _ _ ⟨r, e, f⟩ => f.elim) fun _ _ x => x
theorem sn_text {slot i : Nat} {r : Option (Value × Nat)} {Q : Option (Value × Nat) → Shared → Prop} (hbt : w.params.followText "set-order" = true) (hS : s.heap.get? S = some o) (hd : o.data = .set es ep t) (hf : t.fits es.size = true)
    (hr : ((pickOrder (w.params.setOrder S ep) es)[i]?).map (fun e => (e.2, slot)) = r) (h : Q r s) : wpAny (model P9 w) A (setNext S slot i ep) Q E s := by
  unfold setNext
  refine wpAny_bind (wpAny_setState_of hS hd hf ?_)
  try dsimp only
  unfold setsByText
  refine wpAny_bind (wpAny_bind (wpAny_askSetting (wpAny_pure ?_)))
  rw [show (model P9 w).w.params.followText "set-order" = true from hbt]
  simp only [if_true, bne_self_eq_false, Bool.false_eq_true, if_false]
  refine wpAny_bind ?_
  unfold setWalk
  refine wpAny_bind (wpAny_setState_of hS hd hf ?_)
  try dsimp only
  unfold setsByText
  refine wpAny_bind (wpAny_bind (wpAny_askSetting (wpAny_pure ?_)))
  rw [show (model P9 w).w.params.followText "set-order" = true from hbt]
  simp only [if_true]
  refine wpAny_bind (wpAny_askSetting (wpAny_pure ?_))
  refine wpAny_pure ?_
  show Q (((pickOrder (w.params.setOrder S ep) es)[i]?).map (fun e => (e.2, slot))) s
  rw [hr]; exact h
theorem sn_led {slot i : Nat} {r : Option (Value × Nat)} {Q : Option (Value × Nat) → Shared → Prop} (hbt : w.params.followText "set-order" = false) (hS : s.heap.get? S = some o) (hd : o.data = .set es ep t) (hf : t.fits es.size = true)
    (hl : t.led = true) (hz : es.size ≤ 1)
    (hr : (match es[SetTable.below t.place slot]?, t.place[SetTable.below t.place slot]? with | some (_, x), some j => some (x, j + 1) | _, _ => none) = r) (h : Q r s) : wpAny (model P9 w) A (setNext S slot i ep) Q E s := by
  unfold setNext
  refine wpAny_bind (wpAny_setState_of hS hd hf ?_)
  try dsimp only
  unfold setsByText
  refine wpAny_bind (wpAny_bind (wpAny_askSetting (wpAny_pure ?_)))
  rw [show (model P9 w).w.params.followText "set-order" = false from hbt]
  simp only [Bool.false_eq_true, if_false]
  split
  · rename_i hdr
    have hdr' : (!t.plain && decide (es.size > 1)) = true := hdr
    simp only [Bool.and_eq_true, decide_eq_true_eq] at hdr'
    (first | lia | omega)
  · obtain ⟨mask, place, dummies, finger, led, moves, plain⟩ := t
    dsimp only at hl
    subst hl
    refine wpAny_bind (wpAny_of_eq (a := ()) rfl ?_)
    refine wpAny_pure ?_
    show Q _ s
    rw [← hr] at h
    exact h
theorem below1 {xs : Array Nat} (h : xs.size = 1) (slot : Nat) : SetTable.below xs slot = if xs.getD 0 slot < slot then 1 else 0 := by
  unfold SetTable.below
  rw [h]
  unfold SetTable.below.go
  simp only [Nat.lt_irrefl, Nat.zero_lt_one, if_true]
  have e0 : (0 + 1) / 2 = 0 := rfl
  rw [e0]
  unfold SetTable.below.go
  by_cases h : xs.getD 0 slot < slot
  · rw [if_pos h]
  · rw [if_neg h]
theorem below0 {xs : Array Nat} (h : xs.size = 0) (slot : Nat) : SetTable.below xs slot = 0 := by
  unfold SetTable.below
  rw [h]; rfl
end
theorem SSet.str {w : World} {es : Array (Int × Value)} (h : ElemsOf (strKind P9 w) es.toList) {e : Int × Value} (he : e ∈ es.toList) : ∃ x t, e.2 = .str x t := by
  obtain ⟨⟨k, hk, _⟩, _⟩ := h e he
  obtain ⟨t, ht⟩ := Value.isStrOf_shape hk
  exact ⟨k, t, ht⟩
section
variable {w : World} {A : Around} {E : Value → Shared → Prop}
/-- what a walk through the set S at the iterator I visits: ord -/
structure SWk (w : World) (A : Around) (I S : Addr) (o : Obj) (EX : List (Addr × Obj)) (ord : List (Int × Value)) (s0 : Shared) : Prop where
  go : ∃ (fp : List Addr) (St : Nat → Heap → Prop), Walks P9 w A I fp [I] ord.length (fun i v => ∃ e, ord[i]? = some e ∧ v = e.2) St ∧ St 0 s0.heap ∧
    (∀ i h h' o', St i h → h.get? I = some o' → h'.get? I = some o' → (h'.get? S = some o ∧ ∀ p ∈ EX, h'.get? p.1 = some p.2) → St i h') ∧ (∀ i h, St i h → ∃ o, h.get? I = some o)
theorem swk_draw {s : Shared} {I S T : Addr} {o : Obj} {es : Array (Int × Value)} {ep : Nat} {t : SetTable} {pl : List Nat} (hh : A.handled = none) (hIS : I ≠ S) (hIT : I ≠ T) (ho : s.heap.get? I = some (sitO [.ref T, .int (0 : Nat) 0, .ref S, .int es.size 0, .int ep 0]))
    (hS : s.heap.get? S = some o) (hd : o.data = .set es ep t) (hf : t.fits es.size = true) (hT : s.heap.get? T = some (plO pl)) (hp : pl.Perm (List.range es.size)) :
    ∃ ord : List (Int × Value), ord.Perm es.toList ∧ SWk w A I S o [(T, plO pl)] ord s := by
  have hpl : pl.length = es.size := by rw [hp.length_eq, List.length_range]
  have hlt : ∀ p ∈ pl, p < es.size := fun p h => List.mem_range.mp (hp.mem_iff.mp h)
  refine ⟨pl.map fun p => es.getD p (0, .none), ?_, ⟨[I, S, T], fun i h => h.get? I = some (sitO [.ref T, .int (i : Nat) 0, .ref S, .int es.size 0, .int ep 0]) ∧ h.get? S = some o ∧ h.get? T = some (plO pl), ?_, ⟨ho, hS, hT⟩, ?_, fun i h st => ⟨_, st.1⟩⟩⟩
  · refine (hp.map _).trans (List.Perm.of_eq ?_)
    refine List.ext_getElem (by simp) fun i h1 h2 => ?_
    have h3 : i < es.size := by simpa using h2
    simp [Array.getD, h3]
  · refine ⟨fun b hb => by simp at hb; simp [hb], fun i h h' st hk => ⟨hk I (by simp) _ st.1, hk S (by simp) _ st.2.1, hk T (by simp) _ st.2.2⟩, fun i s Q E hi st hQ => ?_, fun s Q E st hQ => ?_, fun i s Q E st hQ => ?_⟩
    · rw [List.length_map] at hi
      have hb := hlt _ (List.getElem_mem hi)
      refine si_draw_item st.1 st.2.1 hd hf rfl st.2.2 (p := pl[i]) (e := es[pl[i]]) (by simp [hi]) (by simp [hb]) fun h' h1 h2 => ?_
      exact hQ _ h' s.toks ⟨es[pl[i]], by simp [hi, Array.getD, hb], rfl⟩ ⟨h1, (h2.2 S (Ne.symm hIS)).trans st.2.1, (h2.2 T (Ne.symm hIT)).trans st.2.2⟩ fun b o hb e => (h2.2 b (fun h => hb (by simp [h]))).trans e
    · rw [List.length_map] at st
      refine si_draw_end hh st.1 st.2.1 hd hf rfl st.2.2 (by simp) fun h' hx => hQ h' s.toks fun b o hb e => hx b o (fun h => hb (by simp [h])) e
    · have hTy : s.TypeIs (.ref I) "set_iterator" := ⟨_, st.1, rfl⟩
      refine wpAny_pyIter_slot hTy SF.slot_seti_iter (wpAny_call_entry SF.slot_seti_iter hTy SF.entry_seti_iter ?_ (SF.args_seti_iter _))
      show wpAny _ _ (ret (.ref I)) _ _ s
      exact wpAny_pure ⟨_, rfl, "set_iterator", _, hTy, SF.slot_seti_next.lookup, hQ⟩
  · intro i h h' o' st e e' sv
    have : o' = sitO [.ref T, .int (i : Nat) 0, .ref S, .int es.size 0, .int ep 0] := Option.some.inj (e.symm.trans st.1)
    exact ⟨e'.trans (congrArg some this), sv.1, sv.2 _ (.head _)⟩
/-- the two walks by places; sl i: the place kept before turn i -/
theorem swk_place {s : Shared} {I S : Addr} {o : Obj} {es : Array (Int × Value)} {ep : Nat} {t : SetTable} {ord : List (Int × Value)} (sl : Nat → Nat) (hh : A.handled = none) (hIS : I ≠ S) (ho : s.heap.get? I = some (sitO [.int (sl 0 : Nat) 0, .int (0 : Nat) 0, .ref S, .int es.size 0, .int ep 0]))
    (hS : s.heap.get? S = some o) (hd : o.data = .set es ep t) (hf : t.fits es.size = true)
    (hit : ∀ i e, ord[i]? = some e → ∀ (s : Shared) (A : Around) (Q : Option (Value × Nat) → Shared → Prop) (E : Value → Shared → Prop), s.heap.get? S = some o → Q (some (e.2, sl (i + 1))) s → wpAny (model P9 w) A (setNext S (sl i) i ep) Q E s)
    (hend : ∀ (s : Shared) (A : Around) (Q : Option (Value × Nat) → Shared → Prop) (E : Value → Shared → Prop), s.heap.get? S = some o → Q none s → wpAny (model P9 w) A (setNext S (sl ord.length) ord.length ep) Q E s) :
    SWk w A I S o [] ord s := by
  refine ⟨[I, S], fun i h => h.get? I = some (sitO [.int (sl i : Nat) 0, .int (i : Nat) 0, .ref S, .int es.size 0, .int ep 0]) ∧ h.get? S = some o, ?_, ⟨ho, hS⟩, ?_, fun i h st => ⟨_, st.1⟩⟩
  · refine ⟨fun b hb => by simp at hb; simp [hb], fun i h h' st hk => ⟨hk I (by simp) _ st.1, hk S (by simp) _ st.2⟩, fun i s Q E hi st hQ => ?_, fun s Q E st hQ => ?_, fun i s Q E st hQ => ?_⟩
    · refine si_place_item st.1 st.2 hd hf rfl (x := ord[i].2) (j := sl (i + 1)) (fun A Q E hq => hit i ord[i] (by simp [hi]) s A Q E st.2 hq) fun h' h1 h2 => ?_
      exact hQ _ h' s.toks ⟨ord[i], by simp [hi], rfl⟩ ⟨h1, (h2.2 S (Ne.symm hIS)).trans st.2⟩ fun b o hb e => (h2.2 b (fun h => hb (by simp [h]))).trans e
    · refine si_place_end hh st.1 st.2 hd hf rfl (fun A Q E hq => hend s A Q E st.2 hq) fun h' hx => hQ h' s.toks fun b o hb e => hx b o (fun h => hb (by simp [h])) e
    · have hTy : s.TypeIs (.ref I) "set_iterator" := ⟨_, st.1, rfl⟩
      refine wpAny_pyIter_slot hTy SF.slot_seti_iter (wpAny_call_entry SF.slot_seti_iter hTy SF.entry_seti_iter ?_ (SF.args_seti_iter _))
      show wpAny _ _ (ret (.ref I)) _ _ s
      exact wpAny_pure ⟨_, rfl, "set_iterator", _, hTy, SF.slot_seti_next.lookup, hQ⟩
  · intro i h h' o' st e e' sv
    have : o' = sitO [.int (sl i : Nat) 0, .int (i : Nat) 0, .ref S, .int es.size 0, .int ep 0] := Option.some.inj (e.symm.trans st.1)
    exact ⟨e'.trans (congrArg some this), sv.1⟩
end
section
variable {w : World} {A : Around} {E : Value → Shared → Prop}
theorem Cx.drew {s₀ s : Shared} {g : Heap} {L : Addr} {m : Str → Option Value} {R : List (Addr × Obj)} (C : Cx false s₀ g L s m R) (d) : Cx false s₀ g L { s with drawn := d } m R :=
  ⟨C.st.trans ⟨rfl, id, fun h => by cases h⟩, C.F, C.N, C.nd⟩
theorem set_drawn {s : Shared} {S : Addr} {o : Obj} {es : Array (Int × Value)} {ep : Nat} {t : SetTable} {Q : Bool → Shared → Prop} (hS : s.heap.get? S = some o) (hd : o.data = .set es ep t) (hf : t.fits es.size = true)
    (h : Q (!(w.params.followText "set-order") && (!t.plain && decide (es.size > 1))) s) : wpAny (model P9 w) A (setDrawn S) Q E s := by
  unfold setDrawn
  refine wpAny_bind (wpAny_setState_of hS hd hf ?_)
  try dsimp only
  unfold setsByText
  refine wpAny_bind (wpAny_bind (wpAny_askSetting (wpAny_pure ?_)))
  exact wpAny_pure h
theorem r_setiter {s₀ s : Shared} {g : Heap} {L S : Addr} {m : Str → Option Value} {R : List (Addr × Obj)} {o : Obj} {n : Nat} {f : Str → Bool} {Q : Value → Shared → Prop} (C : Cx false s₀ g L s m R) (hh : A.handled = none) (hR : (S, o) ∈ R) (hO : SSet w n o f) (hn : n ≤ 1000)
    (h : ∀ I EX ord s' oI, Cx false s₀ g L s' m ((I, oI) :: (EX ++ R)) → SWk w A I S o EX ord s' → (∀ x, f x = true ↔ ∃ e ∈ ord, ∃ t, e.2 = .str x t) → (∀ e ∈ ord, ∃ x t, e.2 = .str x t) → Q (.ref I) s') :
    wpAny (model P9 w) A (pyIter (.ref S)) Q E s := by
  obtain ⟨hex, es, ep, t, hd, hel, hm, hz, hf, hl, hp⟩ := id hO
  have hS := C.get hR
  dsimp only at hS
  have hT : s.TypeIs (.ref S) "set" := ⟨o, hS, hex.1⟩
  have hmem : ∀ ord : List (Int × Value), ord.Perm es.toList → (∀ x, f x = true ↔ ∃ e ∈ ord, ∃ t, e.2 = .str x t) ∧ (∀ e ∈ ord, ∃ x t, e.2 = .str x t) := fun ord pm => ⟨fun x => by
    rw [hm x]
    constructor
    · rintro ⟨e, he, hk⟩
      obtain ⟨t, ht⟩ := Value.isStrOf_shape hk
      exact ⟨e, pm.mem_iff.mpr he, t, ht⟩
    · rintro ⟨e, he, t, ht⟩
      exact ⟨e, pm.mem_iff.mp he, by rw [ht]; exact strKind_is _ _ _ _⟩, fun e he => SSet.str hel (pm.mem_iff.mp he)⟩
  refine wpAny_pyIter_slot hT F.slot_set_iter (wpAny_call_entry F.slot_set_iter hT SF.entry_set_iter ?_ (F.args_set_iter_1 _))
  unfold Builtin.«frozenset.__iter__» Builtin.Frozenset.slot0 slotArgs
  simp only [List.isEmpty_nil, Bool.not_true, Bool.false_eq_true, ↓reduceIte, bind_assoc, List.length_nil, bne_self_eq_false]
  unfold Builtin.Frozenset.addrOf Builtin.Frozenset.sizeOf
  refine wpAny_bind (wpAny_pure ?_)
  refine wpAny_bind (wpAny_pure ?_)
  refine wpAny_bind ?_
  refine wpAny_bind (wpAny_setEntries_of hS hd hf (wpAny_pure ?_))
  refine wpAny_bind (set_drawn hS hd hf ?_)
  have ends : ∀ {vs : List Value} {s1 : Shared} {R1 : List (Addr × Obj)} {a1 : Value}, vs = [a1, rawInt 0, .ref S, rawInt es.size, rawInt ep] → Cx false s₀ g L s1 m R1 → s1.heap.get? S = some o →
      (∀ oI s2, oI = sitO vs → Cx false s₀ g L s2 m ((s1.heap.objs.size, oI) :: R1) → Q (.ref s1.heap.objs.size) s2) →
      wpAny (model P9 w) A.in1 (setEpoch S >>= fun e => newFields "set_iterator" [a1, rawInt 0, .ref S, rawInt es.size, rawInt e] >>= fun r => ret r) (fun fin s' => ∃ r, fin = .done (.ret r) ∧ ∃ T' r', s'.TypeIs r T' ∧ typeLookup (.type T') "__next__" = pure (some r') ∧ Q r s') E s1 := by
    rintro vs s1 R1 a1 rfl C1 hS1 hq
    refine wpAny_bind (wpAny_setEpoch_of hS1 hd hf ?_)
    refine wpAny_bind (wpAny_newObj_type (wpAny_pure ⟨_, rfl, "set_iterator", _, ⟨_, Heap.get?_push_size _ rfl, rfl⟩, SF.slot_seti_next.lookup, ?_⟩))
    exact hq (sitO [a1, rawInt 0, .ref S, rawInt es.size, rawInt ep]) _ rfl C1.push
  by_cases hdr : (!(w.params.followText "set-order") && (!t.plain && decide (es.size > 1))) = true
  · rw [if_pos hdr]
    refine wpAny_bind (w_draw _ _ _ (List.length_range).symm fun ys d pm => ?_)
    refine wpAny_bind (wpAny_newTuple ?_ ?_)
    · have C1 : Cx false s₀ g L ⟨s.heap.push (plO ys), s.gens, d, s.toks, s.os⟩ m ((s.heap.objs.size, plO ys) :: R) := (C.drew d).push
      refine ends rfl C1 (C1.get (.tail _ hR)) fun oI s2 hoI C2 => ?_
      have hIS : (s.heap.push (plO ys)).objs.size ≠ S := fun e => by
        have := C2.nd
        simp only [List.map_cons, List.nodup_cons] at this
        exact this.1 (.tail _ (List.mem_map.mpr ⟨_, hR, e.symm⟩))
      have hIT : (s.heap.push (plO ys)).objs.size ≠ s.heap.objs.size := by rw [Heap.size_push]; exact Nat.succ_ne_self _
      subst hoI
      obtain ⟨ord, pm', hw⟩ := swk_draw (w := w) (A := A) hh hIS hIT (C2.get (.head _)) (C2.get (.tail _ (.tail _ hR))) hd hf (C2.get (.tail _ (.head _))) pm
      exact h _ [(s.heap.objs.size, plO ys)] ord s2 _ C2 hw (hmem ord pm').1 (hmem ord pm').2
    · have := pm.length_eq
      rw [List.length_range] at this
      rw [List.length_map, sizeLine_eq]; (first | lia | omega)
  · rw [if_neg hdr]
    refine ends rfl C hS fun oI s2 hoI C2 => ?_
    have hIS : s.heap.objs.size ≠ S := fun e => by
      have := C2.nd
      simp only [List.map_cons, List.nodup_cons] at this
      exact this.1 (List.mem_map.mpr ⟨_, hR, e.symm⟩)
    subst hoI
    by_cases hbt : w.params.followText "set-order" = true
    · have hw : SWk w A s.heap.objs.size S o [] (pickOrder (w.params.setOrder S ep) es).toList s2 := swk_place (fun _ => 0) hh hIS (C2.get (.head _)) (C2.get (.tail _ hR)) hd hf
        (fun i e he s A Q E hS hq => sn_text hbt hS hd hf (by rw [← Array.getElem?_toList, he]; rfl) hq)
        (fun s A Q E hS hq => sn_text hbt hS hd hf (by rw [← Array.getElem?_toList, List.getElem?_eq_none (Nat.le_refl _)]; rfl) hq)
      have pm := pick_perm (w.params.setOrder S ep) es
      exact h _ [] _ s2 _ C2 hw (hmem _ pm).1 (hmem _ pm).2
    · have hbt' : w.params.followText "set-order" = false := by simpa using hbt
      have hled : t.led = true := by rw [hl, hbt']; rfl
      have hz1 : es.size ≤ 1 := by
        refine Nat.le_of_not_lt fun hlt => hdr ?_
        rw [hbt', hp (by (first | lia | omega))]; simp; (first | lia | omega)
      have hps : t.place.size = es.size := by
        simp only [SetTable.fits, Bool.and_eq_true, beq_iff_eq] at hf
        exact hf.1
      have hw : SWk w A s.heap.objs.size S o [] es.toList s2 := by
        refine swk_place (fun i => if i = 0 then 0 else t.place.getD 0 0 + 1) hh hIS (C2.get (.head _)) (C2.get (.tail _ hR)) hd hf (fun i e he s A Q E hS hq => sn_led hbt' hS hd hf hled hz1 ?_ hq) (fun s A Q E hS hq => sn_led hbt' hS hd hf hled hz1 ?_ hq)
        · rw [Array.getElem?_toList] at he
          obtain ⟨hi, hie⟩ := Array.getElem?_eq_some_iff.mp he
          have hi0 : i = 0 := by (first | lia | omega)
          subst hi0
          have h1 : t.place.size = 1 := by (first | lia | omega)
          rw [if_pos rfl, below1 h1, if_neg (Nat.not_lt_zero _), he]
          have h2 : t.place[0]? = some (t.place.getD 0 0) := by simp [Array.getD, h1]
          rw [h2]; rfl
        · rcases Nat.lt_or_ge 0 es.size with h0 | h0
          · have h1 : t.place.size = 1 := by (first | lia | omega)
            have h3 : es.toList.length = 1 := by rw [Array.length_toList]; (first | lia | omega)
            rw [h3, if_neg (by decide), below1 h1]
            have h2 : t.place.getD 0 (t.place.getD 0 0 + 1) < t.place.getD 0 0 + 1 := by simp [Array.getD, h1]
            rw [if_pos h2]
            have h4 : es[1]? = none := Array.getElem?_eq_none (by (first | lia | omega))
            rw [h4]
          · have h3 : es.toList.length = 0 := by rw [Array.length_toList]; (first | lia | omega)
            rw [h3, if_pos rfl, below0 (by (first | lia | omega))]
            have h4 : es[0]? = none := Array.getElem?_eq_none (by (first | lia | omega))
            rw [h4]
      exact h _ [] _ s2 _ C2 hw (hmem _ (List.Perm.refl _)).1 (hmem _ (List.Perm.refl _)).2
end
section
variable {w : World} {A : Around} {E : Value → Shared → Prop}
theorem for_set {s₀ s : Shared} {g : Heap} {L S : Addr} {m : Str → Option Value} {R : List (Addr × Obj)} {o : Obj} {n : Nat} {f : Str → Bool} {cn : Str} {cs : Scope} {fa : Addr} {ccd : Value} {cl : List (Str × Addr)} {x : Str} {px : Pos} {body : List Stmt} {Q : Flow → Shared → Prop}
    (C : Cx false s₀ g L s m R) (hh : A.handled = none) (hR : (S, o) ∈ R) (hO : SSet w n o f) (hn : n ≤ 1000) (hx : cs.names.lookup x = some .local) (hk : cs.kind = .function)
    (J : (Str → Prop) → (Str → Option Value) → Prop) (hJ : J (fun _ => False) m)
    (turn : ∀ (X : Str → Prop) y t m s' I oI EX, f y = true → J X m → Cx false s₀ g L s' (upd m x (.str y t)) ((I, oI) :: (EX ++ R)) → wpAny (model P9 w) A (execs body (envX cn cs L fa ccd cl)) (fun fl s'' => match fl with
      | .next | .cont => ∃ m', Cx false s₀ g L s'' m' ((I, oI) :: (EX ++ R)) ∧ J (fun z => X z ∨ z = y) m'
      | .brk => Q .next s''
      | .ret v => Q (.ret v) s'') (fun _ _ => False) s')
    (done : ∀ (X : Str → Prop) m s' EX, (∀ z, f z = true → X z) → J X m → Cx false s₀ g L s' m (EX ++ R) → Q .next s') :
    wpAny (model P9 w) A (pyIter (.ref S)) (fun it s₂ => codeAny (model P9 w) A (.forLoop (.Name x px) it body [] (envX cn cs L fa ccd cl)) (fun r s' => match r with | .ok fl => Q fl s' | .error e => cameBackBy (model P9 w) A (envX cn cs L fa ccd cl) E e s') s₂) E s := by
  refine r_setiter C hh hR hO hn fun I EX ord s1 oI C1 hw hf hstr => ?_
  obtain ⟨fp, St, W, h0, hSt, hIo⟩ := hw
  have key : ∀ (i : Nat) e, ord[i]? = some e → ord.take (i + 1) = ord.take i ++ [e] := fun i e he => by rw [List.take_succ, he]; rfl
  refine cx_for W (fun h => h.get? S = some o ∧ ∀ p ∈ EX, h.get? p.1 = some p.2) hSt hIo (fun i m' R' => R' = EX ++ R ∧ J (fun z => ∃ e ∈ ord.take i, ∃ t, e.2 = .str z t) m') ?sv hx hk C1 h0 ⟨rfl, ?j0⟩ ?turn ?done
  case sv =>
    rintro i m' R' s' o' ⟨rfl, -⟩ K
    exact ⟨K.get (.tail _ (List.mem_append_right _ hR)), fun p hp => K.get (.tail _ (List.mem_append_left _ hp))⟩
  case j0 =>
    have : (fun z : Str => ∃ e ∈ ord.take 0, ∃ t, e.2 = Value.str z t) = fun _ => False := by funext z; simp
    rw [this]; exact hJ
  case turn =>
    rintro i v m' R' s' oI' hi ⟨e, he, rfl⟩ ⟨rfl, hj⟩ K
    have hmem : e ∈ ord := List.mem_of_getElem? he
    obtain ⟨y, t, hy⟩ := hstr e hmem
    rw [hy] at K
    refine wpAny_mono (turn _ y t m' s' I oI' EX ((hf y).mpr ⟨e, hmem, t, hy⟩) hj K) (fun fl s2 h2 => ?_) fun _ _ z => z
    have conv : (∃ m', Cx false s₀ g L s2 m' ((I, oI') :: (EX ++ R)) ∧ J (fun z => (∃ e ∈ ord.take i, ∃ t, e.2 = .str z t) ∨ z = y) m') →
        ∃ m' R', Cx false s₀ g L s2 m' ((I, oI') :: R') ∧ (R' = EX ++ R ∧ J (fun z => ∃ e ∈ ord.take (i + 1), ∃ t, e.2 = .str z t) m') := by
      rintro ⟨m2, K2, hj2⟩
      refine ⟨m2, _, K2, rfl, ?_⟩
      have : (fun z : Str => ∃ e ∈ ord.take (i + 1), ∃ t, e.2 = Value.str z t) = fun z => (∃ e ∈ ord.take i, ∃ t, e.2 = .str z t) ∨ z = y := by
        funext z
        rw [key i e he]
        apply propext
        constructor
        · rintro ⟨e', he', t', h'⟩
          rcases List.mem_append.mp he' with h1 | h1
          · exact .inl ⟨e', h1, t', h'⟩
          · rw [List.mem_singleton.mp h1, hy] at h'
            injection h' with h3 h4
            exact .inr h3.symm
        · rintro (⟨e', h1, t', h'⟩ | rfl)
          · exact ⟨e', List.mem_append_left _ h1, t', h'⟩
          · exact ⟨e, List.mem_append_right _ (.head _), t, hy⟩
      rw [this]; exact hj2
    cases fl with
    | next => exact conv h2
    | cont => exact conv h2
    | brk => exact h2
    | ret v => exact h2
  case done =>
    rintro m' R' s' ⟨rfl, hj⟩ K
    refine done _ m' s' EX (fun z hz => ?_) hj K
    obtain ⟨e, he, t, ht⟩ := (hf z).mp hz
    exact ⟨e, by rw [List.take_of_length_le (Nat.le_refl _)]; exact he, t, ht⟩
end
/-! dicts with texts for keys -/
section
variable {k : Bool} {w : World} {A : Around} {E : Value → Shared → Prop} {s₀ s : Shared} {g : Heap} {L d : Addr} {m : Str → Option Value} {R : List (Addr × Obj)} {o : Obj} {kvs : List (Str × Value)} {x : Str} {t : Tok}
theorem r_din {Q : Value → Shared → Prop} (C : Cx k s₀ g L s m R) (hm : (d, o) ∈ R) (hd : o.IsDictOf (strKind P9 w) kvs) (lo : (d == sysModules) = false) (h : ∀ s', Cx k s₀ g L s' m R → Q (.bool (valueAt kvs x).isSome) s') : wpAny (model P9 w) A (compareOp .In (.str x t) (.ref d)) Q E s :=
  kda_in C.N hm hd lo (strKind_is _ _ _ _) _ rfl (h _ C.toks)
theorem r_dget {value slice : Expr} {v : Value} {Q : Value → Shared → Prop} (C : Cx k s₀ g L s m R) (hm : (d, o) ∈ R) (hd : o.IsDictOf (strKind P9 w) kvs) (hv : valueAt kvs x = some v) (h : ∀ s', Cx k s₀ g L s' m R → Q v s')
    (hs : subscripted slice false (.ref d) (.str x t) = operate [.ref d, .str x t] (getItem (.ref d) (.str x t)) := by with_unfolding_all rfl) : wpAny (model P9 w) A (subscriptTail value slice (.ref d) (.str x t)) Q E s :=
  kdt_tail C.N hm hd (kdt_getItem C.N hm hd (strKind_is _ _ _ _) hv (h _ C.toks)) hs
theorem r_dset {v : Value} {nf : Obj → List (Addr × Obj)} {Q : Unit → Shared → Prop} (C : Cx k s₀ g L s m R) (U : ∀ o', Up d o o' R (nf o')) (hd : o.IsDictOf (strKind P9 w) kvs) (hz : kvs.length ≤ 100000) (h : ∀ o' s', Cx k s₀ g L s' m (nf o') → o'.IsDictOf (strKind P9 w) (stored kvs x v) → Q () s') :
    wpAny (model P9 w) A (setItem (.ref d) (.str x t) v) Q E s := by
  refine wpAny_setItem_pairs (strKind_is _ _ _ _) (Heap.dictOf_iff.mpr ⟨o, C.get (U o).mem, hd⟩) (fun h' hm hs => ?_) (by rw [sizeLine_eq]; (first | lia | omega))
  obtain ⟨o', ho', hd'⟩ := Heap.dictOf_iff.mp hm
  exact h o' _ (C.up (U o') hs ho') hd'
theorem r_dict1 {kx : Str} {vx : Expr} {px : Nat} {pp pos : Pos} {env : Env} {mg mb : Str → Option Value} {Q : Value → Shared → Prop} (C : Cx k s₀ g L s m R) (W : Wd w mg mb g)
    (h : ∀ d s', (d == sysModules) = false → Cx k s₀ g L s' m ((d, { cls := .type "dict", data := .dict #[] }) :: R) → wpAny (model P9 w) A (evalPairs (pairTrees [some (.Constant (.str kx) px pp)] [vx] env pos)) (fun vs s₁ => ∃ t v, vs = [(.str kx t, v)] ∧ Cx k s₀ g L s₁ m ((d, { cls := .type "dict", data := .dict #[] }) :: R) ∧
      ∀ o' s', o'.IsDictOf (strKind P9 w) [(kx, v)] → Cx k s₀ g L s' m ((d, o') :: R) → Q (.ref d) s') E s') :
    wpAny (model P9 w) A (eval (.Dict [some (.Constant (.str kx) px pp)] [vx] pos) env) Q E s := by
  refine Dict_made (knd := strKind P9 w) C.F rfl rfl (List.cons_ne_nil _ _) (by simp) fun F' => ?_
  refine wpAny_mono (h _ _ (C.F.notModules (modules_low W.lim)) (C.push (o := { cls := .type "dict", data := .dict #[] }))) (fun vs s₁ hq => ?_) fun _ _ z => z
  obtain ⟨t, v, rfl, C1, hQ⟩ := hq
  have hn : Obj.IsDictOf (strKind P9 w) ({ cls := .type "dict", data := .dict #[] } : Obj) [] := by
    obtain ⟨o, ho, hd⟩ := Heap.dictOf_iff.mp (Heap.DictOf.new (knd := strKind P9 w) s.heap)
    have e : (s.heap.push { cls := .type "dict", data := .dict #[] }).get? s.heap.objs.size = some _ := Heap.get?_push_size _ rfl
    rw [show o = _ from Option.some.inj (ho.symm.trans e)] at hd
    exact hd
  refine display_done_str rfl (by simp [strPairs]) (Heap.dictOf_iff.mpr ⟨_, C1.get (.head _), hn⟩) fun h' hm hs => ?_
  obtain ⟨o', ho', hd'⟩ := Heap.dictOf_iff.mp hm
  exact hQ o' _ hd' (C1.up .z hs ho')
end
/-! the reader: an _Ignore object -/
theorem vA_map {x y : Str} {v : Value} : ∀ kvs : List (Str × Value), kvs.any (fun kv => kv.1 = x) = true → valueAt (kvs.map fun kv => if kv.1 = x then (kv.1, v) else kv) y = if y = x then some v else valueAt kvs y
  | [], h => by cases h
  | (a, b) :: r, h => by
    by_cases hr : r.any (fun kv => kv.1 = x) = true
    · have ih := vA_map (x := x) (y := y) (v := v) r hr
      unfold valueAt at ih ⊢
      by_cases ha : a = x
      · subst ha
        by_cases hy : a = y
        · subst hy; simp
        · have hy' : ¬ y = a := fun q => hy q.symm
          simp only [List.map_cons, if_true, List.find?_cons, hy, decide_false] at ih ⊢
          exact ih
      · by_cases hy : a = y
        · subst hy; simp [ha]
        · simp only [List.map_cons, ha, if_false, List.find?_cons, hy, decide_false] at ih ⊢
          exact ih
    · have ha : a = x := by simpa [hr] using h
      subst ha
      have hm : (r.map fun kv => if kv.1 = a then (kv.1, v) else kv) = r := by
        refine (List.map_congr_left fun kv hkv => ?_).trans (List.map_id r)
        rw [if_neg]; rfl
        intro q
        exact hr (List.any_eq_true.mpr ⟨kv, hkv, by simp [q]⟩)
      unfold valueAt
      rw [List.map_cons, hm]
      by_cases hy : a = y
      · subst hy; simp
      · have hy' : ¬ y = a := fun q => hy q.symm
        simp [List.find?_cons, hy, hy']
theorem valueAt_stored {kvs : List (Str × Value)} {x y : Str} {v : Value} : valueAt (stored kvs x v) y = if y = x then some v else valueAt kvs y := by
  unfold stored
  split
  · rename_i h; exact vA_map kvs h
  · rename_i h
    unfold valueAt
    rw [List.find?_append]
    by_cases hy : y = x
    · subst hy
      have : kvs.find? (fun kv => decide (kv.1 = y)) = none := List.find?_eq_none.mpr fun kv hkv q => h (List.any_eq_true.mpr ⟨kv, hkv, q⟩)
      rw [this]; simp
    · have hy' : ¬ x = y := fun q => hy q.symm
      simp [hy, hy']
theorem stored_len (kvs : List (Str × Value)) (x : Str) (v : Value) : (stored kvs x v).length ≤ kvs.length + 1 := by
  unfold stored
  split
  · rw [List.length_map]; (first | lia | omega)
  · rw [List.length_append]; exact Nat.le_refl _
/-- the reader's own dict -/
structure RdM (ma : Str → Option Value) (S l D : Addr) : Prop where
  mods : ma (Str.ofString "_mods") = some (.ref S)
  dirs : ma (Str.ofString "_dirs") = some (.ref l)
  ign : ma (Str.ofString "_ignore") = some (.ref D)
  noNames : ma (Str.ofString "names") = none
theorem ign_ok {w : World} {mg mb m : Str → Option Value} {A : Around} {s₀ s : Shared} {g : Heap} {L a : Addr} {vo : List Value} {co : Nat} {out : List Tx} {news : List (Addr × Obj)} {Q E : Value → Shared → Prop}
    (C : Cx false s₀ g L s m news) (W : Wd w mg mb g) (ha : (a, lo vo co) ∈ news ∨ g.get? a = some (lo vo co)) (hvo : SVs vo out) (hne : out ≠ []) (hlo : out.length ≤ 1000) (Rr : Rm A 8 40)
    (h : ∀ x dx ox S oS l D oD s' ma n t, (D == sysModules) = false → DNs n ox ma → RdM ma S l D → SSet w out.length oS (fun y => decide (y ∈ out.map Mine.S)) → oD.IsDictOf (strKind P9 w) [(Str.ofString "<string>", .int 1 t)] →
      Cx false s₀ g L s' m ((D, oD) :: (l, lo [] 0) :: (S, oS) :: (x, instObj 137 dx) :: (dx, ox) :: news) → Q (.ref x) s') :
    wpAny (model P9 w) A (call (.ref 137) [.ref a]) Q E s := by
  have hlv := hvo.length
  refine r_cls (fI := 127) C W (by kernel_rfl) (by k_is) (by k_is) fun x dx s1 C1 => ?_
  have ha1 : s1.heap.get? a = some (lo vo co) := ha.elim (fun q => C1.get (.tail _ (.tail _ q))) fun q => C1.keep _ _ q
  have hax : a ≠ x ∧ a ≠ dx := by
    have nd := C1.nd
    simp only [List.map_cons, List.nodup_cons, List.mem_cons, not_or] at nd
    rcases ha with q | q
    · have hm : a ∈ news.map (·.1) := List.mem_map_of_mem q
      exact ⟨fun e => nd.1.2 (e ▸ hm), fun e => nd.2.1 (e ▸ hm)⟩
    · have e1 := (C1.N _ (.head _)).2.2
      have e2 := (C1.N _ (.tail _ (.head _))).2.2
      exact ⟨fun e => (by dsimp only at e1; rw [e, e1] at q; cases q), fun e => (by dsimp only at e2; rw [e, e2] at q; cases q)⟩
  have hq : ∀ q ∈ [(x, instObj 137 dx), (dx, emptyDict)], q ∈ (x, instObj 137 dx) :: (dx, emptyDict) :: news := fun q hq => by
    rcases List.mem_cons.mp hq with rfl | hq
    · exact .head _
    · rw [List.mem_singleton.mp hq]; exact .tail _ (.head _)
  have hxd : x ≠ dx := by
    have := C1.nd
    simp only [List.map_cons, List.nodup_cons, List.mem_cons, not_or] at this
    exact this.1.1
  have hgs := C1.keep
  have hN0 : DNs 0 emptyDict noA := DNs.empty
  refine' enterH (k := false) (D := [(x, instObj 137 dx), (dx, emptyDict)]) (binds := [(Str.ofString "self", .ref x), (Str.ofString "modules", .ref a), (Str.ofString "dirs", .none)]) W C1.keep (fun q h => ⟨C1.get (hq q h), (C1.N q (hq q h)).2.2⟩) (by simp [hxd]) (Rm.under (Rr.le (d' := 7) (u' := 31) (by (first | lia | omega)) (by (first | lia | omega)))).room ?ho ?hcd ?hb ?hl ?hr ?_ ?h1 ?h2 ?h3 ?h4
  k_call_by "entd" 0
  intro L1 s2 WH hgh C2 hL
  refine hideQ fun Qt hQt => ?_
  have ga : (hideAll s1.heap [x, dx]).get? a = some (lo vo co) := hideAll_get _ ha1 (by simp [hax.1, hax.2])
  have il : ∀ {s' : Shared} {m' R'}, Cx false s1 (hideAll s1.heap [x, dx]) L1 s' m' R' → s'.heap.IsList a vo.toArray := fun K => ⟨_, K.keep _ _ ga, rfl, co, rfl⟩
  k_call_by "go" 0
  refine wpAny_IfExp ?_
  k_call_by "go" 0
  refine r_ltruth C2 (il C2) (by (first | lia | omega)) fun s5 C5 => ?_
  rw [decide_eq_true (by intro q; subst q; cases hvo; exact hne rfl : vo ≠ [])]
  k_call_by "go" 0
  refine r_set C5 (Rm.deeper (d := 0) (u := 0) (Rm.under (Rr.le (d' := 2) (u' := 4) (by (first | lia | omega)) (by (first | lia | omega))))).hand (il C5) hvo hlo fun S oS s6 C6 hS => ?_
  k_call_by "gon" 0
  rename_i C7
  refine wpAny_IfExp ?_
  k_call_by "go" 0
  refine truthy_none ?_
  k_call_by "go" 0
  refine r_list0 C7 fun l s8 C8 => ?_
  k_call_by "gon" 0
  rename_i C9
  refine r_dict1 C9 WH fun D s10 hDs C10 => ?_
  refine pairTrees_cons_walk ?_
  k_call_by "go" 0
  refine pairTrees_nil_walk ⟨_, _, rfl, by assumption, fun oD s11 hD C11 => ?_⟩
  k_call_by "gon" 0
  rename_i od s12 N12 C12
  refine ⟨rfl, ?_⟩
  have C13 := Cx.ret (D := [(x, instObj 137 dx), (dx, emptyDict)]) (D' := [(x, instObj 137 dx), (dx, od)]) (F := [(D, oD), (l, lo [] 0), (S, oS)]) C1 (C12.perm (List.perm_append_comm (l₁ := [(D, oD), (l, lo [] 0), (S, oS)]) (l₂ := [(x, instObj 137 dx), (dx, od)]))) rfl
  exact h x dx od S oS l D oD s12 _ _ _ hDs N12 ⟨by k_call_by "lk" 0, by k_call_by "lk" 0, by k_call_by "lk" 0, by k_call_by "lk" 0⟩ hS hD C13
theorem starts_S (a b : Tx) : Txt.startswith (S a) (S b) = b.isPrefixOf a := by
  unfold Txt.startswith
  rw [StrLaws.subAt_eq]
  have e1 : (S a).cps.toList = a := rfl
  have e2 : (S b).cps.toList = b := rfl
  have e3 : (S b).length = b.length := rfl
  have e4 : (S a).length = a.length := rfl
  rw [e1, e2, e3, e4, List.drop_zero, Nat.zero_add]
  by_cases h : b <+: a
  · have h1 := List.isPrefixOf_iff_prefix.mpr h
    obtain ⟨r, rfl⟩ := h
    rw [h1]
    simp
  · have h1 : b.isPrefixOf a = false := by
      cases e : b.isPrefixOf a with
      | false => rfl
      | true => exact absurd (List.isPrefixOf_iff_prefix.mp e) h
    rw [h1, Bool.and_eq_false_imp]
    intro _
    refine beq_eq_false_iff_ne.mpr fun q => h ?_
    rw [← q]; exact List.take_prefix _ _
theorem r_add_dot {k : Bool} {w : World} {A : Around} {E : Value → Shared → Prop} {s₀ s : Shared} {g : Heap} {L : Addr} {m : Str → Option Value} {R : List (Addr × Obj)} {z : Tx} {t u : Tok} {Q : Value → Shared → Prop} (C : Cx k s₀ g L s m R) (hl : z.length ≤ 1000000) (h : ∀ t' s', Cx k s₀ g L s' m R → Q (.str (S (z ++ [46])) t') s') :
    wpAny (model P9 w) A (binaryOp .Add (.str (S z) t) (.str (Str.ofString ".") u)) Q E s := by
  rw [e_dot]
  exact r_add_S C (by simp; (first | lia | omega)) h
theorem r_inset {k : Bool} {w : World} {A : Around} {E : Value → Shared → Prop} {s₀ s : Shared} {g : Heap} {L a : Addr} {m : Str → Option Value} {R : List (Addr × Obj)} {o : Obj} {n : Nat} {f : Str → Bool} {y : Str} {t : Tok} {Q : Value → Shared → Prop}
    (C : Cx k s₀ g L s m R) (hm : (a, o) ∈ R) (hS : SSet w n o f) (hn : n ≤ 1000) (h : ∀ s', Cx k s₀ g L s' m R → Q (.bool (f y)) s') : wpAny (model P9 w) A (compareOp .In (.str y t) (.ref a)) Q E s := by
  obtain ⟨m', hm', ho⟩ := hS.obj
  exact wpAny_inSet_of (knd := strKind P9 w) (strKind_is _ _ _ _) rfl (ho.setOf (C.get hm) (by show _ < 4096; (first | lia | omega))) (h _ C.toks)
noncomputable def RdInv (out : List Tx) (kvs : List (Str × Value)) : Prop := ∀ z v, valueAt kvs (S z) = some v → S z ≠ Str.ofString "<string>" → ∃ t, v = .int (if hit out z = true then 1 else 0) t
noncomputable def rdL (x dx D l S : Addr) (ox oD oS : Obj) : List (Addr × Obj) := [(x, instObj 137 dx), (dx, ox), (D, oD), (l, lo [] 0), (S, oS)]
theorem RdInv.put {out : List Tx} {kvs : List (Str × Value)} {nm : Tx} {t : Tok} (h : RdInv out kvs) : RdInv out (stored kvs (S nm) (.int (if hit out nm = true then 1 else 0) t)) := by
  intro z v hv hz
  rw [valueAt_stored] at hv
  by_cases e : S z = S nm
  · rw [if_pos e] at hv
    have : z = nm := S_inj e
    subst this
    exact ⟨t, (Option.some.inj hv).symm⟩
  · rw [if_neg e] at hv
    exact h z v hv hz
theorem names_ok {w : World} {mg mb m : Str → Option Value} {A : Around} {s₀ s : Shared} {g : Heap} {L x dx D l S0 : Addr} {ox oD oS : Obj} {ma : Str → Option Value} {n : Nat} {out : List Tx} {kvs : List (Str × Value)} {nm : Tx} {tn : Tok} {fv : Value} {R : List (Addr × Obj)} {Q E : Value → Shared → Prop}
    (C : Cx false s₀ g L s m (rdL x dx D l S0 ox oD oS ++ R)) (W : Wd w mg mb g) (hDs : (D == sysModules) = false) (hN : DNs n ox ma) (hma : RdM ma S0 l D) (hS : SSet w out.length oS (fun y => decide (y ∈ out.map S))) (hlo : out.length ≤ 1000)
    (hD : oD.IsDictOf (strKind P9 w) kvs) (hI : RdInv out kvs) (hk : kvs.length ≤ 10000) (hnm : S nm ≠ Str.ofString "<string>") (hnl : nm.length ≤ 1000000) (hol : ∀ o ∈ out, o.length ≤ 1000000) (hf : (∃ t, fv = .str (Str.ofString "f") t) ∨ (fv = .none ∧ (valueAt kvs (S nm)).isSome = true)) (Rr : Rm A 8 40)
    (h : ∀ oD' kvs' s' t, oD'.IsDictOf (strKind P9 w) kvs' → RdInv out kvs' → kvs'.length ≤ kvs.length + 1 → (∀ y, (valueAt kvs y).isSome = true → (valueAt kvs' y).isSome = true) → (valueAt kvs' (S nm)).isSome = true →
      Cx false s₀ g L s' m (rdL x dx D l S0 ox oD' oS ++ R) → Q (.int (if hit out nm = true then 1 else 0) t) s') :
    wpAny (model P9 w) A (call (.ref 134) [.ref x, fv, .str (S nm) tn]) Q E s := by
  obtain ⟨e1, e2, e3, e4⟩ := hma
  have hgs := C.keep
  have hq : ∀ q ∈ rdL x dx D l S0 ox oD oS, q ∈ rdL x dx D l S0 ox oD oS ++ R := fun q hq => List.mem_append_left _ hq
  have hnd : ((rdL x dx D l S0 ox oD oS).map (·.1)).Nodup := (List.Sublist.map _ (List.sublist_append_left _ R)).nodup C.nd
  refine wpAny_call ?_
  refine' enterH (k := false) (D := rdL x dx D l S0 ox oD oS) (binds := [(Str.ofString "self", .ref x), (Str.ofString "filename", fv), (Str.ofString "modulename", .str (S nm) tn)]) W C.keep (fun q h => ⟨C.get (hq q h), (C.N q (hq q h)).2.2⟩) hnd Rr.room ?ho ?hcd ?hb ?hl ?hr ?_ ?h1 ?h2 ?h3 ?h4
  k_call_by "ent" 0
  intro L1 s1 WH hgh C1 hL
  refine hideQ fun Qt hQt => ?_
  obtain ⟨gg, hgg⟩ : ∃ y, y = hideAll s.heap ((rdL x dx D l S0 ox oD oS).map (·.1)) := ⟨_, rfl⟩
  rw [← hgg] at WH C1 hgh
  unfold rdL at C1
  k_call_by "go" 0
  rename_i C2
  have fin : ∀ {m' : Str → Option Value} {s' : Shared} {oD' : Obj} {kvs' : List (Str × Value)} {EX : List (Addr × Obj)} {t : Tok} {b : Bool}, Cx false s gg L1 s' m' (EX ++ rdL x dx D l S0 ox oD' oS) → oD'.IsDictOf (strKind P9 w) kvs' → RdInv out kvs' → kvs'.length ≤ kvs.length + 1 →
      (∀ y, (valueAt kvs y).isSome = true → (valueAt kvs' y).isSome = true) → (valueAt kvs' (S nm)).isSome = true → hit out nm = b → Q (.int (if b = true then 1 else 0) t) s' := by
    intro m' s' oD' kvs' EX t b K h1 h2 h3 h4 h5 hb
    subst hb
    subst hgg
    have K2 := Cx.ret (D := rdL x dx D l S0 ox oD oS) (D' := rdL x dx D l S0 ox oD' oS) (F := EX) C (K.perm List.perm_append_comm) rfl
    exact h oD' kvs' s' t h1 h2 h3 h4 h5 (K2.drop (List.sublist_append_right EX _))
  have put : ∀ {t : Tok}, RdInv out (stored kvs (S nm) (.int (if hit out nm = true then 1 else 0) t)) ∧ (stored kvs (S nm) (.int (if hit out nm = true then 1 else 0) t)).length ≤ kvs.length + 1 ∧
      (∀ y, (valueAt kvs y).isSome = true → (valueAt (stored kvs (S nm) (.int (if hit out nm = true then 1 else 0) t)) y).isSome = true) ∧ (valueAt (stored kvs (S nm) (.int (if hit out nm = true then 1 else 0) t)) (S nm)).isSome = true := fun {t} =>
    ⟨hI.put, stored_len _ _ _, fun y hy => by rw [valueAt_stored]; split; · rfl
                                              · exact hy, by rw [valueAt_stored, if_pos rfl]; rfl⟩
  refine r_din C2 (.tail _ (.tail _ (.head _))) hD hDs fun s3 C3 => ?_
  cases hv : valueAt kvs (S nm) with
  | some v =>
    obtain ⟨t, rfl⟩ := hI nm v hv hnm
    simp only [Option.isSome_some]
    k_call_by "go" 0
    rename_i C4
    refine r_dget C4 (.tail _ (.tail _ (.head _))) hD hv fun s5 C5 => ?_
    k_call_by "go" 0
    exact fin (EX := []) C5 hD hI (Nat.le_succ _) (fun _ h => h) (by rw [hv]; rfl) rfl
  | none =>
    simp only [Option.isSome_none]
    obtain ⟨tf, rfl⟩ : ∃ t, fv = .str (Str.ofString "f") t := hf.elim id fun q => by rw [hv] at q; exact absurd q.2 (by simp)
    k_call_by "go" 0
    rename_i C4
    refine r_inset C4 (.tail _ (.tail _ (.tail _ (.tail _ (.head _))))) hS hlo fun s5 C5 => ?_
    by_cases hin : nm ∈ out
    · have hh : hit out nm = true := List.any_eq_true.mpr ⟨nm, hin, by simp⟩
      rw [decide_eq_true (List.mem_map_of_mem hin)]
      k_call_by "go" 0
      refine wpAny_Assign_Subscript ?_
      k_call_by "go" 0
      rename_i t6 s6 C6
      refine r_dset (nf := fun o' => [(x, instObj 137 dx), (dx, ox), (D, o'), (l, lo [] 0), (S0, oS)]) C6 (by k_call_by "up" 0) hD (by (first | lia | omega)) fun oD' s7 C7 hD' => ?_
      k_call_by "go" 0
      rename_i t8 s8 C8
      rw [hh] at put
      exact fin (EX := []) C8 hD' put.1 put.2.1 put.2.2.1 put.2.2.2 hh
    · have hni : S nm ∉ out.map S := fun q => by
        obtain ⟨z, hz, e⟩ := List.mem_map.mp q
        exact hin (S_inj e ▸ hz)
      rw [decide_eq_false hni]
      k_call_by "go" 0
      refine wpAny_For ?_
      k_call_by "go" 0
      rename_i C6
      refine for_set (n := out.length) C6 (Rm.deeper (d := 0) (u := 0) (Rr.le (by first | decide | (first | lia | omega)) (by first | decide | (first | lia | omega)))).hand (.tail _ (.tail _ (.tail _ (.tail _ (.head _))))) hS hlo (by k_call_by "kd" 0) rfl
        (fun X m' => m' (Str.ofString "self") = some (.ref x) ∧ m' (Str.ofString "filename") = some (.str (Str.ofString "f") tf) ∧ m' (Str.ofString "modulename") = some (.str (S nm) tn) ∧ ∀ z, X (S z) → (z ++ [46]).isPrefixOf nm = false)
        ⟨by k_call_by "lk" 0, by k_call_by "lk" 0, by k_call_by "lk" 0, fun _ q => q.elim⟩ ?turn ?done
      case turn =>
        rintro X y t m' s' I oI EX hy ⟨g1, g2, g3, g4⟩ K
        refine hideQ fun Qt hQt => ?_
        obtain ⟨z, hz, rfl⟩ := List.mem_map.mp (of_decide_eq_true hy)
        have K1 : Cx false s gg L1 s' (upd m' (Str.ofString "mod") (.str (S z) t)) ((x, instObj 137 dx) :: (dx, ox) :: (D, oD) :: (l, lo [] 0) :: (S0, oS) :: ((I, oI) :: EX)) := K.perm (List.perm_append_comm (l₁ := (I, oI) :: EX) (l₂ := [(x, instObj 137 dx), (dx, ox), (D, oD), (l, lo [] 0), (S0, oS)]))
        k_call_by "go" 0
        refine GM.startswith ?_
        k_call_by "go" 0
        rename_i td s7 C7
        refine r_add_dot C7 (hol z hz) fun t8 s8 C8 => ?_
        k_call_by "go" 0
        refine SC.startswith ?_
        rw [starts_S]
        cases hp : (z ++ [46]).isPrefixOf nm with
        | true =>
          have hh : hit out nm = true := List.any_eq_true.mpr ⟨z, hz, by rw [hp]; simp⟩
          k_call_by "go" 0
          refine wpAny_Assign_Subscript ?_
          k_call_by "go" 0
          rename_i t9 s9 C9
          refine r_dset (nf := fun o' => (x, instObj 137 dx) :: (dx, ox) :: (D, o') :: (l, lo [] 0) :: (S0, oS) :: ((I, oI) :: EX)) C9 (by k_call_by "up" 0) hD (by (first | lia | omega)) fun oD' s10 C10 hD' => ?_
          k_call_by "go" 0
          rename_i C11
          rw [hh] at put
          exact fin (EX := (I, oI) :: EX) (C11.perm (List.perm_append_comm (l₁ := [(x, instObj 137 dx), (dx, ox), (D, oD'), (l, lo [] 0), (S0, oS)]) (l₂ := (I, oI) :: EX))) hD' put.1 put.2.1 put.2.2.1 put.2.2.2 hh
        | false =>
          k_call_by "go" 0
          refine ⟨_, C8.perm (List.perm_append_comm (l₁ := [(x, instObj 137 dx), (dx, ox), (D, oD), (l, lo [] 0), (S0, oS)]) (l₂ := (I, oI) :: EX)), by k_call_by "lk" 0, by k_call_by "lk" 0, by k_call_by "lk" 0, fun y hy => hy.elim (g4 y) fun e => ?_⟩
          rw [S_inj e]; exact hp
      case done =>
        rintro X m' s' EX hX ⟨g1, g2, g3, g4⟩ K
        refine hideQ fun Qt hQt => ?_
        have hh : hit out nm = false := by
          rw [hit, List.any_eq_false]
          intro z hz q
          rw [g4 z (hX (S z) (decide_eq_true (List.mem_map_of_mem hz)))] at q
          have : z = nm := by simpa using q
          exact hin (this ▸ hz)
        have K1 : Cx false s gg L1 s' m' ((x, instObj 137 dx) :: (dx, ox) :: (D, oD) :: (l, lo [] 0) :: (S0, oS) :: EX) := K.perm (List.perm_append_comm (l₁ := EX) (l₂ := [(x, instObj 137 dx), (dx, ox), (D, oD), (l, lo [] 0), (S0, oS)]))
        k_call_by "go" 0
        refine wpAny_For ?_
        k_call_by "go" 0
        rename_i C7
        have il : ∀ {s' : Shared} {m' I o}, Cx false s gg L1 s' m' ((I, o) :: (x, instObj 137 dx) :: (dx, ox) :: (D, oD) :: (l, lo [] 0) :: (S0, oS) :: EX) → s'.heap.IsList l ([] : List Value).toArray := fun C => C.isList (.tail _ (.tail _ (.tail _ (.tail _ (.head _)))))
        refine for_list (vs := []) (Rm.deeper (d := 0) (u := 0) (Rr.le (by first | decide | (first | lia | omega)) (by first | decide | (first | lia | omega)))).hand (fun i m2 R2 => m2 = m' ∧ R2 = (x, instObj 137 dx) :: (dx, ox) :: (D, oD) :: (l, lo [] 0) :: (S0, oS) :: EX) C7 (C7.isList (.tail _ (.tail _ (.tail _ (.head _))))) (by rintro i m2 R2 s' I o ⟨-, rfl⟩ K; exact il K) (by k_call_by "kd" 0) rfl ⟨rfl, rfl⟩ ?t2 ?d2
        case t2 =>
          intro i v m R s' I oI hv
          simp at hv
        case d2 =>
          rintro m2 R2 s8 ⟨rfl, rfl⟩ C8
          k_call_by "go" 0
          refine wpAny_Assign_Subscript ?_
          k_call_by "go" 0
          rename_i t9 s9 C9
          refine r_dset (nf := fun o' => (x, instObj 137 dx) :: (dx, ox) :: (D, o') :: (l, lo [] 0) :: (S0, oS) :: EX) C9 (by k_call_by "up" 0) hD (by (first | lia | omega)) fun oD' s10 C10 hD' => ?_
          k_call_by "go" 0
          rename_i C11
          rw [hh] at put
          exact fin (EX := EX) (C11.perm (List.perm_append_comm (l₁ := [(x, instObj 137 dx), (dx, ox), (D, oD'), (l, lo [] 0), (S0, oS)]) (l₂ := EX))) hD' put.1 put.2.1 put.2.2.1 put.2.2.2 hh
/-! rules for _law_forest -/
theorem cnt_count (c : Nat) : ∀ l : List Nat, PyProof.Rows.cnt c l = (l.count c : Nat)
  | [] => rfl
  | n :: l => by
    have ih := cnt_count c l
    show (if PySem.Spec.same (.str ⟨#[n]⟩) (.str ⟨#[c]⟩) = true then (1 : Int) else 0) + PyProof.Rows.cnt c l = _
    rw [ih, PyProof.V.same_str, List.count_cons]
    by_cases h : n = c
    · subst h; simp; (first | lia | omega)
    · have h1 : (⟨#[n]⟩ : Str) ≠ ⟨#[c]⟩ := fun e => h (by injection e with e; simpa using e)
      simp [h, h1]
theorem count_S (a : Tx) : Txt.count (S a) (S [46]) = (a.count 46 : Nat) :=
  (PyProof.Rows.count_cnt (S a) 46).trans (cnt_count 46 a)
section
variable {k : Bool} {w : World} {A : Around} {E : Value → Shared → Prop} {s₀ s : Shared} {g : Heap} {L a : Addr} {m : Str → Option Value} {R : List (Addr × Obj)} {env : Env}
theorem r_itemT {value slice : Expr} {vs : List Value} {i : Int} {u : Tok} {x : Value} {Q : Value → Shared → Prop} (hl : s.heap.IsList a vs.toArray) (h0 : 0 ≤ i) (hx : vs[i.toNat]? = some x) (hz : vs.length ≤ 1000000) (h : Q x s)
    (hs : subscripted slice false (.ref a) (.int i u) = operate [.ref a, .int i u] (getItem (.ref a) (.int i u)) := by with_unfolding_all rfl) :
    wpAny (model P9 w) A (subscriptTail value slice (.ref a) (.int i u)) Q E s := by
  have := (List.getElem?_eq_some_iff.mp hx).1
  exact tail_any hl.typeIs slot_list_getitem.lookup (wpAny_getItem_list hl h0 (by (first | lia | omega)) (by simpa using hx) h) hs
theorem r_itemL {value slice : Expr} {vs : List Value} {x : Value} {u : Tok} {Q : Value → Shared → Prop} (hl : s.heap.IsList a (vs ++ [x]).toArray) (h : Q x s)
    (hs : subscripted slice false (.ref a) (.int (-1) u) = operate [.ref a, .int (-1) u] (getItem (.ref a) (.int (-1) u)) := by with_unfolding_all rfl) :
    wpAny (model P9 w) A (subscriptTail value slice (.ref a) (.int (-1) u)) Q E s := by
  refine tail_any hl.typeIs slot_list_getitem.lookup (wpAny_getItem_list_neg hl (by (first | lia | omega)) (by simp; (first | lia | omega)) (by (first | lia | omega)) (x := x) ?_ h) hs
  have e : ((-1 : Int) + ((vs ++ [x]).toArray.size : Nat)).toNat = vs.length := by simp; (first | lia | omega)
  rw [e]; simp
theorem r_mod {a b : Int} {t u : Tok} {Q : Value → Shared → Prop} (C : Cx k s₀ g L s m R) (hb : 0 < b) (h : ∀ t' s', Cx k s₀ g L s' m R → Q (.int (a % b) t') s') : wpAny (model P9 w) A (binaryOp .Mod (.int a t) (.int b u)) Q E s :=
  mod_int' (by (first | lia | omega)) (by rw [Int.fmod_eq_emod_of_nonneg _ (by (first | lia | omega))]; exact h _ _ C.toks)
theorem r_fdiv {a b : Int} {t u : Tok} {Q : Value → Shared → Prop} (C : Cx k s₀ g L s m R) (ha : 0 ≤ a) (hl : a < 1000) (hb : 0 < b) (hbl : b < 1000) (h : ∀ t' s', Cx k s₀ g L s' m R → Q (.int (a / b) t') s') : wpAny (model P9 w) A (binaryOp .FloorDiv (.int a t) (.int b u)) Q E s :=
  floordiv_int (by (first | lia | omega)) (by rw [Int.fdiv_eq_ediv_of_nonneg _ (by (first | lia | omega))]; exact h _ _ C.toks) (.inl (PyProof.noPylong_small (by (first | lia | omega))))
theorem r_tup4 {e1 e2 e3 e4 : Expr} {kk : Nat} {pos : Pos} {Q : Value → Shared → Prop} (he : starEach [e1, e2, e3, e4] env = [(false, eval e1 env), (false, eval e2 env), (false, eval e3 env), (false, eval e4 env)])
    (h : wpAny (model P9 w) A (eval e1 env) (fun v1 s1 => wpAny (model P9 w) A (eval e2 env) (fun v2 s2 => wpAny (model P9 w) A (eval e3 env) (fun v3 s3 => wpAny (model P9 w) A (eval e4 env) (fun v4 s4 => ∃ s₃ m₃ R₃, s₃ = s4 ∧ Cx k s₀ g L s₃ m₃ R₃ ∧ ∀ tp s', Cx k s₀ g L s' m₃ ((tp, tupO [v1, v2, v3, v4]) :: R₃) → Q (.ref tp) s') E s3) E s2) E s1) E s) :
    wpAny (model P9 w) A (eval (.Tuple [e1, e2, e3, e4] kk pos) env) Q E s := by
  refine Tuple_ ?_
  rw [he]
  refine spliced_cons (M := model P9 w) (wpAny_mono h (fun v1 s1 h1 => ?_) fun _ _ z => z)
  refine spliced_cons (M := model P9 w) (wpAny_mono h1 (fun v2 s2 h2 => ?_) fun _ _ z => z)
  refine spliced_cons (M := model P9 w) (wpAny_mono h2 (fun v3 s3 h3 => ?_) fun _ _ z => z)
  refine spliced_cons (M := model P9 w) (wpAny_mono h3 (fun v4 s4 h4 => ?_) fun _ _ z => z)
  obtain ⟨_, m₃, R₃, rfl, C, h⟩ := h4
  refine spliced_nil (newTuple_N C.F C.N (fun h' F' N' => h _ _ (C.more1 F' N' C.lt)) ?_)
  rw [sizeLine_eq]; show 4 ≤ 16777216; (first | lia | omega)
theorem r_count {z : Tx} {t u : Tok} {Q : Value → Shared → Prop} (C : Cx k s₀ g L s m R) (h : ∀ t' s', Cx k s₀ g L s' m R → Q (.int (z.count 46 : Nat) t') s') : wpAny (model P9 w) A (call (.builtin "str.count") [.str (S z) t, .str (Str.ofString ".") u]) Q E s := by
  rw [e_dot]
  exact SC.count (by rw [count_S]; exact h _ _ C.toks)
end
noncomputable def txts : List Tx := [[97], [98], [97, 98], [97, 32, 98], [], [35], [92], [34]]
theorem txts_good : ∀ t ∈ txts, Good t ∧ t.length ≤ 3 := by
  show ∀ t ∈ txts, (∀ c ∈ t, c ∈ alpha) ∧ t.length ≤ 3
  decide
theorem getD_mem {α : Type} {l : List α} {i : Nat} {d : α} (h : i < l.length) : l.getD i d ∈ l := by
  simp [List.getD, h]
inductive CS : List Expr → List Tx → Prop
  | nil : CS [] []
  | cons {x : Str} {t : Tx} {n : Nat} {p : Pos} {es : List Expr} {ts : List Tx} (h : x = S t) (r : CS es ts) : CS (.Constant (.str x) n p :: es) (t :: ts)
section
variable {k : Bool} {w : World} {A : Around} {E : Value → Shared → Prop} {s₀ : Shared} {g : Heap} {L : Addr} {m : Str → Option Value} {R : List (Addr × Obj)} {env : Env}
theorem spliced_CS {es : List Expr} {ts : List Tx} {pos : Pos} (h : CS es ts) : ∀ {s : Shared} {Q : List Value → Shared → Prop}, Cx k s₀ g L s m R → (∀ vs s', SVs vs ts → Cx k s₀ g L s' m R → Q vs s') → wpAny (model P9 w) A (spliced (backTo pos (starEach es env))) Q E s := by
  induction h with
  | nil => intro s Q C h; exact spliced_nil (h [] s .nil C)
  | @cons x t n p es ts e r ih =>
    intro s Q C h
    show wpAny _ _ (spliced ((false, eval (.Constant (.str x) n p) env) :: backTo pos (starEach es env))) _ _ _
    refine spliced_cons (M := model P9 w) (r_str C fun t' s' C' => ?_)
    refine ih C' fun vs s2 hv C2 => ?_
    subst e
    exact h _ s2 (.cons hv) C2
theorem r_listS {es : List Expr} {ts : List Tx} {pos : Pos} {s : Shared} {Q : Value → Shared → Prop} (h : CS es ts) (C : Cx k s₀ g L s m R) (hn : ts.length ≤ 1000) (hq : ∀ a vs s', SVs vs ts → Cx k s₀ g L s' m ((a, lo vs 0) :: R) → Q (.ref a) s') :
    wpAny (model P9 w) A (eval (.List es pos) env) Q E s := by
  refine wpAny_List ?_
  refine spliced_CS h C fun vs s' hv C' => ?_
  have := hv.length
  exact ⟨by rw [sizeLine_eq]; (first | lia | omega), hq _ vs _ hv (C'.push (o := lo vs 0))⟩
end
theorem Words.nlen {texts names : List Tx} {tops : List Int} (W : Words texts tops names) : ∀ k, k < tops.length → (names.getD k []).length ≤ 4 * (k + 1) := by
  intro k
  induction k using Nat.strongRecOn with
  | ind k ih =>
    intro hk
    have hs := W.short k hk
    have hh := W.high k hk
    rw [W.name k hk]
    by_cases h : tops.getD k 0 < 0
    · rw [if_pos h]; (first | lia | omega)
    · rw [if_neg h]
      have := ih (tops.getD k 0).toNat (by (first | lia | omega)) (by (first | lia | omega))
      simp only [List.length_append, List.length_cons, List.length_nil]
      (first | lia | omega)
theorem pick_last (l : List Value) : kms_pick l (some (-1)) none = l.drop (l.length - 1) := by
  unfold kms_pick kms_lo kms_hi
  have e : (if (-1 : Int) < 0 then l.length - (-(-1 : Int)).toNat else min (-1 : Int).toNat l.length) = l.length - 1 := by simp
  simp only [e]
  exact List.take_of_length_le (by rw [List.length_drop]; (first | lia | omega))
theorem perm7 {α : Type} (a b c d e f z : α) : [a, b, c, d, e, f, z].Perm [f, e, d, a, b, c, z] := by
  have h1 : [a, b, c, d, e, f].Perm [f, e, d, c, b, a] := (List.reverse_perm _).symm
  have h2 : [f, e, d, c, b, a].Perm [f, e, d, a, b, c] := .cons _ (.cons _ (.cons _ (List.reverse_perm [c, b, a]).symm))
  exact (h1.trans h2).append_right [z]
theorem SVs.drop {vs : List Value} {ws : List Tx} (h : SVs vs ws) : ∀ n, SVs (vs.drop n) (ws.drop n) := by
  induction h with
  | nil => intro n; simp; exact .nil
  | cons h ih =>
    intro n
    cases n with
    | zero => exact .cons h
    | succ n => exact ih n
/-! _law_forest -/
noncomputable def lowP (names : List Tx) (i : Nat) : List Int := ((List.range i).filter fun k => decide ((names.getD k []).count 46 < 2)).map fun (k : Nat) => (k : Int)
theorem lowP_succ (names : List Tx) (i : Nat) : lowP names (i + 1) = lowP names i ++ if (names.getD i []).count 46 < 2 then [(i : Int)] else [] := by
  unfold lowP
  rw [List.range_succ, List.filter_append, List.map_append]
  congr 1
  rw [List.filter_cons, List.filter_nil]
  by_cases h : (names.getD i []).count 46 < 2
  · rw [if_pos (decide_eq_true h), if_pos h]; rfl
  · rw [if_neg (by simpa using h), if_neg h]; rfl
theorem lowP_len (names : List Tx) (i : Nat) : (lowP names i).length ≤ i := by
  unfold lowP
  rw [List.length_map]
  have := List.length_filter_le (fun k => decide ((names.getD k []).count 46 < 2)) (List.range i)
  rwa [List.length_range] at this
theorem lowP_mem {names : List Tx} {i : Nat} {x : Int} (h : x ∈ lowP names i) : 0 ≤ x ∧ x < i ∧ (names.getD x.toNat []).count 46 < 2 := by
  obtain ⟨k, hk, rfl⟩ := List.mem_map.mp h
  obtain ⟨h1, h2⟩ := List.mem_filter.mp hk
  have := List.mem_range.mp h1
  refine ⟨by (first | lia | omega), by (first | lia | omega), ?_⟩
  rw [Int.toNat_natCast]; exact of_decide_eq_true h2
inductive FInv (te to na ou L1 : Addr) (i : Nat) (m' : Str → Option Value) (R' : List (Addr × Obj)) : Prop
  | mk (vt : List Value) (ct : Nat) (vp : List Value) (cp : Nat) (vn : List Value) (cn : Nat) (vo : List Value) (co : Nat) (oc : Obj) (texts : List Tx) (tops : List Int) (names out : List Tx)
    (e : R' = [(ou, lo vo co), (na, lo vn cn), (to, lo vp cp), (te, lo vt ct), (L1 + 1, oc)]) (e8 : oc.data = .cell (some (.ref na))) (g1 : m' (Str.ofString "texts") = some (.ref te)) (g2 : m' (Str.ofString "tops") = some (.ref to)) (g3 : m' (Str.ofString "out") = some (.ref ou))
    (Wo : Words texts tops names) (hti : tops.length = i) (hvt : SVs vt texts) (hvp : IntsAre vp tops) (hvn : SVs vn names) (hvo : SVs vo out) (hol : out.length ≤ i) (hon : ∀ o ∈ out, o ∈ names) : FInv te to na ou L1 i m' R'
theorem forest_ok {k : Bool} {w : World} {mg mb m : Str → Option Value} {A : Around} {s₀ s : Shared} {g : Heap} {L a : Addr} {R : List (Addr × Obj)} {va : List Value} {ca : Nat} {xs : List Int} {Q E : Value → Shared → Prop}
    (C : Cx k s₀ g L s m R) (W : Wd w mg mb g) (ha : s.heap.get? a = some (lo va ca)) (hva : IntsAre va xs) (h6 : xs.length ≤ 6) (Rr : Rm A 10 60)
    (h : ∀ r a1 a2 a3 a4 vt vp vn vo ct cp cn co texts tops names out s', Cx k s₀ g L s' m ((r, tupO [.ref a1, .ref a2, .ref a3, .ref a4]) :: (a1, lo vt ct) :: (a2, lo vp cp) :: (a3, lo vn cn) :: (a4, lo vo co) :: R) → Words texts tops names → tops.length = xs.length →
      SVs vt texts → IntsAre vp tops → SVs vn names → SVs vo out → out.length ≤ 12 → (xs ≠ [] → out ≠ []) → (∀ o ∈ out, o ∈ names) → Q (.ref r) s') :
    wpAny (model P9 w) A (call (.ref 826) [.ref a]) Q E s := by
  have hgs := C.keep
  have hvl := IntsAre.len' hva
  refine wpAny_call ?_
  refine' enterC (k := k) (D := []) (binds := [(Str.ofString "script", .ref a)]) (cl := fun L => [(Str.ofString "names", L + 1)]) (mL := upd noA (Str.ofString "script") (.ref a)) (mC := noA) W C.keep (fun _ h => nomatch h) List.nodup_nil Rr.room ?ho ?hcd ?hb ?hkind ?hcn ?hcl ?hL ?hC ?_ ?h1 ?h2 ?h3
  case ho => k_is
  case hcd => k_is
  case hb => exact BindsTo.of_eq (by kernel_rfl)
  case hkind => kernel_rfl
  case hcn => decide +kernel
  case hcl => intro L; kernel_rfl
  case hL => intro L; kernel_rfl
  case hC => intro L; kernel_rfl
  case h1 => exact rfl
  case h2 => exact rfl
  case h3 => exact rfl
  intro L1 s1 cells WH hgh C1 hcells hL1
  refine hideQ fun Qt hQt => ?_
  obtain ⟨oc, rfl, d1⟩ := hcells.one
  have e1 : oc.data = .cell none := d1
  clear d1 hcells
  have ga : (hideAll s.heap (([] : List (Addr × Obj)).map (·.1))).get? a = some (lo va ca) := hideAll_get _ ha (by simp)
  obtain ⟨gg, hgg⟩ : ∃ x, x = hideAll s.heap (([] : List (Addr × Obj)).map (·.1)) := ⟨_, rfl⟩
  rw [← hgg] at WH C1 ga
  have ila : ∀ {s' : Shared} {m' R'}, Cx k s gg L1 s' m' R' → s'.heap.IsList a va.toArray := fun K => ⟨_, K.keep _ _ ga, rfl, ca, rfl⟩
  rw [List.append_nil] at C1
  k_call_by "go" 0
  refine r_list0 C1 fun te s2 C2 => ?_
  k_call_by "go" 0
  rename_i C3
  refine r_list0 C3 fun to s4 C4 => ?_
  k_call_by "go" 0
  rename_i C5
  refine r_list0 C5 fun na s6 C6 => ?_
  k_call_by "go" 0
  rename_i oc7 s7 e7 C7
  refine r_list0 C7 fun ou s8 C8 => ?_
  k_call_by "go" 0
  rename_i C9
  refine wpAny_For ?_
  k_call_by "go" 0
  refine for_list (vs := va) (Rm.deeper (d := 0) (u := 0) (Rr.le (by first | decide | (first | lia | omega)) (by first | decide | (first | lia | omega)))).hand (FInv te to na ou L1) C9 (ila C9) (fun i m R s' I o _ K => ila K) (by k_call_by "kd" 0) rfl
    ⟨[], 0, [], 0, [], 0, [], 0, oc7, [], [], [], [], rfl, e7, by k_call_by "lk" 0, by k_call_by "lk" 0, by k_call_by "lk" 0, Words.nil, rfl, .nil, .nil, .nil, .nil, Nat.le_refl _, fun _ h => nomatch h⟩ ?turn ?done
  case turn =>
    rintro i v m6 R6 s10 I oI hvi ⟨vt, ct, vp, cp, vn, cn, vo, co, oc, texts, tops, names, out, rfl, e8, g1, g2, g3, Wo, hti, hvt, hvp, hvn, hvo, hol, hon⟩ C10
    refine hideQ fun Qt hQt => ?_
    obtain ⟨x, tx, rfl⟩ : ∃ x tx, v = .int x tx := by
      have hi := (List.getElem?_eq_some_iff.mp hvi).1
      obtain ⟨t, e⟩ := IntsAre.at' hva (i := i) (by (first | lia | omega))
      exact ⟨_, t, Option.some.inj (hvi.symm.trans e)⟩
    k_call_by "go" 0
    rename_i C11
    refine r_mod C11 (by (first | lia | omega)) fun ty s12 C12 => ?_
    obtain ⟨y, hy⟩ : ∃ y, y = x % 840 := ⟨_, rfl⟩
    have hy0 : 0 ≤ y := by (first | lia | omega)
    have hy1 : y < 840 := by (first | lia | omega)
    rw [← hy]
    k_call_by "go" 0
    rename_i C13
    refine r_list1 (k := k) (s₀ := s) (g := gg) (L := L1) rfl ?_
    k_call_by "go" 0
    rename_i t0 _ C13b
    refine ⟨_, _, _, rfl, C13b, fun l1 s14 C14 => ?_⟩
    have hnl := hvn.length
    have htl := hvt.length
    have hvol := hvo.length
    have hpl := IntsAre.len' hvp
    have hl1 := Wo.len1
    have hl2 := Wo.len2
    have hi6 : i < 6 := by have := (List.getElem?_eq_some_iff.mp hvi).1; (first | lia | omega)
    refine comp_open (cl := [(Str.ofString "names", L1 + 1)]) (by kernel_rfl) rfl (by decide +kernel) ?_
    k_call_by "go" 0
    refine r_llen C14 (C14.isList (by k_call_by "mem" 0)) (by (first | lia | omega)) fun t15 s15 C15 => ?_
    k_call_by "go" 0
    refine r_range C15 fun r t1 u1 v1 s16 C16 => ?_
    have iln : ∀ {s' : Shared} {m' I oI Cc oC D o Z l1 o1 J oJ o2}, Cx k s gg L1 s' m' ((I, oI) :: (Cc, oC) :: (D, o) :: (Z, o1) :: (l1, o2) :: (J, oJ) :: (ou, lo vo co) :: (na, lo vn cn) :: [(to, lo vp cp), (te, lo vt ct), (L1 + 1, oc)]) → s'.heap.IsList na vn.toArray := fun K => K.isList (by k_call_by "mem" 0)
    refine comp_range (n := vn.length) (Rm.deeper (d := 0) (u := 0) (Rr.le (by first | decide | (first | lia | omega)) (by first | decide | (first | lia | omega)))).hand (fun j ys R' => R' = _ ∧ IntsAre ys (lowP names j) ∧ j ≤ 6)
      (fun j ys R' ⟨_, hy, hj⟩ => by have := IntsAre.len' hy; have := lowP_len names j; (first | lia | omega)) (by decide +kernel) rfl (by k_call_by "kd" 0) C16 (C16.get (.head _)) (by (first | lia | omega)) ⟨rfl, .nil, Nat.zero_le _⟩ ?ct ?cd
    case ct =>
      rintro j tj ys R7 s17 J oJ oC Cc D c mC hj ⟨rfl, hys, hj6⟩ C17 hN hm
      refine hideQ fun Qt hQt => ?_
      refine wpAny_tests_one ?_
      k_call_by "go" 0
      obtain ⟨tn, htn⟩ := hvn.at' (i := j) (by (first | lia | omega))
      refine r_item (iln C17) (by (first | lia | omega)) (by rw [Int.toNat_natCast]; exact htn) (by (first | lia | omega)) ?_
      refine GM.count ?_
      k_call_by "go" 0
      rename_i C18
      refine r_count C18 fun t19 s19 C19 => ?_
      k_call_by "go" 0
      rename_i C20
      by_cases he : (names.getD j []).count 46 < 2
      · refine if_t (decide_eq_true (by (first | lia | omega))) ?_
        k_call_by "go" 0
        refine ⟨_, C20, rfl, ?_, by (first | lia | omega)⟩
        rw [lowP_succ, if_pos he]
        exact IntsAre.append' hys (.cons _ _ .nil)
      · refine if_f (decide_eq_false (by (first | lia | omega))) ?_
        refine ⟨_, C20, rfl, ?_, by (first | lia | omega)⟩
        rw [lowP_succ, if_neg he, List.append_nil]; exact hys
    case cd =>
      rintro D ys c R7 s17 ⟨rfl, hys, hj6⟩ C17
      refine hideQ fun Qt hQt => ?_
      have hyl := IntsAre.len' hys
      have hll := lowP_len names vn.length
      refine r_ladd C17 (C17.isList (by k_call_by "mem" 0)) (C17.isList (.head _)) (by rw [List.length_cons, List.length_nil]; (first | lia | omega)) fun D2 s18 C18 => ?_
      obtain ⟨lw, hlw⟩ : ∃ z, z = -1 :: lowP names vn.length := ⟨_, rfl⟩
      obtain ⟨vw, hvw⟩ : ∃ z, z = [Value.int (-1) t0] ++ ys := ⟨_, rfl⟩
      rw [← hvw] at C18
      have hw : IntsAre vw lw := by rw [hvw, hlw]; exact .cons _ _ hys
      have C19 := C18.drop (news' := [(D2, lo vw 0), (I, oI), (ou, lo vo co), (na, lo vn cn), (to, lo vp cp), (te, lo vt ct), (L1 + 1, oc)]) (.cons_cons _ (.cons _ (.cons _ (.cons _ (List.Sublist.refl _)))))
      have hwl := IntsAre.len' hw
      have hl0 : 0 < lw.length := by rw [hlw]; simp
      have hl7 : lw.length ≤ 7 := by rw [hlw, List.length_cons]; (first | lia | omega)
      have hlm : ∀ z ∈ lw, -1 ≤ z ∧ z < (tops.length : Int) ∧ (0 ≤ z → (names.getD z.toNat []).count 46 < 2) := fun z hz => by
        rw [hlw] at hz
        rcases List.mem_cons.mp hz with rfl | hz
        · exact ⟨by (first | lia | omega), by (first | lia | omega), fun h => by (first | lia | omega)⟩
        · obtain ⟨h1, h2, h3⟩ := lowP_mem hz
          exact ⟨by (first | lia | omega), by (first | lia | omega), fun _ => h3⟩
      clear C17 C18 hvw hlw hys C10 C11 C12 C13b C14 C15 C16 iln C9 C8 C7 C6 C5 C4 C3 C2 C1
      k_call_by "go" 0
      rename_i C20
      refine r_llen C20 (C20.isList (by k_call_by "mem" 0)) (by (first | lia | omega)) fun t21 s21 C21 => ?_
      k_call_by "go" 0
      refine r_mod C21 (by (first | lia | omega)) fun t22 s22 C22 => ?_
      k_call_by "go" 0
      obtain ⟨ix, hix⟩ : ∃ z, z = y % (vw.length : Int) := ⟨_, rfl⟩
      have hix0 : 0 ≤ ix := by rw [hix]; exact Int.emod_nonneg _ (by (first | lia | omega))
      have hix1 : ix < vw.length := by rw [hix]; exact Int.emod_lt_of_pos _ (by (first | lia | omega))
      rw [← hix]
      obtain ⟨ttp, htp⟩ := IntsAre.at' hw (i := ix.toNat) (by (first | lia | omega))
      refine r_item (C22.isList (by k_call_by "mem" 0)) hix0 htp (by (first | lia | omega)) ?_
      obtain ⟨top, htop⟩ : ∃ z, z = lw.getD ix.toNat 0 := ⟨_, rfl⟩
      obtain ⟨hb1, hb2, hb3⟩ := hlm top (by rw [htop]; exact getD_mem (by (first | lia | omega)))
      rw [← htop]
      k_call_by "go" 0
      rename_i C23
      refine r_listS (ts := txts) (.cons (by decide +kernel) (.cons (by decide +kernel) (.cons (by decide +kernel) (.cons (by decide +kernel) (.cons (by decide +kernel) (.cons (by decide +kernel) (.cons (by decide +kernel) (.cons (by decide +kernel) .nil)))))))) C23 (by decide) fun l2 v2 s24 hv2 C24 => ?_
      have h28 : v2.length = 8 := hv2.length
      k_call_by "go" 0
      rename_i C25
      refine r_fdiv C25 hy0 (by (first | lia | omega)) (by (first | lia | omega)) (by (first | lia | omega)) fun t26 s26 C26 => ?_
      k_call_by "go" 0
      rename_i C27
      refine r_mod C27 (by (first | lia | omega)) fun t28 s28 C28 => ?_
      k_call_by "go" 0
      obtain ⟨j, hj⟩ : ∃ j : Nat, (j : Int) = y / 7 % 8 := ⟨(y / 7 % 8).toNat, by (first | lia | omega)⟩
      have hj8 : j < 8 := by (first | lia | omega)
      rw [← hj]
      obtain ⟨tt, htt⟩ := hv2.at' (i := j) hj8
      refine r_itemT (C28.isList (.head _)) (by (first | lia | omega)) (by rw [Int.toNat_natCast]; exact htt) (by (first | lia | omega)) ?_
      obtain ⟨txt, htx⟩ : ∃ z, z = txts.getD j [] := ⟨_, rfl⟩
      obtain ⟨hgt, hst⟩ := txts_good txt (by rw [htx]; exact getD_mem hj8)
      rw [← htx]
      k_call_by "go" 0
      k_call_by "app" 0
      k_call_by "go" 0
      k_call_by "app" 0
      k_call_by "go" 0
      rename_i s29 C29
      have C30 := C29.drop (news' := [(I, oI), (ou, lo vo co), (na, lo vn cn), (to, lo (vp ++ [.int top ttp]) (cp + 1)), (te, lo (vt ++ [.str (S txt) tt]) (ct + 1)), (L1 + 1, oc)]) (.cons _ (.cons _ (List.Sublist.refl _)))
      obtain ⟨M, C31, f1, f2, f3, f4, f5, f6⟩ : ∃ M, Cx k s gg L1 s29 M [(I, oI), (ou, lo vo co), (na, lo vn cn), (to, lo (vp ++ [.int top ttp]) (cp + 1)), (te, lo (vt ++ [.str (S txt) tt]) (ct + 1)), (L1 + 1, oc)] ∧ M (Str.ofString "texts") = some (.ref te) ∧ M (Str.ofString "tops") = some (.ref to) ∧ M (Str.ofString "out") = some (.ref ou) ∧
        M (Str.ofString "top") = some (.int top ttp) ∧ M (Str.ofString "text") = some (.str (S txt) tt) ∧ M (Str.ofString "y") = some (.int y ty) := ⟨_, C30, by k_call_by "lk" 0, by k_call_by "lk" 0, by k_call_by "lk" 0, by k_call_by "lk" 0, by k_call_by "lk" 0, by k_call_by "lk" 0⟩
      clear C30 C29 C28 C27 C26 C25 C24 C23 C22 C21 C20 C19
      obtain ⟨nm, hnm⟩ : ∃ z, z = (if top < 0 then txt else names.getD top.toNat [] ++ [46] ++ txt) := ⟨_, rfl⟩
      have Wo' := Wo.snoc (by (first | lia | omega)) hgt hst hb1 hb2 hb3
      rw [← hnm] at Wo'
      refine wpAny_mono (Q := fun v s' => ∃ t, v = .str (S nm) t ∧ Cx k s gg L1 s' M [(I, oI), (ou, lo vo co), (na, lo vn cn), (to, lo (vp ++ [.int top ttp]) (cp + 1)), (te, lo (vt ++ [.str (S txt) tt]) (ct + 1)), (L1 + 1, oc)]) (E := fun _ _ => False) ?nmv ?nmt fun _ _ z => z.elim
      case nmv =>
        refine hideQ fun Qt hQt => ?_
        refine wpAny_IfExp ?_
        k_call_by "go" 0
        rename_i C32
        by_cases ht0 : top < 0
        · refine if_t (decide_eq_true ht0) ?_
          rw [if_pos ht0] at hnm
          subst hnm
          k_call_by "go" 0
          exact ⟨_, rfl, C32⟩
        · refine if_f (decide_eq_false ht0) ?_
          rw [if_neg ht0] at hnm
          subst hnm
          k_call_by "go" 0
          obtain ⟨tn, htn⟩ := hvn.at' (i := top.toNat) (by (first | lia | omega))
          refine r_item (C32.isList (by k_call_by "mem" 0)) (by (first | lia | omega)) htn (by (first | lia | omega)) ?_
          k_call_by "go" 0
          have hnlen := Wo.nlen top.toNat (by (first | lia | omega))
          rename_i C33
          refine r_add_dot C33 (by (first | lia | omega)) fun t34 s34 C34 => ?_
          k_call_by "go" 0
          refine r_add_S C34 (by rw [List.length_append, List.length_singleton]; (first | lia | omega)) fun t35 s35 C35 => ?_
          exact hQt.op _ _ ⟨_, rfl, C35⟩
      case nmt =>
        rintro v s33 ⟨t33, rfl, C33⟩
        refine hideQ fun Qt hQt => ?_
        k_call_by "app" 0
        k_call_by "go" 0
        rename_i C34
        have hln : ∀ (l : List Int), (l ++ [top]).length = l.length + 1 := fun l => by simp
        refine r_fdiv C34 hy0 (by (first | lia | omega)) (by (first | lia | omega)) (by (first | lia | omega)) fun t35 s35 C35 => ?_
        k_call_by "go" 0
        rename_i C36
        refine r_mod C36 (by (first | lia | omega)) fun t37 s37 C37 => ?_
        k_call_by "go" 0
        rename_i C38
        by_cases hb : y / 56 % 2 = 1
        · refine if_t (by rw [hb]; rfl) ?_
          k_call_by "go" 0
          rename_i C39
          refine r_itemL (C39.isList (by k_call_by "mem" 0)) ?_
          k_call_by "go" 0
          k_call_by "app" 0
          k_call_by "go" 0
          rename_i C40
          refine ⟨_, _, C40, _, _, _, _, _, _, _, _, oc, texts ++ [txt], tops ++ [top], names ++ [nm], out ++ [nm], rfl, e8, f1, f2, f3, Wo', by rw [hln, hti], hvt.append (.cons .nil), IntsAre.append' hvp (.cons _ _ .nil), hvn.append (.cons .nil), hvo.append (.cons .nil), by rw [List.length_append, List.length_singleton]; (first | lia | omega), fun o ho => ?_⟩
          rcases List.mem_append.mp ho with h | h
          · exact List.mem_append_left _ (hon o h)
          · exact List.mem_append_right _ h
        · refine if_f (beq_eq_false_iff_ne.mpr hb) ?_
          k_call_by "go" 0
          exact ⟨_, _, C38, _, _, _, _, _, _, _, _, oc, texts ++ [txt], tops ++ [top], names ++ [nm], out, rfl, e8, f1, f2, f3, Wo', by rw [hln, hti], hvt.append (.cons .nil), IntsAre.append' hvp (.cons _ _ .nil), hvn.append (.cons .nil), hvo, by (first | lia | omega), fun o ho => List.mem_append_left _ (hon o ho)⟩
  case done =>
    rintro m6 R6 s10 ⟨vt, ct, vp, cp, vn, cn, vo, co, oc, texts, tops, names, out, rfl, e8, g1, g2, g3, Wo, hti, hvt, hvp, hvn, hvo, hol, hon⟩ C10
    refine hideQ fun Qt hQt => ?_
    k_call_by "go" 0
    refine r_tup4 (k := k) (s₀ := s) (g := gg) (L := L1) rfl ?_
    k_call_by "go" 0
    have hnl := hvn.length
    have hvol := hvo.length
    have hl2 := Wo.len2
    rename_i C12
    refine r_lslice C12 (C12.isList (by k_call_by "mem" 0)) (by (first | lia | omega)) (.int _ _) .none (pick_last _) fun D2 s13 C13 => ?_
    have hdl : (vn.drop (vn.length - 1)).length ≤ 1 := by rw [List.length_drop]; (first | lia | omega)
    refine r_ladd C13 (C13.isList (by k_call_by "mem" 0)) (C13.isList (.head _)) (by (first | lia | omega)) fun D3 s14 C14 => ?_
    refine ⟨_, _, _, rfl, C14, fun tp s15 C15 => ?_⟩
    k_call_by "go" 0
    have C16 := C15.perm (r' := [(tp, tupO [.ref te, .ref to, .ref na, .ref D3]), (te, lo vt ct), (to, lo vp cp), (na, lo vn cn), (D3, lo (vo ++ vn.drop (vn.length - 1)) 0), (D2, lo (vn.drop (vn.length - 1)) 0), (ou, lo vo co), (L1 + 1, oc)]) (.cons _ (perm7 ..))
    subst hgg
    have C17 := Cx.ret (D := []) (D' := []) (R := R) C C16 rfl
    have C18 := C17.drop (news' := [(tp, tupO [.ref te, .ref to, .ref na, .ref D3]), (te, lo vt ct), (to, lo vp cp), (na, lo vn cn), (D3, lo (vo ++ vn.drop (vn.length - 1)) 0)] ++ R) (List.Sublist.append (.cons_cons _ (.cons_cons _ (.cons_cons _ (.cons_cons _ (.cons_cons _ (List.nil_sublist _)))))) (List.Sublist.refl _))
    have hsd := hvn.drop (vn.length - 1)
    refine h tp te to na D3 vt vp vn _ ct cp cn 0 texts tops names (out ++ names.drop (vn.length - 1)) s15 C18 Wo (by (first | lia | omega)) hvt hvp hvn (hvo.append hsd) ?_ (fun hx => ?_) fun o ho => ?_
    · rw [List.length_append, List.length_drop]; (first | lia | omega)
    · intro q
      have q2 := (List.append_eq_nil_iff.mp q).2
      rw [List.drop_eq_nil_iff] at q2
      have : 0 < xs.length := List.length_pos_iff.mpr hx
      (first | lia | omega)
    · rcases List.mem_append.mp ho with h | h
      · exact hon o h
      · exact List.mem_of_mem_drop h
/-! a comprehension of two clauses -/
section
variable {w : World} {A : Around} {E : Value → Shared → Prop} {R : Result → Shared → Prop} {s : Shared} {elt i0 i1 : Expr} {x0 x1 : Str} {p0 p1 pos : Pos} {scope : Scope} {it acc : Value} {env : Env}
theorem turn0_eq : compTurn (.ListComp elt [⟨.Name x0 p0, i0, [], 0⟩, ⟨.Name x1 p1, i1, [], 0⟩] scope pos) 0 it acc env = (standAt i0.pos >>= fun _ => pyNext it >>= fun r => match r with
    | none => pure (.done .next)
    | some v => letOwnedTupleGo (.Name x0 p0) it v >>= fun _ => assign (.Name x0 p0) env v >>= fun _ =>
      eval i1 env >>= fun x => standAt i1.pos >>= fun _ => foldedSetIterable i1 env x >>= fun x => holding [x] (pyIter x) >>= fun it1 =>
        runOwn (.compStart (.ListComp elt [⟨.Name x0 p0, i0, [], 0⟩, ⟨.Name x1 p1, i1, [], 0⟩] scope pos) 1 it1 acc env) env >>= fun _ =>
        again (.compLoop (.ListComp elt [⟨.Name x0 p0, i0, [], 0⟩, ⟨.Name x1 p1, i1, [], 0⟩] scope pos) 0 it acc env)) := by rfl
theorem turn1_eq : compTurn (.ListComp elt [⟨.Name x0 p0, i0, [], 0⟩, ⟨.Name x1 p1, i1, [], 0⟩] scope pos) 1 it acc env = (standAt i1.pos >>= fun _ => pyNext it >>= fun r => match r with
    | none => pure (.done .next)
    | some v => letOwnedTupleGo (.Name x1 p1) it v >>= fun _ => assign (.Name x1 p1) env v >>= fun _ =>
      (eval elt env >>= fun x => call (.builtin "list.append") [acc, x] >>= fun _ => pure ()) >>= fun _ =>
        again (.compLoop (.ListComp elt [⟨.Name x0 p0, i0, [], 0⟩, ⟨.Name x1 p1, i1, [], 0⟩] scope pos) 1 it acc env)) := by rfl
theorem comp2_in (I : Nat → Shared → Prop)
    (turn : ∀ n s, I n s → wpAny (model P9 w) A (pyNext it) (fun r s₁ => match r with
      | none => R (.ok .next) s₁
      | some v => wpAny (model P9 w) A (assign (.Name x1 p1) env v) (fun _ s₂ => wpAny (model P9 w) A (eval elt env) (fun x s₃ =>
          wpAny (model P9 w) A (call (.builtin "list.append") [acc, x]) (fun _ s₄ => ∃ m, m < n ∧ I m s₄) (fun _ _ => False) s₃) (fun _ _ => False) s₂) (fun _ _ => False) s₁) (fun _ _ => False) s)
    (n : Nat) (h : I n s) : codeAny (model P9 w) A (.compLoop (.ListComp elt [⟨.Name x0 p0, i0, [], 0⟩, ⟨.Name x1 p1, i1, [], 0⟩] scope pos) 1 it acc env) R s := by
  refine codeAny_loop rfl I (fun n s hI => ?_) n h
  show wpAny _ _ ((compTurn (.ListComp elt [⟨.Name x0 p0, i0, [], 0⟩, ⟨.Name x1 p1, i1, [], 0⟩] scope pos) 1 it acc env).onRaise (fun x => do noteFrame x env; theTreesLotGoes x)) _ _ s
  refine wpAny_noted ?_
  rw [turn1_eq]
  refine wpAny_bind (wpAny_standAt (wpAny_bind (wpAny_mono (turn n s hI) (fun r s₁ h₁ => ?_) fun _ _ h' => h'.elim)))
  cases r with
  | none => exact wpAny_pure h₁
  | some v =>
    refine wpAny_bind (wpAny_of_eq (a := ()) rfl ?_)
    exact wpAny_bind (wpAny_mono h₁ (fun _ s₂ h₂ => wpAny_bind (wpAny_bind (wpAny_mono h₂ (fun x s₃ h₃ => wpAny_bind (wpAny_mono h₃
      (fun _ s₄ h₄ => wpAny_pure (wpAny_pure ⟨rfl, h₄⟩)) fun _ _ h' => h'.elim)) fun _ _ h' => h'.elim))) fun _ _ h' => h'.elim)
theorem comp2_start1 (h0 : codeAny (model P9 w) A (.compLoop (.ListComp elt [⟨.Name x0 p0, i0, [], 0⟩, ⟨.Name x1 p1, i1, [], 0⟩] scope pos) 1 it acc env) R s)
    (h : wpAny (model P9 w) A (pyIter it) (fun it' s' => codeAny (model P9 w) A (.compLoop (.ListComp elt [⟨.Name x0 p0, i0, [], 0⟩, ⟨.Name x1 p1, i1, [], 0⟩] scope pos) 1 it' acc env) R s') (fun _ _ => False) s) :
    codeAny (model P9 w) A (.compStart (.ListComp elt [⟨.Name x0 p0, i0, [], 0⟩, ⟨.Name x1 p1, i1, [], 0⟩] scope pos) 1 it acc env) R s := by
  refine codeAny_of_tree ?_
  show wpAny _ _ ((compStart (.ListComp elt [⟨.Name x0 p0, i0, [], 0⟩, ⟨.Name x1 p1, i1, [], 0⟩] scope pos) 1 it acc env).onRaise (fun x => do noteFrame x env; standAt theWindowsPlace)) _ _ s
  refine wpAny_notedAt ?_
  unfold compStart
  show wpAny _ _ (ask >>= _) _ _ s
  refine wpAny_bind (wpAny_askSetting (wpAny_ite ?_))
  split
  · first
      | exact wpAny_bind (wpAny_pure (wpAny_pure (And.intro rfl h0)))
      | exact wpAny_pure (And.intro rfl h0)
  · first
      | exact wpAny_bind (wpAny_rule (wpAny_bind (wpAny_standAt (wpAny_bind (wpAny_mono h (fun it' s' h' => wpAny_pure (And.intro rfl h')) fun _ _ x => x.elim)))))
      | (refine wpAny_bind (wpAny_rule ?_); show wpAny _ _ (standAt i1.pos >>= _) _ _ s; exact wpAny_bind (wpAny_standAt (wpAny_bind (wpAny_mono h (fun it' s' h' => wpAny_pure (And.intro rfl h')) fun _ _ x => x.elim))))
theorem comp2_out (hs : ∀ x, foldedSetIterable i1 env x = pure x) (I : Nat → Shared → Prop)
    (turn : ∀ n s, I n s → wpAny (model P9 w) A (pyNext it) (fun r s₁ => match r with
      | none => R (.ok .next) s₁
      | some v => wpAny (model P9 w) A (assign (.Name x0 p0) env v) (fun _ s₂ => wpAny (model P9 w) A (eval i1 env) (fun x s₃ => wpAny (model P9 w) A (pyIter x) (fun it1 s₄ =>
          codeAny (model P9 w) A (.compStart (.ListComp elt [⟨.Name x0 p0, i0, [], 0⟩, ⟨.Name x1 p1, i1, [], 0⟩] scope pos) 1 it1 acc env) (fun r s' => match r with | .ok _ => ∃ m, m < n ∧ I m s' | .error _ => False) s₄) (fun _ _ => False) s₃) (fun _ _ => False) s₂) (fun _ _ => False) s₁) (fun _ _ => False) s)
    (n : Nat) (h : I n s) : codeAny (model P9 w) A (.compLoop (.ListComp elt [⟨.Name x0 p0, i0, [], 0⟩, ⟨.Name x1 p1, i1, [], 0⟩] scope pos) 0 it acc env) R s := by
  refine codeAny_loop rfl I (fun n s hI => ?_) n h
  show wpAny _ _ ((compTurn (.ListComp elt [⟨.Name x0 p0, i0, [], 0⟩, ⟨.Name x1 p1, i1, [], 0⟩] scope pos) 0 it acc env).onRaise (fun x => do noteFrame x env; theTreesLotGoes x)) _ _ s
  refine wpAny_noted ?_
  rw [turn0_eq]
  refine wpAny_bind (wpAny_standAt (wpAny_bind (wpAny_mono (turn n s hI) (fun r s₁ h₁ => ?_) fun _ _ h' => h'.elim)))
  cases r with
  | none => exact wpAny_pure h₁
  | some v =>
    refine wpAny_bind (wpAny_of_eq (a := ()) rfl ?_)
    refine wpAny_bind (wpAny_mono h₁ (fun _ s₂ h₂ => ?_) fun _ _ h' => h'.elim)
    refine wpAny_bind (wpAny_mono h₂ (fun x s₃ h₃ => ?_) fun _ _ h' => h'.elim)
    refine wpAny_bind (wpAny_standAt ?_)
    rw [hs x]
    refine wpAny_bind (wpAny_pure ?_)
    refine wpAny_bind (wpAny_holding (wpAny_mono h₃ (fun it1 s₄ h₄ => ?_) fun _ _ h' => h'.elim))
    refine wpAny_bind (wpAny_runOwn (codeAny_mono h₄ fun r s' hr => ?_))
    cases r with
    | ok f => exact wpAny_pure ⟨rfl, hr⟩
    | error e => exact hr.elim
end
section
variable {k : Bool} {w : World} {A : Around} {E : Value → Shared → Prop} {s₀ s : Shared} {g : Heap} {L a0 a1 : Addr} {m : Str → Option Value} {R : List (Addr × Obj)} {cl : List (Str × Addr)}
theorem r_assign_comp2 {elt i0 i1 : Expr} {x0 x1 tg : Str} {p0 p1 ptg pos pa : Pos} {scope : Scope} {env : Env} {Q : Flow → Shared → Prop} (hsw : swapsWith (.ListComp elt [⟨.Name x0 p0, i0, [], 0⟩, ⟨.Name x1 p1, i1, [], 0⟩] scope pos) (some (.Name tg ptg)) pa.line env = pure true)
    (hs : ∀ x, foldedSetIterable i0 env x = pure x) (hclos : closureFor scope env = pure cl) (hkind : scope.kind = .function) (hnames : ∀ y ∈ scope.names, y.2 = .local → scope.names.lookup y.1 = some .local)
    (h : wpAny (model P9 w) A (eval i0 env) (fun xv s₁ => wpAny (model P9 w) A (pyIter xv) (fun it s₂ => wpAny (model P9 w) A (newList []) (fun acc s₃ => wpAny (model P9 w) A (newFunctionEnv scope env.globals cl [] env.qual none .none (some env)) (fun cenv s₄ =>
      codeAny (model P9 w) A (.compStart (.ListComp elt [⟨.Name x0 p0, i0, [], 0⟩, ⟨.Name x1 p1, i1, [], 0⟩] scope pos) 0 it acc { cenv with scope := relabel scope env }) (compPost (model P9 w) A E (some (assign (.Name tg ptg) env)) (fun _ s' => Q .next s') acc cenv.locals) s₄) E s₃) E s₂) E s₁) E s) :
    wpAny (model P9 w) A (exec (.Assign [.Name tg ptg] (.ListComp elt [⟨.Name x0 p0, i0, [], 0⟩, ⟨.Name x1 p1, i1, [], 0⟩] scope pos) pa) env) Q E s := by
  have e : exec (.Assign [.Name tg ptg] (.ListComp elt [⟨.Name x0 p0, i0, [], 0⟩, ⟨.Name x1 p1, i1, [], 0⟩] scope pos) pa) env = (do
      standAt pa
      if ← swapsWith (.ListComp elt [⟨.Name x0 p0, i0, [], 0⟩, ⟨.Name x1 p1, i1, [], 0⟩] scope pos) (some (.Name tg ptg)) pa.line env then
        evalThenUse (.ListComp elt [⟨.Name x0 p0, i0, [], 0⟩, ⟨.Name x1 p1, i1, [], 0⟩] scope pos) env (assign (.Name tg ptg) env)
        return .next
      let v ← eval (.ListComp elt [⟨.Name x0 p0, i0, [], 0⟩, ⟨.Name x1 p1, i1, [], 0⟩] scope pos) env
      standAt ptg
      bindName env tg v
      pure .next) := rfl
  rw [e, hsw]
  refine wpAny_bind (wpAny_standAt ?_)
  refine wpAny_bind (wpAny_pure ?_)
  simp only [if_true]
  rw [arm_evalThenUse_ListComp]
  refine wpAny_bind (wpAny_bind ?_)
  refine wpAny_mono (wpAny_comprehension_free (use := some (assign (.Name tg ptg) env)) (Q := fun _ s' => Q .next s') rfl hs hclos hkind hnames h) (fun _ s' hq => wpAny_pure (wpAny_pure hq)) fun _ _ z => z
theorem cx_comp2 {vs0 vs1 : List Value} {elt i0 i1 : Expr} {x0 x1 : Str} {p0 p1 : Pos} {scope : Scope} {pos : Pos} {env : Env} {tg : Str} {ptg : Pos} {Q : Value → Shared → Prop} (hh : A.handled = none)
    (hstore : ∀ {s' : Shared} {R' : List (Addr × Obj)} {v : Value} {Q : Unit → Shared → Prop}, Cx k s₀ g L s' m R' → (∀ s'', Cx k s₀ g L s'' (upd m tg v) R' → Q () s'') → wpAny (model P9 w) A (storeName env tg v) Q E s')
    (J : Nat → Nat → List Value → List (Addr × Obj) → Prop) (hlen : ∀ i j ys R, J i j ys R → ys.length ≤ 1000000) (hcell : ∀ y ∈ scope.names, y.2 ≠ .cell) (hkind : scope.kind = .function) (hx0 : scope.names.lookup x0 = some .local) (hx1 : scope.names.lookup x1 = some .local) (hne : x0 ≠ x1)
    (C : Cx k s₀ g L s m R) (hl0 : s.heap.IsList a0 vs0.toArray) (hsv : ∀ i j ys R s' X, J i j ys R → Cx k s₀ g L s' m (X ++ R) → s'.heap.IsList a0 vs0.toArray ∧ s'.heap.IsList a1 vs1.toArray) (hJ : J 0 0 [] R) (roll : ∀ i ys R, i < vs0.length → J i vs1.length ys R → J (i + 1) 0 ys R)
    (hfs : ∀ Cc x, foldedSetIterable i1 (compEnvC scope cl Cc env) x = pure x)
    (hi1 : ∀ i ys R s' Cc X (Q : Value → Shared → Prop), J i 0 ys R → Cx k s₀ g L s' m (X :: (R)) → Q (.ref a1) s' → wpAny (model P9 w) A (eval i1 (compEnvC scope cl Cc env)) Q (fun _ _ => False) s')
    (turn : ∀ i j v0 v1 ys R s' I0 o0 I1 o1 oC Cc D c mC, vs0[i]? = some v0 → vs1[j]? = some v1 → J i j ys R → Cx k s₀ g L s' m ((I1, o1) :: (I0, o0) :: (Cc, oC) :: (D, lo ys c) :: R) → LCg.NsObj oC mC → mC x0 = some v0 → mC x1 = some v1 →
      wpAny (model P9 w) A (eval elt (compEnvC scope cl Cc env)) (fun y s3 => ∃ R', Cx k s₀ g L s3 m ((I1, o1) :: (I0, o0) :: (Cc, oC) :: (D, lo ys c) :: R') ∧ J i (j + 1) (ys ++ [y]) R') (fun _ _ => False) s')
    (done : ∀ D ys c R s', J vs0.length 0 ys R → Cx k s₀ g L s' (upd m tg (.ref D)) ((D, lo ys c) :: R) → Q .none s') :
    wpAny (model P9 w) A (pyIter (.ref a0)) (fun it s₂ => wpAny (model P9 w) A (newList []) (fun acc s₃ => wpAny (model P9 w) A (newFunctionEnv scope env.globals cl [] env.qual none .none (some env)) (fun cenv s₄ =>
      codeAny (model P9 w) A (.compStart (.ListComp elt [⟨.Name x0 p0, i0, [], 0⟩, ⟨.Name x1 p1, i1, [], 0⟩] scope pos) 0 it acc { cenv with scope := relabel scope env }) (compPost (model P9 w) A E (some (assign (.Name tg ptg) env)) Q acc cenv.locals) s₄) E s₃) E s₂) E s := by
  have lt_of : ∀ {h : Heap} {a : Addr} {vs : List Value}, h.IsList a vs.toArray → a ≠ h.objs.size := fun hl => Nat.ne_of_lt (by obtain ⟨o, e, _⟩ := hl; exact Heap.lt_size e)
  refine wpAny_pyIter_list hl0 ?_
  have hne0 := lt_of hl0
  have Ca : Cx k s₀ g L ⟨s.heap.push { cls := .type "list_iterator", data := .fields #[.ref a0, .int 0 0] }, s.gens, s.drawn, s.toks, s.os⟩ m ((s.heap.objs.size, { cls := .type "list_iterator", data := .fields #[.ref a0, .int 0 0] }) :: R) := C.push
  have hit0 : (s.heap.push { cls := .type "list_iterator", data := .fields #[.ref a0, .int 0 0] }).IsListIter s.heap.objs.size a0 0 := ⟨_, Ca.get (.head _), rfl, rfl⟩
  obtain ⟨I0, hI0⟩ : ∃ c, c = s.heap.objs.size := ⟨_, rfl⟩
  rw [← hI0] at Ca hit0 hne0 ⊢
  obtain ⟨sa, hsa⟩ : ∃ x : Shared, x = ⟨s.heap.push { cls := .type "list_iterator", data := .fields #[.ref a0, .int 0 0] }, s.gens, s.drawn, s.toks, s.os⟩ := ⟨_, rfl⟩
  obtain ⟨oI, hoI⟩ : ∃ x : Obj, x = { cls := .type "list_iterator", data := .fields #[.ref a0, .int 0 0] } := ⟨_, rfl⟩
  have Cb : Cx k s₀ g L sa m ((I0, oI) :: R) := by rw [hsa, hoI]; exact Ca
  have hitb : sa.heap.IsListIter I0 a0 0 := by rw [hsa]; exact hit0
  show wpAny _ _ (newList []) _ _ ⟨s.heap.push { cls := .type "list_iterator", data := .fields #[.ref a0, .int 0 0] }, s.gens, s.drawn, s.toks, s.os⟩
  rw [← hsa]
  clear Ca hit0 hsa hoI hI0 C hl0
  refine wpAny_newObj_type (wpAny_newFunctionEnv hcell (by intro y hy; simp at hy) (fun h₁ hns₁ hsb₁ => ?_) hkind)
  dsimp only at hns₁ hsb₁ ⊢
  have C0 : Cx k s₀ g L ⟨sa.heap.push (lo [] 0), sa.gens, sa.drawn, sa.toks, sa.os⟩ m ((sa.heap.objs.size, lo [] 0) :: (I0, oI) :: R) := Cb.push
  obtain ⟨oC, hoC, hC0⟩ := LCg.ns_obj hns₁
  have C1 : Cx k s₀ g L ⟨h₁, sa.gens, sa.drawn, sa.toks, sa.os⟩ m (((sa.heap.push (lo [] 0)).objs.size, oC) :: (sa.heap.objs.size, lo [] 0) :: (I0, oI) :: R) :=
    C0.fresh (fun b o e => hsb₁.extBut b o (Nat.ne_of_lt (Heap.lt_size e)) (Heap.get?_push_of_some _ e)) hoC
  obtain ⟨D, hD⟩ : ∃ c, c = sa.heap.objs.size := ⟨_, rfl⟩
  obtain ⟨Cc, hCc⟩ : ∃ c, c = (sa.heap.push (lo [] 0)).objs.size := ⟨_, rfl⟩
  rw [← hCc, ← hD] at C1
  have C2 : Cx k s₀ g L ⟨h₁, sa.gens, sa.drawn, sa.toks, sa.os⟩ m ((I0, oI) :: (Cc, oC) :: (D, lo [] 0) :: R) := C1.perm (List.perm_middle (l₁ := [(Cc, oC), (D, lo [] 0)]))
  have mvI : ∀ {h h' : Heap} {I a : Addr} {i : Nat} {o : Obj}, h.IsListIter I a i → h.get? I = some o → h'.get? I = some o → h'.IsListIter I a i := fun x e e' => x.at fun o' q => by rw [e, Option.some.injEq] at q; rw [← q]; exact e'
  have hit2 : h₁.IsListIter I0 a0 0 := mvI hitb (Cb.get (.head _)) (C2.get (.head _))
  have sz0 : vs0.toArray.size = vs0.length := List.size_toArray
  have sz1 : vs1.toArray.size = vs1.length := List.size_toArray
  have loop : ∀ tk, codeAny (model P9 w) A (.compLoop (.ListComp elt [⟨.Name x0 p0, i0, [], 0⟩, ⟨.Name x1 p1, i1, [], 0⟩] scope pos) 0 (.ref I0) (.ref D) (compEnvC scope cl Cc env)) (compPost (model P9 w) A E (some (assign (.Name tg ptg) env)) Q (.ref D) Cc) ⟨h₁, sa.gens, sa.drawn, tk, sa.os⟩ := by
    intro tk
    refine comp2_out (hfs Cc) (fun q s' => ∃ i ys c R oI oC mC, i ≤ vs0.length ∧ q = vs0.length - i ∧ Cx k s₀ g L s' m ((I0, oI) :: (Cc, oC) :: (D, lo ys c) :: R) ∧ s'.heap.IsListIter I0 a0 i ∧ LCg.NsObj oC mC ∧ J i 0 ys R) ?_ vs0.length
      ⟨0, [], 0, R, oI, oC, _, Nat.zero_le _, rfl, C2.toks, hit2, hC0, hJ⟩
    rintro q s1 ⟨i, ys, c, R1, oI1, oC1, mC1, hi, rfl, K1, hst1, hN1, hJ1⟩
    have hl01 := (hsv i 0 ys R1 s1 [(I0, oI1), (Cc, oC1), (D, lo ys c)] hJ1 K1).1
    have W0 := Walks.list (prog := P9) (w := w) (A := A) hh I0 a0 hne0 vs0.toArray
    by_cases hlt : i < vs0.length
    · refine W0.item i s1 _ _ (by (first | lia | omega)) ⟨hst1, hl01⟩ fun v h' tk' hP hst' hkp => ?_
      have hst'1 := hst'.1
      obtain ⟨o', ho', -, -⟩ := hst'.1
      have K2 := K1.iter (t := tk') hkp ho'
      have hCns : h'.Ns Cc mC1 := hN1.ns (K2.get (p := (Cc, oC1)) (.tail _ (.head _)))
      refine wpAny_assign_Name (wpAny_storeName_local (lookup_relabel_local hx0) hCns (fun h₃ hn₃ hs₃ => ?_) (by simp [compEnvC, relabel, hkind]))
      obtain ⟨oC3, hoC3, hN3⟩ := LCg.ns_obj hn₃
      have K3 : Cx k s₀ g L ⟨h₃, s1.gens, s1.drawn, tk' + 1, s1.os⟩ m ((I0, o') :: (Cc, oC3) :: (D, lo ys c) :: R1) := K2.up (o' := oC3) (.s .z) hs₃ hoC3
      have hv0 : vs0[i]? = some v := by simpa using hP
      have hst3 : h₃.IsListIter I0 a0 (i + 1) := mvI hst'1 ho' (K3.get (.head _))
      have hm3 : (fun y => if y = x0 then some v else mC1 y) x0 = some v := if_pos rfl
      have hl13 := (hsv i 0 ys R1 _ [(I0, o'), (Cc, oC3), (D, lo ys c)] hJ1 K3).2
      refine hi1 i ys R1 _ Cc (D, lo ys c) _ hJ1 (K3.drop (.cons _ (.cons _ (List.Sublist.refl _)))) ?_
      refine wpAny_pyIter_list hl13 ?_
      have hne1 := lt_of hl13
      dsimp only at hne1 ⊢
      obtain ⟨sb, hsb⟩ : ∃ x : Shared, x = ⟨h₃.push { cls := .type "list_iterator", data := .fields #[.ref a1, .int 0 0] }, s1.gens, s1.drawn, tk' + 1, s1.os⟩ := ⟨_, rfl⟩
      obtain ⟨I1, hI1⟩ : ∃ c, c = h₃.objs.size := ⟨_, rfl⟩
      have K4 : Cx k s₀ g L sb m ((I1, { cls := .type "list_iterator", data := .fields #[.ref a1, .int 0 0] }) :: (I0, o') :: (Cc, oC3) :: (D, lo ys c) :: R1) := by rw [hsb, hI1]; exact K3.push
      rw [← hsb, ← hI1]
      rw [← hI1] at hne1
      have hit4 : sb.heap.IsListIter I1 a1 0 := ⟨_, K4.get (.head _), rfl, rfl⟩
      clear hsb
      have W1 := Walks.list (prog := P9) (w := w) (A := A) hh I1 a1 hne1 vs1.toArray
      have inner : ∀ tk, codeAny (model P9 w) A (.compLoop (.ListComp elt [⟨.Name x0 p0, i0, [], 0⟩, ⟨.Name x1 p1, i1, [], 0⟩] scope pos) 1 (.ref I1) (.ref D) (compEnvC scope cl Cc env))
          (fun r s' => match r with | .ok _ => ∃ m', m' < vs0.length - i ∧ ∃ i ys c R oI oC mC, i ≤ vs0.length ∧ m' = vs0.length - i ∧ Cx k s₀ g L s' m ((I0, oI) :: (Cc, oC) :: (D, lo ys c) :: R) ∧ s'.heap.IsListIter I0 a0 i ∧ LCg.NsObj oC mC ∧ J i 0 ys R | .error _ => False) ⟨sb.heap, sb.gens, sb.drawn, tk, sb.os⟩ := by
        intro tk
        refine comp2_in (fun q s' => ∃ j ys c R o1 oC mC, j ≤ vs1.length ∧ q = vs1.length - j ∧ Cx k s₀ g L s' m ((I1, o1) :: (I0, o') :: (Cc, oC) :: (D, lo ys c) :: R) ∧ s'.heap.IsListIter I1 a1 j ∧ LCg.NsObj oC mC ∧ mC x0 = some v ∧ J i j ys R) ?_ vs1.length
          ⟨0, ys, c, R1, _, oC3, _, Nat.zero_le _, rfl, K4.toks, hit4, hN3, hm3, hJ1⟩
        rintro q s5 ⟨j, ys5, c5, R5, o5, oC5, mC5, hj, rfl, K5, hst5, hN5, hm5, hJ5⟩
        have hl15 := (hsv i j ys5 R5 s5 [(I1, o5), (I0, o'), (Cc, oC5), (D, lo ys5 c5)] hJ5 K5).2
        by_cases hlj : j < vs1.length
        · refine W1.item j s5 _ _ (by (first | lia | omega)) ⟨hst5, hl15⟩ fun v1 h6 tk6 hP6 hst6 hkp6 => ?_
          have hst61 := hst6.1
          obtain ⟨o6, ho6, -, -⟩ := hst6.1
          have K6 := K5.iter (t := tk6) hkp6 ho6
          have hCns6 : h6.Ns Cc mC5 := hN5.ns (K6.get (p := (Cc, oC5)) (.tail _ (.tail _ (.head _))))
          refine wpAny_assign_Name (wpAny_storeName_local (lookup_relabel_local hx1) hCns6 (fun h₇ hn₇ hs₇ => ?_) (by simp [compEnvC, relabel, hkind]))
          obtain ⟨oC7, hoC7, hN7⟩ := LCg.ns_obj hn₇
          have K7 : Cx k s₀ g L ⟨h₇, s5.gens, s5.drawn, tk6 + 1, s5.os⟩ m ((I1, o6) :: (I0, o') :: (Cc, oC7) :: (D, lo ys5 c5) :: R5) := K6.up (o' := oC7) (.s (.s .z)) hs₇ hoC7
          have hv1 : vs1[j]? = some v1 := by simpa using hP6
          have hst7 : h₇.IsListIter I1 a1 (j + 1) := mvI hst61 ho6 (K7.get (.head _))
          have hm7 : (fun y => if y = x1 then some v1 else mC5 y) x0 = some v := (if_neg hne).trans hm5
          refine wpAny_mono (turn i j v v1 ys5 R5 _ I0 o' I1 o6 oC7 Cc D c5 _ hv0 hv1 hJ5 K7 hN7 hm7 (if_pos rfl)) (fun y s8 h8 => ?_) fun _ _ z => z
          obtain ⟨R8, K8, hJ8⟩ := h8
          refine r_append K8 (nf := fun o => (I1, o6) :: (I0, o') :: (Cc, oC7) :: (D, o) :: R8) (fun _ => .s (.s (.s .z))) (by have := hlen _ _ _ _ hJ8; rw [List.length_append] at this; (first | lia | omega)) fun s9 K9 => ?_
          exact ⟨vs1.length - (j + 1), by (first | lia | omega), j + 1, ys5 ++ [y], c5 + 1, R8, o6, oC7, _, hlj, rfl, K9, mvI hst7 (K7.get (.head _)) (K9.get (.head _)), hN7, hm7, hJ8⟩
        · have e : j = vs1.length := by (first | lia | omega)
          subst e
          refine W1.done s5 _ _ (by rw [sz1]; exact ⟨hst5, hl15⟩) fun h6 tk6 hkp6 => ?_
          have K6 : Cx k s₀ g L ⟨h6, s5.gens, s5.drawn, tk6, s5.os⟩ m ((I0, o') :: (Cc, oC5) :: (D, lo ys5 c5) :: R5) := K5.gone hkp6
          exact ⟨vs0.length - (i + 1), by (first | lia | omega), i + 1, ys5, c5, R5, o', oC5, _, hlt, rfl, K6, mvI hst3 (K3.get (.head _)) (K6.get (.head _)), hN5, roll _ _ _ hlt hJ5⟩
      exact comp2_start1 (inner _) (W1.self 0 _ _ _ ⟨hit4, (hsv i 0 ys R1 sb [(I1, _), (I0, o'), (Cc, oC3), (D, lo ys c)] hJ1 K4).2⟩ (inner _))
    · have e : i = vs0.length := by (first | lia | omega)
      subst e
      refine W0.done s1 _ _ (by rw [sz0]; exact ⟨hst1, hl01⟩) fun h' tk' hkp => ?_
      have K2 : Cx k s₀ g L ⟨h', s1.gens, s1.drawn, tk', s1.os⟩ m ((Cc, oC1) :: (D, lo ys c) :: R1) := K1.gone hkp
      refine wpAny_assign_Name (hstore K2 fun s8 K8 => ?_)
      refine ⟨mC1, hN1.ns (K8.get (.head _)), fun h'' hs'' => done D ys c R1 _ hJ1 ?_⟩
      exact K8.gone fun b o hb e => hs''.extBut b o (fun q => hb (by rw [q]; exact .head _)) e
  subst hD hCc
  exact codeAny_compStart_list (loop _) ((Walks.list (prog := P9) (w := w) (A := A) hh I0 a0 hne0 vs0.toArray).self 0 _ _ _ ⟨hit2, (hsv 0 0 [] R ⟨h₁, sa.gens, sa.drawn, sa.toks, sa.os⟩ [(I0, oI), (_, oC), (_, lo [] 0)] hJ C2).1⟩ (loop _))
end
/-! rules for _law_told -/
theorem hid_seq {k : Bool} {s₀ s : Shared} {g : Heap} {L a : Addr} {oL o : Obj} {m : Str → Option Value} {D R FO : List (Addr × Obj)} {xs : Array Value} {n : Nat} (C : Cx k s₀ g L s m (D ++ (R ++ FO))) (hL : s.heap.get? L = some oL) (nd : NoSeq D) (nq : NoSeq ((L, oL) :: FO)) (ha : s.heap.get? a = some o) (hd : o.data = .seq xs n) :
    (hideAll s.heap ((D ++ (L, oL) :: FO).map (·.1))).get? a = some o := by
  refine hideAll_get _ ha fun q => ?_
  obtain ⟨p, hp, e⟩ := List.mem_map.mp q
  have h1 := ((C.hid hL).1 p hp).1
  rw [show p.1 = a from e, ha] at h1
  rcases List.mem_append.mp hp with hp | hp
  · exact nd p hp xs n (by rw [← Option.some.inj h1]; exact hd)
  · exact nq p hp xs n (by rw [← Option.some.inj h1]; exact hd)
theorem r_strb {k : Bool} {w : World} {A : Around} {E : Value → Shared → Prop} {s₀ s : Shared} {g : Heap} {L : Addr} {m : Str → Option Value} {R : List (Addr × Obj)} {b : Bool} {t : Tok} {Q : Value → Shared → Prop} (C : Cx k s₀ g L s m R) (h : ∀ t' s', Cx k s₀ g L s' m R → Q (.str (S (if b = true then [49] else [48])) t') s') :
    wpAny (model P9 w) A (call (.type "str") [.int (if b = true then 1 else 0) t]) Q E s := by
  cases b with
  | true =>
    refine P.str_of_int (by decide +kernel) ?_
    have e : (toString (if true = true then (1 : Int) else 0) : String) = "1" := by decide
    show Q (.str (Str.ofString (toString (if true = true then (1 : Int) else 0))) s.toks) _
    rw [e, e_one]; exact h _ _ C.toks
  | false =>
    refine P.str_of_int (by decide +kernel) ?_
    have e : (toString (if false = true then (1 : Int) else 0) : String) = "0" := by decide
    show Q (.str (Str.ofString (toString (if false = true then (1 : Int) else 0))) s.toks) _
    rw [e, e_zero]; exact h _ _ C.toks
theorem Words.noMain {texts names : List Tx} {tops : List Int} (W : Words texts tops names) {k : Nat} (hk : k < tops.length) : S (names.getD k []) ≠ Str.ofString "<string>" := by
  have e : Str.ofString "<string>" = S [60, 115, 116, 114, 105, 110, 103, 62] := by decide +kernel
  rw [e]
  intro q
  have q2 := S_inj q
  have hn := W.name k hk
  by_cases h : tops.getD k 0 < 0
  · rw [if_pos h] at hn
    have := W.short k hk
    rw [← hn, q2] at this
    revert this; decide
  · rw [if_neg h] at hn
    have h1 : 46 ∈ names.getD k [] := by rw [hn]; simp
    rw [q2] at h1
    revert h1; decide
theorem ord_le6 {texts names : List Tx} {tops : List Int} (Wo : Words texts tops names) (f : Nat) (top : Int) : (ordT tops f top).length ≤ 1000 := by
  have h1 := ord_len Wo f top
  have h2 : ordB (dpt names top) ≤ 1000 := by
    have : dpt names top ≤ 3 := by unfold dpt; split <;> (first | lia | omega)
    rcases (by (first | lia | omega) : dpt names top = 0 ∨ dpt names top = 1 ∨ dpt names top = 2 ∨ dpt names top = 3) with h | h | h | h <;> rw [h] <;> decide
  (first | lia | omega)
theorem r_list2 {k : Bool} {w : World} {A : Around} {E : Value → Shared → Prop} {s₀ s : Shared} {g : Heap} {L : Addr} {env : Env} {e1 e2 : Expr} {pos : Pos} {Q : Value → Shared → Prop} (he : starEach [e1, e2] env = [(false, eval e1 env), (false, eval e2 env)])
    (h : wpAny (model P9 w) A (eval e1 env) (fun v1 s1 => wpAny (model P9 w) A (eval e2 env) (fun v2 s2 => ∃ s₃ m₃ R₃, s₃ = s2 ∧ Cx k s₀ g L s₃ m₃ R₃ ∧ ∀ tp s', Cx k s₀ g L s' m₃ ((tp, lo [v1, v2] 0) :: R₃) → Q (.ref tp) s') E s1) E s) :
    wpAny (model P9 w) A (eval (.List [e1, e2] pos) env) Q E s := by
  refine wpAny_List ?_
  rw [he]
  refine spliced_cons (M := model P9 w) (wpAny_mono h (fun v1 s1 h1 => ?_) fun _ _ z => z)
  refine spliced_cons (M := model P9 w) (wpAny_mono h1 (fun v2 s2 h2 => ?_) fun _ _ z => z)
  obtain ⟨_, m₃, R₃, rfl, C, h⟩ := h2
  exact spliced_nil ⟨by rw [sizeLine_eq]; show 2 ≤ 16777216; (first | lia | omega), h _ _ (C.push (o := lo [v1, v2] 0))⟩
theorem pick_all (l : List Value) : kms_pick l none none = l := by
  unfold kms_pick kms_lo kms_hi
  simp
theorem perm17 {α : Type} (d l s x dx r j c3 c2 c1 : α) (F : List α) : (d :: l :: s :: x :: dx :: r :: j :: c3 :: c2 :: c1 :: F).Perm (c2 :: c1 :: c3 :: x :: dx :: d :: l :: s :: r :: j :: F) := by
  have p1 : ([d, l, s] ++ ([x, dx] ++ (r :: j :: c3 :: c2 :: c1 :: F))).Perm ([x, dx] ++ ([d, l, s] ++ (r :: j :: c3 :: c2 :: c1 :: F))) := List.perm_append_comm_assoc _ _ _
  have p2 : ([x, dx, d, l, s, r, j] ++ ([c3, c2, c1] ++ F)).Perm ([c3, c2, c1] ++ ([x, dx, d, l, s, r, j] ++ F)) := List.perm_append_comm_assoc _ _ _
  have p3 : ([c3] ++ ([c2, c1] ++ ([x, dx, d, l, s, r, j] ++ F))).Perm ([c2, c1] ++ ([c3] ++ ([x, dx, d, l, s, r, j] ++ F))) := List.perm_append_comm_assoc _ _ _
  exact p1.trans (p2.trans p3)
/-! _law_told -/
inductive TInv (w : World) (x dx D l S0 : Addr) (ox oS : Obj) (T : List (Addr × Obj)) (row out : List Tx) (i j : Nat) (zs : List Value) (R' : List (Addr × Obj)) : Prop
  | mk (oD' : Obj) (kvs : List (Str × Value)) (e : R' = (x, instObj 137 dx) :: (dx, ox) :: (D, oD') :: (l, lo [] 0) :: (S0, oS) :: T) (h1 : oD'.IsDictOf (strKind P9 w) kvs) (h2 : RdInv out kvs) (h3 : kvs.length ≤ 1 + i * row.length + j) (h4 : i ≤ 2) (h5 : j ≤ row.length)
    (h6 : ∀ q, q < (if i = 0 then j else row.length) → (valueAt kvs (S (row.getD q []))).isSome = true) (h7 : SVs zs ((List.replicate i (ansT out row)).flatten ++ ansT out (row.take j))) : TInv w x dx D l S0 ox oS T row out i j zs R'
theorem told_ok {w : World} {mg mb m : Str → Option Value} {texts names out : List Tx} {tops : List Int} (Wo : Words texts tops names) {A : Around} {s₀ s : Shared} {g : Heap} {L fa a1 a2 a3 a4 : Addr} {oJ : Obj} {vt vp vn vo : List Value} {ct cp cn co : Nat} {R FO : List (Addr × Obj)} {env : Env} {outer : List Env} {Q E : Value → Shared → Prop}
    (C : Cx false s₀ g L s m ((801, oJ) :: (R ++ FO))) (W : Wd w mg mb g) (jt : JT oJ) (T : Otr outer FO) (nq : NoSeq FO) (Dt : Otd FO) (hst : A.frames = some (env :: outer)) (he : env.frame = some L) (hek : env.scope.kind ≠ .module)
    (hf : s.heap.get? fa = some (tupO [.ref a1, .ref a2, .ref a3, .ref a4])) (h1 : s.heap.get? a1 = some (lo vt ct)) (hvt : SVs vt texts) (h2 : s.heap.get? a2 = some (lo vp cp)) (hvp : IntsAre vp tops) (h3 : s.heap.get? a3 = some (lo vn cn)) (hvn : SVs vn names) (h4 : s.heap.get? a4 = some (lo vo co)) (hvo : SVs vo out)
    (hlo : out.length ≤ 12) (hne : out ≠ []) (hon : ∀ o ∈ out, o ∈ names) (Rr : Rm A 50 300)
    (h : ∀ r s' oJ' FO', SlE FO FO' → Cx false s₀ g L s' m ((801, oJ') :: (R ++ FO')) → JT oJ' → ResAt s'.heap r ((rowT names tops).filter fun x => !hit out x) ((rowT names tops).filter fun x => hit out x).reverse [] (ansT out (rowT names tops) ++ ansT out (rowT names tops)) → Q (.ref r) s') :
    wpAny (model P9 w) A (call (.ref 857) [.ref fa]) Q E s := by
  obtain ⟨oL, hL, hdL, hsL⟩ := C.atL2
  obtain ⟨hh1, hnd⟩ := C.hid (D := [(801, oJ)]) hL
  obtain ⟨oL', hL', hdL'⟩ := C.atL3
  have hgs := C.keep
  have T1 := T.push he hek hdL
  have nq1 := NoSeq.push (L := L) nq hsL
  have D1 : Otd ((L, oL) :: FO) := by rw [show oL = oL' from Option.some.inj (hL.symm.trans hL')]; exact Otd.push (L := L) Dt hdL'
  have gf := hid_seq (D := [(801, oJ)]) C hL jt.noSeq nq1 hf rfl
  have g1 := hid_list (D := [(801, oJ)]) C hL jt.noSeq nq1 h1
  have g2 := hid_list (D := [(801, oJ)]) C hL jt.noSeq nq1 h2
  have g3 := hid_list (D := [(801, oJ)]) C hL jt.noSeq nq1 h3
  have g4 := hid_list (D := [(801, oJ)]) C hL jt.noSeq nq1 h4
  refine wpAny_call ?_
  refine' enterC (k := false) (D := (801, oJ) :: (L, oL) :: FO) (binds := [(Str.ofString "forest", .ref fa)]) (cl := fun L => [(Str.ofString "row", L + 3), (Str.ofString "reader", L + 2), (Str.ofString "names", L + 1)]) (mL := upd noA (Str.ofString "forest") (.ref fa)) (mC := noA) W C.keep hh1 hnd Rr.room ?ho ?hcd ?hb ?hkind ?hcn ?hcl ?hL ?hC ?_ ?h1 ?h2 ?h3
  case ho => k_is
  case hcd => k_is
  case hb => exact BindsTo.of_eq (by kernel_rfl)
  case hkind => kernel_rfl
  case hcn => decide +kernel
  case hcl => intro L; kernel_rfl
  case hL => intro L; kernel_rfl
  case hC => intro L; kernel_rfl
  case h1 => exact rfl
  case h2 => exact rfl
  case h3 => exact rfl
  intro L1 s1 cells WH hgh C1 hcells hL1
  refine hideQ fun Qt hQt => ?_
  obtain ⟨o1, o2, o3, rfl, d1, d2, d3⟩ := hcells.three
  have e1 : o1.data = .cell none := d1
  have e2 : o2.data = .cell none := d2
  have e3 : o3.data = .cell none := d3
  clear d1 d2 d3 hcells
  obtain ⟨gg, hgg⟩ : ∃ x, x = hideAll s.heap (((801, oJ) :: (L, oL) :: FO).map (·.1)) := ⟨_, rfl⟩
  rw [← hgg] at WH C1
  have gf' : gg.get? fa = some (tupO [.ref a1, .ref a2, .ref a3, .ref a4]) := hgg ▸ gf
  have g1' : gg.get? a1 = some (lo vt ct) := hgg ▸ g1
  have g2' : gg.get? a2 = some (lo vp cp) := hgg ▸ g2
  have g3' : gg.get? a3 = some (lo vn cn) := hgg ▸ g3
  have g4' : gg.get? a4 = some (lo vo co) := hgg ▸ g4
  clear gf g1 g2 g3 g4
  obtain ⟨FO1, hFO1⟩ : ∃ x, x = (L, oL) :: FO := ⟨_, rfl⟩
  rw [← hFO1] at C1 T1 nq1 D1
  have C2 : Cx false s gg L1 s1 (upd noA (Str.ofString "forest") (.ref fa)) ((801, oJ) :: (L1 + 3, o1) :: (L1 + 2, o2) :: (L1 + 1, o3) :: FO1) := C1.perm (List.perm_middle (l₁ := [(L1 + 3, o1), (L1 + 2, o2), (L1 + 1, o3)]))
  clear C1
  k_call_by "go" 0
  refine Assign_Tuple ?_
  k_call_by "go" 0
  refine r_unpack C2 (C2.keep _ _ gf') (Rm.deeper (d := 0) (u := 0) (Rr.le (by first | decide | (first | lia | omega)) (by first | decide | (first | lia | omega)))).hand rfl rfl fun s3 C3 => ?_
  iterate 4
    refine assignInOrder_cons ?_
    show wpAny _ _ (assign (.Name _ _) _ _) _ _ _
    refine wpAny_assign_Name ?_
    k_call_by "st" 0
  refine assignInOrder_nil ?_
  k_call_by "go" 0
  rename_i oc3 _ e4 _ _ _ _ _ _ _ _ C4
  have hn6 := Wo.few
  have hl1 := Wo.len1
  have hl2 := Wo.len2
  have hpl := IntsAre.len' hvp
  have hnl := hvn.length
  obtain ⟨F, hF⟩ : ∃ F, F = frst texts tops (tops.length + 1) (-1) := ⟨_, rfl⟩
  have hgF : F.good := hF ▸ frst_good Wo _ _
  have hwF : F.wt ≤ 519498 := by
    have := frst_wt Wo (tops.length + 1) (-1)
    rw [← hF] at this
    exact Nat.le_trans this (by show wtB 3 ≤ 519498; decide)
  have hhF : F.ht ≤ 3 := by
    have := frst_ht Wo (tops.length + 1) (-1)
    rw [← hF] at this
    exact this
  refine lines_ok Wo (tops.length + 1) C4 WH jt (C4.keep _ _ g1') hvt (C4.keep _ _ g2') hvp (by (first | lia | omega)) (by (first | lia | omega)) (by (first | lia | omega)) (Rm.deeper (Rr.le (by first | decide | (first | lia | omega)) (by first | decide | (first | lia | omega)))) fun r5 v5 c5 s5 oJ5 C5 jt5 hv5 => ?_
  rw [← hF] at hv5
  k_call_by "go" 0
  refine r_join (R := (r5, lo v5 c5) :: (L1 + 3, o1) :: (L1 + 2, o2) :: (L1 + 1, oc3) :: FO1) (C5.perm (List.Perm.swap ..)) WH jt5 (Rm.deeper (Rr.le (by first | decide | (first | lia | omega)) (by first | decide | (first | lia | omega)))) (C5.get (.head _)) hv5 (Fo.lines_good hgF) (Nat.le_trans (Fo.lines_wt F) (by (first | lia | omega))) fun t6 s6 oJ6 C6 jt6 => ?_
  k_call_by "go" 0
  rename_i C7
  have hjl : (joinT F.lines).length ≤ 600000 := by
    have h1 := joinT_length F.lines
    have h2 := Fo.lines_wt F
    (first | lia | omega)
  have hkl := Fo.lines_len_wt F
  refine r_split (R := [(801, oJ6), (r5, lo v5 c5), (L1 + 3, o1), (L1 + 2, o2), (L1 + 1, oc3)]) (FO := FO1) C7 WH T1 (deeper_frames hst) rfl (fun q => by cases q) (by (first | lia | omega)) (good_join (Fo.lines_good hgF)) (lex_join _ (Fo.lines_good hgF)) (by (first | lia | omega)) (Rm.deeper (Rr.le (by first | decide | (first | lia | omega)) (by first | decide | (first | lia | omega)))) fun X s8 FO8 vx cx hsl8 C8 hvx => ?_
  k_call_by "go" 0
  rename_i C9
  rw [e_nil]
  have C9' : Cx false s gg L1 _ _ ((X, lo vx cx) :: (801, oJ6) :: ([(L1 + 3, o1), (L1 + 2, o2), (L1 + 1, oc3)] ++ FO8)) := C9.drop (.cons_cons _ (.cons_cons _ (.cons _ (List.Sublist.refl _))))
  have C10 : Cx false s gg L1 _ _ ((801, oJ6) :: ([(X, lo vx cx), (L1 + 3, o1), (L1 + 2, o2), (L1 + 1, oc3)] ++ FO8)) := C9'.perm (List.Perm.swap ..)
  refine rest_ok hvo 3 hhF C10 WH jt6 (T1.sl hsl8) (nq1.sl hsl8) (deeper_frames hst) rfl (fun q => by cases q) (C10.get (p := (X, lo vx cx)) (.tail _ (.head _))) hvx (C10.keep _ _ g4') hgF (by simp only [List.length_nil]; (first | lia | omega)) (Rm.deeper (Rr.le (by first | decide | (first | lia | omega)) (by first | decide | (first | lia | omega)))) fun r11 v11 c11 s11 FO11 oJ11 hsl11 C11 jt11 hv11 => ?_
  have hsl12 := hsl8.trans hsl11
  have hw11 := Fo.rest_wt (out := out) F []
  have hh11 := Fo.rest_ht (out := out) F []
  have hg11 : (F.rest out []).good := Fo.rest_good hgF
  k_call_by "go" 0
  rename_i C12
  refine lread_ok 3 (F := F.rest out []) (R := [(r11, lo v11 c11), (801, oJ11), (X, lo vx cx), (L1 + 3, o1), (L1 + 2, o2), (L1 + 1, oc3)]) (FO := FO11) (by (first | lia | omega)) C12 WH (T1.sl hsl12) (nq1.sl hsl12) (deeper_frames hst) rfl (fun q => by cases q) (C12.get (p := (r11, lo v11 c11)) (.head _)) hv11 hg11 (by simp only [List.length_nil]; (first | lia | omega)) (Rm.deeper (Rr.le (by first | decide | (first | lia | omega)) (by first | decide | (first | lia | omega)))) fun r13 v13 c13 s13 FO13 hsl13 C13 hv13 => ?_
  have hsl14 := hsl12.trans hsl13
  obtain ⟨kept, hkept⟩ : ∃ z, z = (rowT names tops).filter fun x => !hit out x := ⟨_, rfl⟩
  have hv14 : SVs v13 kept := by
    have hr := rest_forest Wo (out := out) (tops.length + 1) (-1) (.inl (by (first | lia | omega)))
    rw [← hF, show preT names (-1) = [] from rfl] at hr
    rw [hr] at hv13
    rw [hkept]; exact hv13
  have C14 : Cx false s gg L1 _ _ ((r13, lo v13 c13) :: (801, oJ11) :: [(L1 + 3, o1), (L1 + 2, o2), (L1 + 1, oc3)] ++ FO13) := C13.drop (.cons_cons _ (.cons _ (.cons_cons _ (.cons _ (List.Sublist.refl _)))))
  clear C13 C12 C11 C10 C9' C9 C8 C7 C6 C5 C4 C3 C2
  k_call_by "go" 0
  rename_i s15 C15
  obtain ⟨M, C15', f1, f2⟩ : ∃ M, Cx false s gg L1 s15 M ((r13, lo v13 c13) :: (801, oJ11) :: [(L1 + 3, o1), (L1 + 2, o2), (L1 + 1, oc3)] ++ FO13) ∧ M (Str.ofString "tops") = some (.ref a2) ∧ M (Str.ofString "rest") = some (.ref r13) := ⟨_, C15, by k_call_by "lk" 0, by k_call_by "lk" 0⟩
  clear C15 C14
  refine ign_ok C15' WH (.inr g4') hvo hne (by (first | lia | omega)) (Rm.deeper (Rr.le (by first | decide | (first | lia | omega)) (by first | decide | (first | lia | omega)))) fun x dx ox S0 oS l D oD s16 ma nn ti hDs hN hma hS hD C16 => ?_
  clear C15'
  have C17 : Cx false s gg L1 s16 M ((L1 + 2, o2) :: (L1 + 1, oc3) :: (L1 + 3, o1) :: (rdL x dx D l S0 ox oD oS ++ ((r13, lo v13 c13) :: (801, oJ11) :: FO13))) := C16.perm ?p17
  case p17 => exact perm17 ..
  clear C16
  k_call_by "go" 0
  rename_i or18 _ e18 C18
  have hlen := ord_le6 Wo
  refine comp_open (cl := [(Str.ofString "names", L1 + 1)]) (by kernel_rfl) rfl (by decide +kernel) ?_
  k_call_by "go" 0
  rename_i C19
  refine order_ok (k := false) (by (first | lia | omega)) Wo.high hlen (tops.length + 1) (WH.keeps C19.keep) (Rm.deeper (Rr.le (by first | decide | (first | lia | omega)) (by first | decide | (first | lia | omega)))) ⟨_, C19.keep _ _ g2', rfl, cp, rfl⟩ hvp (by (first | lia | omega)) (by (first | lia | omega)) fun ro us cu s20 k20 st20 n20 e20 hus => ?_
  have C20 := C19.more (C19.back0 k20 st20) n20 e20
  try dsimp only
  have hul : us.length = (ordT tops (tops.length + 1) (-1)).length := by rw [IntsAre.len' hus, List.length_map]
  have hul2 := hlen (tops.length + 1) (-1)
  have hmem : ∀ i j, (ordT tops (tops.length + 1) (-1))[i]? = some j → j < tops.length := fun i j e => ord_mem _ _ _ (List.mem_of_getElem? e)
  refine comp_list (vs := us) (Rm.deeper (d := 0) (u := 0) (Rr.le (by first | decide | (first | lia | omega)) (by first | decide | (first | lia | omega)))).hand (fun i ys R' => R' = _ ∧ SVs ys ((rowT names tops).take i) ∧ i ≤ us.length) (fun i ys R' ⟨_, hy, hi⟩ => by have := hy.length; rw [List.length_take] at this; (first | lia | omega)) (by decide +kernel) rfl (by k_call_by "kd" 0) C20 (C20.isList (.head _)) (by rintro i ys R' s' I o ⟨rfl, _, _⟩ K; exact K.isList (.tail _ (.head _))) ⟨rfl, by rw [List.take_zero]; exact .nil, Nat.zero_le _⟩ ?ct ?cd
  case ct =>
    rintro i v ys R7 s21 I oI oC Cc DD c mC hvi ⟨rfl, hys, hiu⟩ C21 hNs hm
    refine hideQ fun Qt hQt => ?_
    obtain ⟨j, tj, hj, rfl⟩ := nat_ints_at hus hvi
    have hjt := hmem i j hj
    obtain ⟨tn, htn⟩ := hvn.at' (i := j) (by (first | lia | omega))
    refine wpAny_tests_nil ?_
    try simp only [if_true]
    k_call_by "go" 0
    refine r_item ⟨_, C21.keep _ _ g3', rfl, cn, rfl⟩ (by (first | lia | omega)) (by rw [Int.toNat_natCast]; exact htn) (by (first | lia | omega)) ?_
    have hrow : (rowT names tops)[i]? = some (names.getD j []) := by unfold rowT; rw [List.getElem?_map, hj]; rfl
    refine ⟨_, C21, rfl, ?_, (List.getElem?_eq_some_iff.mp hvi).1⟩
    rw [List.take_add_one, hrow]
    exact hys.append (.cons .nil)
  case cd =>
    rintro DD ys c R7 s21 ⟨rfl, hys, hiu⟩ C21
    refine hideQ fun Qt hQt => ?_
    obtain ⟨row, hrow⟩ : ∃ z, z = rowT names tops := ⟨_, rfl⟩
    have hrl : row.length = us.length := by rw [hrow]; unfold rowT; rw [List.length_map, hul]
    rw [← hrow, ← hrl, List.take_length] at hys
    have hyl := hys.length
    k_call_by "go" 0
    rename_i or22 _ e22 C22
    refine r_assign_comp2 (cl := [(Str.ofString "row", L1 + 3), (Str.ofString "reader", L1 + 2)]) (by with_unfolding_all rfl) (by intro _; rfl) (by kernel_rfl) rfl (by decide +kernel) ?_
    refine r_list2 (k := false) (s₀ := s) (g := gg) (L := L1) rfl ?_
    k_call_by "go" 0
    rename_i tf C23
    refine ⟨_, _, _, rfl, C23, fun l2 s24 C24 => ?_⟩
    obtain ⟨v0, hv0⟩ : ∃ z, z = [Value.str (Str.ofString "f") tf, Value.none] := ⟨_, rfl⟩
    rw [← hv0] at C24
    have C25 : Cx false s gg L1 s24 M ((x, instObj 137 dx) :: (dx, ox) :: (D, oD) :: (l, lo [] 0) :: (S0, oS) :: (l2, lo v0 0) :: (DD, lo ys c) :: (ro, lo us cu) :: (L1 + 2, or18) :: (L1 + 1, oc3) :: (L1 + 3, or22) :: (r13, lo v13 c13) :: (801, oJ11) :: FO13) :=
      C24.perm (List.perm_append_comm_assoc [(l2, lo v0 0), (DD, lo ys c), (ro, lo us cu), (L1 + 2, or18), (L1 + 1, oc3), (L1 + 3, or22)] (rdL x dx D l S0 ox oD oS) ((r13, lo v13 c13) :: (801, oJ11) :: FO13))
    clear C24 C23 C22 C21 C20 C19 C18 C17
    have hrt : ∀ j, j < row.length → ∃ k, k < tops.length ∧ row.getD j [] = names.getD k [] := fun j hj => by
      have hj2 : j < (ordT tops (tops.length + 1) (-1)).length := by (first | lia | omega)
      refine ⟨(ordT tops (tops.length + 1) (-1))[j], hmem j _ (List.getElem?_eq_getElem hj2), ?_⟩
      rw [hrow]; unfold rowT
      simp [List.getD, hj2]
    have hI0 : RdInv out [(Str.ofString "<string>", .int 1 ti)] := fun z v hv hz => by
      unfold valueAt at hv
      rw [List.find?_cons] at hv
      rw [decide_eq_false (fun q : Str.ofString "<string>" = S z => hz q.symm)] at hv
      cases hv
    have hol : ∀ o ∈ out, o.length ≤ 1000000 := fun o ho => by
      obtain ⟨k, hk, e⟩ := List.getElem_of_mem (hon o ho)
      have := Wo.nlen k (by (first | lia | omega))
      rw [show names.getD k [] = o by simp [List.getD, hk, e]] at this
      (first | lia | omega)
    refine cx_comp2 (vs0 := v0) (vs1 := ys) (a1 := DD) (Rm.deeper (d := 0) (u := 0) (Rr.le (by first | decide | (first | lia | omega)) (by first | decide | (first | lia | omega)))).hand (fun K hq => r_stX K (by k_call_by "kd" 0) (fun s' K' => hq s' K'))
      (TInv w x dx D l S0 ox oS ((l2, lo v0 0) :: (DD, lo ys c) :: (ro, lo us cu) :: (L1 + 2, or18) :: (L1 + 1, oc3) :: (L1 + 3, or22) :: (r13, lo v13 c13) :: (801, oJ11) :: FO13) row out)
      ?len (by decide +kernel) rfl (by k_call_by "kd" 0) (by k_call_by "kd" 0) (ne_q (by exact Eq.refl false)) C25 (C25.isList (by k_call_by "mem" 0)) ?sv ?j0 ?roll (by intro _ _; rfl) ?i1 ?turn ?done
    case len =>
      rintro i j zs R' ⟨oD', kvs, rfl, hd', hri, hkl', hi2, hj2, hall, hzs⟩
      have h1 := hzs.length
      have h2 : (List.replicate i (ansT out row)).flatten.length ≤ 2 * row.length := by
        rw [List.length_flatten, List.map_replicate, List.sum_replicate_nat]
        unfold ansT; rw [List.length_map]
        exact Nat.mul_le_mul_right _ hi2
      have h3 : (ansT out (row.take j)).length ≤ row.length := by unfold ansT; rw [List.length_map, List.length_take]; (first | lia | omega)
      rw [List.length_append] at h1
      (first | lia | omega)
    case sv =>
      rintro i j zs R' s' XX ⟨oD', kvs, rfl, -⟩ K
      exact ⟨K.isList (List.mem_append_right _ (by k_call_by "mem" 0)), K.isList (List.mem_append_right _ (by k_call_by "mem" 0))⟩
    case j0 => exact ⟨oD, _, rfl, hD, hI0, by simp, by (first | lia | omega), Nat.zero_le _, fun q hq => absurd hq (by simp), by simp [ansT]; exact .nil⟩
    case roll =>
      rintro i zs R' hi ⟨oD', kvs, rfl, hd', hri, hkl', hi2, hj2, hall, hzs⟩
      rw [hv0] at hi
      have hi' : i < 2 := hi
      refine ⟨oD', kvs, rfl, hd', hri, ?_, by (first | lia | omega), Nat.zero_le _, fun q hq => hall q ?_, ?_⟩
      · rw [Nat.add_mul]; (first | lia | omega)
      · rw [if_neg (by (first | lia | omega))] at hq
        split
        · (first | lia | omega)
        · exact hq
      · rw [hyl, List.take_length] at hzs
        rw [List.replicate_succ', List.flatten_append]
        simpa [ansT] using hzs
    case i1 =>
      rintro i zs R' s' Cc XX Q' ⟨oD', kvs, rfl, -⟩ K hq
      k_call_by "go" 0
      exact hq
    case turn =>
      rintro i j w0 w1 zs R' s' I0 p0 I1 p1 oC Cc D2 c2 mC hw0 hw1 ⟨oD', kvs, rfl, hd', hri, hkl', hi2, hj2, hall, hzs⟩ K hNs hm0 hm1
      refine hideQ fun Qt hQt => ?_
      k_call_by "go" 0
      refine r_getm (f := 134) K WH (by k_call_by "mem" 0) (by k_call_by "mem" 0) hN (by kernel_rfl) hma.noNames ?_
      k_call_by "go" 0
      have hjl : j < row.length := by rw [← hyl]; exact (List.getElem?_eq_some_iff.mp hw1).1
      obtain ⟨tn, htn⟩ := hys.at' hjl
      obtain rfl : w1 = .str (S (row.getD j [])) tn := Option.some.inj (hw1.symm.trans htn)
      obtain ⟨kk, hkk, ekk⟩ := hrt j hjl
      have hnl := Wo.nlen kk hkk
      have K25 := K.perm (List.perm_append_comm_assoc [(I1, p1), (I0, p0), (Cc, oC), (D2, lo zs c2)] (rdL x dx D l S0 ox oD' oS) ((l2, lo v0 0) :: (DD, lo ys c) :: (ro, lo us cu) :: (L1 + 2, or18) :: (L1 + 1, oc3) :: (L1 + 3, or22) :: (r13, lo v13 c13) :: (801, oJ11) :: FO13))
      have hcase : ((∃ t, w0 = .str (Str.ofString "f") t) ∨ (w0 = .none ∧ (valueAt kvs (S (row.getD j []))).isSome = true)) ∧ i < 2 := by
        rw [hv0] at hw0
        match i, hw0 with
        | 0, e => exact ⟨.inl ⟨tf, (Option.some.inj e).symm⟩, by (first | lia | omega)⟩
        | 1, e => exact ⟨.inr ⟨(Option.some.inj e).symm, hall j hjl⟩, by (first | lia | omega)⟩
      have hkl3 : kvs.length ≤ 10000 := by
        have := Nat.mul_le_mul_right row.length (show i ≤ 1 by (first | lia | omega))
        (first | lia | omega)
      refine names_ok K25 WH hDs hN hma hS (by (first | lia | omega)) hd' hri hkl3 (by rw [ekk]; exact Wo.noMain hkk) (by rw [ekk]; (first | lia | omega)) hol hcase.1 (Rm.deeper (Rr.le (by first | decide | (first | lia | omega)) (by first | decide | (first | lia | omega)))) fun oD2 kvs2 s26 t26 hd2 hri2 hkl2 hmono hin K26 => ?_
      k_call_by "go" 0
      refine r_strb (b := hit out (row.getD j [])) K26 fun t27 s27 K27 => ?_
      refine hQt.op _ _ ?_
      refine ⟨_, K27.perm (List.perm_append_comm_assoc (rdL x dx D l S0 ox oD2 oS) [(I1, p1), (I0, p0), (Cc, oC), (D2, lo zs c2)] _), oD2, kvs2, rfl, hd2, hri2, by (first | lia | omega), hi2, hjl, fun q hq => ?_, ?_⟩
      · by_cases hqj : q = j
        · rw [hqj]; exact hin
        · refine hmono _ (hall q ?_)
          split at hq <;> split <;> (first | lia | omega)
      · have hrj : row[j]? = some (row.getD j []) := by simp [List.getD, hjl]
        rw [List.take_add_one, hrj]
        have e : ansT out (row.take j ++ (some (row.getD j [])).toList) = ansT out (row.take j) ++ [if hit out (row.getD j []) = true then [49] else [48]] := by simp [ansT]
        rw [e, ← List.append_assoc]
        exact hzs.append (.cons .nil)
    case done =>
      rintro D2 zs c2 R' s' ⟨oD', kvs, rfl, hd', hri, hkl', hi2, hj2, hall, hzs⟩ K
      refine hideQ fun Qt hQt => ?_
      have hzs2 : SVs zs (ansT out row ++ ansT out row) := by
        rw [hv0] at hzs
        simpa [ansT, List.replicate] using hzs
      have K29 : Cx false s gg L1 s' _ ((D2, lo zs c2) :: (DD, lo ys c) :: (L1 + 3, or22) :: (r13, lo v13 c13) :: (801, oJ11) :: FO13) := K.drop (.cons_cons _ (.cons _ (.cons _ (.cons _ (.cons _ (.cons _ (.cons _ (.cons_cons _ (.cons _ (.cons _ (.cons _ (.cons_cons _ (.cons_cons _ (.cons_cons _ (List.Sublist.refl _)))))))))))))))
      clear K C25
      have hkl : kept.length ≤ 1000 := by
        rw [hkept, ← hrow]
        have := List.length_filter_le (fun x => !hit out x) row
        (first | lia | omega)
      have hvl := hv14.length
      k_call_by "go" 0
      refine r_list3 (k := false) (s₀ := s) (g := gg) (L := L1) rfl ?_
      k_call_by "go" 0
      refine r_lslice K29 (K29.isList (by k_call_by "mem" 0)) (by (first | lia | omega)) .none .none (pick_all _) fun D3 s30 K30 => ?_
      k_call_by "go" 0
      have K31 : Cx false s gg L1 s30 _ ((DD, lo ys c) :: (r13, lo v13 c13) :: ([(D3, lo v13 0), (D2, lo zs c2), (801, oJ11)] ++ FO13)) :=
        (K30.drop (news' := [(D3, lo v13 0), (D2, lo zs c2)] ++ ([(DD, lo ys c), (r13, lo v13 c13)] ++ ((801, oJ11) :: FO13))) (.cons_cons _ (.cons_cons _ (.cons_cons _ (.cons _ (List.Sublist.refl _)))))).perm (List.perm_append_comm_assoc [(D3, lo v13 0), (D2, lo zs c2)] [(DD, lo ys c), (r13, lo v13 c13)] ((801, oJ11) :: FO13))
      refine uld_ok (R := [(D3, lo v13 0), (D2, lo zs c2), (801, oJ11)]) (FO := FO13) K31 WH (T1.sl hsl14) (D1.sl hsl14) (deeper_frames hst) rfl (fun q => by cases q) hys hv14 (by (first | lia | omega)) (by (first | lia | omega)) (Rm.deeper (Rr.le (by first | decide | (first | lia | omega)) (by first | decide | (first | lia | omega)))) fun tp mi vm cm va' ca' vb' cb' s32 FO32 hsl32 K32 hvm hvb' => ?_
      rw [hkept, ← hrow, uld_row] at hvm hvb'
      k_call_by "go" 0
      refine ⟨_, _, _, rfl, K32, fun tr s33 K33 => ?_⟩
      k_call_by "go" 0
      rw [← hkept] at h
      rw [← hrow] at h
      subst hFO1
      subst hgg
      have K34 : Cx false s _ L1 s33 _ ((801, oJ11) :: ([(tr, lo [.ref D3, .ref tp, .ref D2] 0), (tp, tupO [.ref mi, .ref r13]), (mi, lo vm cm), (DD, lo va' ca'), (r13, lo vb' cb'), (D3, lo v13 0), (D2, lo zs c2)] ++ FO32)) :=
        K33.perm (List.perm_middle (l₁ := [(tr, lo [.ref D3, .ref tp, .ref D2] 0), (tp, tupO [.ref mi, .ref r13]), (mi, lo vm cm), (DD, lo va' ca'), (r13, lo vb' cb'), (D3, lo v13 0), (D2, lo zs c2)]))
      obtain ⟨FO', hsl', K35⟩ := Cx.retS (D := [(801, oJ)]) (D' := [(801, oJ11)]) (F := [(tr, lo [.ref D3, .ref tp, .ref D2] 0), (tp, tupO [.ref mi, .ref r13]), (mi, lo vm cm), (DD, lo va' ca'), (r13, lo vb' cb'), (D3, lo v13 0), (D2, lo zs c2)]) C hL K34 (hsl14.trans hsl32) rfl
      refine h tr s33 oJ11 FO' hsl' (K35.drop (List.sublist_append_right _ _)) jt11 ?_
      exact ⟨D3, tp, mi, r13, D2, v13, vm, vb', zs, 0, 0, cm, cb', c2, K35.get (p := (tr, _)) (.head _), K35.get (p := (D3, _)) (.tail _ (.tail _ (.tail _ (.tail _ (.tail _ (.head _)))))), hv14, K35.get (p := (tp, _)) (.tail _ (.head _)), K35.get (p := (mi, _)) (.tail _ (.tail _ (.head _))), hvm, K35.get (p := (r13, _)) (.tail _ (.tail _ (.tail _ (.tail _ (.head _))))), hvb', K35.get (p := (D2, _)) (.tail _ (.tail _ (.tail _ (.tail _ (.tail _ (.tail _ (.head _))))))), hzs2⟩
/-! the two answers compared -/
theorem allT (n : Nat) : ((List.range n).all fun _ => true) = true := List.all_eq_true.mpr fun _ _ => rfl
open PySem.SeqAt in
theorem eqat_refs {A : Around} {s : Shared} {l b : Addr} (h : RcAt A s (.ref l) (.ref b) true) : EqAt A s (.ref l) (.ref b) true := by
  by_cases e : l = b
  · subst e; exact EqAt.same _
  · exact EqAt.of_refs e h
open PySem.SeqAt in
theorem rc_strs {A : Around} {s : Shared} {a b : Addr} {vs ws : List Value} {c d : Nat} {l : List Tx} (ha : s.heap.get? a = some (lo vs c)) (hb : s.heap.get? b = some (lo ws d)) (h1 : SVs vs l) (h2 : SVs ws l) (hu : A.units < cLine) : RcAt A s (.ref a) (.ref b) true := by
  have la : s.heap.IsList a vs.toArray := ⟨_, ha, rfl, c, rfl⟩
  have lb : s.heap.IsList b ws.toArray := ⟨_, hb, rfl, d, rfl⟩
  have e1 := h1.length
  have e2 := h2.length
  have := RcAt.lists (A := A) (s := s) (e := fun _ => true) la lb (by simp; (first | lia | omega)) hu fun j i1 i2 => by
    rw [List.size_toArray] at i1 i2
    obtain ⟨t1, q1⟩ := h1.at' (i := j) (by (first | lia | omega))
    obtain ⟨t2, q2⟩ := h2.at' (i := j) (by (first | lia | omega))
    have p1 : vs.toArray[j] = .str (S (l.getD j [])) t1 := by rw [List.getElem?_eq_getElem i1] at q1; simpa using Option.some.inj q1
    have p2 : ws.toArray[j] = .str (S (l.getD j [])) t2 := by rw [List.getElem?_eq_getElem i2] at q2; simpa using Option.some.inj q2
    rw [p1, p2]
    intro prog w E Q hq
    exact wpAny_eqBool_str (by simpa using hq)
  rw [allT] at this
  exact this
open PySem.SeqAt in
theorem eq_res {w : World} {A : Around} {s : Shared} {r r' : Addr} {l1 l2 l3 l4 : List Tx} {Q E : Value → Shared → Prop} (h : ResAt s.heap r l1 l2 l3 l4) (h' : ResAt s.heap r' l1 l2 l3 l4) (hu : A.units + 4 < cLine) (hq : Q (.bool true) s) :
    wpAny (model P9 w) A (compareOp .Eq (.ref r) (.ref r')) Q E s := by
  obtain ⟨a1, a2, a3, a4, a5, v1, v2, v3, v4, c, c1, c2, c3, c4, e1, e2, e3, e4, e5, e6, e7, e8, e9, e10⟩ := h
  obtain ⟨b1, b2, b3, b4, b5, u1, u2, u3, u4, d, d1, d2, d3, d4, f1, f2, f3, f4, f5, f6, f7, f8, f9, f10⟩ := h'
  have hu1 : A.in1.units < cLine := by show A.units + 1 < _; (first | lia | omega)
  have hu2 : A.in1.in1.units < cLine := by show A.units + 1 + 1 < _; (first | lia | omega)
  have x1 : EqAt A.in1 s (.ref a1) (.ref b1) true := eqat_refs (rc_strs e2 f2 e3 f3 hu1)
  have x3 : EqAt A.in1.in1 s (.ref a3) (.ref b3) true := eqat_refs (rc_strs e5 f5 e6 f6 hu2)
  have x4 : EqAt A.in1.in1 s (.ref a4) (.ref b4) true := eqat_refs (rc_strs e7 f7 e8 f8 hu2)
  have x5 : EqAt A.in1 s (.ref a5) (.ref b5) true := eqat_refs (rc_strs e9 f9 e10 f10 hu1)
  have x2 : EqAt A.in1 s (.ref a2) (.ref b2) true := eqat_refs (by
    have t1 : s.heap.IsTuple a2 [Value.ref a3, .ref a4].toArray := ⟨_, e4, rfl, _, rfl⟩
    have t2 : s.heap.IsTuple b2 [Value.ref b3, .ref b4].toArray := ⟨_, f4, rfl, _, rfl⟩
    have := RcAt.tuples (A := A.in1) (s := s) (e := fun _ => true) t1 t2 hu1 fun j i1 i2 => by
      match j, i1 with
      | 0, _ => exact x3
      | 1, _ => exact x4
    rw [allT] at this
    exact this)
  refine eq_listAt (e := fun _ => true) (items := [Value.ref a1, .ref a2, .ref a5].toArray) (items2 := [Value.ref b1, .ref b2, .ref b5].toArray) ⟨_, e1, rfl, c, rfl⟩ ⟨_, f1, rfl, d, rfl⟩ rfl (by (first | lia | omega)) (fun j i1 i2 => ?_) (by rw [allT]; exact hq)
  match j, i1 with
  | 0, _ => exact x1
  | 1, _ => exact x2
  | 2, _ => exact x5
/-! law -/
theorem pick_to6 (l : List Value) : kms_pick l none (some 6) = l.take 6 := by
  unfold kms_pick kms_lo kms_hi
  have e : (if (6 : Int) < 0 then l.length - (-(6 : Int)).toNat else min (6 : Int).toNat l.length) = min 6 l.length := by simp
  simp only [e, List.drop_zero, Nat.sub_zero]
  rw [← List.take_take, List.take_length]
theorem IntsAre.take6 {vs : List Value} {ns : List Int} (h : IntsAre vs ns) : ∀ n, IntsAre (vs.take n) (ns.take n) := by
  induction h with
  | nil => intro n; simp; exact .nil
  | cons i t h ih =>
    intro n
    cases n with
    | zero => exact .nil
    | succ n => exact .cons i t (ih n)
theorem law_ok {w : World} {mg mb : Str → Option Value} {A : Around} {s : Shared} {a : Addr} {va : List Value} {xs : List Int} {oJ : Obj} {R : Result → Shared → Prop} (W : Wd w mg mb (hideAll s.heap [801])) (hJ : s.heap.get? 801 = some oJ) (jt : JT oJ)
    (hl : (hideAll s.heap [801]).IsList a va.toArray) (hva : IntsAre va xs) (h63 : xs.length ≤ 1000) (Rr : Rm A 60 400) (hst : A.frames = some [])
    (h : ∀ s' oJ', (hideAll s.heap [801]).StaysIn s'.heap → s'.heap.get? 801 = some oJ' → JT oJ' → Stp false s s' → R (.ok (.ret (.bool true))) s') :
    codeAny (model P9 w) A (.call (.ref 871) ⟨[.ref a], []⟩) R s := by
  refine' enterH (k := false) (D := [(801, oJ)]) (binds := [(Str.ofString "script", .ref a)]) W (fun b o e => of_hideAll _ e) ?hD ?hnd Rr.room ?ho ?hcd ?hb ?hl ?hr ?_ ?h1 ?h2 ?h3 ?h4
  case hD => intro p hp; rw [List.mem_singleton.mp hp]; exact ⟨hJ, hideAll_none _ (.head _)⟩
  case hnd => exact List.nodup_cons.mpr ⟨List.not_mem_nil, List.nodup_nil⟩
  k_call_by "ent" 0
  intro L1 s1 WH hgh C1 hL1
  refine hideQ fun Qt hQt => ?_
  obtain ⟨gg, hgg⟩ : ∃ x, x = hideAll s.heap ([(801, oJ)].map (·.1)) := ⟨_, rfl⟩
  have hl' : gg.IsList a va.toArray := hgg ▸ hl
  rw [← hgg] at WH C1
  have il : ∀ {s' : Shared} {m' R'}, Cx false s gg L1 s' m' R' → s'.heap.IsList a va.toArray := fun K => hl'.at fun o e => K.keep _ _ e
  have hvl := IntsAre.len' hva
  k_call_by "go" 0
  refine wpAny_mono (Q := fun v s' => ∃ r c vs ns R', v = Value.ref r ∧ Cx false s gg L1 s' (bnd [(Str.ofString "script", .ref a)]) ((801, oJ) :: R') ∧ s'.heap.get? r = some (lo vs c) ∧ IntsAre vs ns ∧ ns ≠ [] ∧ ns.length ≤ 6) (E := fun _ _ => False) ?arg ?rest fun _ _ z => z.elim
  case arg =>
    refine wpAny_Or2 ?_
    k_call_by "go" 0
    rename_i C2
    refine r_lslice C2 (il C2) (by (first | lia | omega)) .none (.int _ _) rfl fun D1 s3 C3 => ?_
    obtain ⟨vz, hvz⟩ : ∃ z, z = kms_pick va none (some 6) := ⟨_, rfl⟩
    rw [← hvz] at C3
    have hz : vz = va.take 6 := by rw [hvz]; exact pick_to6 _
    have hzi : IntsAre vz (xs.take 6) := by rw [hz]; exact IntsAre.take6 hva 6
    have hzl := IntsAre.len' hzi
    have hz6 : (xs.take 6).length ≤ 6 := by rw [List.length_take]; (first | lia | omega)
    refine r_ltruth C3 (C3.isList (.head _)) (by (first | lia | omega)) fun s4 C4 => ?_
    by_cases h0 : vz = []
    · refine if_f (decide_eq_false (by simpa using h0)) ?_
      refine r_list2 (k := false) (s₀ := s) (g := gg) (L := L1) rfl ?_
      k_call_by "go" 0
      refine ⟨_, _, _, rfl, by assumption, fun l5 s5 C5 => ?_⟩
      exact ⟨l5, 0, _, [0, 7], _, rfl, C5.perm (List.perm_middle (l₁ := [(l5, _), (D1, lo vz 0)])), C5.get (.head _), .cons _ _ (.cons _ _ .nil), by simp, by simp⟩
    · refine if_t (decide_eq_true (by simpa using h0)) ?_
      refine ⟨D1, 0, vz, xs.take 6, _, rfl, C4.perm (List.perm_middle (l₁ := [(D1, lo vz 0)])), C4.get (.head _), hzi, fun q => ?_, hz6⟩
      rw [q] at hzl
      exact h0 (List.length_eq_zero_iff.mp hzl)
  case rest =>
    rintro v s5 ⟨r, c, vs, ns, R5, rfl, C5, hr, hns, hne, hn6⟩
    k_call_by "go" 0
    refine forest_ok C5 WH hr hns hn6 (Rm.deeper (Rr.le (by first | decide | (first | lia | omega)) (by first | decide | (first | lia | omega)))) fun fr a1 a2 a3 a4 vt vp vn vo ct cp cn co texts tops names out s6 C6 Wo htl hvt hvp hvn hvo hlo hone hon => ?_
    have C7 : Cx false s gg L1 s6 _ ((801, oJ) :: ([(fr, tupO [.ref a1, .ref a2, .ref a3, .ref a4]), (a1, lo vt ct), (a2, lo vp cp), (a3, lo vn cn), (a4, lo vo co)] ++ R5)) := C6.perm (List.perm_middle (l₁ := [(fr, tupO [.ref a1, .ref a2, .ref a3, .ref a4]), (a1, lo vt ct), (a2, lo vp cp), (a3, lo vn cn), (a4, lo vo co)]))
    k_call_by "go" 0
    rename_i s8 C8
    obtain ⟨M, C8', f1⟩ : ∃ M, Cx false s gg L1 s8 M ((801, oJ) :: ([(fr, tupO [.ref a1, .ref a2, .ref a3, .ref a4]), (a1, lo vt ct), (a2, lo vp cp), (a3, lo vn cn), (a4, lo vo co)] ++ R5)) ∧ M (Str.ofString "drawn") = some (.ref fr) := ⟨_, C8, by k_call_by "lk" 0⟩
    have C9 : Cx false s gg L1 s8 M ((801, oJ) :: (([(fr, tupO [.ref a1, .ref a2, .ref a3, .ref a4]), (a1, lo vt ct), (a2, lo vp cp), (a3, lo vn cn), (a4, lo vo co)] ++ R5) ++ [])) := by rw [List.append_nil]; exact C8'
    clear C8' C8 C7 C6
    have hno : ∀ {p : Addr × Obj}, p ∈ ([] : List (Addr × Obj)) → False := fun h => by cases h
    refine told_ok Wo C9 WH jt ⟨rfl, fun _ h => (by cases h), fun _ h => (hno h).elim⟩ (fun _ h => (hno h).elim) (fun _ h => (hno h).elim) (deeper_frames hst) rfl (fun q => by cases q) (C9.get (p := (fr, _)) (.tail _ (.head _))) (C9.get (p := (a1, _)) (.tail _ (.tail _ (.head _)))) hvt (C9.get (p := (a2, _)) (.tail _ (.tail _ (.tail _ (.head _))))) hvp (C9.get (p := (a3, _)) (.tail _ (.tail _ (.tail _ (.tail _ (.head _)))))) hvn (C9.get (p := (a4, _)) (.tail _ (.tail _ (.tail _ (.tail _ (.tail _ (.head _))))))) hvo hlo (hone hne) hon (Rm.deeper (Rr.le (by first | decide | (first | lia | omega)) (by first | decide | (first | lia | omega)))) fun r1 s10 oJ' FO' hsl C10 jt' hres => ?_
    k_call_by "go" 0
    have hvol := hvo.length
    refine due_ok (k := false) Wo (WH.keeps C10.keep) (Rm.deeper (Rr.le (by first | decide | (first | lia | omega)) (by first | decide | (first | lia | omega)))) (C10.get (p := (fr, _)) (.tail _ (.head _))) (C10.get (p := (a2, _)) (.tail _ (.tail _ (.tail _ (.head _))))) hvp (C10.get (p := (a3, _)) (.tail _ (.tail _ (.tail _ (.tail _ (.head _)))))) hvn (C10.get (p := (a4, _)) (.tail _ (.tail _ (.tail _ (.tail _ (.tail _ (.head _))))))) hvo (by (first | lia | omega)) fun r2 s11 k11 st11 hres2 => ?_
    have C11 := C10.back0 k11 st11
    k_call_by "go" 0
    refine eq_res (hres.keeps k11) hres2 ?hu ?_
    case hu =>
      have := Rr.units
      show A.units + 3 + 4 < _
      (first | lia | omega)
    k_call_by "go" 0
    subst hgg
    exact h s11 oJ' C11.keep (C11.get (p := (801, oJ')) (.head _)) jt' C11.st
end
section
open PySem PySem.W PyProof.Rows PySem.Calls
/-! the top -/
theorem top_post {cw : ClaimW} {cl : Str → Option Addr} {mean : ExcName → Option Value} {args : List WData} {s₁ s' : Shared} {oJ : Obj} (hT : TabsAt [(805, 801)] s₁.heap) (hn : ∀ cls, cw.raises args cls = false)
    (hp : cw.post args (ofPy (.bool true)) args = true) (k : (hideAll s₁.heap [801]).StaysIn s'.heap) (hJ : s'.heap.get? 801 = some oJ) (jt : JT oJ) (st : Stp false s₁ s') (hg : s₁.gens = #[]) :
    GoodWG cw cl mean args s₁ (.ok (.ret (.bool true))) s' := by
  obtain ⟨ps, rfl, _⟩ := jt
  have e8 : s₁.heap.get? 801 = some (tabObj #[]) := (hT (805, 801) (.head _)).2
  refine ⟨.inl ⟨_, ofPy (.bool true), [], rfl, hn, .bool true, hp, fun _ => ⟨List.nodup_nil, fun a h => nomatch h⟩⟩, ⟨fun b o e => ?_, fun b o e => ?_⟩, st.os, st.gens (.of_eq hg)⟩
  · by_cases hb : b = 801
    · subst hb
      rw [e8] at e; cases e
      exact .inr (.inl ⟨((hT (805, 801) (.head _)).1.tab e8).isCodeTable, rfl, #[], ps, rfl, by rw [Array.empty_append]; exact hJ⟩)
    · exact .inl (k _ _ (hideAll_get _ e fun q => hb (List.mem_singleton.mp q)))
  · by_cases hb : b = 801
    · subst hb
      exact ⟨_, hJ⟩
    · exact ⟨o, k _ _ (hideAll_get _ e fun q => hb (List.mem_singleton.mp q))⟩
theorem top_wd {w : World} {mg mb : Str → Option Value} {h : Heap} {mean : ExcName → Option Value} (hT : TabsAt [(805, 801)] h) (X : (Mine.hd.heap_1 w.params).In h) (T : Top view loose9 mean mg mb h) : Wd w mg mb (hideAll h [801]) := by
  refine ⟨ghost_K hT X (by kernel_rfl), ⟨ghost_ns hT T.g, ghost_ns hT T.b, let ⟨mc, a, r⟩ := T.nolimit; ⟨mc, ghost_ns hT a, r⟩, T.builtins, T.free⟩, ?_⟩
  obtain ⟨bm, ob, a1, a2, a3, a4, a5, a6⟩ := T.bmain
  exact ⟨bm, ob, ghost_ns hT T.g, a1, a2, ghost_get hT a3 (fun q => by rw [q] at a4; cases a4), a4, a5, a6⟩
theorem law_holds : PySem.Challenge.rw_oy0378_01.Holds := by
  refine holds_law said fun _ => ?_
  refine holds_open (q := view) (loose := loose) (Xt := Xl) (XP := XL view []) (Yf := hk.obs) (Ya := hk.val) (YP := hk.says) (N := 12000) left hk.of hk.keeps (fun s e => xl_of s (Bool.and_eq_true_iff.mp e).1) XL.keeps (by rfl) (by rfl) (by rfl) (fun s e => recFacts_of (Bool.and_eq_true_iff.mp e).2) (by rfl) (by assumption) (by decide +kernel) ⟨rfl, rfl, rfl, rfl, rfl, by decide +kernel⟩ ?hw ?walk
  case hw => w_witness2
  intro w s₀ s₁ mg mb G Y fa o pm cd doc dV kV ho hd hcd hD hmg hg args vals as hpre hlay hrd hwl hlo
  have KX := km_in_of Y
  have K8 := km_tabs_of Y 801 (.head _)
  refine Ground.open G ?_
  intro T B D TE TW
  wrow_args hpre hlay hrd hwl hlo
  refine enter_call ?_
  have hT : TabsAt [(805, 801)] s₁.heap := by
    intro q hq
    rw [List.mem_singleton.mp hq]
    exact ⟨codeHd_of_K KX (by kernel_rfl), K8⟩
  have he : fa = 871 := by
    have h2 := mg_of KX T.g (n := Str.ofString "law") (v := .ref 871) (by kernel_rfl)
    rw [hmg] at h2
    cases h2; rfl
  subst he
  clear hd hcd hD ho hmg
  rename Heap.IsList _ _ _ => hL
  rename IntsAre _ _ => hI
  rename ¬ _ => hc
  refine law_ok (top_wd hT KX T) K8 ⟨#[], rfl, trivial⟩ (ghost_list hT hL) hI (by (first | lia | omega)) ⟨rfl, by decide, by decide⟩ rfl fun s' oJ' k e8 jt st => ?_
  exact top_post hT (raisesW_false (by wrow_none_raised)) (by wrow_post) k e8 jt st hg
end
end Mine
theorem PySem.Challenge.cw_oy0378_01_holds : PySem.Challenge.rw_oy0378_01.Holds :=
  Mine.law_holds
