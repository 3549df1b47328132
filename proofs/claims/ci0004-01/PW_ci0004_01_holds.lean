import PyProof.Rows.All
import Wide.All
import OpenK.AllK
import Wide.FinOn
import PySem.Challenge.RW_ci0004_01
open PySem PySem.W PyProof.Rows
set_option Elab.async false
set_option maxRecDepth 100000
namespace Mine
theorem glueL {A B : Prop} (hl : A) (mainL : B) : B := (fun _ => mainL) hl
theorem leftL {A B : Prop} (bothL : A ∧ B) : A := bothL.1
section
local macro_rules | `(tactic| k_head) => `(tactic| (apply glueL; (case' mainL => km_head); (case' hl => ((rename_i said9; clear said9); apply leftL)); (case hc => exact And.right ?$(Lean.mkIdent `hl.bothL))))
set_option maxHeartbeats 0 in
open_top hd for PySem.Challenge.rw_ci0004_01
end
section
open PySem PySem.W PySem.Calls PyProof.Rows
/-- the top's run over a tree of objects -/
def runG (st : SharedT → Thread → Option (SharedT × Thread)) (ok : Thread → Bool) : Nat → SharedT → Thread → Option SharedT
  | 0, _, _ => none
  | n + 1, s, t => match through t with
    | true => some s
    | false => match ok t with
      | false => none
      | true => match st s t with
        | some (s', t') => runG st ok n s' t'
        | none => none
theorem runG_of {tb : String → Option Builtin} {p : Program} {w : World} {n₀ : Nat} {ann : Option Value} : ∀ {n : Nat} {s s' : SharedT} {t : Thread},
    runG (stepT (denote tb) p w) (stepOk n₀ ann) n s t = some s' → topRun tb p w n₀ ann n s.abs t = some s'.abs
  | 0, _, _, _, h => by simp [runG] at h
  | n + 1, s, s', t, h => by
    unfold runG at h
    unfold topRun
    cases ht : through t with
    | true => rw [ht] at h; cases h; rfl
    | false =>
      rw [ht] at h
      cases hk : stepOk n₀ ann t with
      | false => rw [hk] at h; cases h
      | true =>
        rw [hk] at h
        cases hs : stepT (denote tb) p w s t with
        | none => rw [hs] at h; cases h
        | some r =>
          obtain ⟨s₂, t₂⟩ := r
          rw [hs] at h
          simp only [stepT_spec hs]
          exact runG_of h

theorem left_of_run {p q : Program} {loose : List Str} {Xt : Shared → Bool} {α : Type} {Yf : Shared → α} {Ya : World → α} {N M : Nat} {H₀ : Params → Heap} {T₀ : Params → BT} {n₀ : Nat} {life : Life}
    {gs : Array GenState} {d : Drawn} {k : Nat} {ann : Option Value}
    (open_ : ∀ w : World, (fencedOpening treeTable p w N).map (fun s => (s.heap, s.gens, s.drawn, s.toks)) = some (H₀ w.params, gs, d, k))
    (size : ∀ w : World, ((H₀ w.params).isNs mainGlobals && gs.size == 0) = true ∧ (H₀ w.params).objs.size = n₀ ∧ (H₀ w.params).nsMap mainGlobals "__annotations__" = ann)
    (tr : ∀ P, absHeap (T₀ P) n₀ life = H₀ P) (le : Nat.ble M N = true)
    (runA : ∀ w : World, (fun os => (runG (stepT (denote treeTable) p w) (stepOk n₀ ann) M ⟨T₀ w.params, n₀, life, gs, d, k, os⟩ (topStub p)).map fun s =>
      ((staticsOk (importedModules p.main.body) (H₀ w.params) s.abs.heap && namesBound p s.abs.heap && gensDone s.abs && laidKept (H₀ w.params) s.abs.heap), Yf s.abs)) = fun _ => some (true, Ya w))
    (runB : ∀ w : World, (fun os => (runG (stepT (denote treeTable) p w) (stepOk n₀ ann) M ⟨T₀ w.params, n₀, life, gs, d, k, os⟩ (topStub p)).map fun s =>
      openSeen q loose (importedModules p.main.body) Xt true s.abs) = fun _ => some (openGood q loose)) : LeftO p q loose Xt Yf Ya N true := fun w => by
  obtain ⟨⟨h, gs', d', k', os⟩, e, e'⟩ := Option.map_eq_some_iff.mp (open_ w)
  obtain ⟨rfl, rfl, rfl, rfl⟩ : h = H₀ w.params ∧ gs' = gs ∧ d' = d ∧ k' = k := by simpa using e'
  obtain ⟨z1, z2, z3⟩ := size w
  obtain ⟨s, r, l⟩ := Option.map_eq_some_iff.mp (congrFun (runA w) os)
  obtain ⟨l1, l3⟩ := Prod.mk.inj l
  obtain ⟨s', q', l2⟩ := Option.map_eq_some_iff.mp (congrFun (runB w) os)
  obtain rfl : s = s' := Option.some.inj (r.symm.trans q')
  have r' := topRun_mono (N - M) _ _ _ _ (runG_of r)
  rw [show M + (N - M) = N by have := Nat.le_of_ble_eq_true le; omega] at r'
  have r2 : topRun treeTable p w n₀ ann N ⟨H₀ w.params, gs', d', k', os⟩ (topStub p) = some s.abs := by
    rw [← tr]; exact r'
  have t : topFrom treeTable p w N ⟨H₀ w.params, gs', d', k', os⟩ = some s.abs := by
    unfold topFrom
    dsimp only
    rw [z1, z2, z3, r2]
    simp only [Option.bind_some, l1]
  unfold openEnds
  rw [e]
  simp only [Option.bind_some, t, Option.map_some, l2, l3]

/-- the boot heap as a tree -/
def treeL : List Obj → Nat → BT → BT
  | [], _, t => t
  | o :: r, n, t => treeL r (n + 1) (t.ins n o)
noncomputable def boot_tree (P : Params) : BT := treeL (boot_heap P).objs.toList 0 .nil
theorem boot_tree_is (P : Params) : absHeap (boot_tree P) 11 (boot_heap P).life = boot_heap P := by kernel_rfl
def tget (s : SharedT) (a : Addr) : Option Obj := match Nat.blt a s.n with
  | true => alive ((s.tree.get a).getD default)
  | false => none
theorem tget_is (s : SharedT) (a : Addr) : s.abs.heap.get? a = tget s a := by
  show (absHeap s.tree s.n s.life).get? a = _
  unfold tget
  cases h : Nat.blt a s.n with
  | false => exact abs_get_none fun q => by rw [Nat.blt_eq.mpr q] at h; cases h
  | true =>
    have hl := Nat.blt_eq.mp h
    unfold Heap.get?
    rw [absHeap_at, if_pos hl]
    show (match some ((s.tree.get a).getD default) with | some ⟨_, _, .freed, _⟩ => none | o => o) = alive ((s.tree.get a).getD default)
    obtain ⟨c, d, dt, sl⟩ := (s.tree.get a).getD default
    cases dt <;> rfl

/-- the top's run and what is looked at behind it, over any of the words that have a quicker twin: the statics and the written part .. -/
def TopEqA (st : (Code → Sem Fin) → Program → World → SharedT → Thread → Option (SharedT × Thread)) (dn : (String → Option Builtin) → Code → Sem Fin) (tb : String → Option Builtin)
    (ok : Nat → Option Value → Thread → Bool) (im : List Stmt → List Str) (ro : OpenLaw → OpenRow) (l : OpenLaw) (K : Params → Frag) (as ts : List Addr) : Prop := ∀ w : World,
  (fun os => (runG (st (dn tb) (ro l).toRowW.prog w) (ok 11 (some (.ref 6))) 7700 ⟨boot_tree w.params, 11, {}, ⟨[]⟩, boot_drawn, boot_toks, os⟩ (topStub (ro l).toRowW.prog)).map fun s =>
      ((staticsOk (im (ro l).toRowW.prog.main.body) (boot_heap w.params) s.abs.heap && namesBound (ro l).toRowW.prog s.abs.heap && gensDone s.abs && laidKept (boot_heap w.params) s.abs.heap), as.map (tget s), ts.map (tget s)))
    = fun _ => some (true, (K w.params).map (fun p => some p.2), ts.map fun _ => some (tabObj #[]))
/-- .. and what is seen of the text's own names -/
def TopEqB {β : Type} (st : (Code → Sem Fin) → Program → World → SharedT → Thread → Option (SharedT × Thread)) (dn : (String → Option Builtin) → Code → Sem Fin) (tb : String → Option Builtin)
    (ok : Nat → Option Value → Thread → Bool) (im : List Stmt → List Str) (ro : OpenLaw → OpenRow) (l : OpenLaw) (sn : Program → List Str → List Str → (Shared → Bool) → Bool → Shared → β) (gd : β) (lo : List Str) (q : Program) : Prop := ∀ w : World,
  (fun os => (runG (st (dn tb) (ro l).toRowW.prog w) (ok 11 (some (.ref 6))) 7700 ⟨boot_tree w.params, 11, {}, ⟨[]⟩, boot_drawn, boot_toks, os⟩ (topStub (ro l).toRowW.prog)).map fun s =>
      sn q lo (im (ro l).toRowW.prog.main.body) (fun s => xlAt q [] s && recOk (ro l).toRowW.records s) true s.abs) = fun _ => some gd

theorem left_of_hook {p q : Program} {loose : List Str} {Xt : Shared → Bool} {K : Params → Frag} {as ts : List Addr} {e : ∀ P, as = (K P).map (·.1)} {N M : Nat} {H₀ : Params → Heap} {T₀ : Params → BT} {n₀ : Nat} {life : Life}
    {gs : Array GenState} {d : Drawn} {k : Nat} {ann : Option Value}
    (open_ : ∀ w : World, (fencedOpening treeTable p w N).map (fun s => (s.heap, s.gens, s.drawn, s.toks)) = some (H₀ w.params, gs, d, k))
    (size : ∀ w : World, ((H₀ w.params).isNs mainGlobals && gs.size == 0) = true ∧ (H₀ w.params).objs.size = n₀ ∧ (H₀ w.params).nsMap mainGlobals "__annotations__" = ann)
    (tr : ∀ P, absHeap (T₀ P) n₀ life = H₀ P) (le : Nat.ble M N = true)
    (runA : ∀ w : World, (fun os => (runG (stepT (denote treeTable) p w) (stepOk n₀ ann) M ⟨T₀ w.params, n₀, life, gs, d, k, os⟩ (topStub p)).map fun s =>
      ((staticsOk (importedModules p.main.body) (H₀ w.params) s.abs.heap && namesBound p s.abs.heap && gensDone s.abs && laidKept (H₀ w.params) s.abs.heap), as.map (tget s), ts.map (tget s)))
        = fun _ => some (true, (K w.params).map (fun p => some p.2), ts.map fun _ => some (tabObj #[])))
    (runB : ∀ w : World, (fun os => (runG (stepT (denote treeTable) p w) (stepOk n₀ ann) M ⟨T₀ w.params, n₀, life, gs, d, k, os⟩ (topStub p)).map fun s =>
      openSeen q loose (importedModules p.main.body) Xt true s.abs) = fun _ => some (openGood q loose)) :
    LeftO p q loose Xt (Hook.obs (kmHook K as e ts)) (Hook.val (kmHook K as e ts)) N true :=
  left_of_run open_ size tr le (fun w => by
    refine (congrArg (fun f => fun os => (f os)) (funext fun os => ?_)).trans (runA w)
    refine congrArg (fun f => Option.map f _) (funext fun s => ?_)
    show (_, as.map (fun a => s.abs.heap.get? a), ts.map (fun a => s.abs.heap.get? a)) = _
    simp only [tget_is]) runB

def asL : List Addr := [2, 3, 15, 17, 18, 20, 21, 22, 25, 26, 27, 30, 31, 32, 39, 40, 41, 42, 45, 47, 48, 50, 51, 52, 54, 55, 57, 58, 59, 66, 67, 68, 69, 79, 81, 82, 84, 85, 86, 87, 88, 89, 90, 91, 94, 101, 102, 103, 106, 113, 114, 115, 118, 125, 126, 128, 129, 131, 132, 133, 135, 136, 138, 139, 140, 142, 143, 145, 146, 147, 149, 150, 152, 153, 154, 155, 157, 158, 160, 161, 162, 164, 165, 167, 168, 169, 171, 172, 174, 175, 176, 178, 179, 181, 182, 183, 185, 186, 188, 189, 190, 192, 193, 195, 196, 197, 199, 200, 202, 203, 204, 206, 207, 209, 210, 211, 213, 214, 216, 217, 218, 220, 221, 223, 224, 225, 227, 228, 230, 231, 232, 234, 235, 237, 238, 239, 241, 242, 244, 245, 246, 247, 249, 250, 252, 253, 254, 255, 257, 258, 260, 261, 262, 263, 265, 266, 268, 269, 270, 271, 273, 274, 276, 277, 278, 280, 281, 283, 284, 285, 287, 288, 290, 291, 292, 293, 295, 296, 298, 299, 300, 301, 303, 304, 306, 307, 308, 310, 311, 313, 314, 315, 317, 318, 320, 321, 322, 324, 325, 327, 328, 329, 331, 332, 334, 335, 336, 338, 339, 341, 342, 343, 344, 345, 348, 355, 356, 358, 359, 361, 362, 363, 365, 366, 368, 369, 370, 372, 373, 375, 376, 377, 379, 380, 382, 383, 384, 386, 387, 389, 390, 391, 393, 394, 396, 397, 398, 399, 401, 402, 404, 405, 406, 407, 409, 410, 412, 413, 414, 415, 417, 418, 420, 421, 422, 423, 425, 426, 428, 429, 430, 431, 433, 434, 436, 437, 438, 440, 441, 443, 444, 445, 447, 448, 450, 451, 452, 454, 455, 457, 458, 459, 461, 462, 464, 465, 466, 468, 469, 471, 472, 473, 475, 476, 478, 479, 480, 482, 483, 485, 486, 487, 489, 490, 492, 493, 494, 496, 497, 499, 500, 501, 503, 504, 506, 507, 508, 510, 511, 513, 514, 515, 516, 518, 519, 521, 522, 523, 524, 526, 527, 529, 530, 531, 532, 534, 535, 537, 538, 539, 540, 542, 543, 545, 546, 547, 548, 550, 551, 553, 554, 555, 557, 558, 560, 561, 562, 564, 565, 567, 568, 569, 571, 572, 574, 575, 576, 578, 579, 581, 582, 583, 585, 586, 588, 589, 590, 591, 592, 602, 604, 605, 607, 608, 609, 610, 611, 612, 614, 615, 617, 618, 619, 620, 621, 622, 624, 625, 627, 628, 629, 631, 632, 634, 635, 636, 638, 639, 641, 642, 643, 645, 646, 648, 649, 650, 651, 652, 653, 655, 656, 658, 659, 660, 662, 663, 665, 666, 667, 669, 670, 672, 673, 674, 676, 677, 679, 680, 681, 682, 683, 684, 685, 688, 695, 697, 698, 700, 701, 702, 703, 704, 705, 707, 708, 710, 711, 712, 714, 715, 717, 718, 719, 720, 721, 724, 731, 732, 733, 736, 743, 744, 745, 748, 755, 756, 757, 760, 767, 768, 769, 770, 773, 774, 775, 777, 778, 780, 781, 782, 783, 784, 787, 788, 789, 791, 792, 794, 795, 796, 798, 799, 801, 802, 803, 805, 806, 808, 809, 810, 811, 812, 813, 815, 816, 818, 819, 820, 821, 824, 825, 826, 827, 828, 831, 832, 833, 834, 835, 836, 837, 840, 841, 842, 843, 844, 845, 848, 849, 850, 851, 852, 855, 857, 858, 860, 861, 862, 865, 866, 867, 869, 870, 872, 873, 874, 877, 878, 879, 881, 882, 884, 885, 886, 888, 889, 891, 892, 893, 895, 896, 898, 899, 900, 903, 904]
def tsL : List Addr := [901]
def looseL : List Str := ["UnsupportedOperation", "IOBase", "BufferedIOBase", "TextIOBase", "BytesIO", "StringIO", "EmbitBase", "DescriptorBase", "AllowedDerivation"]
theorem top_size (w : World) : ((boot_heap w.params).isNs mainGlobals && (⟨[]⟩ : Array GenState).size == 0) = true ∧ (boot_heap w.params).objs.size = 11 ∧ (boot_heap w.params).nsMap mainGlobals "__annotations__" = some (.ref 6) := by
  refine ⟨?_, ?_, ?_⟩ <;> kernel_rfl
theorem top_open (w : World) : (fencedOpening treeTable PySem.Challenge.rw_ci0004_01.row.toRowW.prog w 15308).map (fun s => (s.heap, s.gens, s.drawn, s.toks)) = some (boot_heap w.params, Array.mk [], boot_drawn, boot_toks) := by
  refine boot_open (p := PySem.Challenge.rw_ci0004_01.row.toRowW.prog) ?_ ?_ ?_ w
  · kernel_rfl
  · kernel_rfl
  · intro s; kernel_rfl
set_option maxHeartbeats 0 in
theorem topEqAQ : TopEqA PySem.W.Fast.tw10156331382660048174 PySem.W.Fast.tw11892475500146522536 PySem.W.Fast.tw14364793385576792824 PySem.W.Fast.tw6613529449190102663 PySem.W.Fast.tw5923862056798008813
    PySem.W.Fast.tw2368527892694137696 PySem.W.Fast.tw4093969902052432363 hd.heap_39 asL tsL := by
  intro w
  kernel_rfl
set_option maxHeartbeats 0 in
theorem topEqBQ : TopEqB PySem.W.Fast.tw10156331382660048174 PySem.W.Fast.tw11892475500146522536 PySem.W.Fast.tw14364793385576792824 PySem.W.Fast.tw6613529449190102663 PySem.W.Fast.tw5923862056798008813
    PySem.W.Fast.tw2368527892694137696 PySem.W.Fast.tw4093969902052432363 PySem.W.Fast.tw4187177175401517315 (openGood hd.view_39 looseL) looseL hd.view_39 := by
  intro w
  kernel_rfl
theorem topEqA : TopEqA stepT denote treeTable stepOk importedModules OpenLaw.row PySem.Challenge.rw_ci0004_01 hd.heap_39 asL tsL := by
  rw [PySem.W.Fast.te10156331382660048174, PySem.W.Fast.te11892475500146522536, PySem.W.Fast.te14364793385576792824, PySem.W.Fast.te6613529449190102663, PySem.W.Fast.te5923862056798008813,
    PySem.W.Fast.te2368527892694137696, PySem.W.Fast.te4093969902052432363]
  exact topEqAQ
theorem topEqB : TopEqB stepT denote treeTable stepOk importedModules OpenLaw.row PySem.Challenge.rw_ci0004_01 openSeen (openGood hd.view_39 looseL) looseL hd.view_39 := by
  rw [PySem.W.Fast.te10156331382660048174, PySem.W.Fast.te11892475500146522536, PySem.W.Fast.te14364793385576792824, PySem.W.Fast.te6613529449190102663, PySem.W.Fast.te5923862056798008813,
    PySem.W.Fast.te2368527892694137696, PySem.W.Fast.te4093969902052432363, PySem.W.Fast.te4187177175401517315]
  exact topEqBQ
set_option maxHeartbeats 0 in
theorem leftO : LeftO PySem.Challenge.rw_ci0004_01.row.toRowW.prog hd.view_39 looseL (fun s => xlAt hd.view_39 [] s && recOk PySem.Challenge.rw_ci0004_01.row.toRowW.records s)
    (Hook.obs (kmHook hd.heap_39 asL (fun _ => by kernel_rfl) tsL)) (Hook.val (kmHook hd.heap_39 asL (fun _ => by kernel_rfl) tsL)) 15308 true :=
  left_of_hook (H₀ := boot_heap) (T₀ := boot_tree) (n₀ := 11) (life := {}) (gs := ⟨[]⟩) (d := boot_drawn) (k := boot_toks) (ann := some (.ref 6)) (M := 7700) top_open top_size boot_tree_is rfl topEqA topEqB
end
end Mine
open PySem PySem.W PySem.Spec PySem.Calls PyProof.Rows
set_option Elab.async false
set_option maxRecDepth 100000
namespace Mine
theorem fragAll : (hd.heap_39, PySem.Challenge.rw_ci0004_01) = (hd.heap_39, PySem.Challenge.rw_ci0004_01) := by
  k_fill
  rfl
section
theorem topP01 : True := by
  w_top off
  trivial
noncomputable abbrev PR : Program := PySem.Challenge.rw_ci0004_01.row.prog
noncomputable abbrev LS0 : List Str := looseW hd.view_39 [Str.ofString "UnsupportedOperation", Str.ofString "IOBase", Str.ofString "BufferedIOBase", Str.ofString "TextIOBase", Str.ofString "BytesIO", Str.ofString "StringIO", Str.ofString "EmbitBase", Str.ofString "DescriptorBase", Str.ofString "AllowedDerivation"]
noncomputable abbrev LS : List Str := LS0 ++ List.map (fun x => x.name) (recsOf hd.view_39) ++ List.map (fun x => x.fst) (litsOf hd.view_39) ++ List.map (fun x => x.name) (clssOf hd.view_39 LS0)

/-- what a call's end wants: a value, or an exception -/
abbrev RetE (Q E : Value → Shared → Prop) : Result → Shared → Prop := fun r s' => match r with
  | .ok (.ret v) => Q v s'
  | .ok _ => False
  | .error e => E e s'

/-- a callee's way back: its own made objects go behind the caller's -/
def LeaveF (h₀ : Heap) (L : Addr) (m : Str → Option Value) (g : Heap) (news : List (Addr × Obj)) (R : Result → Shared → Prop) (v : Value) (s' : Shared) : Prop :=
  ∃ L' m' tl, Fr g L' s'.heap m' ∧ News g L' s'.heap tl ∧ (Fr h₀ L s'.heap m → News h₀ L s'.heap (news ++ tl) → (∀ q ∈ news, ∀ p ∈ tl, q.1 ≠ p.1) → R (.ok (.ret v)) s')

theorem leaveF_ {h₀ g : Heap} {L L' : Addr} {m m' : Str → Option Value} {news tl : List (Addr × Obj)} {R : Result → Shared → Prop} {v : Value} {s' : Shared} (F' : Fr g L' s'.heap m') (N' : News g L' s'.heap tl)
    (k : Fr h₀ L s'.heap m → News h₀ L s'.heap (news ++ tl) → (∀ q ∈ news, ∀ p ∈ tl, q.1 ≠ p.1) → R (.ok (.ret v)) s') : LeaveF h₀ L m g news R v s' := ⟨L', m', tl, F', N', k⟩

section
variable {prog : Program} {w : World} {A₀ A : Around} {s : Shared} {base h₀ : Heap} {outer : List Env} {L : Addr} {m : Str → Option Value} {env : Env} {news : List (Addr × Obj)} {K : Frag} {p : Program} {loose : List Str} {mean : ExcName → Option Value} {mg mb : Str → Option Value}
  {R : Result → Shared → Prop} {name qual : Str} {params : Arguments} {body : List Stmt} {scope : Scope} {dV kV doc pm cdv ct oc : Value} {an od : Option Addr} {osl : Array (Option Value)} {f : Addr} {args : Args} {binds : List (Str × Value)}

theorem leaveF_back (F : Fr h₀ L s.heap m) (N : News h₀ L s.heap news) {v : Value} {s' : Shared} (hl : LeaveF h₀ L m s.heap news R v s') : R (.ok (.ret v)) s' := by
  obtain ⟨L', m', tl, F', N', k⟩ := hl
  refine k ⟨F.ns.keeps F'.keep, fun b o e => F'.keep b o (F.keep b o e), F.above⟩ (fun p hp => ?_) (fun q hq p hp e => ?_)
  · rcases List.mem_append.mp hp with hp | hp
    · exact ⟨F'.keep _ _ (N p hp).1, (N p hp).2⟩
    · refine ⟨(N' p hp).1, fun e => ?_, ?_⟩
      · obtain ⟨o, _, _, ho, _⟩ := F.ns
        have := (N' p hp).2.2
        rw [e, ho] at this
        cases this
      · cases q : h₀.get? p.1 with
        | none => rfl
        | some o =>
          have := (N' p hp).2.2
          rw [F.keep _ _ q] at this
          cases this
  · have := (N' p hp).2.2
    rw [← e, (N q hq).1] at this
    cases this

theorem enterP (B : Below A₀ base outer h₀) (F : Fr h₀ L s.heap m) (X₀ : K.In h₀) (N : News h₀ L s.heap news) (T : Top p loose mean mg mb h₀) (hA : A.frames = some (env :: outer)) (hf : env.frame = some L) (hke : env.scope.kind = .function)
    (ho : K.lookup f = some ⟨oc, od, .func (fnOf name qual params body scope dV kV doc pm an cdv ct), osl⟩) (hcd : codeIn K cdv qual = true) (hroom : A.depth < recursionLimit)
    (hbind : BindsTo s (fnOf name qual params body scope dV kV doc pm an cdv ct) args binds) (hloc : ∀ y ∈ binds, scope.names.lookup y.1 = some .local)
    (h : ∀ L' h₁, Fr s.heap L' h₁ (fun y => binds.reverse.lookup y) → News s.heap L' h₁ [] → Below A base (env :: outer) s.heap → K.In s.heap → Top p loose mean mg mb s.heap →
      wpAny (model prog w) (A.deeper (envOf qual scope L' f cdv)) (execs body (envOf qual scope L' f cdv))
        (fun fl s' => LeaveF h₀ L m s.heap news R (match fl with | .ret v => v | _ => .none) s')
        (fun e s' => wpAny (model prog w) (A.deeper (envOf qual scope L' f cdv)) (leaving (envOf qual scope L' f cdv) e) (fun _ s'' => R (.error e) s'') (fun e' s'' => R (.error e') s'') s')
        { s with heap := h₁, toks := s.toks + binds.length })
    (hco : scope.isCoroutine = false) (hgen : scope.isGenerator = false) (hk : scope.kind = .function)
    (hcell : ∀ x ∈ scope.names, x.2 ≠ .cell) : codeAny (model prog w) A (.call (.ref f) args) R s := by
  obtain ⟨_, BG, st, _⟩ := groundX (R := R) (news := []) B F News.nil hA hf hke
  have st' : h₀.StaysIn s.heap := F.keep
  refine codeAny_call_def (fd := fnX name qual params body scope [] dV kV doc pm an cdv ct) (body := body) (binds := binds) hroom ((X₀.keeps F.keep) _ _ ho) rfl (T.nolimit.keeps F.keep) (codeRec_of (X₀.keeps F.keep) hcd) rfl hbind hcell hloc (fun h₁ hns hk₁ => ?_) hco hgen hk
  exact wpAny_mono (h s.heap.objs.size h₁ ⟨hns, hk₁, Nat.le_refl _⟩ News.nil BG (X₀.keeps st') (T.keeps st')) (fun fl s' hl => leaveF_back F N hl) fun _ _ y => y

theorem enterC (B : Below A₀ base outer h₀) (F : Fr h₀ L s.heap m) (X₀ : K.In h₀) (N : News h₀ L s.heap news) (T : Top p loose mean mg mb h₀) (hA : A.frames = some (env :: outer)) (hf : env.frame = some L) (hke : env.scope.kind = .function)
    (ho : K.lookup f = some ⟨oc, od, .func (fnOf name qual params body scope dV kV doc pm an cdv ct), osl⟩) (hcd : codeIn K cdv qual = true) (hroom : A.depth < recursionLimit)
    (hbind : BindsTo s (fnOf name qual params body scope dV kV doc pm an cdv ct) args binds) (hkind : (binds.all fun y => scope.names.lookup y.1 == some .local || scope.names.lookup y.1 == some .cell) = true)
    (hnd : ((cellsFrom 0 scope.names []).map (·.1)).Nodup)
    (h : ∀ L' h₁ tk cells, Fr s.heap L' h₁ (bindL (envOfC qual scope L' f cdv).kindOf binds fun _ => none) → News s.heap L' h₁ (cells ++ []) →
      CellsAre (bindC (envOfC qual scope L' f cdv).kindOf binds fun _ => none) (cellsFrom (L' + 1) scope.names []) cells → Below A base (env :: outer) s.heap → K.In s.heap → Top p loose mean mg mb s.heap →
      wpAny (model prog w) (A.deeper (envOfC qual scope L' f cdv)) (execs body (envOfC qual scope L' f cdv))
        (fun fl s' => LeaveF h₀ L m s.heap news R (match fl with | .ret v => v | _ => .none) s')
        (fun e s' => wpAny (model prog w) (A.deeper (envOfC qual scope L' f cdv)) (leaving (envOfC qual scope L' f cdv) e) (fun _ s'' => R (.error e) s'') (fun e' s'' => R (.error e') s'') s')
        { s with heap := h₁, toks := tk })
    (hco : scope.isCoroutine = false) (hgen : scope.isGenerator = false) (hk : scope.kind = .function) : codeAny (model prog w) A (.call (.ref f) args) R s := by
  obtain ⟨_, BG, st, _⟩ := groundX (R := R) (news := []) B F News.nil hA hf hke
  have st' : h₀.StaysIn s.heap := F.keep
  refine codeAny_call_function hroom ((X₀.keeps F.keep) _ _ ho) rfl hco hgen rfl (codeRec_of (X₀.keeps F.keep) hcd) (hbind _ _ _ _ ?_)
  refine wpAny_newFunctionEnv_cells hk (kindsX hkind _) fun env' he s' x => ?_
  subst he
  refine ⟨(T.nolimit.keeps F.keep).keeps x.toInCall.keep, codeAny_func ?_⟩
  obtain ⟨h₁, tk, rfl, _⟩ := x.done
  obtain ⟨cells, NC, Y⟩ := Cl.news (h₀ := s.heap) (Nat.le_refl _) fun n c hm => ⟨x.cell n c (lookup_of_mem_nodup (cellsFrom_names scope.names 0 (s.heap.objs.size + 1) [] [] rfl ▸ hnd) hm), x.above n c hm⟩
  exact wpAny_mono (h s.heap.objs.size h₁ tk cells ⟨x.toInCall.ns, x.toInCall.keep, Nat.le_refl _⟩ (by rw [List.append_nil]; exact NC) Y BG (X₀.keeps st') (T.keeps st')) (fun fl s' hl => leaveF_back F N hl) fun _ _ y => y
end

/-- a contract: the call of the def at f with these arguments -/
def Ctr (w : World) (dpt : Nat) (f : Addr) (args : Args) (Pre : Heap → Prop) (Post : List (Addr × Obj) → Value → Prop) : Prop :=
  ∀ (mean : ExcName → Option Value) (mg mb : Str → Option Value) (dp un : Nat) (gd : Option (List Code)) (cn : Str) (cs : Scope) (a : Addr) (ccd : Value) (cl : List (Str × Addr)) (outer : List Env) (A₀ : Around) (base h₀ : Heap) (L : Addr) (m : Str → Option Value) (news : List (Addr × Obj)) (s : Shared) (Q E : Value → Shared → Prop),
    Below A₀ base outer h₀ → Fr h₀ L s.heap m → (hd.heap_39 w.params).In h₀ → News h₀ L s.heap news → Top topProg LS mean mg mb h₀ → cs.kind = .function →
    dp + dpt < recursionLimit → un + 8 * dpt < cLine → Pre s.heap →
    (∀ r tl h' tk', Fr h₀ L h' m → News h₀ L h' (news ++ tl) → (∀ q ∈ news, ∀ p ∈ tl, q.1 ≠ p.1) → Post tl r → Q r { s with heap := h', toks := tk' }) →
    codeAny (model PR w) (ktrTop dp un gd cn cs L a ccd cl outer) (.call (.ref f) args) (RetE Q E) s
end
local macro_rules | `(tactic| walk_at "enterP") => `(tactic| (k_dflt (refine' enterP ?k1 ?k2 ?k3 ?k4 ?k5 ?kA ?kF ?kK ?k6 ?k7 ?k8 ?k9 ?kB ?_ ?c2 ?c3 ?c4 ?c5; (case kA => exact rfl); (case kF => exact rfl); (case kK => assumption); (case k1 => k_asm); (case k2 => k_asm); (case k3 => k_asm); (case k4 => k_asm); (case k5 => k_asm); (case k6 => k_is); (case k7 => k_is); (case k8 => ktr_room); (case k9 => first | exact BindsTo.of_eq rfl | exact binds_K (by k_in) rfl (by k_is) rfl rfl rfl); (case c5 => decide); (case kB => exact locs rfl); (case c2 => exact rfl); (case c3 => exact rfl); (case c4 => exact rfl); k_whole; intro L' h' F' N' B' X' T'; (try dsimp only); (try k_fold))))
local macro_rules | `(tactic| walk_at "enterC") => `(tactic| (k_dflt (refine' enterC ?k1 ?k2 ?k3 ?k4 ?k5 ?kA ?kF ?kK ?k6 ?k7 ?k8 ?k9 ?kB ?kD ?_ ?c2 ?c3 ?c4; (case kA => exact rfl); (case kF => exact rfl); (case kK => assumption); (case k1 => k_asm); (case k2 => k_asm); (case k3 => k_asm); (case k4 => k_asm); (case k5 => k_asm); (case k6 => k_is); (case k7 => k_is); (case k8 => ktr_room); (case k9 => first | exact BindsTo.of_eq rfl | exact binds_K (by k_in) rfl (by k_is) rfl rfl rfl); (case kB => exact rfl); (case kD => decide +kernel); (case c2 => exact rfl); (case c3 => exact rfl); (case c4 => exact rfl); k_whole; intro L' h' tk' cells' F' N' Y' B' X' T'; k_cells Y'; (try simp only [List.cons_append, List.nil_append] at N'); (try dsimp only); (try k_fold))))
local macro_rules | `(tactic| walk_at "LeaveF") => `(tactic| (k_dflt (refine' leaveF_ ?k1 ?k2 ?_; (case k1 => k_asm); (case k2 => k_asm); k_whole); intro kF kN kS; (try dsimp only [RetE])))
section
theorem topP02 : True := by
  w_top off
  trivial
def mark (f : Nat) : Str := if f = 0 then Str.ofString "h" else if f = 1 then Str.ofString "'" else Str.ofString "H"
def hardN : Int := 2147483648
def word (f : Nat) (n : Int) : Str := if n < 2147483648 then Str.ofString (toString n) else Str.ofString (toString (n - 2147483648)) ++ mark f
/-- a str, an int, by its value -/
def StrV (x : Str) : Value → Prop
  | .str y _ => y = x
  | _ => False
theorem StrV.out {x : Str} : ∀ {v : Value}, StrV x v → ∃ t, v = .str x t
  | .str _ t, h => ⟨t, by rw [show _ = x from h]⟩
def IntV (n : Int) : Value → Prop
  | .int i _ => i = n
  | _ => False
theorem IntV.out {n : Int} : ∀ {v : Value}, IntV n v → ∃ t, v = .int n t
  | .int _ t, h => ⟨t, by rw [show _ = n from h]⟩
set_option maxHeartbeats 0 in
theorem law_word {w : World} (n : Int) (t1 t2 : Tok) (f : Nat) (hf : f < 3) (h0 : 0 ≤ n) (h1 : n < 4294967296) :
    Ctr w 1 861 ⟨[.int n t1, .int (f : Int) t2], []⟩ (fun _ => True) (fun _ r => StrV (word f n) r) := by
  intro mean mg mb dp un gd cn cs a ccd cl outer A₀ base h₀ L m news s Q E B F X N T hk hdp hu hpre hret
  walk_at "enterP"
  k_steps
  all_goals refine hret _ _ _ _ (by assumption) (by assumption) (by assumption) ?_
  all_goals (clear hret; show _ = _; first
    | (have e : f = 0 := by omega) | (have e : f = 1 := by omega) | (have e : f = 2 := by omega))
  all_goals (subst e; unfold word mark; first | rw [if_pos (by assumption)] | (rw [if_neg (by assumption)]; rfl))
end
section
theorem topP03 : True := by
  w_top off
  trivial
/-- a call by its contract -/
theorem ctr_call {M : Model} {A : Around} {Q E : Value → Shared → Prop} {s : Shared} {f : Value} {pos : List Value} {kw : List (Str × Value)} (h : codeAny M A (.call f ⟨pos, kw⟩) (RetE Q E) s) : wpAny M A (call f pos kw) Q E s :=
  wpAny_call (codeAny_mono h fun r s' x => by
    cases r with
    | error e => exact x
    | ok f => cases f <;> exact x)

theorem Ctr.use {w : World} {dpt : Nat} {f : Addr} {args : Args} {Pre : Heap → Prop} {Post : List (Addr × Obj) → Value → Prop} {mean : ExcName → Option Value} {mg mb : Str → Option Value} {dp un : Nat} {gd : Option (List Code)} {cn : Str} {cs : Scope} {a : Addr} {ccd : Value} {cl : List (Str × Addr)} {outer : List Env} {A₀ : Around} {base h₀ : Heap} {L : Addr} {m : Str → Option Value} {news : List (Addr × Obj)} {s : Shared} {Q E : Value → Shared → Prop}
    (C : Ctr w dpt f args Pre Post) (B : Below A₀ base outer h₀) (F : Fr h₀ L s.heap m) (X : (hd.heap_39 w.params).In h₀) (N : News h₀ L s.heap news) (T : Top topProg LS mean mg mb h₀) (hk : cs.kind = .function)
    (hd : dp + dpt < recursionLimit) (hu : un + 8 * dpt < cLine) (hp : Pre s.heap)
    (ret : ∀ r tl h' tk', Fr h₀ L h' m → News h₀ L h' (news ++ tl) → (∀ q ∈ news, ∀ p ∈ tl, q.1 ≠ p.1) → Post tl r → Q r { s with heap := h', toks := tk' }) :
    codeAny (model PR w) (ktrTop dp un gd cn cs L a ccd cl outer) (.call (.ref f) args) (RetE Q E) s := C _ _ _ _ _ _ _ _ _ _ _ _ _ _ _ _ _ _ _ _ _ B F X N T hk hd hu hp ret

section
variable {prog : Program} {w : World} {A : Around} {h₀ : Heap} {L : Addr} {m : Str → Option Value} {env : Env} {elt ct : PySem.Expr} {x : Str} {scope : Scope} {cl : List (Str × Addr)} {s : Shared} {S : List (Addr × Obj) → Prop} {P : Nat → Value → Prop} {Fin : List Value → List (Addr × Obj) → Prop} {news : List (Addr × Obj)} {n : Nat}
/-- a comprehension by what holds of its index, its items and the ledger -/
theorem comp_inv (I : Nat → List Value → List (Addr × Obj) → Prop) (h0 : I 0 [] news)
    (turn : ∀ i v ys nw J oJ C oC D m₂ h tk (E' : Value → Shared → Prop), i < n → P i v → I i ys nw → LCg.NsObj oC m₂ → m₂ x = some v → Fr h₀ L h m → News h₀ L h ((J, oJ) :: (C, oC) :: (D, LCg.lst ys) :: nw) → LCg.Off3 J C D nw → ((@Ne Nat J C) ∧ (@Ne Nat J D) ∧ (@Ne Nat C D)) →
      wpAny (model prog w) A (eval elt (compEnvC scope cl C env)) (LCg.CompEnd h₀ L m { s with heap := h, toks := tk } J oJ C oC D (LCg.lst ys) S (fun y nw' => I (i + 1) (ys ++ [y]) nw')) E' { s with heap := h, toks := tk })
    (fin : ∀ ys nw, I n ys nw → Fin ys nw) : LCg.CompRest prog w A h₀ L m env elt x scope cl s S P Fin n 0 [] news := by
  have key : ∀ (j i : Nat) (ys : List Value) (nw : List (Addr × Obj)), i + j = n → I i ys nw → LCg.CompRest prog w A h₀ L m env elt x scope cl s S P Fin j i ys nw := by
    intro j
    induction j with
    | zero => exact fun i ys nw e hi => LCg.CompRest.zero (fin ys nw (by simpa using (show i = n by omega) ▸ hi))
    | succ j ih =>
      intro i ys nw e hi
      refine LCg.CompRest.succ fun v J oJ C oC D m₂ h tk E' hv hC hx F N off ne => ?_
      refine wpAny_mono (turn i v ys nw J oJ C oC D m₂ h tk E' (by omega) hv hi hC hx F N off ne) (fun y s₂ hq => ?_) fun _ _ e => e
      obtain ⟨h', tk', nw', e', F', N', off', hS, hI⟩ := hq
      exact ⟨h', tk', nw', e', F', N', off', hS, ih (i + 1) _ _ (by omega) hI⟩
  exact key n 0 [] news (by omega) h0

/-- the same with a test -/
theorem comp_invT (I : Nat → List Value → List (Addr × Obj) → Prop) (h0 : I 0 [] news)
    (turn : ∀ i v ys nw J oJ C oC D m₂ h tk (E' : Value → Shared → Prop), i < n → P i v → I i ys nw → LCg.NsObj oC m₂ → m₂ x = some v → Fr h₀ L h m → News h₀ L h ((J, oJ) :: (C, oC) :: (D, LCg.lst ys) :: nw) → LCg.Off3 J C D nw → ((@Ne Nat J C) ∧ (@Ne Nat J D) ∧ (@Ne Nat C D)) →
      wpAny (model prog w) A (isTrue ct (compEnvC scope cl C env) (eval ct (compEnvC scope cl C env))) (fun ok s' => if ok = true then
        wpAny (model prog w) A (eval elt (compEnvC scope cl C env)) (LCg.CompEnd h₀ L m { s with heap := h, toks := tk } J oJ C oC D (LCg.lst ys) S (fun y nw' => I (i + 1) (ys ++ [y]) nw')) E' s'
        else LCg.CompEnd h₀ L m { s with heap := h, toks := tk } J oJ C oC D (LCg.lst ys) S (fun _ nw' => I (i + 1) ys nw') Value.none s') E' { s with heap := h, toks := tk })
    (fin : ∀ ys nw, I n ys nw → Fin ys nw) : LCt.CompRestT prog w A h₀ L m env ct elt x scope cl s S P Fin n 0 [] news := by
  have key : ∀ (j i : Nat) (ys : List Value) (nw : List (Addr × Obj)), i + j = n → I i ys nw → LCt.CompRestT prog w A h₀ L m env ct elt x scope cl s S P Fin j i ys nw := by
    intro j
    induction j with
    | zero => exact fun i ys nw e hi => LCt.CompRestT.zero (fin ys nw (by simpa using (show i = n by omega) ▸ hi))
    | succ j ih =>
      intro i ys nw e hi
      refine LCt.CompRestT.succ fun v J oJ C oC D m₂ h tk E' hv hC hx F N off ne => ?_
      refine wpAny_mono (turn i v ys nw J oJ C oC D m₂ h tk E' (by omega) hv hi hC hx F N off ne) (fun b s₂ hq => ?_) fun _ _ e => e
      cases b with
      | true =>
        simp only [if_true] at hq ⊢
        refine wpAny_mono hq (fun y s₃ hr => ?_) fun _ _ e => e
        obtain ⟨h', tk', nw', e', F', N', off', hS, hI⟩ := hr
        exact ⟨h', tk', nw', e', F', N', off', hS, ih (i + 1) _ _ (by omega) hI⟩
      | false =>
        simp only [Bool.false_eq_true, if_false] at hq ⊢
        obtain ⟨h', tk', nw', e', F', N', off', hS, hI⟩ := hq
        exact ⟨h', tk', nw', e', F', N', off', hS, ih (i + 1) _ _ (by omega) hI⟩
  exact key n 0 [] news (by omega) h0
end

/-- a turn's end: the ledger as it stood, and what a call has put behind it -/
theorem compEnd_more {h₀ : Heap} {L I C D : Addr} {m : Str → Option Value} {s₁ : Shared} {oI oC oD : Obj} {S : List (Addr × Obj) → Prop} {rest : Value → List (Addr × Obj) → Prop} {y : Value} {h' : Heap} {tk : Nat} {nw tl : List (Addr × Obj)}
    (F : Fr h₀ L h' m) (N : News h₀ L h' (((I, oI) :: (C, oC) :: (D, oD) :: nw) ++ tl)) (off : LCg.Off3 I C D nw) (sp : ∀ q ∈ (I, oI) :: (C, oC) :: (D, oD) :: nw, ∀ p ∈ tl, q.1 ≠ p.1) (hS : S (nw ++ tl)) (r : rest y (nw ++ tl)) :
    LCg.CompEnd h₀ L m s₁ I oI C oC D oD S rest y { s₁ with heap := h', toks := tk } := by
  refine LCg.CompEnd.intro F N (nw ++ tl) (fun p hp => by simpa using hp) (LCg.Off3.of fun p hp => ?_) hS r
  rcases List.mem_append.mp hp with hp | hp
  · exact off.mem p hp
  · exact ⟨fun e => sp (I, oI) (by simp) p hp e.symm, fun e => sp (C, oC) (by simp) p hp e.symm, fun e => sp (D, oD) (by simp) p hp e.symm⟩

/-! ## the data -/
inductive Stp where
  | non
  | num (n : Int)
  | set (l : List Int)

/-- where an object may be found: in a ledger, in a heap -/
abbrev InL (l : List (Addr × Obj)) : Addr → Obj → Prop := fun a o => (a, o) ∈ l
abbrev AtH (h : Heap) : Addr → Obj → Prop := fun a o => h.get? a = some o

def StV (P : Addr → Obj → Prop) : Value → Stp → Prop
  | v, .non => v = .none
  | v, .num n => ∃ t, v = .int n t
  | v, .set l => ∃ a vs k, v = .ref a ∧ P a (W.listOf (List.toArray vs) k) ∧ IntsAre vs l

inductive StAll (P : Addr → Obj → Prop) : List Value → List Stp → Prop
  | nil : StAll P [] []
  | cons {v : Value} {vs : List Value} {d : Stp} {ds : List Stp} : StV P v d → StAll P vs ds → StAll P (v :: vs) (d :: ds)

theorem StV.mono {P P' : Addr → Obj → Prop} (hs : ∀ a o, P a o → P' a o) : ∀ {v : Value} {d : Stp}, StV P v d → StV P' v d
  | _, .non, h => h
  | _, .num _, h => h
  | _, .set _, ⟨a, vs, k, e, h, i⟩ => ⟨a, vs, k, e, hs _ _ h, i⟩
theorem StAll.mono {P P' : Addr → Obj → Prop} (hs : ∀ a o, P a o → P' a o) {vs : List Value} {ds : List Stp} (h : StAll P vs ds) : StAll P' vs ds := by
  induction h with
  | nil => exact .nil
  | cons h _ ih => exact .cons (h.mono hs) ih
theorem StAll.length {P : Addr → Obj → Prop} {vs : List Value} {ds : List Stp} (h : StAll P vs ds) : vs.length = ds.length := by
  induction h with
  | nil => rfl
  | cons _ _ ih => simp [ih]
theorem StAll.append {P : Addr → Obj → Prop} {vs ws : List Value} {ds es : List Stp} (h : StAll P vs ds) (k : StAll P ws es) : StAll P (vs ++ ws) (ds ++ es) := by
  induction h with
  | nil => exact k
  | cons h _ ih => exact .cons h ih
theorem StAll.one {P : Addr → Obj → Prop} {v : Value} {d : Stp} (h : StV P v d) : StAll P [v] [d] := .cons h .nil
theorem StAll.get {P : Addr → Obj → Prop} {vs : List Value} {ds : List Stp} (h : StAll P vs ds) : ∀ {i : Nat} {v : Value}, vs[i]? = some v → ∃ d, ds[i]? = some d ∧ StV P v d := by
  induction h with
  | nil => intro i v e; simp at e
  | cons h _ ih =>
    intro i v e
    cases i with
    | zero => simp at e; subst e; exact ⟨_, rfl, h⟩
    | succ i => exact ih (by simpa using e)
theorem StAll.set {P : Addr → Obj → Prop} {vs : List Value} {ds : List Stp} (h : StAll P vs ds) : ∀ (i : Nat) {v : Value} {d : Stp}, StV P v d → StAll P (vs.set i v) (ds.set i d) := by
  induction h with
  | nil => intro i v d _; exact .nil
  | cons h t ih =>
    intro i v d hv
    cases i with
    | zero => exact .cons hv t
    | succ i => exact .cons h (ih i hv)
theorem StAll.ints {P : Addr → Obj → Prop} {vs : List Value} {ns : List Int} (h : IntsAre vs ns) : StAll P vs (ns.map .num) := by
  induction h with
  | nil => exact .nil
  | cons n t _ ih => exact .cons ⟨t, rfl⟩ ih

/-- a list object of steps -/
def StL (P : Addr → Obj → Prop) (v : Value) (ds : List Stp) : Prop := ∃ l vs k, v = .ref l ∧ P l (W.listOf (List.toArray vs) k) ∧ StAll P vs ds

def Stp.isSet : Stp → Bool
  | .set _ => true
  | _ => false
def Stp.isNon : Stp → Bool
  | .non => true
  | _ => false
/-- a number of a step -/
def Good (n : Int) : Prop := 0 ≤ n ∧ n < 4294967296
def Stp.ok : Stp → Prop
  | .non => True
  | .num n => Good n
  | .set l => (l.length = 2 ∨ l.length = 3) ∧ ∀ n ∈ l, Good n
structure WF (ds : List Stp) : Prop where
  len : ds.length ≤ 5
  ok : ∀ d ∈ ds, d.ok
  non : ds.countP Stp.isNon ≤ 1
  sets : ds.countP Stp.isSet ≤ 1

/-- where the walk is to stop: a step that is taken by hand -/
def Hold (P : Prop) : Prop := P
theorem hold {P : Prop} (h : Hold P) : P := h
theorem Hold.go {P : Prop} (h : P) : Hold P := h

theorem compEnd_same {h₀ : Heap} {L I C D : Addr} {m : Str → Option Value} {s₁ : Shared} {oI oC oD : Obj} {S : List (Addr × Obj) → Prop} {rest : Value → List (Addr × Obj) → Prop} {y : Value} {h' : Heap} {tk : Nat} {nw : List (Addr × Obj)}
    (F : Fr h₀ L h' m) (N : News h₀ L h' ((I, oI) :: (C, oC) :: (D, oD) :: nw)) (off : LCg.Off3 I C D nw) (hS : S nw) (r : rest y nw) :
    LCg.CompEnd h₀ L m s₁ I oI C oC D oD S rest y { s₁ with heap := h', toks := tk } :=
  LCg.CompEnd.intro F N nw (fun _ hp => hp) off hS r

theorem compEnd_drop {h₀ : Heap} {L I C D : Addr} {m : Str → Option Value} {s₁ : Shared} {oI oC oD : Obj} {S : List (Addr × Obj) → Prop} {rest : Value → List (Addr × Obj) → Prop} {y : Value} {h' : Heap} {tk : Nat} {nw tl : List (Addr × Obj)}
    (F : Fr h₀ L h' m) (N : News h₀ L h' (((I, oI) :: (C, oC) :: (D, oD) :: nw) ++ tl)) (off : LCg.Off3 I C D nw) (hS : S nw) (r : rest y nw) :
    LCg.CompEnd h₀ L m s₁ I oI C oC D oD S rest y { s₁ with heap := h', toks := tk } :=
  LCg.CompEnd.intro F N nw (fun _ hp => List.mem_append_left _ hp) off hS r

section
variable {prog : Program} {w : World} {A : Around} {E : Value → Shared → Prop} {s : Shared} {h₀ : Heap} {L D : Addr} {m : Str → Option Value} {news news' : List (Addr × Obj)} {vs : List Value} {n : Nat} {k : Int} {t : Tok} {v : Value}
/-- a store of any value at a place in bounds -/
theorem set_any {Q : Unit → Shared → Prop} (F : Fr h₀ L s.heap m) (N : News h₀ L s.heap news) (U : Upd D (W.listOf vs.toArray n) (W.listOf (vs.set k.toNat v).toArray n) news news') (h0 : 0 ≤ k) (h1 : k < vs.length) (hfit : k < 2 ^ 63)
    (h : ∀ h', Fr h₀ L h' m → News h₀ L h' news' → Q () { s with heap := h' }) : wpAny (model prog w) A (setItem (.ref D) (.int k t) v) Q E s := by
  obtain ⟨pre, post, rfl, rfl, a, b⟩ := U.split
  have z := N (D, W.listOf vs.toArray n) (List.mem_append.mpr (.inr (.head _)))
  refine ki_setAt z.1 h0 hfit (by rw [List.size_toArray]; omega) (h _ (F.change (Heap.SameBut.update ..) z.2.1 z.2.2) (ki_turn _ N a b ?_ ?_))
  · show vs.toArray.setIfInBounds k.toNat v = (vs.set k.toNat v).toArray
    apply Array.toList_inj.mp
    simp
  · simp
end

theorem wf_nums {ks : List Int} (h : ks.length ≤ 5) (hg : ∀ k ∈ ks, Good k) : WF (ks.map .num) where
  len := by rw [List.length_map]; exact h
  ok := fun d hd => by
    obtain ⟨k, hk, rfl⟩ := List.mem_map.mp hd
    exact hg k hk
  non := by
    rw [List.countP_eq_zero.mpr (fun d hd => by obtain ⟨k, _, rfl⟩ := List.mem_map.mp hd; simp [Stp.isNon])]
    exact Nat.zero_le _
  sets := by
    rw [List.countP_eq_zero.mpr (fun d hd => by obtain ⟨k, _, rfl⟩ := List.mem_map.mp hd; simp [Stp.isSet])]
    exact Nat.zero_le _
theorem wf_set {ds : List Stp} (W : WF ds) (i : Nat) {d : Stp} (hd : d.ok) (hn : d.isNon = true → ∀ e ∈ ds, e.isNon = false) (hs : d.isSet = true → ∀ e ∈ ds, e.isSet = false) : WF (ds.set i d) := by
  by_cases hi : i < ds.length
  · refine ⟨by rw [List.length_set]; exact W.len, fun e he => ?_, ?_, ?_⟩
    · rcases List.mem_or_eq_of_mem_set he with he | rfl
      · exact W.ok e he
      · exact hd
    · rw [List.countP_set hi]
      cases q : d.isNon with
      | true =>
        have z : ds.countP Stp.isNon = 0 := List.countP_eq_zero.mpr fun e he => by rw [hn q e he]; exact Bool.false_ne_true
        rw [z]; simp
      | false =>
        have := W.non
        simp only [Bool.false_eq_true, if_false]
        omega
    · rw [List.countP_set hi]
      cases q : d.isSet with
      | true =>
        have z : ds.countP Stp.isSet = 0 := List.countP_eq_zero.mpr fun e he => by rw [hs q e he]; exact Bool.false_ne_true
        rw [z]; simp
      | false =>
        have := W.sets
        simp only [Bool.false_eq_true, if_false]
        omega
  · rw [List.set_eq_of_length_le (by omega)]
    exact W
theorem nums_non {ks : List Int} : ∀ e ∈ ks.map Stp.num, e.isNon = false := fun d hd => by obtain ⟨k, _, rfl⟩ := List.mem_map.mp hd; rfl
theorem nums_set {ks : List Int} : ∀ e ∈ ks.map Stp.num, e.isSet = false := fun d hd => by obtain ⟨k, _, rfl⟩ := List.mem_map.mp hd; rfl
theorem nums_set_non {ks l : List Int} {i : Nat} : ∀ e ∈ (ks.map Stp.num).set i (.set l), e.isNon = false := fun d hd => by
  rcases List.mem_or_eq_of_mem_set hd with hd | rfl
  · exact nums_non d hd
  · rfl

/-- a comparison of two texts that is known -/
theorem eq_known {prog : Program} {w : World} {A : Around} {E : Value → Shared → Prop} {s : Shared} {x y : Str} {t u : Tok} {b : Bool} {Q : Value → Shared → Prop} (e : (x == y) = b) (h : Q (.bool b) s) : wpAny (model prog w) A (compareOp .Eq (.str x t) (.str y u)) Q E s := by
  subst e
  exact eq_str h
theorem in_known {prog : Program} {w : World} {A : Around} {E : Value → Shared → Prop} {s : Shared} {x : Str} {u : Tok} {D : Addr} {vs : List Value} {ys : List Str} {b : Bool} {Q : Value → Shared → Prop} (hl : s.heap.IsList D vs.toArray) (hi : StrsAre vs ys) (e : ys.any (· == x) = b) (h : Q (.bool b) s) :
    wpAny (model prog w) A (compareOp .In (.str x u) (.ref D)) Q E s := by
  subst e
  exact in_list_strs hl (by simpa using hi) h
theorem split_known {prog : Program} {w : World} {A : Around} {E : Value → Shared → Prop} {s : Shared} {h₀ : Heap} {L : Addr} {m : Str → Option Value} {news : List (Addr × Obj)} {x y : Str} {t u : Tok} {ws : List Str} {Q : Value → Shared → Prop} (hF : Fr h₀ L s.heap m) (hN : News h₀ L s.heap news) (hy : (y.length == 0) = false) (e : Txt.split x y = ws)
    (h : ∀ D vs h' k, StrsAre vs ws → Fr h₀ L h' m → News h₀ L h' ((D, W.listOf (List.toArray vs) 0) :: news) → (∀ p ∈ news, p.1 < D) → Q (.ref D) { s with heap := h', toks := k }) (hsz : x.length + 2 ≤ sizeLine) :
    wpAny (model prog w) A (call (.builtin "str.split") [.str x t, .str y u]) Q E s :=
  KSpl.split1 hF hN hy (fun D l h' k e' a F N l1 => by
    rw [e', e] at a
    exact h D _ h' k a F N l1) hsz
theorem StrsAre.at {vs : List Value} {ws : List Str} (h : StrsAre vs ws) : ∀ (i : Nat) (v : Value), vs[i]? = some v → ∃ x t, v = .str x t ∧ ws[i]? = some x := by
  induction h with
  | nil => intro i v e; simp at e
  | cons y t _ ih =>
    intro i v e
    cases i with
    | zero => simp at e; subst e; exact ⟨y, t, rfl, rfl⟩
    | succ i => exact ih i v (by simpa using e)

section
variable {prog : Program} {w : World} {A : Around} {E : Value → Shared → Prop} {s : Shared} {h₀ : Heap} {L : Addr} {m : Str → Option Value} {news : List (Addr × Obj)} {K : Frag}
theorem call_methR {q : Addr} {f self : Value} {pos : List Value} {kw : List (Str × Value)} {Q : Value → Shared → Prop} (N : News h₀ L s.heap news) (hq : (q, methodObj f self) ∈ news) (h : codeAny (model prog w) A (.call f ⟨self :: pos, kw⟩) (RetE Q E) s) : wpAny (model prog w) A (call (.ref q) pos kw) Q E s :=
  call_meth N hq (codeAny_mono h fun r s' x => by
    cases r with
    | error e => exact x
    | ok f => cases f <;> exact x)
theorem callWith_MKW {M : Model} {env : Env} {pos : Pos} {q g : Addr} {self : Value} {first : List Value} {Q : Value → Shared → Prop} {e : PySem.Expr} {rest : List PySem.Expr} {kws : List Keyword} (_X : K.In h₀) (_N : News h₀ L s.heap news) (_q : (q, methodObj (.ref g) self) ∈ news) (hf : fnIn K g = true) (hall : (backToKw pos (keywordEach kws env)).all (·.1.isSome) = true)
    (h : wpAny M A (spliced (backTo pos (starEach (e :: rest) env))) (fun vs s₁ => wpAny M A (evalAll ((backToKw pos (keywordEach kws env)).map (·.2)))
      (fun ks s₂ => MethP K q g self s₂.heap ∧ wpAny M A (call (.ref q) (first ++ vs) (((backToKw pos (keywordEach kws env)).filterMap (·.1)).zip ks)) Q E s₂) E s₁) E s)
    (hplain : ((backTo pos (starEach (e :: rest) env)).any (·.1) || (backToKw pos (keywordEach kws env)).any (·.1.isNone)) = false := by rfl) (he : starEach (e :: rest) env = (false, eval e env) :: starEach rest env := by rfl) :
    wpAny M A (callWith pos (.ref q) first (backTo pos (starEach (e :: rest) env)) (backToKw pos (keywordEach kws env))) Q E s :=
  callWith_of hplain (keeps_M hf) (evalArgs_kw2 hall h he)
end
theorem allLt_ne {d : Addr} {l : List (Addr × Obj)} (h : ∀ p ∈ l, p.1 < d) : ∀ p ∈ l, p.1 ≠ d := fun p hp => Nat.ne_of_lt (h p hp)
theorem len_made {prog : Program} {w : World} {A : Around} {E : Value → Shared → Prop} {s : Shared} {D : Addr} {vs : List Value} {Q : Value → Shared → Prop} (hl : s.heap.IsList D vs.toArray) (hz : vs.length ≤ 16384) (h : Q (.int (vs.length : Int) (s.toks + 1)) { s with toks := s.toks + 1 + 1 }) :
    wpAny (model prog w) A (call (.builtin "len") [.ref D]) Q E s :=
  kun_lenL (k := (vs.length : Int)) hl (by rw [List.size_toArray]) (by omega) h
theorem isi_list {prog : Program} {w : World} {A : Around} {E : Value → Shared → Prop} {s : Shared} {h₀ : Heap} {L : Addr} {news : List (Addr × Obj)} {b : Addr} {vs : List Value} {k : Nat} {Q : Value → Shared → Prop} (N : News h₀ L s.heap news) (hb : (b, W.listOf (List.toArray vs) k) ∈ news) (h : Q (.bool true) s) :
    wpAny (model prog w) A (call (.builtin "isinstance") [.ref b, .type "list"]) Q E s := IsiPair.list_list (N _ hb).1 rfl h
end
local macro_rules | `(tactic| walk_at "call ref") => `(tactic| refine hold ?_)
local macro_rules | `(tactic| walk_at "call ref") => `(tactic| (k_here; k_dflt (refine' call_methR ?k1 ?k2 ?_; (case k1 => k_asm); (case k2 => k_mem); k_whole; refine hold ?_)))
local macro_rules | `(tactic| walk_at "callWith ref") => `(tactic| (k_here; (with_reducible show wpAny _ _ (callWith _ (Value.ref _) _ _ (backToKw _ (keywordEach (_ :: _) _))) _ _ _); k_dflt (refine' callWith_MKW ?k1 ?k2 ?k3 ?k4 ?k5 ?_; (case k1 => k_asm); (case k2 => k_asm); (case k3 => k_mem); (case k4 => k_is); (case k5 => exact rfl); k_whole)))
local macro_rules | `(tactic| walk_at "exec Assign cons ListComp") => `(tactic| ((with_reducible show wpAny _ _ (exec (Stmt.Assign _ (PySem.Expr.ListComp _ [Comprehension.mk _ _ [] _] _ _) _) _) _ _ _); k_dflt (refine LCg.Assign_ListComp_U (F₀ := by k_asm) (by rfl) (by with_unfolding_all rfl) (by with_unfolding_all rfl) (by decide) (by rfl) (by decide) (by rfl) (by rfl) (by rfl) ?_)))
local macro_rules | `(tactic| walk_at "eval ListComp") => `(tactic| ((with_reducible show wpAny _ _ (eval (PySem.Expr.ListComp _ [Comprehension.mk _ _ [] _] _ _) _) _ _ _); k_dflt (refine LCg.ListComp_U (F₀ := by k_asm) (by with_unfolding_all rfl) (by decide) (by rfl) (by decide) (by rfl) ?_)))
local macro_rules | `(tactic| walk_at "exec Assign cons ListComp") => `(tactic| ((with_reducible show wpAny _ _ (exec (Stmt.Assign _ (PySem.Expr.ListComp _ [Comprehension.mk _ _ [_] _] _ _) _) _) _ _ _); k_dflt (refine LCt.Assign_ListComp_T (F₀ := by k_asm) (by rfl) (by with_unfolding_all rfl) (by with_unfolding_all rfl) (by decide) (by rfl) (by decide) (by rfl) (by rfl) (by rfl) ?_)))
local macro_rules | `(tactic| walk_at "eval ListComp") => `(tactic| ((with_reducible show wpAny _ _ (eval (PySem.Expr.ListComp _ [Comprehension.mk _ _ [_] _] _ _) _) _ _ _); k_dflt (refine LCt.ListComp_T (F₀ := by k_asm) (by with_unfolding_all rfl) (by decide) (by rfl) (by decide) (by rfl) ?_)))
local macro_rules | `(tactic| walk_at "CompSrc") => `(tactic| refine hold ?_)
local macro_rules | `(tactic| walk_at "CompSrcT") => `(tactic| refine hold ?_)
local macro_rules | `(tactic| walk_at "srcRange") => `(tactic| (refine Hold.go ?_; refine LCg.CompSrc.range (by rfl) (by k_asm) (by k_asm) (by assumption) (by decide) (by rfl) (by exact Nat.le_of_ble_eq_true rfl) ?_))
local macro_rules | `(tactic| walk_at "useCtr") => `(tactic| ((case k1 => k_asm); (case k2 => k_asm); (case k3 => k_asm); (case k4 => k_asm); (case k5 => k_asm); (case kK => first | exact rfl | assumption); (case kd => ktr_room); (case ku => ktr_units)))
local macro_rules | `(tactic| walk_at "CompEnd") => `(tactic| refine hold ?_)
local macro_rules | `(tactic| walk_at "setItem ref int") => `(tactic| (k_here; (with_reducible show wpAny _ _ (setItem (Value.ref _) (Value.int _ _) _) _ _ _); refine hold ?_))
local macro_rules | `(tactic| walk_at "pyIter ref") => `(tactic| refine hold ?_)
local macro_rules | `(tactic| walk_at "exec For Name Name cons nil") => `(tactic| (k_here; (with_unfolding_all refine' For_invVF (by k_asm) ?k1 ?k2 ?_; (case k1 => exact rfl); (case k2 => exact rfl); k_whole)))
local macro_rules | `(tactic| walk_at "exec For Name Attribute cons nil") => `(tactic| (k_here; (with_unfolding_all refine' For_invVF (by k_asm) ?k1 ?k2 ?_; (case k1 => exact rfl); (case k2 => exact rfl); k_whole)))
local macro_rules | `(tactic| walk_at "InvEndG") => `(tactic| refine hold ?_)
local macro_rules | `(tactic| walk_at "call builtin:str.join") => `(tactic| refine hold ?_)
local macro_rules | `(tactic| walk_at "InvPostG") => `(tactic| (dsimp only [InvPostG]))
local macro_rules | `(tactic| walk_at "call builtin:list.append") => `(tactic| (k_here; (with_reducible show wpAny _ _ (call (Value.builtin _) [Value.ref _, _]) _ _ _); k_dflt (refine' append_K ?k1 ?k2 ?k3 ?_ ?z; (case k1 => k_asm); (case k2 => k_asm); (case k3 => k_upd); (case z => first | size_fits | (rw [PySem.sizeLine_eq]; simp only [List.size_toArray]; omega)); k_whole); intro h' F' N'; (try k_sweep)))
local macro_rules | `(tactic| walk_at "compareOp Eq str str") => `(tactic| (k_here; k_dflt (refine eq_known (by with_reducible assumption) ?_)))
local macro_rules | `(tactic| walk_at "compareOp In str ref") => `(tactic| (k_here; k_dflt (refine in_known (News.isList (by k_asm) (by k_mem)) (.cons _ _ (.cons _ _ (.cons _ _ .nil))) (by with_reducible assumption) ?_)))
local macro_rules | `(tactic| walk_at "call builtin:str.split") => `(tactic| (k_here; (with_reducible show wpAny _ _ (call (Value.builtin "str.split") [Value.str _ _, Value.str _ _]) _ _ _); (refine split_known (by k_asm) (by k_asm) (by decide) (by with_reducible assumption) ?_ (by rw [PySem.sizeLine_eq]; omega)); intro D' vs' h' k' a' F' N' l1; (try k_lt l1)))
local macro_rules | `(tactic| k_all) => `(tactic| exact allLt_ne (by with_reducible assumption))
local macro_rules | `(tactic| walk_at "enterD") => `(tactic| (k_dflt (refine' code_def ?k1 ?k2 ?k3 ?k4 ?k5 ?kA ?kF ?kK ?k6 ?k7 ?k8 ?k9 ?kB ?_ ?c2 ?c3 ?c4 ?c5; (case kA => exact rfl); (case kF => exact rfl); (case kK => assumption); (case k1 => k_asm); (case k2 => k_asm); (case k3 => k_asm); (case k4 => k_asm); (case k5 => k_asm); (case k6 => k_is); (case k7 => k_is); (case k8 => ktr_room); (case k9 => first | exact BindsTo.of_eq rfl | exact binds_K (by k_in) rfl (by k_is) rfl rfl rfl); (case c5 => decide); (case kB => exact locs rfl); (case c2 => exact rfl); (case c3 => exact rfl); (case c4 => exact rfl); k_whole; intro g' L' h' FG' F' N' B' X' T'; (try dsimp only); (try k_fold))))
local macro_rules | `(tactic| k_mem) => `(tactic| ((repeat refine' List.mem_cons_of_mem _ ?_); ktr_member))
local macro_rules | `(tactic| ktr_units) => `(tactic| (have hcL9 := cLine_is; (try simp only [units_in1, units_deeper, units_under_make, Around.mark_units, units_caller]); (try dsimp only [ktrTop]); omega))
section
theorem topP04 : True := by
  w_top off
  trivial
theorem good_small (n : Int) : Good ((n.fdiv 6).fmod 1000 + 2147483648) ∧ Good ((n.fdiv 6).fmod 1000 + 0) := by
  have h1 := Int.fmod_nonneg_of_pos (n.fdiv 6) (show (0 : Int) < 1000 by decide)
  have h2 := Int.fmod_lt_of_pos (n.fdiv 6) (show (0 : Int) < 1000 by decide)
  unfold Good
  omega
set_option maxHeartbeats 0 in
theorem law_number {w : World} (n : Int) (t : Tok) : Ctr w 1 873 ⟨[.int n t], []⟩ (fun _ => True) (fun _ r => ∃ k, Good k ∧ IntV k r) := by
  intro mean mg mb dp un gd cn cs a ccd cl outer A₀ base h₀ L m news s Q E B F X N T hk hdp hu hpre hret
  walk_at "enterP"
  k_steps
  all_goals refine hret _ _ _ _ (by assumption) (by assumption) (by assumption) ⟨_, ?_, rfl⟩
  all_goals first
    | exact (good_small n).1
    | exact (good_small n).2
    | (constructor <;> decide)
end
section
theorem topP05 : True := by
  w_top off
  trivial
local macro_rules | `(tactic| walk_at "call ref") => `(tactic| (k_here; (with_reducible show wpAny _ _ (call (Value.ref 873) _ _) _ _ _); k_dflt (refine' ctr_call (Ctr.use (law_number _ _) ?k1 ?k2 ?k3 ?k4 ?k5 ?kK ?kd ?ku trivial ?_); (case k1 => k_asm); (case k2 => k_asm); (case k3 => k_asm); (case k4 => k_asm); (case k5 => k_asm); (case kK => first | exact rfl | assumption); (case kd => ktr_room); (case ku => ktr_units); intro r' tl' h' tk' F' N' S' P'; obtain ⟨k', hg', hP'⟩ := P'; obtain ⟨t', hP'⟩ := IntV.out hP'; subst hP'; (try dsimp only))))
local macro_rules | `(tactic| walk_at "exec Assign cons ListComp") => `(tactic| ((with_reducible show wpAny _ _ (exec (Stmt.Assign [PySem.Expr.Subscript _ _ _] _ _) _) _ _ _); with_reducible refine wpAny_Assign_Subscript ?_ ?_; rotate_left; with_unfolding_all rfl))
theorem div_pos_small {k n : Int} (h0 : 0 ≤ k) (h1 : k < 9) (hn : 0 < n) : 1 + k.fdiv n ≠ 0 ∧ (1 + k.fdiv n).natAbs < 100 := by
  rw [Int.fdiv_eq_ediv_of_nonneg _ (by omega)]
  have a1 := Int.ediv_nonneg h0 (Int.le_of_lt hn)
  have a2 : k / n ≤ k := Int.ediv_le_self _ h0
  omega
set_option maxHeartbeats 0 in
theorem law_steps {w : World} (l : Addr) (vs : List Value) (ns : List Int) (hi : IntsAre vs ns) (h9 : ns.length ≤ 9) : Ctr w 2 878 ⟨[.ref l], []⟩ (fun h => h.IsList l vs.toArray) (fun tl r => ∃ ds, WF ds ∧ StL (InL tl) r ds) := by
  intro mean mg mb dp un gd cn cs a ccd cl outer A₀ base h₀ L m news s Q E B F X N T hk hdp hu hpre hret
  walk_at "enterC"
  k_steps
  · walk_at "srcRange"
    intro g
    refine comp_inv (fun i ys nw => nw = _ ∧ ys.length = i ∧ ∃ ks, IntsAre ys ks) ⟨rfl, rfl, [], .nil⟩ ?_ ?_
    · intro i v ys nw J oJ C oC D m₂ h tk E' hi' hv hI hC hx F1 N1 off ne
      obtain ⟨rfl, hl, ks, hks⟩ := hI
      obtain ⟨t, rfl⟩ := hv
      k_steps
      have hi9 : i < 9 := hi'
      obtain ⟨b1, b2⟩ := div_pos_small (k := 0 + (i : Int)) (n := (ns.length : Int)) (by omega) (by omega) (by omega)
      refine floordiv_int b1 ?_ (Or.inl (PyProof.noPylong_small (by omega)))
      exact compEnd_same (by assumption) (by assumption) off trivial ⟨rfl, by simp [hl], _, IntsAre.append hks (.cons _ _ .nil)⟩
    · rintro ys nw ⟨rfl, hl, ks, hks⟩
      have hl9 : ys.length = 9 := hl
      have hk9 : ks.length = 9 := by rw [← hks.length]; exact hl9
      clear hl
      k_steps
      rename_i ws _ _ _ hI2 hC2 hL2 l1
      have hw := hI2.length
      have hb1 := Int.fmod_nonneg_of_pos ((ks.getD 8 0).fdiv 3) (show (0 : Int) < 5 by decide)
      have hb2 := Int.fmod_lt_of_pos ((ks.getD 8 0).fdiv 3) (show (0 : Int) < 5 by decide)
      refine Hold.go (LCg.CompSrc.ledger (by rfl) (by k_asm) (by k_asm) (by k_mem) (by rw [PySem.sizeLine_eq, List.size_toArray]; omega) ?_)
      intro g2
      refine comp_inv (fun i ys nw => nw = _ ∧ ys.length = i ∧ ∃ ks, IntsAre ys ks ∧ ∀ k ∈ ks, Good k) ⟨rfl, rfl, [], .nil, fun _ h => (nomatch h)⟩ ?_ ?_
      · intro i v ys nw J oJ C oC D m₂ h tk E' hi' hv hI hC hx F1 N1 off ne
        obtain ⟨rfl, hl, ks', hks', hgd⟩ := hI
        obtain ⟨k0, t0, rfl, hk0⟩ := IntsAre.at hI2 i v (by simpa using hv)
        k_steps
        refine Hold.go (compEnd_drop (by assumption) (by assumption) off (Or.inr ⟨_, List.mem_cons_self, rfl, _, rfl⟩) ⟨rfl, by simp [hl], _, IntsAre.append hks' (.cons _ _ .nil), fun k hk => ?_⟩)
        rcases List.mem_append.mp hk with hk | hk
        · exact hgd k hk
        · rw [List.mem_singleton.mp hk]; assumption
      · rintro ys' nw ⟨rfl, hl', ks', hks', hgd⟩
        have hk' : ks'.length = min (1 + ((ks.getD 8 0).fdiv 3).fmod 5).toNat ks.length := by rw [← hks'.length, hl', List.size_toArray, hw, hC2]
        clear hl'
        have hk1 : 1 ≤ ks'.length ∧ ks'.length ≤ 5 := by omega
        have hf1 := Int.fmod_nonneg_of_pos ((ks.getD (Int.toNat 5) 0).fdiv 3) (show (0 : Int) < (ks'.length : Int) by omega)
        have hf2 := Int.fmod_lt_of_pos ((ks.getD (Int.toNat 5) 0).fdiv 3) (show (0 : Int) < (ks'.length : Int) by omega)
        have hf3 := Int.fmod_nonneg_of_pos ((ks.getD (Int.toNat 7) 0).fdiv 3) (show (0 : Int) < (ks'.length : Int) by omega)
        have hf4 := Int.fmod_lt_of_pos ((ks.getD (Int.toNat 7) 0).fdiv 3) (show (0 : Int) < (ks'.length : Int) by omega)
        have hyl := hks'.length
        have hW : WF (ks'.map Stp.num) := wf_nums hk1.2 hgd
        k_steps
        · have hg1 := Int.fmod_nonneg_of_pos (ks.getD (Int.toNat 6) 0) (show (0 : Int) < 2 by decide)
          have hg2 := Int.fmod_lt_of_pos (ks.getD (Int.toNat 6) 0) (show (0 : Int) < 2 by decide)
          have hg3 := Int.fmod_nonneg_of_pos (ks.getD (Int.toNat 5) 0) (show (0 : Int) < 7 by decide)
          have hg4 := Int.fmod_lt_of_pos (ks.getD (Int.toNat 5) 0) (show (0 : Int) < 7 by decide)
          refine Hold.go (LCg.CompSrc.range (by rfl) (by k_asm) (by k_asm) (by assumption) (small_one (by omega) (by omega) (by omega) (by omega)) (rangeSize_nat _ _) (by rw [PySem.sizeLine_eq]; omega) ?_)
          intro g3
          refine comp_inv (fun i ys nw => nw = _ ∧ ys.length = i ∧ ∃ ks, IntsAre ys ks ∧ ∀ k ∈ ks, Good k) ⟨rfl, rfl, [], .nil, fun _ h => (nomatch h)⟩ ?_ ?_
          · intro i v ys nw J oJ C oC D m₂ h tk E' hi' hv hI hC hx F1 N1 off ne
            obtain ⟨rfl, hl, ks2, hks2, hgd2⟩ := hI
            obtain ⟨t, rfl⟩ := hv
            k_steps
            refine Hold.go (compEnd_drop (by assumption) (by assumption) off trivial ⟨rfl, by simp [hl], _, IntsAre.append hks2 (.cons _ _ .nil), fun k hk => ?_⟩)
            rcases List.mem_append.mp hk with hk | hk
            · exact hgd2 k hk
            · rw [List.mem_singleton.mp hk]; assumption
          · rintro ys2 nw ⟨rfl, hl2, ks2, hks2, hgd2⟩
            have hl3 := hks2.length
            have hl4 : ks2.length = 2 ∨ ks2.length = 3 := by omega
            clear hl2
            have hW2 : WF ((ks'.map Stp.num).set (((ks.getD (Int.toNat 5) 0).fdiv 3).fmod ↑ks'.length).toNat (.set ks2)) := wf_set hW _ ⟨hl4, hgd2⟩ (fun e => (nomatch e)) (fun _ => nums_set)
            k_steps
            refine Hold.go (set_any (by assumption) (by assumption) (by k_upd) hf1 (by omega) (by omega) ?_)
            intro h5 F5 N5
            k_steps
            · refine kun_lenL (k := (ks'.length : Int)) (News.isList (by k_asm) (by k_mem)) (by rw [List.size_toArray, List.length_set, hyl]) (by omega) ?_
              k_steps
              refine Hold.go (set_any (by assumption) (by assumption) (by k_upd) hf3 (by rw [List.length_set]; omega) (by omega) ?_)
              intro h6 F6 N6
              k_steps
              refine' hret _ _ _ _ (by assumption) (by assumption) (by assumption) ⟨_, wf_set (d := .non) hW2 _ trivial (fun _ => nums_set_non) (fun e => (nomatch e)), _, _, _, rfl, ?hm1, StAll.set (d := .non) (StAll.set (d := .set ks2) (StAll.ints hks') _ ⟨_, _, _, rfl, ?hm2, hks2⟩) _ rfl⟩
              case hm1 => k_mem
              case hm2 => k_mem
            · refine' hret _ _ _ _ (by assumption) (by assumption) (by assumption) ⟨_, hW2, _, _, _, rfl, ?hm1, StAll.set (d := .set ks2) (StAll.ints hks') _ ⟨_, _, _, rfl, ?hm2, hks2⟩⟩
              case hm1 => k_mem
              case hm2 => k_mem
        · refine Hold.go (set_any (by assumption) (by assumption) (by k_upd) hf3 (by omega) (by omega) ?_)
          intro h5 F5 N5
          k_steps
          refine' hret _ _ _ _ (by assumption) (by assumption) (by assumption) ⟨_, wf_set (d := .non) hW _ trivial (fun _ => nums_non) (fun e => (nomatch e)), _, _, _, rfl, ?hm1, StAll.set (d := .non) (StAll.ints hks') _ rfl⟩
          case hm1 => k_mem
        · refine' hret _ _ _ _ (by assumption) (by assumption) (by assumption) ⟨_, hW, _, _, _, rfl, ?hm1, StAll.ints hks'⟩
          case hm1 => k_mem
  · refine' hret _ _ _ _ (by assumption) (by assumption) (by assumption) ⟨[], ⟨by decide, fun _ h => (nomatch h), by decide, by decide⟩, _, [], _, rfl, ?hm1, .nil⟩
    case hm1 => k_mem
end
section
theorem topP06 : True := by
  w_top off
  trivial
section
variable {prog : Program} {w : World} {A : Around} {E : Value → Shared → Prop} {s : Shared} {env : Env} {h₀ : Heap} {x : Str} {body : List Stmt} {Q : Flow → Shared → Prop}
/-- a loop over a list of the ground, of any values, by what holds of its turn's number, the frame and the ledger -/
theorem for_base {l : Addr} {vs : List Value} {m₀ : Str → Option Value} {news : List (Addr × Obj)} (J : Nat → (Str → Option Value) → List (Addr × Obj) → Prop)
    (hh : A.handled = none) (hl : h₀.IsList l vs.toArray) (F : Fr h₀ env.locals s.heap m₀) (N : News h₀ env.locals s.heap news) (hj : J 0 m₀ news)
    (turn : ∀ i v m₁ nx h tk own, vs[i]? = some v → OwnOff own (nx.map (·.1)) → J i m₁ nx → Fr h₀ env.locals h (fun y => if y = x then some v else m₁ y) → News h₀ env.locals h (nx ++ own) →
      wpAny (model prog w) A (execs body env) (InvPostG h₀ env.locals (J (i + 1)) own { s with heap := h, toks := tk } Q) E { s with heap := h, toks := tk })
    (done : ∀ m₁ nx h tk, J vs.length m₁ nx → Fr h₀ env.locals h m₁ → News h₀ env.locals h nx → Q .next { s with heap := h, toks := tk }) :
    wpAny (model prog w) A (pyIter (.ref l)) (fun it s₂ => LoopAtV prog w A h₀ env x body Q E it s₂) E s := by
  have hl' : s.heap.IsList l vs.toArray := hl.at fun o e => F.keep l o e
  have hin : l < h₀.objs.size := by obtain ⟨_, e, _⟩ := hl; exact Heap.lt_size e
  have hlL : l < env.locals := Nat.lt_of_lt_of_le hin F.above
  have hLs : env.locals < s.heap.objs.size := F.ns.lt
  refine wpAny_pyIter_list hl' ?_
  refine ⟨s.heap.objs.size, [s.heap.objs.size, l], [s.heap.objs.size], vs.length, fun i v => vs[i]? = some v, fun i h => h.IsListIter s.heap.objs.size l i ∧ h.IsList l vs.toArray, m₀, news, J, rfl, ?_, ?_, ?_, ?_, ?_, F.push _, ?_, hj, ?_, ?_⟩
  · have W := Walks.list (prog := prog) (w := w) hh s.heap.objs.size l (Nat.ne_of_lt (Nat.lt_trans hlL hLs)) vs.toArray
    simpa using W
  · intro hm
    simp only [List.mem_cons, List.not_mem_nil, or_false] at hm
    rcases hm with e | e
    · exact absurd e (Nat.ne_of_lt hLs)
    · exact absurd e.symm (Nat.ne_of_lt hlL)
  · intro b hb
    rw [List.mem_singleton.mp hb]
    exact next_is_new F
  · intro p hp hb
    have := Heap.lt_size (N p hp).1
    rw [List.mem_singleton.mp hb] at this
    exact Nat.lt_irrefl _ this
  · exact ⟨⟨_, Heap.get?_push_size _ rfl, rfl, rfl⟩, hl'.at fun o e => Heap.get?_push_of_some _ e⟩
  · exact fun p hp => ⟨Heap.get?_push_of_some _ (N p hp).1, (N p hp).2⟩
  · rintro i v m₁ nx s₁ own ⟨h, tk, rfl⟩ _ hv hJ hnx hown _ hfp hst F₁ N₁
    obtain ⟨⟨oI, hoI, _⟩, _⟩ := id hst
    have hIown : (s.heap.objs.size, oI) ∈ own := hfp _ (.head _) (next_is_new F) _ hoI
    have hoff : OwnOff own (nx.map (·.1)) := by
      intro p hp b hb e
      obtain ⟨q, hq, rfl⟩ := List.mem_map.mp hb
      have h3 := hown p hp
      simp only [List.mem_cons, List.not_mem_nil, or_false] at h3
      rcases h3 with h3 | h3
      · exact hnx q hq (by rw [← e, h3]; exact .head _)
      · obtain ⟨ol, hol, _⟩ := id hl
        have h4 := (N₁ q (List.mem_append_right _ hq)).2.2
        rw [← e, h3, hol] at h4
        cases h4
    have N₂ : News h₀ env.locals h (nx ++ own) := fun p hp => N₁ p (List.mem_append.mpr (List.mem_append.mp hp).symm)
    refine wpAny_mono (turn i v m₁ nx h tk own hv hoff hJ F₁ N₂) (fun f s₂ hf => ?_) fun _ _ e => e
    have back : InvEndG h₀ env.locals (J (i + 1)) own { s with heap := h, toks := tk } s₂ → LoopStepU h₀ env.locals [s.heap.objs.size] own (J (i + 1)) { s with heap := h, toks := tk } .next s₂ := by
      rintro ⟨h', tk', m', all, nx', e, F', N', a1, a2, a3, a4⟩
      refine ⟨rfl, h', tk', m', nx', e, F', fun p hp => N' p ((List.mem_append.mp hp).elim (a2 p) (a1 p)), fun p hp hb => ?_, a4⟩
      exact a3 _ hIown p.1 (List.mem_map.mpr ⟨p, hp, rfl⟩) (List.mem_singleton.mp hb).symm
    cases f with
    | ret v => exact .ret hf
    | brk => exact .brk hf
    | next => exact .next (back hf)
    | cont => exact .cont (back hf)
  · rintro h' tk' m' nx F' N' _ hJ
    exact done m' nx h' tk' hJ F' N'

/-- a turn's end: the ledger is what is named, the iterator's own, and what is left behind -/
theorem turn_end {L : Addr} {J : (Str → Option Value) → List (Addr × Obj) → Prop} {m' : Str → Option Value} {own : List (Addr × Obj)} {s₁ : Shared} {h' : Heap} {tk : Nat} {all : List (Addr × Obj)}
    (F : Fr h₀ L h' m') (N : News h₀ L h' all) (nx : List (Addr × Obj)) (hn : ∀ p ∈ nx ++ own, p ∈ all) (ha : OwnOff own (nx.map (·.1))) (hj : J m' nx) : InvEndG h₀ L J own s₁ { s₁ with heap := h', toks := tk } :=
  InvEndG.intro F N hj ha (fun p hp => hn p (List.mem_append_left _ hp)) (fun p hp => hn p (List.mem_append_right _ hp))
end

/-- the frame's map in a turn: the loop's own name, the names that are stored, the rest as it stood -/
theorem fr_turn {x : Str} {names : List Str} {v : Value} {m m₀ : Str → Option Value} {h₀ h : Heap} {L : Addr} (hm : ∀ z, z ≠ x → names.contains z = false → m z = m₀ z) (F : Fr h₀ L h (fun y => if y = x then some v else m y)) :
    Fr h₀ L h (fun y => if y = x then some v else if names.contains y then m y else m₀ y) := by
  have e : (fun y => if y = x then some v else m y) = fun y => if y = x then some v else if names.contains y then m y else m₀ y := by
    funext y
    by_cases h1 : y = x
    · rw [if_pos h1, if_pos h1]
    · rw [if_neg h1, if_neg h1]
      cases h2 : names.contains y with
      | true => rw [if_pos rfl]
      | false => rw [if_neg Bool.false_ne_true]; exact hm y h1 h2
  rw [← e]; exact F
theorem fr_done {x : Str} {names : List Str} {m m₀ : Str → Option Value} {h₀ h : Heap} {L : Addr} (hm : ∀ z, z ≠ x → names.contains z = false → m z = m₀ z) (F : Fr h₀ L h m) :
    Fr h₀ L h (fun y => if y = x then m y else if names.contains y then m y else m₀ y) := by
  have e : m = fun y => if y = x then m y else if names.contains y then m y else m₀ y := by
    funext y
    by_cases h1 : y = x
    · rw [if_pos h1]
    · rw [if_neg h1]
      cases h2 : names.contains y with
      | true => rw [if_pos rfl]
      | false => rw [if_neg Bool.false_ne_true]; exact hm y h1 h2
  rw [← e]; exact F

section
variable {prog : Program} {w : World} {A : Around} {E : Value → Shared → Prop} {s : Shared} {env : Env} {h₀ : Heap} {x : Str} {body : List Stmt} {Q : Flow → Shared → Prop}
/-- the same, with the names that the body stores told apart -/
theorem for_frame (names : List Str) {l : Addr} {vs : List Value} {m₀ : Str → Option Value} {news : List (Addr × Obj)} (J : Nat → (Str → Option Value) → List (Addr × Obj) → Prop)
    (hh : A.handled = none) (hl : h₀.IsList l vs.toArray) (F : Fr h₀ env.locals s.heap m₀) (N : News h₀ env.locals s.heap news) (hj : J 0 m₀ news)
    (turn : ∀ i v u nx h tk own, vs[i]? = some v → OwnOff own (nx.map (·.1)) → J i u nx → Fr h₀ env.locals h (fun y => if y = x then some v else if names.contains y then u y else m₀ y) → News h₀ env.locals h (nx ++ own) →
      wpAny (model prog w) A (execs body env) (InvPostG h₀ env.locals (fun m' nx' => J (i + 1) m' nx' ∧ ∀ z, z ≠ x → names.contains z = false → m' z = m₀ z) own { s with heap := h, toks := tk } Q) E { s with heap := h, toks := tk })
    (done : ∀ u nx h tk, J vs.length u nx → Fr h₀ env.locals h (fun y => if y = x then u y else if names.contains y then u y else m₀ y) → News h₀ env.locals h nx → Q .next { s with heap := h, toks := tk }) :
    wpAny (model prog w) A (pyIter (.ref l)) (fun it s₂ => LoopAtV prog w A h₀ env x body Q E it s₂) E s :=
  for_base (fun i m nx => J i m nx ∧ ∀ z, z ≠ x → names.contains z = false → m z = m₀ z) hh hl F N ⟨hj, fun _ _ _ => rfl⟩
    (fun i v m₁ nx h tk own hv ho hJ F1 N1 => turn i v m₁ nx h tk own hv ho hJ.1 (fr_turn hJ.2 F1) N1)
    (fun m₁ nx h tk hJ F1 N1 => done m₁ nx h tk hJ.1 (fr_done hJ.2 F1) N1)
end

/-! ## the texts -/
def stepText (f : Nat) : Stp → Str
  | .non => Str.ofString "*"
  | .num n => word f n
  | .set l => if f = 1 then Str.ofString "{" ++ Str.join (Str.ofString ",") (l.map (word f)) ++ Str.ofString "}" else Str.ofString "<" ++ Str.join (Str.ofString ";") (l.map (word f)) ++ Str.ofString ">"
def text (f : Nat) (ds : List Stp) : Str := Str.join (Str.ofString "/") (ds.map (stepText f))
theorem join_len (sep : Str) (B : Nat) : ∀ ys : List Str, (∀ y ∈ ys, y.length ≤ B) → (Str.join sep ys).length ≤ ys.length * (B + sep.length)
  | [], _ => Nat.zero_le _
  | [y], h => by
    have := h y (List.mem_singleton.mpr rfl)
    show y.length ≤ 1 * (B + sep.length)
    omega
  | y :: z :: r, h => by
    have h1 := h y List.mem_cons_self
    have h2 := join_len sep B (z :: r) fun u hu => h u (List.mem_cons_of_mem _ hu)
    show (y ++ sep ++ Str.join sep (z :: r)).length ≤ _
    rw [Str.length_append, Str.length_append]
    simp only [List.length_cons, Nat.add_mul, Nat.one_mul] at h2 ⊢
    omega
theorem sum_len (B : Nat) : ∀ ys : List Str, (∀ y ∈ ys, y.length ≤ B) → (ys.map (·.length)).sum ≤ ys.length * B
  | [], _ => Nat.zero_le _
  | y :: r, h => by
    have h1 := h y List.mem_cons_self
    have h2 := sum_len B r fun u hu => h u (List.mem_cons_of_mem _ hu)
    simp only [List.map_cons, List.sum_cons, List.length_cons, Nat.add_mul, Nat.one_mul]
    omega
theorem mark_len (f : Nat) : (mark f).length = 1 := by
  unfold mark
  split
  · decide
  · split <;> decide
theorem num_len {n : Int} (h0 : 0 ≤ n) (h1 : n < 4294967296) : (Str.ofString (toString n)).length ≤ 11 := by
  rw [PySem.ofString_length]
  exact int_text_length_le10 (k := 10) (by decide) (by omega)
theorem word_len (f : Nat) {n : Int} (g : Good n) : (word f n).length ≤ 12 := by
  unfold word
  split
  · exact Nat.le_succ_of_le (num_len g.1 g.2)
  · rw [Str.length_append, mark_len]
    have := num_len (n := n - 2147483648) (by omega) (by have := g.2; omega)
    omega
theorem words_len (f : Nat) {l : List Int} (g : ∀ n ∈ l, Good n) : ∀ y ∈ l.map (word f), y.length ≤ 12 := fun y hy => by
  obtain ⟨n, hn, rfl⟩ := List.mem_map.mp hy
  exact word_len f (g n hn)
theorem lit1_len : (Str.ofString "<").length = 1 ∧ (Str.ofString ">").length = 1 ∧ (Str.ofString "{").length = 1 ∧ (Str.ofString "}").length = 1 ∧ (Str.ofString ";").length = 1 ∧ (Str.ofString ",").length = 1 ∧ (Str.ofString "/").length = 1 ∧ (Str.ofString "*").length = 1 := by decide
theorem step_len (f : Nat) {d : Stp} (h : d.ok) : (stepText f d).length ≤ 50 := by
  obtain ⟨a1, a2, a3, a4, a5, a6, a7, a8⟩ := lit1_len
  cases d with
  | non => show (Str.ofString "*").length ≤ 50; omega
  | num n => exact Nat.le_trans (word_len f h) (by decide)
  | set l =>
    obtain ⟨hl, hg⟩ := h
    have b1 := join_len (Str.ofString ",") 12 _ (words_len f hg)
    have b2 := join_len (Str.ofString ";") 12 _ (words_len f hg)
    rw [List.length_map, a5] at b2
    rw [List.length_map, a6] at b1
    have b3 : l.length * (12 + 1) ≤ 39 := by rcases hl with e | e <;> rw [e] <;> decide
    show (if f = 1 then _ else _ : Str).length ≤ 50
    split <;> (rw [Str.length_append, Str.length_append]; omega)
theorem text_len (f : Nat) {ds : List Stp} (hok : ∀ d ∈ ds, d.ok) (h5 : ds.length ≤ 5) : (text f ds).length ≤ 255 := by
  have b := join_len (Str.ofString "/") 50 (ds.map (stepText f)) fun y hy => by
    obtain ⟨d, hd, rfl⟩ := List.mem_map.mp hy
    exact step_len f (hok d hd)
  rw [List.length_map, lit1_len.2.2.2.2.2.2.1] at b
  have := Nat.mul_le_mul_right (50 + 1) h5
  unfold text
  omega
theorem steps_sum (f : Nat) {ds : List Stp} (hok : ∀ d ∈ ds, d.ok) (h5 : ds.length ≤ 5) : ((ds.map (stepText f)).map (·.length)).sum ≤ 250 := by
  have b := sum_len 50 (ds.map (stepText f)) fun y hy => by
    obtain ⟨d, hd, rfl⟩ := List.mem_map.mp hy
    exact step_len f (hok d hd)
  rw [List.length_map] at b
  have := Nat.mul_le_mul_right 50 h5
  omega
theorem strsAre_append {vs ws : List Value} {xs ys : List Str} (h : StrsAre vs xs) (k : StrsAre ws ys) : StrsAre (vs ++ ws) (xs ++ ys) := by
  induction h with
  | nil => exact k
  | cons y t _ ih => exact .cons y t ih
theorem join_made {prog : Program} {w : World} {A : Around} {E : Value → Shared → Prop} {s : Shared} {x : Str} {t : Tok} {Q : Value → Shared → Prop} {D : Addr} {vs : List Value} {ys : List Str} (hl : s.heap.IsList D vs.toArray) (hi : StrsAre vs ys) (hsep : x.length ≤ 16) (hw : (ys.map (·.length)).sum + ys.length ≤ 1048576)
    (h : ∀ t' k, Q (.str (Str.join x ys) t') { s with toks := k }) : wpAny (model prog w) A (call (.builtin "str.join") [.str x t, .ref D]) Q E s :=
  join_listW hl (by simpa using hi) hsep hw fun t' k => by
    rw [show Txt.join x ys = Str.join x ys from StrLaws.glued_eq_join x ys]
    exact h t' k
theorem strs_concat {vs : List Value} {xs : List Str} {y : Str} {t : Tok} (h : StrsAre vs xs) : StrsAre (vs.toArray.toList.concat (.str y t)) (xs ++ [y]) := by
  simpa using strsAre_append h (.cons y t .nil)
theorem not_in_one {z n : Str} (h : [n].contains z = false) : z ≠ n := by
  rintro rfl
  simp at h
theorem join_short (f : Nat) {ls : List Int} (hl : ls.length = 2 ∨ ls.length = 3) (hg : ∀ n ∈ ls, Good n) : (Str.join (Str.ofString ";") (ls.map (word f))).length ≤ 60 ∧ (Str.join (Str.ofString ",") (ls.map (word f))).length ≤ 60 ∧ ((ls.map (word f)).map (·.length)).sum ≤ 60 := by
  obtain ⟨_, _, _, _, a5, a6, _, _⟩ := lit1_len
  have b1 := sum_len 12 _ (words_len f hg)
  have b2 := join_len (Str.ofString ";") 12 _ (words_len f hg)
  have b3 := join_len (Str.ofString ",") 12 _ (words_len f hg)
  rw [List.length_map] at b1 b2 b3
  rw [a5] at b2
  rw [a6] at b3
  rcases hl with e | e <;> rw [e] at b1 b2 b3 <;> omega
theorem stepText_set (f : Nat) (l : List Int) : stepText f (.set l) = if f = 1 then Str.ofString "{" ++ Str.join (Str.ofString ",") (l.map (word f)) ++ Str.ofString "}" else Str.ofString "<" ++ Str.join (Str.ofString ";") (l.map (word f)) ++ Str.ofString ">" := rfl
/-- a stored name whose value is known -/
theorem fr_known {n : Str} {ns : List Str} {val : Value} {u : Str → Option Value} (hu : u n = some val) : ∀ (y : Str) (c : Option Value), (if (n :: ns).contains y = true then u y else c) = if y = n then some val else if ns.contains y = true then u y else c := fun y c => by
  by_cases h : y = n
  · subst h; simp [hu]
  · have e : (n :: ns).contains y = ns.contains y := by simp [List.contains_cons, h]
    rw [e, if_neg h]
end
section
theorem topP07 : True := by
  w_top off
  trivial
local macro_rules | `(tactic| walk_at "call ref") => `(tactic| (k_here; (with_reducible show wpAny _ _ (call (Value.ref 861) _ _) _ _ _); k_dflt (refine' ctr_call (Ctr.use (law_word _ _ _ _ ?kf ?kl ?ku) ?k1 ?k2 ?k3 ?k4 ?k5 ?kK ?kd ?ku2 trivial ?_); (case k1 => k_asm); (case k2 => k_asm); (case k3 => k_asm); (case k4 => k_asm); (case k5 => k_asm); (case kK => first | exact rfl | assumption); (case kd => ktr_room); (case ku2 => ktr_units); (case kf => assumption); (case kl => first | assumption | omega); (case ku => first | assumption | omega); intro r' tl' h' tk' F' N' S' P'; obtain ⟨t', hP'⟩ := StrV.out P'; subst hP'; (replace N' := cb_drop N' (fun _ hp => List.mem_append_left _ hp)); clear S'; (try dsimp only))))
set_option maxHeartbeats 0 in
theorem law_text {w : World} (f : Nat) (hf : f < 3) (t : Tok) (l : Addr) (vs : List Value) (ds : List Stp) (hok : ∀ d ∈ ds, d.ok) (h5 : ds.length ≤ 5) :
    Ctr w 2 866 ⟨[.ref l, .int (f : Int) t], []⟩ (fun h => h.IsList l vs.toArray ∧ StAll (AtH h) vs ds) (fun _ r => StrV (text f ds) r) := by
  intro mean mg mb dp un gd cn cs a ccd cl outer A₀ base h₀ L m news s Q E B F X N T hk hdp hu hpre hret
  obtain ⟨hl, hst⟩ := hpre
  walk_at "enterC"
  k_steps
  rename_i Lc hc tkc Bc Xc Tc oc doc D h1 lD h2 F2 N2
  refine Hold.go (for_frame [Str.ofString "inner"] (fun i _ nx => ∃ ws k, nx = [(D, W.listOf (List.toArray ws) k), (Lc + 1, oc)] ∧ StrsAre ws ((ds.take i).map (stepText f))) (by rfl) hl F2 N2 ⟨[], _, rfl, .nil⟩ ?_ ?_)
  · rintro i v u nx h tk own hv hoff ⟨ws, k, rfl, hws⟩ F3 N3
    simp only [List.cons_append, List.nil_append] at N3
    have hwl := hws.length
    simp only [List.length_map, List.length_take] at hwl
    obtain ⟨d, hd, hS⟩ := hst.get hv
    have hdk : d.ok := hok d (List.mem_of_getElem? hd)
    have hlen : i < ds.length := (List.getElem?_eq_some_iff.mp hd).1
    have hnext : (ds.take (i + 1)).map (stepText f) = (ds.take i).map (stepText f) ++ [stepText f d] := by
      rw [List.take_add_one, hd]; simp
    cases d with
    | non =>
      obtain rfl : v = Value.none := hS
      k_steps
      exact Hold.go (turn_end (by assumption) (by assumption) _ (fun p hp => hp) (by assumption) ⟨⟨_, _, rfl, by rw [hnext]; exact strs_concat hws⟩, fun z h1 h2 => by rw [if_neg h1, if_neg (by rw [h2]; exact Bool.false_ne_true)]⟩)
    | num n =>
      obtain ⟨tn, rfl⟩ := hS
      obtain ⟨g0, g1⟩ := hdk
      k_steps
      exact Hold.go (turn_end (by assumption) (by assumption) _ (fun p hp => hp) (by assumption) ⟨⟨_, _, rfl, by rw [hnext]; exact strs_concat hws⟩, fun z h1 h2 => by rw [if_neg h1, if_neg (by rw [h2]; exact Bool.false_ne_true)]⟩)
    | set ls =>
      obtain ⟨b, bs, kb, rfl, hb, hbi⟩ := hS
      have hbl : s.heap.IsList b bs.toArray := ⟨_, hb, rfl, _, rfl⟩
      obtain ⟨hl3, hg3⟩ := hdk
      have hb3 := hbi.length
      k_steps
      refine Hold.go (LCg.CompSrc.base (by rfl) (by k_asm) (by k_asm) hbl (by rw [PySem.sizeLine_eq, List.size_toArray]; omega) ?_)
      intro g2
      refine comp_inv (fun i ys nw => nw = _ ∧ StrsAre ys ((ls.take i).map (word f))) ⟨rfl, .nil⟩ ?_ ?_
      · intro i v ys nw J oJ C oC D' m₂ h tk E' hi' hv hI hC hx F1 N1 off ne
        obtain ⟨rfl, hys⟩ := hI
        obtain ⟨k0, t0, rfl, hk0⟩ := IntsAre.at hbi i v (by simpa using hv)
        obtain ⟨g0, g1⟩ := hg3 k0 (List.mem_of_getElem? hk0)
        k_steps
        refine Hold.go (compEnd_same (by assumption) (by assumption) off (Or.inl hbl) ⟨rfl, ?_⟩)
        rw [List.take_add_one, hk0, List.map_append]
        exact strsAre_append hys (.cons _ _ .nil)
      · rintro ys nw ⟨rfl, hys⟩
        rw [List.size_toArray, hb3, List.take_length] at hys
        obtain ⟨b1, b2, b3⟩ := join_short f hl3 hg3
        k_steps
        · refine Hold.go (join_made (News.isList (by k_asm) (by k_mem)) hys (by decide) (by rw [List.length_map]; omega) ?_)
          intro t' k'
          k_steps
          have e1 : f ≠ 1 := by omega
          exact Hold.go (turn_end (by assumption) (by assumption) _ (fun p hp => List.mem_cons_of_mem _ hp) (by assumption) ⟨⟨_, _, rfl, by rw [hnext, stepText_set, if_neg e1]; exact strs_concat hws⟩, fun z h1 h2 => by rw [if_neg (not_in_one h2)]; dsimp only; rw [if_neg h1, if_neg (by rw [h2]; exact Bool.false_ne_true)]⟩)
        · refine Hold.go (join_made (News.isList (by k_asm) (by k_mem)) hys (by decide) (by rw [List.length_map]; omega) ?_)
          intro t' k'
          k_steps
          have e1 : f = 1 := by omega
          exact Hold.go (turn_end (by assumption) (by assumption) _ (fun p hp => List.mem_cons_of_mem _ hp) (by assumption) ⟨⟨_, _, rfl, by rw [hnext, stepText_set, if_pos e1]; exact strs_concat hws⟩, fun z h1 h2 => by rw [if_neg (not_in_one h2)]; dsimp only; rw [if_neg h1, if_neg (by rw [h2]; exact Bool.false_ne_true)]⟩)
  · rintro u nx h tk ⟨ws, k, rfl, hws⟩ F3 N3
    rw [List.take_of_length_le (by rw [hst.length]; exact Nat.le_refl _)] at hws
    k_steps
    have b1 := steps_sum f hok h5
    refine Hold.go (join_made (News.isList (by k_asm) (by k_mem)) hws (by rw [lit1_len.2.2.2.2.2.2.1]; decide) (by rw [List.length_map]; omega) ?_)
    intro t' k'
    k_steps
    exact hret _ _ _ _ (by assumption) (by assumption) (by assumption) rfl
end
section
theorem topP08 : True := by
  w_top off
  trivial
local macro_rules | `(tactic| walk_at "pad") => `(tactic| fail "pad")
local macro_rules | `(tactic| walk_at "pad") => `(tactic| fail "pad")
/-- the two ways in which a step's text is read -/
def peArgs (d : Str) (t : Tok) (ah : Bool) (args : Args) : Prop := (∃ b, args = ⟨[.ref 852, .str d t, .bool ah, .bool b], []⟩) ∨ args = ⟨[.ref 852, .str d t, .bool ah], [(Str.ofString "allow_set", .bool false)]⟩
/-- a text that reads as a number, laid aside from the walk's sight -/
structure IntT (x : Str) (n : Int) : Prop where
  is : PySem.intText? x = some n
theorem call_textI {prog : Program} {w : World} {A : Around} {E : Value → Shared → Prop} {s : Shared} {x : Str} {t : Tok} {n : Int} {Q : Value → Shared → Prop} (hn : IntT x n) (hl : x.length ≤ 640) (h : Q (.int n s.toks) { s with toks := s.toks + 1 }) :
    wpAny (model prog w) A (call (.type "int") [.str x t]) Q E s := PySem.W.KIN.call_text hn.is hl h
local macro_rules | `(tactic| walk_at "call type:int") => `(tactic| (k_here; (with_reducible refine call_textI (by with_reducible assumption) (by omega) ?_)))
structure Hid (p : Prop) : Prop where
  out : p
theorem bothShapes {G : Args → Prop} {P : Bool → Prop} {d : Str} {t : Tok} {ah : Bool} {args : Args} (ha : peArgs d t ah args) (k1 : ∀ b, Hid (P b) → G ⟨[.ref 852, .str d t, .bool ah, .bool b], []⟩)
    (k2 : Hid (P false) → G ⟨[.ref 852, .str d t, .bool ah], [(Str.ofString "allow_set", .bool false)]⟩) (H : ∀ b, P b) : G args := by
  rcases ha with ⟨b, rfl⟩ | rfl
  · exact k1 b ⟨H b⟩
  · exact k2 ⟨H false⟩
local macro_rules | `(tactic| walk_at "enterC0") => `(tactic| (k_dflt (refine' enterC ?k1 ?k2 ?k3 ?k4 ?k5 ?kA ?kF ?kK ?k6 ?k7 ?k8 ?k9 ?kB ?kD ?_ ?c2 ?c3 ?c4; (case kA => exact rfl); (case kF => exact rfl); (case kK => assumption); (case k1 => k_asm); (case k2 => k_asm); (case k3 => k_asm); (case k4 => k_asm); (case k5 => k_asm); (case k6 => k_is); (case k7 => k_is); (case k8 => ktr_room); (case k9 => first | exact BindsTo.of_eq rfl | exact binds_K (by k_in) rfl (by k_is) rfl rfl rfl); (case kB => exact rfl); (case kD => decide +kernel); (case c2 => exact rfl); (case c3 => exact rfl); (case c4 => exact rfl); k_whole)))
local macro_rules | `(tactic| walk_at "enterC1") => `(tactic| (intro L' h' tk' cells' F' N' Y' B' X' T'; k_cells Y'; (try simp only [List.cons_append, List.nil_append] at N'); (try dsimp only); (try k_fold)))
abbrev marks : List Str := [Str.ofString "h", Str.ofString "H", Str.ofString "'"]
set_option maxHeartbeats 0 in
theorem pe_star {w : World} (d : Str) (t : Tok) (ah : Bool) (args : Args) (ha : peArgs d t ah args) (h1 : (d == Str.ofString "*") = true) : Ctr w 2 841 args (fun _ => True) (fun _ r => r = .none) := by
  intro mean mg mb dp un gd cn cs a ccd cl outer A₀ base h₀ L m news s Q E B F X N T hk hdp hu hpre hret
  apply bothShapes (G := fun args => codeAny (model PR w) (ktrTop dp un gd cn cs L a ccd cl outer) (.call (.ref 841) args) (RetE Q E) s) ha
  case k1 =>
    intro b hb
    walk_at "enterC0"
    exact hb.out
  case k2 =>
    intro hb
    walk_at "enterC0"
    exact hb.out
  intro b
  (walk_at "enterC1"; k_steps)
  all_goals exact hret _ _ _ _ (by assumption) (by assumption) (by assumption) rfl
set_option maxHeartbeats 0 in
theorem pe_plain {w : World} (d : Str) (t : Tok) (n : Int) (ah : Bool) (args : Args) (ha : peArgs d t ah args) (h1 : (d == Str.ofString "*") = false) (h2 : (Txt.item d 0 == Str.ofString "{") = false) (h3 : (Txt.item d 0 == Str.ofString "<") = false) (hlen : 1 ≤ d.length) (hlen2 : d.length ≤ 640)
    (h4 : [Str.ofString "h", Str.ofString "H", Str.ofString "'"].any (· == Txt.item d (-1)) = false) (h7 : PySem.intText? d = some n) (g0 : 0 ≤ n) (g1 : n < 2147483648) :
    Ctr w 2 841 args (fun _ => True) (fun _ r => IntV n r) := by
  intro mean mg mb dp un gd cn cs a ccd cl outer A₀ base h₀ L m news s Q E B F X N T hk hdp hu hpre hret
  replace h7 := IntT.mk h7
  apply bothShapes (G := fun args => codeAny (model PR w) (ktrTop dp un gd cn cs L a ccd cl outer) (.call (.ref 841) args) (RetE Q E) s) ha
  case k1 =>
    intro b hb
    walk_at "enterC0"
    exact hb.out
  case k2 =>
    intro hb
    walk_at "enterC0"
    exact hb.out
  intro b
  (walk_at "enterC1"; k_steps)
  all_goals exact hret _ _ _ _ (by assumption) (by assumption) (by assumption) (show 0 + n = n by omega)
set_option maxHeartbeats 0 in
theorem pe_hard {w : World} (d : Str) (t : Tok) (n : Int) (args : Args) (ha : peArgs d t true args) (h1 : (d == Str.ofString "*") = false) (h2 : (Txt.item d 0 == Str.ofString "{") = false) (h3 : (Txt.item d 0 == Str.ofString "<") = false) (hlen : 1 ≤ d.length) (hlen2 : d.length ≤ 640)
    (h4 : [Str.ofString "h", Str.ofString "H", Str.ofString "'"].any (· == Txt.item d (-1)) = true) (h7 : PySem.intText? (Txt.slice d none (some (-1))) = some n) (hlen3 : (Txt.slice d none (some (-1))).length ≤ 640) (g0 : 0 ≤ n) (g1 : n < 2147483648) :
    Ctr w 2 841 args (fun _ => True) (fun _ r => IntV (2147483648 + n) r) := by
  intro mean mg mb dp un gd cn cs a ccd cl outer A₀ base h₀ L m news s Q E B F X N T hk hdp hu hpre hret
  replace h7 := IntT.mk h7
  apply bothShapes (G := fun args => codeAny (model PR w) (ktrTop dp un gd cn cs L a ccd cl outer) (.call (.ref 841) args) (RetE Q E) s) ha
  case k1 =>
    intro b hb
    walk_at "enterC0"
    exact hb.out
  case k2 =>
    intro hb
    walk_at "enterC0"
    exact hb.out
  intro b
  (walk_at "enterC1"; k_steps)
  all_goals exact hret _ _ _ _ (by assumption) (by assumption) (by assumption) rfl
end
section
theorem topP09 : True := by
  w_top off
  trivial
set_option maxHeartbeats 0 in
theorem pe_set1 {w : World} (d : Str) (t : Tok) (ah : Bool) (ws : List Str) (ns : List Int) (h1 : (d == Str.ofString "*") = false) (h2 : (Txt.item d 0 == Str.ofString "{") = true) (h3 : (Txt.item d (-1) == Str.ofString "}") = true) (hlen : 1 ≤ d.length) (hlen2 : d.length ≤ 640)
    (hlen3 : (Txt.slice d (some 1) (some (-1))).length ≤ 640) (h5 : Txt.split (Txt.slice d (some 1) (some (-1))) (Str.ofString ",") = ws) (hn : ws.length = ns.length) (h6 : ws.length ≤ 5)
    (hel : ∀ (i : Nat) (x : Str) (n : Int), ws[i]? = some x → ns[i]? = some n → ∀ t, Ctr w 2 841 ⟨[.ref 852, .str x t, .bool ah], [(Str.ofString "allow_set", .bool false)]⟩ (fun _ => True) (fun _ r => IntV n r)) :
    Ctr w 4 841 ⟨[.ref 852, .str d t, .bool ah, .bool true], []⟩ (fun _ => True) (fun tl r => StV (InL tl) r (.set ns)) := by
  intro mean mg mb dp un gd cn cs a ccd cl outer A₀ base h₀ L m news s Q E B F X N T hk hdp hu hpre hret
  walk_at "enterC"
  k_steps
  rename_i Lc _ _ _ _ _ _ _ _ _ _ _ _ D vs2 h5' _ hvs F2 N2 l2
  have hvl := hvs.length
  refine Hold.go (LCg.CompSrc.ledger (by rfl) (by k_asm) (by k_asm) (by k_mem) (by rw [PySem.sizeLine_eq, List.size_toArray]; omega) ?_)
  intro g2
  refine comp_inv (fun i ys nw => nw = _ ∧ IntsAre ys (ns.take i)) ⟨rfl, .nil⟩ ?_ ?_
  · intro i v ys nw J oJ C oC D' m₂ h tk E' hi' hv hI hC hx F1 N1 off ne
    obtain ⟨rfl, hys⟩ := hI
    obtain ⟨x, tx, rfl, hx0⟩ := StrsAre.at hvs i v (by simpa using hv)
    have hin : i < ns.length := by rw [← hn]; exact (List.getElem?_eq_some_iff.mp hx0).1
    have hC1 := hel i x _ hx0 (List.getElem?_eq_getElem hin)
    k_steps
    refine Hold.go (Ctr.use (hC1 tx) (by k_asm) (by k_asm) (by k_asm) (by k_asm) (by k_asm) (by first | exact rfl | assumption) (by ktr_room) (by ktr_units) trivial ?_)
    intro r9 tl9 h9 tk9 F9 N9 S9 P9
    obtain ⟨t9, e9⟩ := IntV.out P9
    subst e9
    replace N9 := cb_drop N9 (fun _ hp => List.mem_append_left _ (List.mem_cons_of_mem _ hp))
    k_steps
    refine Hold.go (compEnd_same (by assumption) (by assumption) off (Or.inr ⟨_, List.mem_cons_self, rfl, _, rfl⟩) ⟨rfl, ?_⟩)
    rw [List.take_add_one, List.getElem?_eq_getElem hin]
    exact IntsAre.append hys (.cons _ _ .nil)
  · rintro ys nw ⟨rfl, hys⟩
    rw [List.size_toArray, hvl, hn, List.take_length] at hys
    k_steps
    refine' hret _ _ _ _ (by assumption) (by assumption) (by assumption) ⟨_, _, _, rfl, ?hm1, hys⟩
    case hm1 => k_mem

set_option maxHeartbeats 0 in
theorem pe_set2 {w : World} (d : Str) (t : Tok) (ah : Bool) (ws : List Str) (ns : List Int) (h1 : (d == Str.ofString "*") = false) (h2 : (Txt.item d 0 == Str.ofString "{") = false) (h2b : (Txt.item d 0 == Str.ofString "<") = true) (h3 : (Txt.item d (-1) == Str.ofString ">") = true) (hlen : 1 ≤ d.length) (hlen2 : d.length ≤ 640)
    (hlen3 : (Txt.slice d (some 1) (some (-1))).length ≤ 640) (h5 : Txt.split (Txt.slice d (some 1) (some (-1))) (Str.ofString ";") = ws) (hn : ws.length = ns.length) (h6 : ws.length ≤ 5)
    (hel : ∀ (i : Nat) (x : Str) (n : Int), ws[i]? = some x → ns[i]? = some n → ∀ t, Ctr w 2 841 ⟨[.ref 852, .str x t, .bool ah], [(Str.ofString "allow_set", .bool false)]⟩ (fun _ => True) (fun _ r => IntV n r)) :
    Ctr w 4 841 ⟨[.ref 852, .str d t, .bool ah, .bool true], []⟩ (fun _ => True) (fun tl r => StV (InL tl) r (.set ns)) := by
  intro mean mg mb dp un gd cn cs a ccd cl outer A₀ base h₀ L m news s Q E B F X N T hk hdp hu hpre hret
  walk_at "enterC"
  k_steps
  rename_i Lc _ _ _ _ _ _ _ _ _ _ _ _ D vs2 h5' _ hvs F2 N2 l2
  have hvl := hvs.length
  refine Hold.go (LCg.CompSrc.ledger (by rfl) (by k_asm) (by k_asm) (by k_mem) (by rw [PySem.sizeLine_eq, List.size_toArray]; omega) ?_)
  intro g2
  refine comp_inv (fun i ys nw => nw = _ ∧ IntsAre ys (ns.take i)) ⟨rfl, .nil⟩ ?_ ?_
  · intro i v ys nw J oJ C oC D' m₂ h tk E' hi' hv hI hC hx F1 N1 off ne
    obtain ⟨rfl, hys⟩ := hI
    obtain ⟨x, tx, rfl, hx0⟩ := StrsAre.at hvs i v (by simpa using hv)
    have hin : i < ns.length := by rw [← hn]; exact (List.getElem?_eq_some_iff.mp hx0).1
    have hC1 := hel i x _ hx0 (List.getElem?_eq_getElem hin)
    k_steps
    refine Hold.go (Ctr.use (hC1 tx) (by k_asm) (by k_asm) (by k_asm) (by k_asm) (by k_asm) (by first | exact rfl | assumption) (by ktr_room) (by ktr_units) trivial ?_)
    intro r9 tl9 h9 tk9 F9 N9 S9 P9
    obtain ⟨t9, e9⟩ := IntV.out P9
    subst e9
    replace N9 := cb_drop N9 (fun _ hp => List.mem_append_left _ (List.mem_cons_of_mem _ hp))
    k_steps
    refine Hold.go (compEnd_same (by assumption) (by assumption) off (Or.inr ⟨_, List.mem_cons_self, rfl, _, rfl⟩) ⟨rfl, ?_⟩)
    rw [List.take_add_one, List.getElem?_eq_getElem hin]
    exact IntsAre.append hys (.cons _ _ .nil)
  · rintro ys nw ⟨rfl, hys⟩
    rw [List.size_toArray, hvl, hn, List.take_length] at hys
    k_steps
    refine' hret _ _ _ _ (by assumption) (by assumption) (by assumption) ⟨_, _, _, rfl, ?hm1, hys⟩
    case hm1 => k_mem
end
local macro_rules | `(tactic| walk_at "call builtin:isinstance") => `(tactic| (k_here; (with_reducible show wpAny _ _ (call _ [Value.ref _, Value.type "list"]) _ _ _); k_dflt (refine' isi_list ?k1 ?k2 ?_; (case k1 => k_asm); (case k2 => k_mem); k_whole)))
local macro_rules | `(tactic| walk_at "call builtin:len") => `(tactic| (k_here; (with_reducible show wpAny _ _ (call _ [Value.ref _]) _ _ _); k_dflt (refine' len_made (News.isList ?k1 ?k2) ?k3 ?_; (case k1 => k_asm); (case k2 => k_mem); (case k3 => omega); k_whole)))
section
theorem topP11 : True := by
  w_top off
  trivial
/-- what a value reads as, at a heap -/
def Rd (h : Heap) (v : Value) (d : Dat) : Prop := ∃ as, PySem.Reads h v (kqdP d) as
def Rds (h : Heap) (vs : List Value) (ds : List Dat) : Prop := ∃ as, PySem.ReadsAll h vs (kqdPs ds) as
def Stp.dat : Stp → Dat
  | .non => .none
  | .num n => .int n
  | .set l => .list (l.map .int)
theorem rd_none {h : Heap} : Rd h .none .none := ⟨_, .none⟩
theorem rd_int {h : Heap} {n : Int} {t : Tok} : Rd h (.int n t) (.int n) := ⟨_, .int n t⟩
theorem rds_ints {h : Heap} {vs : List Value} {ns : List Int} (hi : IntsAre vs ns) : Rds h vs (ns.map .int) := by
  induction hi with
  | nil => exact ⟨_, .nil⟩
  | cons n t _ ih =>
    obtain ⟨as, q⟩ := ih
    exact ⟨_, .cons (.int n t) q⟩
theorem rd_list {h : Heap} {l : Addr} {vs : List Value} {ds : List Dat} (hl : h.IsList l vs.toArray) (r : Rds h vs ds) : Rd h (.ref l) (.list ds) := by
  obtain ⟨o, e, hc, n, hd⟩ := hl
  obtain ⟨as, q⟩ := r
  exact ⟨_, reads_list_at e hc hd (by simpa using q)⟩
theorem isList_of {h : Heap} {l : Addr} {vs : List Value} {k : Nat} (e : h.get? l = some (W.listOf (List.toArray vs) k)) : h.IsList l vs.toArray := ⟨_, e, rfl, _, rfl⟩
theorem StV.rd {h : Heap} : ∀ {v : Value} {d : Stp}, StV (AtH h) v d → Rd h v d.dat
  | _, .non, e => by subst e; exact rd_none
  | _, .num _, ⟨_, e⟩ => by subst e; exact rd_int
  | _, .set _, ⟨_, _, _, e, hl, hi⟩ => by subst e; exact rd_list (isList_of hl) (rds_ints hi)
theorem StAll.rd {h : Heap} {vs : List Value} {ds : List Stp} (hs : StAll (AtH h) vs ds) : Rds h vs (ds.map Stp.dat) := by
  induction hs with
  | nil => exact ⟨_, .nil⟩
  | cons a _ ih =>
    obtain ⟨as, q⟩ := ih
    obtain ⟨bs, p⟩ := a.rd
    exact ⟨_, .cons p q⟩
theorem ok_ints (n : Nat) (ns : List Int) : ∀ d ∈ ns.map Dat.int, kqdOk n d = true := fun d hd => by
  obtain ⟨k, _, rfl⟩ := List.mem_map.mp hd
  cases n <;> rfl
theorem ok_dat (n : Nat) : ∀ d : Stp, kqdOk (n + 1) d.dat = true
  | .non => rfl
  | .num _ => rfl
  | .set l => by
    show (l.map Dat.int).all (kqdOk n) = true
    exact List.all_eq_true.mpr (ok_ints n l)
theorem ok_dats (n : Nat) (ds : List Stp) : ∀ d ∈ ds.map Stp.dat, kqdOk (n + 1) d = true := fun d hd => by
  obtain ⟨k, _, rfl⟩ := List.mem_map.mp hd
  exact ok_dat n k
theorem ok_list {n : Nat} {ds : List Dat} (h : ∀ d ∈ ds, kqdOk n d = true) : kqdOk (n + 1) (.list ds) = true := List.all_eq_true.mpr h
theorem ok_tuple {n : Nat} {ds : List Dat} (h : ∀ d ∈ ds, kqdOk n d = true) : kqdOk (n + 1) (.tuple ds) = true := List.all_eq_true.mpr h
theorem shaped_ok {d : Dat} (h : kqdOk 9 d = true) : SeqAt.shaped (kqdP d) = true := by
  have l := kqd_lay 9 d h
  unfold SeqAt.shaped
  rw [l.1, Bool.true_and]
  exact decide_eq_true (Nat.le_trans l.2 (by decide))
section
variable {prog : Program} {w : World} {A : Around} {E : Value → Shared → Prop} {s : Shared} {a b : Value} {da db : Dat} {Q : Value → Shared → Prop}
theorem eq_rd (c : Bool) (ra : Rd s.heap a da) (rb : Rd s.heap b db) (oa : kqdOk 9 da = true) (ob : kqdOk 9 db = true) (hc : c = true ↔ da = db) (hu : A.units + 64 < cLine) (h : Q (.bool c) s) : wpAny (model prog w) A (compareOp .Eq a b) Q E s := by
  obtain ⟨as, ra⟩ := ra
  obtain ⟨bs, rb⟩ := rb
  have e : PyData.eqv (kqdP da) (kqdP db) = c := Bool.eq_iff_iff.mpr ((kqd_eqv 9 da db 9 oa ob).trans hc.symm)
  exact eq_dataH ra rb (shaped_ok oa) (shaped_ok ob) hu (by rw [e]; exact h)
theorem ne_rd (c : Bool) (ra : Rd s.heap a da) (rb : Rd s.heap b db) (oa : kqdOk 9 da = true) (ob : kqdOk 9 db = true) (hc : c = true ↔ da = db) (hu : A.units + 64 < cLine) (h : Q (.bool (!c)) s) : wpAny (model prog w) A (compareOp .NotEq a b) Q E s := by
  obtain ⟨as, ra⟩ := ra
  obtain ⟨bs, rb⟩ := rb
  have e : PyData.eqv (kqdP da) (kqdP db) = c := Bool.eq_iff_iff.mpr ((kqd_eqv 9 da db 9 oa ob).trans hc.symm)
  exact ne_dataH ra rb (shaped_ok oa) (shaped_ok ob) hu (by rw [e]; exact h)
theorem any_is {ds : List Dat} {c : Bool} (hc : c = true ↔ db ∈ ds) (oa : ∀ e ∈ ds, kqdOk 8 e = true) (ob : kqdOk 8 db = true) : ((kqdPs ds).any fun y => PyData.eqv y (kqdP db)) = c :=
  Bool.eq_iff_iff.mpr ((kqd_any ds db oa ob).trans hc.symm)
theorem in_rd (c : Bool) {l : Addr} {vs : List Value} {ds : List Dat} (hl : s.heap.IsList l vs.toArray) (ra : Rds s.heap vs ds) (rb : Rd s.heap b db) (oa : ∀ e ∈ ds, kqdOk 8 e = true) (ob : kqdOk 8 db = true) (hc : c = true ↔ db ∈ ds) (hu : A.units + 64 < cLine) (h : Q (.bool c) s) : wpAny (model prog w) A (compareOp .In b (.ref l)) Q E s := by
  obtain ⟨as, r⟩ := rd_list hl ra
  obtain ⟨bs, rb⟩ := rb
  rw [kqdP] at r
  have l := kqd_layL oa
  have ld := kqd_lay 8 db ob
  refine SeqAt.in_list_reads r rb l.1 ld.1 ?_ (by rw [any_is hc oa ob]; exact h)
  have := Nat.min_le_right (PyData.depthAll (kqdPs ds)) (kqdP db).depth
  have l2 := ld.2
  omega
theorem notIn_rd (c : Bool) {l : Addr} {vs : List Value} {ds : List Dat} (hl : s.heap.IsList l vs.toArray) (ra : Rds s.heap vs ds) (rb : Rd s.heap b db) (oa : ∀ e ∈ ds, kqdOk 8 e = true) (ob : kqdOk 8 db = true) (hc : c = true ↔ db ∈ ds) (hu : A.units + 64 < cLine) (h : Q (.bool (!c)) s) : wpAny (model prog w) A (compareOp .NotIn b (.ref l)) Q E s := by
  obtain ⟨as, r⟩ := rd_list hl ra
  obtain ⟨bs, rb⟩ := rb
  rw [kqdP] at r
  have l := kqd_layL oa
  have ld := kqd_lay 8 db ob
  refine SeqAt.notIn_list_reads r rb l.1 ld.1 ?_ (by rw [any_is hc oa ob]; exact h)
  have := Nat.min_le_right (PyData.depthAll (kqdPs ds)) (kqdP db).depth
  have l2 := ld.2
  omega
end
theorem none_not_ints {ls : List Int} : (false = true) ↔ Dat.none ∈ ls.map Dat.int := ⟨fun h => (nomatch h), fun h => by obtain ⟨_, _, e⟩ := List.mem_map.mp h; cases e⟩
theorem news_at {h₀ : Heap} {L : Addr} {h : Heap} {news nw : List (Addr × Obj)} (N : News h₀ L h news) (hs : ∀ p ∈ nw, p ∈ news) : ∀ a o, InL nw a o → AtH h a o := fun _ _ e => (N _ (hs _ e)).1
end
section
theorem topP10 : True := by
  w_top off
  trivial
set_option maxHeartbeats 0 in
theorem mk_obj {w : World} {mean : ExcName → Option Value} {mg mb : Str → Option Value} {dp un : Nat} {gd : Option (List Code)} {cn : Str} {cs : Scope} {a : Addr} {ccd : Value} {cl : List (Str × Addr)} {outer : List Env} {A₀ : Around} {base h₀ : Heap} {L : Addr} {m : Str → Option Value} {news : List (Addr × Obj)} {s : Shared} {Q E : Value → Shared → Prop}
    (B : Below A₀ base outer h₀) (F : Fr h₀ L s.heap m) (X : (hd.heap_39 w.params).In h₀) (N : News h₀ L s.heap news) (T : Top topProg LS mean mg mb h₀) (hk : cs.kind = .function)
    (hdp : dp + 3 < recursionLimit) (hu : un + 8 * 12 < cLine) (l : Addr) (vs : List Value) (k : Nat) (ds : List Stp) (hl : (l, W.listOf (List.toArray vs) k) ∈ news) (hst : StAll (InL news) vs ds) (hW : WF ds)
    (hret : ∀ x dx t h' tk', Fr h₀ L h' m → News h₀ L h' ((x, instObj 852 dx) :: (dx, dictOf [⟨PyData.keyHash w.params (Str.ofString "indexes"), .str (Str.ofString "indexes") t, .ref l⟩] 1) :: news) → (∀ p ∈ news, p.1 < dx) → dx < x → Q (.ref x) { s with heap := h', toks := tk' }) :
    wpAny (model PR w) (ktrTop dp un gd cn cs L a ccd cl outer) (call (.ref 852) [.ref l] []) Q E s := by
  k_dflt (refine' call_cls F X N ?k4 ?k5 ?k6 ?_; (case k4 => k_is); (case k5 => k_is); (case k6 => k_is))
  intro x dx h1 F1 N1 l1 l2
  have l2' : @LT.lt Nat _ dx x := l2
  walk_at "enterD"
  k_steps
  have hvl := hst.length
  have h5 := hW.len
  refine Hold.go (LCt.CompSrcT.ledger (by rfl) (by k_asm) (by k_asm) (List.mem_cons_of_mem _ (List.mem_cons_of_mem _ hl)) (by rw [PySem.sizeLine_eq, List.size_toArray]; omega) ?_)
  intro g2
  refine comp_invT (fun i ys nw => nw = _ ∧ ys.length = (ds.take i).countP Stp.isNon) ⟨rfl, rfl⟩ ?_ ?_
  · intro i v ys nw J oJ C oC D' m₂ h tk E' hi' hv hI hC hx F1 N1 off ne
    obtain ⟨rfl, hys⟩ := hI
    obtain ⟨d, hd, hS⟩ := hst.get (show vs[i]? = some v by simpa using hv)
    have hcnt : (ds.take (i + 1)).countP Stp.isNon = (ds.take i).countP Stp.isNon + (if d.isNon then 1 else 0) := by
      rw [List.take_add_one, hd, List.countP_append]; simp [List.countP_cons]
    cases d with
    | non =>
      obtain rfl : v = Value.none := hS
      k_steps
      refine Hold.go (compEnd_same (by assumption) (by assumption) off (Or.inr ⟨_, List.mem_cons_of_mem _ (List.mem_cons_of_mem _ hl), rfl, _, rfl⟩) ⟨rfl, ?_⟩)
      rw [hcnt]; simp [hys, Stp.isNon]
    | num n =>
      obtain ⟨tn, rfl⟩ := hS
      k_steps
      refine Hold.go (compEnd_same (by assumption) (by assumption) off (Or.inr ⟨_, List.mem_cons_of_mem _ (List.mem_cons_of_mem _ hl), rfl, _, rfl⟩) ⟨rfl, ?_⟩)
      rw [hcnt]; simp [hys, Stp.isNon]
    | set ls =>
      obtain ⟨b, bs, kb, rfl, hb, hbi⟩ := hS
      have hb' : (b, W.listOf (List.toArray bs) kb) ∈ news := hb
      k_steps
      refine in_rd false (News.isList (by k_asm) (by k_mem)) (rds_ints hbi) rd_none (ok_ints 8 _) rfl none_not_ints (by ktr_units) ?_
      k_steps
      refine Hold.go (compEnd_same (by assumption) (by assumption) off (Or.inr ⟨_, List.mem_cons_of_mem _ (List.mem_cons_of_mem _ hl), rfl, _, rfl⟩) ⟨rfl, ?_⟩)
      rw [hcnt]; simp [hys, Stp.isNon]
  · rintro ys nw ⟨rfl, hys⟩
    have hy1 := hW.non
    rw [List.size_toArray, hvl, List.take_length] at hys
    k_steps
    refine Hold.go (LCt.CompSrcT.ledger (by rfl) (by k_asm) (by k_asm) (List.mem_cons_of_mem _ (List.mem_cons_of_mem _ (List.mem_cons_of_mem _ hl))) (by rw [PySem.sizeLine_eq, List.size_toArray]; omega) ?_)
    intro g3
    refine comp_invT (fun i ys nw => nw = _ ∧ ys.length = (ds.take i).countP Stp.isSet) ⟨rfl, rfl⟩ ?_ ?_
    · intro i v ys2 nw J oJ C oC D' m₂ h tk E' hi' hv hI hC hx F1 N1 off ne
      obtain ⟨rfl, hys2⟩ := hI
      obtain ⟨d, hd, hS⟩ := hst.get (show vs[i]? = some v by simpa using hv)
      have hcnt : (ds.take (i + 1)).countP Stp.isSet = (ds.take i).countP Stp.isSet + (if d.isSet then 1 else 0) := by
        rw [List.take_add_one, hd, List.countP_append]; simp [List.countP_cons]
      cases d with
      | non =>
        obtain rfl : v = Value.none := hS
        k_steps
        refine Hold.go (compEnd_same (by assumption) (by assumption) off (Or.inr ⟨_, List.mem_cons_of_mem _ (List.mem_cons_of_mem _ (List.mem_cons_of_mem _ hl)), rfl, _, rfl⟩) ⟨rfl, ?_⟩)
        rw [hcnt]; simp [hys2, Stp.isSet]
      | num n =>
        obtain ⟨tn, rfl⟩ := hS
        k_steps
        refine Hold.go (compEnd_same (by assumption) (by assumption) off (Or.inr ⟨_, List.mem_cons_of_mem _ (List.mem_cons_of_mem _ (List.mem_cons_of_mem _ hl)), rfl, _, rfl⟩) ⟨rfl, ?_⟩)
        rw [hcnt]; simp [hys2, Stp.isSet]
      | set ls =>
        obtain ⟨b, bs, kb, rfl, hb, hbi⟩ := hS
        have hb' : (b, W.listOf (List.toArray bs) kb) ∈ news := hb
        k_steps
        refine Hold.go (compEnd_same (by assumption) (by assumption) off (Or.inr ⟨_, List.mem_cons_of_mem _ (List.mem_cons_of_mem _ (List.mem_cons_of_mem _ hl)), rfl, _, rfl⟩) ⟨rfl, ?_⟩)
        rw [hcnt]; simp [hys2, Stp.isSet]
    · rintro ys2 nw ⟨rfl, hys2⟩
      have hy2 := hW.sets
      rw [List.size_toArray, hvl, List.take_length] at hys2
      k_steps
      rename Fr h₀ L _ m => kF
      rename News h₀ L _ _ => kN
      have kN2 := cb_drop (news := _ :: _ :: news) kN (List.forall_mem_cons.mpr ⟨.tail _ (.tail _ (.head _)), List.forall_mem_cons.mpr ⟨.tail _ (.tail _ (.tail _ (.head _))), fun p hp => .tail _ (.tail _ (.tail _ (.tail _ hp)))⟩⟩)
      exact hret _ _ _ _ _ kF kN2 l1 l2
end
section
theorem topP12 : True := by
  w_top off
  trivial
/-- an object of the class, with its list of steps -/
def ObjL (P : Addr → Obj → Prop) (w : World) (r : Value) (ds : List Stp) : Prop := ∃ x dx t l vs k, r = .ref x ∧ P x (instObj 852 dx) ∧ P dx (dictOf [⟨PyData.keyHash w.params (Str.ofString "indexes"), .str (Str.ofString "indexes") t, .ref l⟩] 1) ∧ P l (W.listOf (List.toArray vs) k) ∧ StAll P vs ds
def fsArgs (x : Str) (t : Tok) (ah : Bool) (args : Args) : Prop := (ah = true ∧ args = ⟨[.ref 852, .str x t], [(Str.ofString "allow_hardened", .bool true)]⟩) ∨ (ah = false ∧ args = ⟨[.ref 852, .str x t], []⟩)
set_option maxHeartbeats 0 in
theorem from_string {w : World} (x : Str) (t : Tok) (ah : Bool) (args : Args) (ha : fsArgs x t ah args) (ws : List Str) (ds : List Stp) (hx : 1 ≤ x.length) (hx2 : x.length ≤ 640) (hsp : Txt.split x (Str.ofString "/") = ws) (hn : ws.length = ds.length) (hW : WF ds)
    (hel : ∀ (i : Nat) (y : Str) (d : Stp), ws[i]? = some y → ds[i]? = some d → ∀ t, Ctr w 4 841 ⟨[.ref 852, .str y t, .bool ah, .bool true], []⟩ (fun _ => True) (fun tl r => StV (InL tl) r d)) :
    Ctr w 16 832 args (fun _ => True) (fun tl r => ObjL (InL tl) w r ds) := by
  intro mean mg mb dp un gd cn cs a ccd cl outer A₀ base h₀ L m news s Q E B F X N T hk hdp hu hpre hret
  have h5 := hW.len
  rcases ha with ⟨rfl, rfl⟩ | ⟨rfl, rfl⟩
  all_goals (walk_at "enterC"; k_steps)
  any_goals (exfalso; omega)
  all_goals
    rename_i D vs2 _ _ hvs _ _ _
    have hvl := hvs.length
    refine Hold.go (LCg.CompSrc.ledger (by rfl) (by k_asm) (by k_asm) (by k_mem) (by rw [PySem.sizeLine_eq, List.size_toArray]; omega) ?_)
    intro g2
    refine comp_inv (fun i ys nw => (∃ ex, nw = _ ++ ex) ∧ StAll (InL nw) ys (ds.take i)) ⟨⟨[], (List.append_nil _).symm⟩, .nil⟩ ?_ ?_
    · intro i v ys nw J oJ C oC D' m₂ h tk E' hi' hv hI hC hx F1 N1 off ne
      obtain ⟨⟨ex, rfl⟩, hys⟩ := hI
      simp only [List.cons_append, List.nil_append] at N1 off hys ⊢
      obtain ⟨y, ty, rfl, hy0⟩ := StrsAre.at hvs i v (by simpa using hv)
      have hin : i < ds.length := by rw [← hn]; exact (List.getElem?_eq_some_iff.mp hy0).1
      have hC1 := hel i y _ hy0 (List.getElem?_eq_getElem hin) ty
      k_steps
      refine Hold.go (Ctr.use hC1 (by k_asm) (by k_asm) (by k_asm) (by k_asm) (by k_asm) (by first | exact rfl | assumption) (by ktr_room) (by ktr_units) trivial ?_)
      intro r9 tl9 h9 tk9 F9 N9 S9 P9
      have N8 := cb_drop (news := ((J, oJ) :: (C, oC) :: (D', LCg.lst ys) :: _) ++ tl9) N9 (fun _ hp => List.mem_cons_of_mem _ hp)
      refine compEnd_more F9 N8 off (fun q hq p hp => S9 q (List.mem_cons_of_mem _ hq) p hp) (Or.inr ⟨_, List.mem_cons_self, rfl, _, rfl⟩) ⟨⟨ex ++ tl9, by simp⟩, ?_⟩
      rw [List.take_add_one, List.getElem?_eq_getElem hin]
      exact StAll.append (hys.mono fun _ _ hp => List.mem_append_left _ hp) (.one (P9.mono fun _ _ hp => List.mem_append_right _ hp))
    · rintro ys nw ⟨⟨ex, rfl⟩, hys⟩
      rw [List.size_toArray, hvl, hn, List.take_length] at hys
      simp only [List.cons_append, List.nil_append] at hys ⊢
      have hyl := hys.length
      k_steps
      refine Hold.go (mk_obj (by k_asm) (by k_asm) (by k_asm) (by k_asm) (by k_asm) (by first | exact rfl | assumption) (by ktr_room) (by ktr_units) _ ys _ ds (List.mem_cons_self) (hys.mono fun _ _ hp => List.mem_cons_of_mem _ hp) hW ?_)
      intro x dx tx h9 tk9 F9 N9 l9 l8
      k_steps
      refine hret _ _ _ _ (by assumption) (by assumption) (by assumption) ⟨x, dx, tx, _, ys, _, rfl, List.mem_cons_self, List.mem_cons_of_mem _ List.mem_cons_self, List.mem_cons_of_mem _ (List.mem_cons_of_mem _ List.mem_cons_self), hys.mono fun _ _ hp => List.mem_cons_of_mem _ (List.mem_cons_of_mem _ (List.mem_cons_of_mem _ hp))⟩
end
section
theorem topP13 : True := by
  w_top off
  trivial
/-- an object of the class at a heap -/
def ObjH (w : World) (h : Heap) (x dx : Addr) (t : Tok) (l : Addr) (vs : List Value) (k : Nat) (ds : List Stp) : Prop :=
  h.get? x = some (instObj 852 dx) ∧ h.get? dx = some (dictOf [⟨PyData.keyHash w.params (Str.ofString "indexes"), .str (Str.ofString "indexes") t, .ref l⟩] 1) ∧ h.get? l = some (W.listOf (List.toArray vs) k) ∧ StAll (AtH h) vs ds
theorem inst_base {h₀ h : Heap} {L x dx C : Addr} {m : Str → Option Value} {od : Obj} (F : Fr h₀ L h m) (hx : h₀.get? x = some (instObj C dx)) (hd : h₀.get? dx = some od) : InstAt h x (instObj C dx) C (some od) := ⟨F.keep _ _ hx, rfl, rfl, F.keep _ _ hd⟩
theorem ath_keep {h₀ h : Heap} {L : Addr} {m : Str → Option Value} (F : Fr h₀ L h m) {vs : List Value} {ds : List Stp} (hs : StAll (AtH h₀) vs ds) : StAll (AtH h) vs ds := hs.mono fun a o e => F.keep a o e
local macro_rules | `(tactic| k_inst) => `(tactic| (refine' inst_base ?N ?h1 ?h2; (case N => k_asm); (case h1 => with_reducible assumption); (case h2 => with_reducible assumption)))
theorem non_mem {ds : List Stp} {c : Bool} (hc : ds.any Stp.isNon = c) : c = true ↔ Dat.none ∈ ds.map Stp.dat := by
  subst hc
  simp only [List.any_eq_true, List.mem_map]
  constructor
  · rintro ⟨d, hd, e⟩
    refine ⟨d, hd, ?_⟩
    cases d with
    | non => rfl
    | num _ => cases e
    | set _ => cases e
  · rintro ⟨d, hd, e⟩
    refine ⟨d, hd, ?_⟩
    cases d with
    | non => rfl
    | num _ => cases e
    | set _ => cases e
set_option maxHeartbeats 0 in
theorem is_wildcard {w : World} (x dx : Addr) (t : Tok) (l : Addr) (vs : List Value) (k : Nat) (ds : List Stp) (c : Bool) (hc : ds.any Stp.isNon = c) :
    Ctr w 10 781 ⟨[.ref x], []⟩ (fun h => ObjH w h x dx t l vs k ds) (fun _ r => r = .bool c) := by
  intro mean mg mb dp un gd cn cs a ccd cl outer A₀ base h₀ L m news s Q E B F X N T hk hdp hu hpre hret
  obtain ⟨hx, hdx, hl, hst⟩ := hpre
  walk_at "enterP"
  k_steps
  refine in_rd c (isList_of (Fr.keep (by k_asm) _ _ hl)) (ath_keep (by k_asm) hst).rd rd_none (ok_dats 7 ds) rfl (non_mem hc) (by ktr_units) ?_
  k_steps
  exact hret _ _ _ _ (by assumption) (by assumption) (by assumption) rfl
def Stp.hard : Stp → Bool
  | .non => false
  | .num n => decide (2147483648 ≤ n)
  | .set l => l.any fun n => decide (2147483648 ≤ n)
theorem any_hard {ds : List Stp} {i : Nat} {d : Stp} (hd : ds[i]? = some d) (h : d.hard = true) : ds.any Stp.hard = true := List.any_eq_true.mpr ⟨d, List.mem_of_getElem? hd, h⟩
set_option maxHeartbeats 0 in
theorem has_hardend {w : World} (x dx : Addr) (t : Tok) (l : Addr) (vs : List Value) (k : Nat) (ds : List Stp) (hW : WF ds) (c : Bool) (hc : ds.any Stp.hard = c) :
    Ctr w 10 825 ⟨[.ref x], []⟩ (fun h => ObjH w h x dx t l vs k ds) (fun _ r => r = .bool c) := by
  intro mean mg mb dp un gd cn cs a ccd cl outer A₀ base h₀ L m news s Q E B F X N T hk hdp hu hpre hret
  obtain ⟨hx, hdx, hl, hst⟩ := hpre
  walk_at "enterP"
  k_steps
  rename Fr _ _ _ _ => F2
  rename News _ _ _ _ => N2
  refine Hold.go (for_frame [] (fun i _ nx => nx = [] ∧ (ds.take i).any Stp.hard = false) (by rfl) (isList_of hl) F2 N2 ⟨rfl, rfl⟩ ?_ ?_)
  · rintro i v u nx h tk own hv hoff ⟨rfl, hws⟩ F3 N3
    simp only [List.nil_append] at N3
    obtain ⟨d, hd, hS⟩ := hst.get hv
    have hdk : d.ok := hW.ok d (List.mem_of_getElem? hd)
    have hnext : (ds.take (i + 1)).any Stp.hard = d.hard := by
      rw [List.take_add_one, hd]; simp [hws]
    cases d with
    | non =>
      obtain rfl : v = Value.none := hS
      k_steps
      exact Hold.go (turn_end (by assumption) (by assumption) _ (fun p hp => hp) (by assumption) ⟨⟨rfl, hnext⟩, fun z h1 h2 => by rw [if_neg h1, if_neg (by rw [h2]; exact Bool.false_ne_true)]⟩)
    | num n =>
      obtain ⟨tn, rfl⟩ := hS
      k_steps
      · refine hret _ _ _ _ (by assumption) (by assumption) (by assumption) ?_
        rw [← hc, any_hard hd (decide_eq_true (by omega))]
      · exact Hold.go (turn_end (by assumption) (by assumption) _ (fun p hp => hp) (by assumption) ⟨⟨rfl, hnext.trans (decide_eq_false (by omega))⟩, fun z h1 h2 => by rw [if_neg h1, if_neg (by rw [h2]; exact Bool.false_ne_true)]⟩)
    | set ls =>
      obtain ⟨b, bs, kb, rfl, hb, hbi⟩ := hS
      have hbl : s.heap.IsList b bs.toArray := ⟨_, hb, rfl, _, rfl⟩
      have hb3 := hbi.length
      have hl3 := hdk.1
      k_steps
      refine Hold.go (LCt.CompSrcT.base (by rfl) (by k_asm) (by k_asm) hbl (by rw [PySem.sizeLine_eq, List.size_toArray]; omega) ?_)
      intro g2
      refine comp_invT (fun i ys nw => nw = _ ∧ ys.length = (ls.take i).countP fun n => decide (2147483648 ≤ n)) ⟨rfl, rfl⟩ ?_ ?_
      · intro i v ys nw J oJ C oC D' m₂ h tk E' hi' hv hI hC hx F1 N1 off ne
        obtain ⟨rfl, hys⟩ := hI
        obtain ⟨k0, t0, rfl, hk0⟩ := IntsAre.at hbi i v (by simpa using hv)
        have hcnt : (ls.take (i + 1)).countP (fun n => decide (2147483648 ≤ n)) = (ls.take i).countP (fun n => decide (2147483648 ≤ n)) + (if 2147483648 ≤ k0 then 1 else 0) := by
          rw [List.take_add_one, hk0, List.countP_append]; simp [List.countP_cons]
        k_steps
        · refine Hold.go (compEnd_same (by assumption) (by assumption) off (Or.inl hbl) ⟨rfl, ?_⟩)
          rw [hcnt, if_pos (by omega)]; simp [hys]
        · refine Hold.go (compEnd_same (by assumption) (by assumption) off (Or.inl hbl) ⟨rfl, ?_⟩)
          rw [hcnt, if_neg (by omega)]; simp [hys]
      · rintro ys nw ⟨rfl, hys⟩
        rw [List.size_toArray, hb3, List.take_length] at hys
        have hcl := List.countP_le_length (p := fun n => decide ((2147483648 : Int) ≤ n)) (l := ls)
        k_steps
        · refine hret _ _ _ _ (by assumption) (by assumption) (by assumption) ?_
          have hp : 0 < ls.countP fun n => decide ((2147483648 : Int) ≤ n) := by omega
          obtain ⟨n, hn1, hn2⟩ := List.countP_pos_iff.mp hp
          rw [← hc, any_hard hd (List.any_eq_true.mpr ⟨n, hn1, hn2⟩)]
        · have hz : ls.countP (fun n => decide ((2147483648 : Int) ≤ n)) = 0 := by omega
          exact Hold.go (turn_end (by assumption) (by assumption) [] (fun p hp => List.mem_cons_of_mem _ hp) (by assumption) ⟨⟨rfl, hnext.trans (List.any_eq_false.mpr fun n hn => List.countP_eq_zero.mp hz n hn)⟩, fun z h1 h2 => by rw [if_neg h1, if_neg (by rw [h2]; exact Bool.false_ne_true)]⟩)
  · rintro u nx h tk ⟨rfl, hws⟩ F3 N3
    rw [List.take_of_length_le (by rw [hst.length]; exact Nat.le_refl _)] at hws
    k_steps
    refine hret _ _ _ _ (by assumption) (by assumption) (by assumption) ?_
    rw [← hc, hws]
end
section
theorem topP14 : True := by
  w_top off
  trivial
local macro_rules | `(tactic| k_inst) => `(tactic| (refine' inst_base ?N ?h1 ?h2; (case N => k_asm); (case h1 => with_reducible assumption); (case h2 => with_reducible assumption)))
set_option maxHeartbeats 0 in
theorem branches {w : World} (x dx : Addr) (t : Tok) (l : Addr) (vs : List Value) (k : Nat) (ds : List Stp) (hW : WF ds) :
    Ctr w 10 819 ⟨[.ref x], []⟩ (fun h => ObjH w h x dx t l vs k ds) (fun _ r => (∃ (i : Nat) (ls : List Int), ds[i]? = some (.set ls) ∧ vs[i]? = some r) ∨ (ds.any Stp.isSet = false ∧ r = .none)) := by
  intro mean mg mb dp un gd cn cs a ccd cl outer A₀ base h₀ L m news s Q E B F X N T hk hdp hu hpre hret
  obtain ⟨hx, hdx, hl, hst⟩ := hpre
  walk_at "enterP"
  k_steps
  rename Fr _ _ _ _ => F2
  rename News _ _ _ _ => N2
  refine Hold.go (for_frame [] (fun i _ nx => nx = [] ∧ (ds.take i).any Stp.isSet = false) (by rfl) (isList_of hl) F2 N2 ⟨rfl, rfl⟩ ?_ ?_)
  · rintro i v u nx h tk own hv hoff ⟨rfl, hws⟩ F3 N3
    simp only [List.nil_append] at N3
    obtain ⟨d, hd, hS⟩ := hst.get hv
    have hnext : (ds.take (i + 1)).any Stp.isSet = d.isSet := by
      rw [List.take_add_one, hd]; simp [hws]
    cases d with
    | non =>
      obtain rfl : v = Value.none := hS
      k_steps
      exact Hold.go (turn_end (by assumption) (by assumption) _ (fun p hp => hp) (by assumption) ⟨⟨rfl, hnext⟩, fun z h1 h2 => by rw [if_neg h1, if_neg (by rw [h2]; exact Bool.false_ne_true)]⟩)
    | num n =>
      obtain ⟨tn, rfl⟩ := hS
      k_steps
      exact Hold.go (turn_end (by assumption) (by assumption) _ (fun p hp => hp) (by assumption) ⟨⟨rfl, hnext⟩, fun z h1 h2 => by rw [if_neg h1, if_neg (by rw [h2]; exact Bool.false_ne_true)]⟩)
    | set ls =>
      obtain ⟨b, bs, kb, rfl, hb, hbi⟩ := hS
      have hbl : s.heap.IsList b bs.toArray := ⟨_, hb, rfl, _, rfl⟩
      k_steps
      exact hret _ _ _ _ (by assumption) (by assumption) (by assumption) (Or.inl ⟨i, ls, hd, hv⟩)
  · rintro u nx h tk ⟨rfl, hws⟩ F3 N3
    rw [List.take_of_length_le (by rw [hst.length]; exact Nat.le_refl _)] at hws
    k_steps
    exact hret _ _ _ _ (by assumption) (by assumption) (by assumption) (Or.inr ⟨hws, rfl⟩)
/-! ## str(told) -/
def StrO : Option Value → Str → Prop
  | some v, x => StrV x v
  | none, _ => False
theorem StrO.out : ∀ {o : Option Value} {x : Str}, StrO o x → ∃ t, o = some (.str x t)
  | some _, _, h => by
    obtain ⟨t, e⟩ := StrV.out h
    exact ⟨t, by rw [e]⟩
def strStep (r : Str) : Stp → Str
  | .non => r ++ Str.ofString "/*"
  | .num n => if 2147483648 ≤ n then r ++ (Str.ofString "/" ++ Str.ofString (toString (n - 2147483648)) ++ Str.ofString "h") else r ++ (Str.ofString "/" ++ Str.ofString (toString n))
  | .set l => r ++ Str.ofString "/<" ++ Str.join (Str.ofString ";") (l.map (word 0)) ++ Str.ofString ">"
def strText (ds : List Stp) : Str := ds.foldl strStep (Str.ofString "")
theorem lit2_len : (Str.ofString "/*").length = 2 ∧ (Str.ofString "/<").length = 2 ∧ (Str.ofString "h").length = 1 := by decide
theorem strStep_len (r : Str) {d : Stp} (h : d.ok) : (strStep r d).length ≤ r.length + 64 := by
  obtain ⟨a1, a2, a3, a4, a5, a6, a7, a8⟩ := lit1_len
  obtain ⟨c1, c2, c3⟩ := lit2_len
  cases d with
  | non =>
    show (r ++ Str.ofString "/*").length ≤ _
    rw [Str.length_append]; omega
  | num n =>
    obtain ⟨g0, g1⟩ := h
    show (if 2147483648 ≤ n then _ else _ : Str).length ≤ _
    split
    · have := num_len (n := n - 2147483648) (by omega) (by omega)
      rw [Str.length_append, Str.length_append, Str.length_append]; omega
    · have := num_len (n := n) (by omega) (by omega)
      rw [Str.length_append, Str.length_append]; omega
  | set l =>
    obtain ⟨b1, b2, b3⟩ := join_short 0 h.1 h.2
    show (r ++ Str.ofString "/<" ++ Str.join (Str.ofString ";") (l.map (word 0)) ++ Str.ofString ">").length ≤ _
    rw [Str.length_append, Str.length_append, Str.length_append]; omega
set_option maxHeartbeats 0 in
theorem str_ {w : World} (x dx : Addr) (t : Tok) (l : Addr) (vs : List Value) (k : Nat) (ds : List Stp) (hW : WF ds) :
    Ctr w 10 849 ⟨[.ref x], []⟩ (fun h => ObjH w h x dx t l vs k ds) (fun _ r => StrV (strText ds) r) := by
  intro mean mg mb dp un gd cn cs a ccd cl outer A₀ base h₀ L m news s Q E B F X N T hk hdp hu hpre hret
  obtain ⟨hx, hdx, hl, hst⟩ := hpre
  walk_at "enterP"
  k_steps
  rename Fr _ _ _ _ => F2
  rename News _ _ _ _ => N2
  refine Hold.go (for_frame [Str.ofString "r"] (fun i u nx => nx = [] ∧ StrO (u (Str.ofString "r")) (strText (ds.take i)) ∧ (strText (ds.take i)).length ≤ 64 * i) (by rfl) (isList_of hl) F2 N2 ⟨rfl, rfl, Nat.le_refl _⟩ ?_ ?_)
  · rintro i v u nx h tk own hv hoff ⟨rfl, hr, hrl⟩ F3 N3
    obtain ⟨tr, hr⟩ := hr.out
    simp only [List.nil_append] at N3
    simp only [fr_known hr] at F3
    obtain ⟨d, hd, hS⟩ := hst.get hv
    have hdk : d.ok := hW.ok d (List.mem_of_getElem? hd)
    have hi5 : i < 5 := Nat.lt_of_lt_of_le (List.getElem?_eq_some_iff.mp hd).1 hW.len
    have hnext : strText (ds.take (i + 1)) = strStep (strText (ds.take i)) d := by
      rw [List.take_add_one, hd]; simp [strText, List.foldl_append]
    have hlen : (strText (ds.take (i + 1))).length ≤ 64 * (i + 1) := by
      rw [hnext]
      exact Nat.le_trans (strStep_len _ hdk) (by omega)
    cases d with
    | non =>
      obtain rfl : v = Value.none := hS
      k_steps
      refine Hold.go (turn_end (by assumption) (by assumption) [] (fun p hp => hp) (by assumption) ⟨⟨rfl, ?_, ?_⟩, fun z h1 h2 => ?_⟩)
      · rw [hnext, strStep]; exact rfl
      · exact hlen
      · simp only [if_neg h1, if_neg (not_in_one h2)]; exact if_neg Bool.false_ne_true
    | num n =>
      obtain ⟨tn, rfl⟩ := hS
      obtain ⟨g0, g1⟩ := hdk
      k_steps
      · have hs : strStep (strText (ds.take i)) (.num n) = _ := if_pos (by omega)
        refine Hold.go (turn_end (by assumption) (by assumption) [] (fun p hp => hp) (by assumption) ⟨⟨rfl, ?_, ?_⟩, fun z h1 h2 => ?_⟩)
        · rw [hnext, hs]; exact rfl
        · exact hlen
        · simp only [if_neg h1, if_neg (not_in_one h2)]; exact if_neg Bool.false_ne_true
      · have hs : strStep (strText (ds.take i)) (.num n) = _ := if_neg (by omega)
        refine Hold.go (turn_end (by assumption) (by assumption) [] (fun p hp => hp) (by assumption) ⟨⟨rfl, ?_, ?_⟩, fun z h1 h2 => ?_⟩)
        · rw [hnext, hs]; exact rfl
        · exact hlen
        · simp only [if_neg h1, if_neg (not_in_one h2)]; exact if_neg Bool.false_ne_true
    | set ls =>
      obtain ⟨b, bs, kb, rfl, hb, hbi⟩ := hS
      have hbl : s.heap.IsList b bs.toArray := ⟨_, hb, rfl, _, rfl⟩
      obtain ⟨hl3, hg3⟩ := hdk
      have hb3 := hbi.length
      k_steps
      refine Hold.go (LCg.CompSrc.base (by rfl) (by k_asm) (by k_asm) hbl (by rw [PySem.sizeLine_eq, List.size_toArray]; omega) ?_)
      intro g2
      refine comp_inv (fun i ys nw => nw = _ ∧ StrsAre ys ((ls.take i).map (word 0))) ⟨rfl, .nil⟩ ?_ ?_
      · intro i v ys nw J oJ C oC D' m₂ h tk E' hi' hv hI hC hx F1 N1 off ne
        obtain ⟨rfl, hys⟩ := hI
        obtain ⟨k0, t0, rfl, hk0⟩ := IntsAre.at hbi i v (by simpa using hv)
        obtain ⟨g0, g1⟩ := hg3 k0 (List.mem_of_getElem? hk0)
        k_steps
        · refine Hold.go (compEnd_same (by assumption) (by assumption) off (Or.inl hbl) ⟨rfl, ?_⟩)
          rw [List.take_add_one, hk0, List.map_append]
          refine strsAre_append hys ?_
          show StrsAre _ [word 0 k0]
          rw [word, if_pos (by omega)]
          exact .cons _ _ .nil
        · refine Hold.go (compEnd_same (by assumption) (by assumption) off (Or.inl hbl) ⟨rfl, ?_⟩)
          rw [List.take_add_one, hk0, List.map_append]
          refine strsAre_append hys ?_
          show StrsAre _ [word 0 k0]
          rw [word, if_neg (by omega)]
          exact .cons _ _ .nil
      · rintro ys nw ⟨rfl, hys⟩
        rw [List.size_toArray, hb3, List.take_length] at hys
        obtain ⟨b1, b2, b3⟩ := join_short 0 hl3 hg3
        k_steps
        refine Hold.go (join_made (News.isList (by k_asm) (by k_mem)) hys (by decide) (by rw [List.length_map]; omega) ?_)
        intro t' k'
        k_steps
        refine Hold.go (turn_end (by assumption) (by assumption) [] (fun p hp => List.mem_cons_of_mem _ hp) (by assumption) ⟨⟨rfl, ?_, ?_⟩, fun z h1 h2 => ?_⟩)
        · rw [hnext, strStep]; exact rfl
        · exact hlen
        · simp only [if_neg h1, if_neg (not_in_one h2)]; exact if_neg Bool.false_ne_true
  · rintro u nx h tk ⟨rfl, hr, hrl⟩ F3 N3
    obtain ⟨tr, hr⟩ := hr.out
    rw [List.take_of_length_le (by rw [hst.length]; exact Nat.le_refl _)] at hr
    simp only [fr_known hr] at F3
    k_steps
    exact hret _ _ _ _ (by assumption) (by assumption) (by assumption) rfl
end
section
theorem topP15 : True := by
  w_top off
  trivial
section
variable {prog : Program} {w : World} {A : Around} {E : Value → Shared → Prop} {s : Shared} {env : Env} {h₀ : Heap} {body : List Stmt} {Q : Flow → Shared → Prop} {elts : List PySem.Expr} {kk : Nat} {pp : Pos}
/-- the loop of a For, on its iterator -/
def ELoop (prog : Program) (w : World) (A : Around) (env : Env) (target : PySem.Expr) (body : List Stmt) (Q : Flow → Shared → Prop) (E : Value → Shared → Prop) (it : Value) (s₂ : Shared) : Prop :=
  codeAny (model prog w) A (.forLoop target it body [] env) (fun r s' => match r with | .ok f => Q f s' | .error e => cameBackBy (model prog w) A env E e s') s₂
theorem For_E {target iter : PySem.Expr} {pos : Pos} {h₀ : Heap} {m : Str → Option Value} (_F : Fr h₀ env.locals s.heap m)
    (h : wpAny (model prog w) A (eval iter env) (fun xv s₁ => wpAny (model prog w) A (pyIter xv) (fun it s₂ => ELoop prog w A env target body Q E it s₂) E s₁) E s)
    (hs : ∀ x, foldedSetIterable iter env x = pure x := by intro _; rfl) :
    wpAny (model prog w) A (exec (.For target iter body [] pos) env) Q E s := by
  refine wpAny_For (wpAny_mono h (fun xv s₁ h₁ => wpAny_mono h₁ (fun it s₂ h₂ => h₂) fun _ _ e => e) fun _ _ e => e) hs
theorem enum_loop {R : Result → Shared → Prop} {e it l : Addr} {n : Nat} {vs : List Value} {m₀ : Str → Option Value} {news : List (Addr × Obj)} (hh : A.handled = none) (hei : e ≠ it) (hle : l ≠ e) (hli : l ≠ it) (hLe : env.locals ≠ e) (hLi : env.locals ≠ it) (h0e : h₀.get? e = none) (h0i : h₀.get? it = none) (hnw : ∀ p ∈ news, p.1 ≠ e ∧ p.1 ≠ it)
    (he : IsEnum s.heap e it ((0 : Nat) : Int) .none) (hit : s.heap.IsListIter it l 0) (F : Fr h₀ env.locals s.heap m₀) (N : News h₀ env.locals s.heap news)
    (J : Nat → List Value → (Str → Option Value) → List (Addr × Obj) → Prop) (hJl : ∀ i items m nx h, Fr h₀ env.locals h m → News h₀ env.locals h nx → J i items m nx → h.IsList l items.toArray ∧ items.length = n) (hj : J 0 vs m₀ news)
    (turn : ∀ i v m₁ nx items h tk own T t, items[i]? = some v → i < n → OwnOff own (nx.map (·.1)) → J i items m₁ nx → IsTup h T #[.int (i : Int) t, v] → Fr h₀ env.locals h m₁ → News h₀ env.locals h (nx ++ own) →
      wpAny (model prog w) A (assign (.Tuple elts kk pp) env (.ref T)) (fun _ s₂ => wpAny (model prog w) A (execs body env) (InvPostG h₀ env.locals (fun m' nx' => ∃ items', J (i + 1) items' m' nx') own { s with heap := h, toks := tk } (fun f s' => R (.ok f) s')) (notedBy (model prog w) A env fun e s' => R (.error e) s') s₂) (notedBy (model prog w) A env fun e s' => R (.error e) s') { s with heap := h, toks := tk })
    (done : ∀ items m₁ nx h tk, J n items m₁ nx → Fr h₀ env.locals h m₁ → News h₀ env.locals h nx → R (.ok .next) { s with heap := h, toks := tk }) :
    codeAny (model prog w) A (.forLoop (.Tuple elts kk pp) (.ref e) body [] env) R s := by
  have old : ∀ b o, h₀.get? b = some o → b ≠ e ∧ b ≠ it := fun b o x => ⟨fun y => (by rw [y, h0e] at x; exact nomatch x), fun y => (by rw [y, h0i] at x; exact nomatch x)⟩
  refine codeAny_forLoop_any
    (fun k s' => ∃ h' tk m' nx items i old, s' = { s with heap := h', toks := tk } ∧ IsEnum h' e it ((i : Nat) : Int) old ∧ h'.IsListIter it l i ∧ Fr h₀ env.locals h' m' ∧ News h₀ env.locals h' nx ∧ (∀ p ∈ nx, p.1 ≠ e ∧ p.1 ≠ it) ∧ J i items m' nx ∧ i ≤ n ∧ k = n + 1 - i) ?_ (n + 1)
    ⟨s.heap, s.toks, m₀, news, vs, 0, .none, rfl, he, hit, F, N, hnw, hj, Nat.zero_le _, rfl⟩
  rintro k s' ⟨h', tk, m', nx, items, i, oldv, rfl, he', hit', F', N', hnw', hJ, hi, rfl⟩
  obtain ⟨hl', hlen⟩ := hJl i items m' nx h' F' N' hJ
  have W := (WalksT.enumerate (prog := prog) (w := w) hh e it l hei hle hli items.toArray).toU
  have hsz : items.toArray.size = n := by rw [List.size_toArray, hlen]
  have next : ∀ h₁ : Heap, (∀ b o, b ∉ [e, it] → h'.get? b = some o → h₁.get? b = some o) → Fr h₀ env.locals h₁ m' ∧ News h₀ env.locals h₁ nx := fun h₁ hk₁ =>
    ⟨⟨F'.ns.at' fun o x => hk₁ _ o (by simp [hLe, hLi]) x, fun b o x => hk₁ b o (by simp [(old b o x).1, (old b o x).2]) (F'.keep b o x), F'.above⟩, fun p hp => ⟨hk₁ _ _ (by simp [(hnw' p hp).1, (hnw' p hp).2]) (N' p hp).1, (N' p hp).2⟩⟩
  by_cases hlt : i < n
  · refine W.item i _ _ _ (by rw [hsz]; exact hlt) ⟨⟨oldv, he'⟩, hit', hl'⟩ fun T vals h₁ tk₁ hP hT hMd hk₁ => ?_
    refine W.go elts kk pp i T _ _ _ hMd fun h₂ hst₂ hk₂ => ?_
    obtain ⟨t, x, hx, rfl⟩ := hP
    have hT₂ : h₂.IsTuple T #[.int (i : Int) t, x] := hT.at fun o z => hk₂ T o (W.apart i T _ hMd) z
    obtain ⟨F₂, N₂⟩ := next h₂ fun b o hb z => hk₂ b o hb (hk₁ b o hb z)
    obtain ⟨⟨old2, he2⟩, hit2, _⟩ := hst₂
    obtain ⟨oi, hoi, hic, hid⟩ := id hit2
    have hoe' : ∃ oe : Obj, h₂.get? e = some oe ∧ ∀ hx : Heap, hx.get? e = some oe → IsEnum hx e it ((i + 1 : Nat) : Int) old2 := ⟨_, he2, fun _ z => z⟩
    obtain ⟨oe, hoe, hback⟩ := hoe'
    have Nown : News h₀ env.locals h₂ [(e, oe), (it, oi)] := fun p hp => by
      rcases List.mem_cons.mp hp with rfl | hp
      · exact ⟨hoe, fun z => hLe z.symm, h0e⟩
      · rw [List.mem_singleton.mp hp]
        exact ⟨hoi, fun z => hLi z.symm, h0i⟩
    have hoff : OwnOff [(e, oe), (it, oi)] (nx.map (·.1)) := by
      intro p hp b hb z
      obtain ⟨q, hq, rfl⟩ := List.mem_map.mp hb
      rcases List.mem_cons.mp hp with rfl | hp
      · exact (hnw' q hq).1 z.symm
      · rw [List.mem_singleton.mp hp] at z
        exact (hnw' q hq).2 z.symm
    have N₃ : News h₀ env.locals h₂ (nx ++ [(e, oe), (it, oi)]) := fun p hp => (List.mem_append.mp hp).elim (N₂ p) (Nown p)
    have back : ∀ s₃, InvEndG h₀ env.locals (fun m' nx' => ∃ items', J (i + 1) items' m' nx') [(e, oe), (it, oi)] { s with heap := h₂, toks := tk₁ } s₃ → ∃ m, m < n + 1 - i ∧ ∃ h' tk m' nx items i old, s₃ = { s with heap := h', toks := tk } ∧ IsEnum h' e it ((i : Nat) : Int) old ∧ h'.IsListIter it l i ∧ Fr h₀ env.locals h' m' ∧ News h₀ env.locals h' nx ∧ (∀ p ∈ nx, p.1 ≠ e ∧ p.1 ≠ it) ∧ J i items m' nx ∧ i ≤ n ∧ m = n + 1 - i := by
      rintro s₃ ⟨h', tk, m', all, nx', rfl, F', N', a1, a2, a3, items', a4⟩
      refine ⟨n + 1 - (i + 1), by omega, h', tk, m', nx', items', i + 1, old2, rfl, hback _ (N' _ (a2 _ List.mem_cons_self)).1, ⟨oi, (N' _ (a2 _ (List.mem_cons_of_mem _ List.mem_cons_self))).1, hic, hid⟩, F', fun p hp => N' p (a1 p hp), fun p hp => ⟨fun z => ?_, fun z => ?_⟩, a4, hlt, rfl⟩
      · exact a3 _ List.mem_cons_self p.1 (List.mem_map.mpr ⟨p, hp, rfl⟩) z.symm
      · exact a3 _ (List.mem_cons_of_mem _ List.mem_cons_self) p.1 (List.mem_map.mpr ⟨p, hp, rfl⟩) z.symm
    refine wpAny_mono (turn i x m' nx items h₂ tk₁ _ T t (by simpa using hx) hlt hoff hJ hT₂ F₂ N₃) (fun _ s₂ h₂' => wpAny_mono h₂' (fun f s₃ h₃ => ?_) fun _ _ e => e) fun _ _ e => e
    cases f with
    | ret v => exact h₃
    | brk => exact h₃
    | cont => exact back s₃ h₃
    | next => exact back s₃ h₃
  · have hin : i = n := by omega
    subst hin
    refine W.done _ _ _ ⟨⟨oldv, by rw [hsz]; exact he'⟩, by rw [hsz]; exact hit', hl'⟩ fun h₁ tk₁ hk₁ => wpAny_execs_nil ?_
    obtain ⟨F₁, N₁⟩ := next h₁ hk₁
    exact done items m' nx h₁ tk₁ hJ F₁ N₁
/-- a loop over the pairs of enumerate(list) -/
theorem enum_for {l : Addr} {n : Nat} {vs : List Value} {m₀ : Str → Option Value} {news : List (Addr × Obj)} (hh : A.handled = none) (hl : s.heap.IsList l vs.toArray) (F : Fr h₀ env.locals s.heap m₀) (N : News h₀ env.locals s.heap news)
    (J : Nat → List Value → (Str → Option Value) → List (Addr × Obj) → Prop) (hJl : ∀ i items m nx h, Fr h₀ env.locals h m → News h₀ env.locals h nx → J i items m nx → h.IsList l items.toArray ∧ items.length = n) (hj : J 0 vs m₀ news)
    (turn : ∀ i v m₁ nx items h tk own T t, items[i]? = some v → i < n → OwnOff own (nx.map (·.1)) → J i items m₁ nx → IsTup h T #[.int (i : Int) t, v] → Fr h₀ env.locals h m₁ → News h₀ env.locals h (nx ++ own) →
      wpAny (model prog w) A (assign (.Tuple elts kk pp) env (.ref T)) (fun _ s₂ => wpAny (model prog w) A (execs body env) (InvPostG h₀ env.locals (fun m' nx' => ∃ items', J (i + 1) items' m' nx') own { s with heap := h, toks := tk } Q) E s₂) E { s with heap := h, toks := tk })
    (done : ∀ items m₁ nx h tk, J n items m₁ nx → Fr h₀ env.locals h m₁ → News h₀ env.locals h nx → Q .next { s with heap := h, toks := tk })
    (hE : PassesOwn (model prog w) A env E := by passes_own) :
    wpAny (model prog w) A (call (.type "enumerate") [.ref l]) (fun xv s₁ => wpAny (model prog w) A (pyIter xv) (fun it s₂ => ELoop prog w A env (.Tuple elts kk pp) body Q E it s₂) E s₁) E s := by
  have hlt : l < s.heap.objs.size := by obtain ⟨_, x, _⟩ := hl; exact Heap.lt_size x
  have hLs : env.locals < s.heap.objs.size := F.ns.lt
  refine call_enumerate_list hl fun h' hE' hI hsz hk => ?_
  refine wpAny_pyIter_enum hE' ?_
  exact enum_loop (s := { s with heap := h' }) (R := fun r s' => match r with | .ok f => Q f s' | .error e => cameBackBy (model prog w) A env E e s') hh (Nat.succ_ne_self _) (Nat.ne_of_lt (Nat.lt_succ_of_lt hlt)) (Nat.ne_of_lt hlt) (Nat.ne_of_lt (Nat.lt_succ_of_lt hLs)) (Nat.ne_of_lt hLs) (ktu_new F (Nat.le_add_right _ _)) (ktu_new F (Nat.le_refl _))
    (fun p hp => ⟨Nat.ne_of_lt (Nat.lt_succ_of_lt (Heap.lt_size (N p hp).1)), Nat.ne_of_lt (Heap.lt_size (N p hp).1)⟩) hE' hI (F.keeps hk) (N.grown hk) J hJl hj
    (fun i v m₁ nx items h tk own T t a b c d f g st => wpAny_mono (turn i v m₁ nx items h tk own T t a b c d f g st) (fun _ _ x => wpAny_passesOwn hE x) hE) done
/-- the same, with the names that are stored told apart -/
theorem enum_frame (names : List Str) {l : Addr} {n : Nat} {vs : List Value} {m₀ : Str → Option Value} {news : List (Addr × Obj)} (hh : A.handled = none) (hl : s.heap.IsList l vs.toArray) (F : Fr h₀ env.locals s.heap m₀) (N : News h₀ env.locals s.heap news)
    (J : Nat → List Value → (Str → Option Value) → List (Addr × Obj) → Prop) (hJl : ∀ i items m nx h, Fr h₀ env.locals h m → News h₀ env.locals h nx → J i items m nx → h.IsList l items.toArray ∧ items.length = n) (hj : J 0 vs m₀ news)
    (turn : ∀ i v u nx items h tk own T t, items[i]? = some v → i < n → OwnOff own (nx.map (·.1)) → J i items u nx → IsTup h T #[.int (i : Int) t, v] → Fr h₀ env.locals h (fun y => if names.contains y then u y else m₀ y) → News h₀ env.locals h (nx ++ own) →
      wpAny (model prog w) A (assign (.Tuple elts kk pp) env (.ref T)) (fun _ s₂ => wpAny (model prog w) A (execs body env) (InvPostG h₀ env.locals (fun m' nx' => (∃ items', J (i + 1) items' m' nx') ∧ ∀ z, names.contains z = false → m' z = m₀ z) own { s with heap := h, toks := tk } Q) E s₂) E { s with heap := h, toks := tk })
    (done : ∀ items u nx h tk, J n items u nx → Fr h₀ env.locals h (fun y => if names.contains y then u y else m₀ y) → News h₀ env.locals h nx → Q .next { s with heap := h, toks := tk })
    (hE : PassesOwn (model prog w) A env E := by passes_own) :
    wpAny (model prog w) A (call (.type "enumerate") [.ref l]) (fun xv s₁ => wpAny (model prog w) A (pyIter xv) (fun it s₂ => ELoop prog w A env (.Tuple elts kk pp) body Q E it s₂) E s₁) E s := by
  have key : ∀ {h : Heap} {m : Str → Option Value}, (∀ z, names.contains z = false → m z = m₀ z) → Fr h₀ env.locals h m → Fr h₀ env.locals h (fun y => if names.contains y then m y else m₀ y) := by
    intro h m hm F
    have e : m = fun y => if names.contains y then m y else m₀ y := by
      funext y
      cases h2 : names.contains y with
      | true => rw [if_pos rfl]
      | false => rw [if_neg Bool.false_ne_true]; exact hm y h2
    rw [← e]; exact F
  refine enum_for hh hl F N (fun i items m nx => J i items m nx ∧ ∀ z, names.contains z = false → m z = m₀ z) (fun i items m nx h F N hJ => hJl i items m nx h F N hJ.1) ⟨hj, fun _ _ => rfl⟩ ?_ (fun items u nx h tk hJ F N => done items u nx h tk hJ.1 (key hJ.2 F) N) hE
  intro i v m₁ nx items h tk own T t hv hi ho hJ hT F1 N1
  refine wpAny_mono (turn i v m₁ nx items h tk own T t hv hi ho hJ.1 hT (key hJ.2 F1) N1) (fun _ s₂ h₂ => wpAny_mono h₂ (fun f s₃ h₃ => ?_) fun _ _ e => e) fun _ _ e => e
  have conv : ∀ s₃, InvEndG h₀ env.locals (fun m' nx' => (∃ items', J (i + 1) items' m' nx') ∧ ∀ z, names.contains z = false → m' z = m₀ z) own { s with heap := h, toks := tk } s₃ → InvEndG h₀ env.locals (fun m' nx' => ∃ items', J (i + 1) items' m' nx' ∧ ∀ z, names.contains z = false → m' z = m₀ z) own { s with heap := h, toks := tk } s₃ := by
    rintro s₃ ⟨h', tk, m', all, nx', e, F', N', a1, a2, a3, ⟨items', a4⟩, a5⟩
    exact ⟨h', tk, m', all, nx', e, F', N', a1, a2, a3, items', a4, a5⟩
  cases f with
  | ret v => exact h₃
  | brk => exact h₃
  | cont => exact conv s₃ h₃
  | next => exact conv s₃ h₃
end
section
variable {prog : Program} {w : World} {A : Around} {E : Value → Shared → Prop} {s : Shared} {env : Env} {h₀ : Heap} {x : Str} {body : List Stmt} {Q : Flow → Shared → Prop}
/-- a loop over a range, with the names that are stored told apart -/
theorem range_frame (names : List Str) {r : Addr} {a₀ b₀ : Int} {t₀ u₀ v₀ : Tok} {n : Nat} {m₀ : Str → Option Value} {news : List (Addr × Obj)} (J : Nat → (Str → Option Value) → List (Addr × Obj) → Prop)
    (hh : A.handled = none) (hr : IsRange s.heap r a₀ b₀ 1 t₀ u₀ v₀) (hsmall : Builtin.Range.small a₀ b₀ 1 = true) (hn : Builtin.Range.rangeSize a₀ b₀ 1 = (n : Int)) (F : Fr h₀ env.locals s.heap m₀) (N : News h₀ env.locals s.heap news) (hj : J 0 m₀ news)
    (turn : ∀ i t u nx h tk own, i < n → OwnOff own (nx.map (·.1)) → J i u nx → Fr h₀ env.locals h (fun y => if y = x then some (.int (a₀ + (i : Int)) t) else if names.contains y then u y else m₀ y) → News h₀ env.locals h (nx ++ own) →
      wpAny (model prog w) A (execs body env) (InvPostG h₀ env.locals (fun m' nx' => J (i + 1) m' nx' ∧ ∀ z, z ≠ x → names.contains z = false → m' z = m₀ z) own { s with heap := h, toks := tk } Q) E { s with heap := h, toks := tk })
    (done : ∀ u nx h tk, J n u nx → Fr h₀ env.locals h (fun y => if y = x then u y else if names.contains y then u y else m₀ y) → News h₀ env.locals h nx → Q .next { s with heap := h, toks := tk }) :
    wpAny (model prog w) A (pyIter (.ref r)) (fun it s₂ => LoopAtV prog w A h₀ env x body Q E it s₂) E s := by
  refine wpAny_pyIter_range hr hsmall ?_
  have W : Walks prog w A s.heap.objs.size [s.heap.objs.size] [s.heap.objs.size] n (fun i v => i < n ∧ ∃ t, v = .int (a₀ + i * 1) t)
      (fun i h => IsRangeIter h s.heap.objs.size (a₀ + (i : Nat) * 1) ((n : Int) - (i : Nat)) 1) := (Walks.range hh _ a₀ 1 n).bound
  refine kdr_loop (fun i m nx => J i m nx ∧ ∀ z, z ≠ x → names.contains z = false → m z = m₀ z) W (fun _ h => h) (fun _ h => h) ?_ ?_ ?_ ?_ (by show IsRangeIter _ _ _ _ _; rw [hn]; simpa using Heap.get?_push_size _ rfl) (F.push _) (fun p hp => ⟨Heap.get?_push_of_some _ (N p hp).1, (N p hp).2⟩) ⟨hj, fun _ _ _ => rfl⟩ ?_ ?_
  · intro i h hi b hb
    rw [List.mem_singleton.mp hb]
    exact ⟨_, hi⟩
  · intro hm
    exact absurd F.ns.lt ((List.mem_singleton.mp hm) ▸ Nat.lt_irrefl _)
  · intro b hb
    rw [List.mem_singleton.mp hb]
    exact next_is_new F
  · intro p hp hI
    exact absurd (Heap.lt_size (N p hp).1) ((List.mem_singleton.mp hI) ▸ Nat.lt_irrefl _)
  · rintro i v m₁ nx h tk own hi ⟨_, t, rfl⟩ hoff ⟨hJ, hm⟩ F₁ N₁
    have e1 : a₀ + (i : Int) * 1 = a₀ + (i : Int) := by omega
    rw [e1] at F₁
    exact turn i t m₁ nx h tk own hi hoff hJ (fr_turn hm F₁) N₁
  · rintro m₁ nx h tk ⟨hJ, hm⟩ F₁ N₁
    exact done m₁ nx h tk hJ (fr_done hm F₁) N₁
end
end
section
theorem topP16 : True := by
  w_top off
  trivial
local macro_rules | `(tactic| k_inst) => `(tactic| (refine' inst_base ?N ?h1 ?h2; (case N => k_asm); (case h1 => with_reducible assumption); (case h2 => with_reducible assumption)))
local macro_rules | `(tactic| walk_at "exec For Tuple Call cons nil") => `(tactic| (k_here; (with_unfolding_all refine' For_E (by k_asm) ?_ ?k1; (case k1 => (intro _; exact rfl)); k_whole)))
local macro_rules | `(tactic| walk_at "call type:enumerate") => `(tactic| refine hold ?_)
/-- what fill puts in -/
def fillStep (idx : Stp) (b : Nat) : Stp → Stp
  | .non => idx
  | .num n => .num n
  | .set l => .num (l.getD b 0)
/-- an equation that no tactic uses by itself -/
def IsV (x y : Value) : Prop := y = x
def optI (t : Tok) : Option Int → Value
  | none => .none
  | some n => .int n t
local macro_rules | `(tactic| k_all) => `(tactic| exact OwnOff.ne (by with_reducible assumption) List.mem_cons_self)
theorem not_in_two {z a b : Str} (h : [a, b].contains z = false) : z ≠ a ∧ z ≠ b := by
  constructor <;> (rintro rfl; simp at h)
def dsI (f : Stp → Stp) (ds : List Stp) (i : Nat) : List Stp := (ds.take i).map f ++ ds.drop i
theorem dsI_get (f : Stp → Stp) {ds : List Stp} {i : Nat} {d : Stp} (h : ds[i]? = some d) : (dsI f ds i)[i]? = some d := by
  have hi : i < ds.length := (List.getElem?_eq_some_iff.mp h).1
  have e : ((ds.take i).map f).length = i := by simp; omega
  unfold dsI
  rw [List.getElem?_append_right (by omega), e, Nat.sub_self, List.getElem?_drop]
  simpa using h
theorem dsI_next (f : Stp → Stp) {ds : List Stp} {i : Nat} {d : Stp} (h : ds[i]? = some d) : dsI f ds (i + 1) = (dsI f ds i).set i (f d) := by
  obtain ⟨hi, rfl⟩ := List.getElem?_eq_some_iff.mp h
  have e : ((ds.take i).map f).length = i := by simp; omega
  unfold dsI
  rw [List.set_append_right _ _ (by omega), e, Nat.sub_self, List.take_add_one, h, List.map_append, List.append_assoc, List.drop_eq_getElem_cons hi]
  rfl
theorem dsI_same (f : Stp → Stp) {ds : List Stp} {i : Nat} {d : Stp} (h : ds[i]? = some d) (hf : f d = d) : dsI f ds (i + 1) = dsI f ds i := by
  obtain ⟨hi, rfl⟩ := List.getElem?_eq_some_iff.mp h
  unfold dsI
  rw [List.take_add_one, h, List.map_append, List.append_assoc, List.drop_eq_getElem_cons hi]
  show _ ++ ([f ds[i]] ++ _) = _
  rw [hf]; rfl
theorem dsI_length (f : Stp → Stp) (ds : List Stp) (i : Nat) : (dsI f ds i).length = ds.length := by
  unfold dsI; simp; omega
theorem dsI_zero (f : Stp → Stp) (ds : List Stp) : dsI f ds 0 = ds := rfl
theorem dsI_full (f : Stp → Stp) (ds : List Stp) : dsI f ds ds.length = ds.map f := by unfold dsI; simp
theorem StAll.nosets {P P' : Addr → Obj → Prop} {vs : List Value} {ds : List Stp} (h : StAll P vs ds) : (∀ d ∈ ds, d.isSet = false) → StAll P' vs ds := by
  induction h with
  | nil => exact fun _ => .nil
  | @cons v vs d ds a _ ih =>
    intro hn
    refine .cons ?_ (ih fun e he => hn e (List.mem_cons_of_mem _ he))
    cases d with
    | non => exact a
    | num n => exact a
    | set l => exact nomatch hn _ List.mem_cons_self
theorem fill_nosets {idx : Stp} {b : Nat} (ds : List Stp) (h : idx.isSet = true → False) : ∀ d ∈ ds.map (fillStep idx b), d.isSet = false := fun d hd => by
  obtain ⟨e, _, rfl⟩ := List.mem_map.mp hd
  cases e with
  | non => exact Bool.eq_false_iff.mpr h
  | num _ => rfl
  | set _ => rfl
set_option maxHeartbeats 0 in
theorem fill_ {w : World} (x dx : Addr) (t : Tok) (l : Addr) (vs : List Value) (k : Nat) (ds : List Stp) (hW : WF ds) (n : Option Int) (tn : Tok) (hn : ∀ i, n = some i → 0 ≤ i ∧ i < 2147483648) (b : Option Nat) (tb : Tok) (hb : ∀ i, b = some i → i < 2) :
    Ctr w 10 788 ⟨[.ref x, optI tn n, optI tb (b.map Int.ofNat)], []⟩ (fun h => ObjH w h x dx t l vs k ds) (fun tl r => StL (InL tl) r (ds.map (fillStep (match n with | none => .non | some i => .num i) (b.getD 0)))) := by
  intro mean mg mb dp un gd cn cs a ccd cl outer A₀ base h₀ L m news s Q E B F X N T hk hdp hu hpre hret
  obtain ⟨hx, hdx, hl, hst⟩ := hpre
  have hvl := hst.length
  have h5 := hW.len
  obtain ⟨bv, hbv1, hbv⟩ : ∃ bv, optI tb (b.map Int.ofNat) = bv ∧ IsV (optI tb (b.map Int.ofNat)) bv := ⟨_, rfl, rfl⟩
  rw [hbv1]
  clear hbv1
  cases n with
  | none =>
    dsimp only [optI]
    walk_at "enterP"
    k_steps
    refine Hold.go (LCg.CompSrc.base (by rfl) (by k_asm) (by k_asm) (isList_of hl) (by rw [PySem.sizeLine_eq, List.size_toArray]; omega) ?_)
    intro g2
    refine comp_inv (fun i ys nw => nw = _ ∧ ys = vs.take i) ⟨rfl, rfl⟩ ?_ ?_
    · intro i v ys nw J oJ C oC D' m₂ h tk E' hi' hv hI hC hx F1 N1 off ne
      obtain ⟨rfl, hys⟩ := hI
      k_steps
      refine Hold.go (compEnd_same (by assumption) (by assumption) off (Or.inl (isList_of hl)) ⟨rfl, ?_⟩)
      have hv' : vs[i]? = some v := by simpa using hv
      rw [hys, List.take_add_one, hv']; rfl
    · rintro ys nw ⟨rfl, hys⟩
      rw [List.size_toArray, List.take_length] at hys
      subst hys
      k_steps
      rename Fr s.heap _ _ _ => F2
      rename News s.heap _ _ _ => N2
      refine Hold.go (enum_frame [Str.ofString "i", Str.ofString "el"] (n := ds.length) (by rfl) (News.isList N2 (by k_mem)) F2 N2 (fun i items u nx => (∃ k, nx = [(_, W.listOf (List.toArray items) k)]) ∧ StAll (AtH s.heap) items (dsI (fillStep .non (b.getD 0)) ds i)) ?_ ⟨⟨_, rfl⟩, hst⟩ ?_ ?_)
      · rintro i items m nx h F N ⟨⟨k, rfl⟩, hJ⟩
        exact ⟨News.isList N List.mem_cons_self, by rw [hJ.length, dsI_length]⟩
      · rintro i v u nx items h tk own T t hv hi hoff ⟨⟨k, rfl⟩, hJ⟩ hT F3 N3
        simp only [List.cons_append, List.nil_append] at N3
        obtain ⟨d, hd, hS⟩ := hJ.get hv
        have hd' : ds[i]? = some d := by rw [← hd, dsI_get _ (List.getElem?_eq_getElem hi), List.getElem?_eq_getElem hi]
        have hil : i < items.length := (List.getElem?_eq_some_iff.mp hv).1
        have hil5 : items.length ≤ 5 := by rw [hJ.length, dsI_length]; exact h5
        cases d with
        | non =>
          obtain rfl : v = Value.none := hS
          k_steps
          refine Hold.go (set_any (by assumption) (by assumption) (by k_upd) (by omega) (by omega) (by omega) ?_)
          intro h5 F5 N5
          k_steps
          refine Hold.go (turn_end (by assumption) (by assumption) [_] (fun p hp => hp) (by exact hoff) ⟨⟨_, ⟨_, rfl⟩, ?_⟩, fun z hz => ?_⟩)
          · rw [dsI_next _ hd']; exact StAll.set (d := .non) hJ _ rfl
          · simp only [if_neg (not_in_two hz).1, if_neg (not_in_two hz).2, hz, Bool.false_eq_true, if_false]
        | num q =>
          obtain ⟨tq, rfl⟩ := hS
          k_steps
          refine Hold.go (turn_end (by assumption) (by assumption) [_] (fun p hp => hp) (by exact hoff) ⟨⟨_, ⟨_, rfl⟩, ?_⟩, fun z hz => ?_⟩)
          · rw [dsI_same _ hd' rfl]; exact hJ
          · simp only [if_neg (not_in_two hz).1, if_neg (not_in_two hz).2, hz, Bool.false_eq_true, if_false]
        | set ls =>
          obtain ⟨c, bs, kb, rfl, hc, hbi⟩ := hS
          have hbl : s.heap.IsList c bs.toArray := ⟨_, hc, rfl, _, rfl⟩
          have hok := hW.ok _ (List.mem_of_getElem? hd')
          have hb3 := hbi.length
          have hl3 := hok.1
          cases b with
          | none =>
            have hbv2 : bv = Value.none := hbv
            clear hbv
            subst hbv2
            k_steps
            refine Hold.go (set_any (by assumption) (by assumption) (by k_upd) (by omega) (by omega) (by omega) ?_)
            intro h5 F5 N5
            k_steps
            refine Hold.go (turn_end (by assumption) (by assumption) [_] (fun p hp => hp) (by exact hoff) ⟨⟨_, ⟨_, rfl⟩, ?_⟩, fun z hz => ?_⟩)
            · rw [dsI_next _ hd']; exact StAll.set (d := .num (ls.getD 0 0)) hJ _ ⟨_, rfl⟩
            · simp only [if_neg (not_in_two hz).1, if_neg (not_in_two hz).2, hz, Bool.false_eq_true, if_false]
          | some b =>
            have hbv2 : bv = Value.int (b : Int) tb := hbv
            clear hbv
            subst hbv2
            have hb2 := hb b rfl
            k_steps
            refine Hold.go (set_any (by assumption) (by assumption) (by k_upd) (by omega) (by omega) (by omega) ?_)
            intro h5 F5 N5
            k_steps
            refine Hold.go (turn_end (by assumption) (by assumption) [_] (fun p hp => hp) (by exact hoff) ⟨⟨_, ⟨_, rfl⟩, ?_⟩, fun z hz => ?_⟩)
            · rw [dsI_next _ hd']; exact StAll.set (d := .num (ls.getD b 0)) hJ _ ⟨_, rfl⟩
            · simp only [if_neg (not_in_two hz).1, if_neg (not_in_two hz).2, hz, Bool.false_eq_true, if_false]
      · rintro items u nx h tk ⟨⟨k, rfl⟩, hJ⟩ F3 N3
        k_steps
        rw [dsI_full] at hJ
        refine' hret _ _ _ _ (by assumption) (by assumption) (by assumption) ⟨_, items, k, rfl, ?hm1, hJ.nosets (fill_nosets _ (fun e => (nomatch e)))⟩
        case hm1 => k_mem
  | some n =>
    dsimp only [optI]
    obtain ⟨n0, n1⟩ := hn n rfl
    walk_at "enterP"
    k_steps
    refine Hold.go (LCg.CompSrc.base (by rfl) (by k_asm) (by k_asm) (isList_of hl) (by rw [PySem.sizeLine_eq, List.size_toArray]; omega) ?_)
    intro g2
    refine comp_inv (fun i ys nw => nw = _ ∧ ys = vs.take i) ⟨rfl, rfl⟩ ?_ ?_
    · intro i v ys nw J oJ C oC D' m₂ h tk E' hi' hv hI hC hx F1 N1 off ne
      obtain ⟨rfl, hys⟩ := hI
      k_steps
      refine Hold.go (compEnd_same (by assumption) (by assumption) off (Or.inl (isList_of hl)) ⟨rfl, ?_⟩)
      have hv' : vs[i]? = some v := by simpa using hv
      rw [hys, List.take_add_one, hv']; rfl
    · rintro ys nw ⟨rfl, hys⟩
      rw [List.size_toArray, List.take_length] at hys
      subst hys
      k_steps
      rename Fr s.heap _ _ _ => F2
      rename News s.heap _ _ _ => N2
      refine Hold.go (enum_frame [Str.ofString "i", Str.ofString "el"] (n := ds.length) (by rfl) (News.isList N2 (by k_mem)) F2 N2 (fun i items u nx => (∃ k, nx = [(_, W.listOf (List.toArray items) k)]) ∧ StAll (AtH s.heap) items (dsI (fillStep (.num n) (b.getD 0)) ds i)) ?_ ⟨⟨_, rfl⟩, hst⟩ ?_ ?_)
      · rintro i items m nx h F N ⟨⟨k, rfl⟩, hJ⟩
        exact ⟨News.isList N List.mem_cons_self, by rw [hJ.length, dsI_length]⟩
      · rintro i v u nx items h tk own T t hv hi hoff ⟨⟨k, rfl⟩, hJ⟩ hT F3 N3
        simp only [List.cons_append, List.nil_append] at N3
        obtain ⟨d, hd, hS⟩ := hJ.get hv
        have hd' : ds[i]? = some d := by rw [← hd, dsI_get _ (List.getElem?_eq_getElem hi), List.getElem?_eq_getElem hi]
        have hil : i < items.length := (List.getElem?_eq_some_iff.mp hv).1
        have hil5 : items.length ≤ 5 := by rw [hJ.length, dsI_length]; exact h5
        cases d with
        | non =>
          obtain rfl : v = Value.none := hS
          k_steps
          refine Hold.go (set_any (by assumption) (by assumption) (by k_upd) (by omega) (by omega) (by omega) ?_)
          intro h5 F5 N5
          k_steps
          refine Hold.go (turn_end (by assumption) (by assumption) [_] (fun p hp => hp) (by exact hoff) ⟨⟨_, ⟨_, rfl⟩, ?_⟩, fun z hz => ?_⟩)
          · rw [dsI_next _ hd']; exact StAll.set (d := .num n) hJ _ ⟨_, rfl⟩
          · simp only [if_neg (not_in_two hz).1, if_neg (not_in_two hz).2, hz, Bool.false_eq_true, if_false]
        | num q =>
          obtain ⟨tq, rfl⟩ := hS
          k_steps
          refine Hold.go (turn_end (by assumption) (by assumption) [_] (fun p hp => hp) (by exact hoff) ⟨⟨_, ⟨_, rfl⟩, ?_⟩, fun z hz => ?_⟩)
          · rw [dsI_same _ hd' rfl]; exact hJ
          · simp only [if_neg (not_in_two hz).1, if_neg (not_in_two hz).2, hz, Bool.false_eq_true, if_false]
        | set ls =>
          obtain ⟨c, bs, kb, rfl, hc, hbi⟩ := hS
          have hbl : s.heap.IsList c bs.toArray := ⟨_, hc, rfl, _, rfl⟩
          have hok := hW.ok _ (List.mem_of_getElem? hd')
          have hb3 := hbi.length
          have hl3 := hok.1
          cases b with
          | none =>
            have hbv2 : bv = Value.none := hbv
            clear hbv
            subst hbv2
            k_steps
            refine Hold.go (set_any (by assumption) (by assumption) (by k_upd) (by omega) (by omega) (by omega) ?_)
            intro h5 F5 N5
            k_steps
            refine Hold.go (turn_end (by assumption) (by assumption) [_] (fun p hp => hp) (by exact hoff) ⟨⟨_, ⟨_, rfl⟩, ?_⟩, fun z hz => ?_⟩)
            · rw [dsI_next _ hd']; exact StAll.set (d := .num (ls.getD 0 0)) hJ _ ⟨_, rfl⟩
            · simp only [if_neg (not_in_two hz).1, if_neg (not_in_two hz).2, hz, Bool.false_eq_true, if_false]
          | some b =>
            have hbv2 : bv = Value.int (b : Int) tb := hbv
            clear hbv
            subst hbv2
            have hb2 := hb b rfl
            k_steps
            refine Hold.go (set_any (by assumption) (by assumption) (by k_upd) (by omega) (by omega) (by omega) ?_)
            intro h5 F5 N5
            k_steps
            refine Hold.go (turn_end (by assumption) (by assumption) [_] (fun p hp => hp) (by exact hoff) ⟨⟨_, ⟨_, rfl⟩, ?_⟩, fun z hz => ?_⟩)
            · rw [dsI_next _ hd']; exact StAll.set (d := .num (ls.getD b 0)) hJ _ ⟨_, rfl⟩
            · simp only [if_neg (not_in_two hz).1, if_neg (not_in_two hz).2, hz, Bool.false_eq_true, if_false]
      · rintro items u nx h tk ⟨⟨k, rfl⟩, hJ⟩ F3 N3
        k_steps
        rw [dsI_full] at hJ
        refine' hret _ _ _ _ (by assumption) (by assumption) (by assumption) ⟨_, items, k, rfl, ?hm1, hJ.nosets (fill_nosets _ (fun e => (nomatch e)))⟩
        case hm1 => k_mem
end
section
theorem topP17 : True := by
  w_top off
  trivial
local macro_rules | `(tactic| k_inst) => `(tactic| (refine' inst_base ?N ?h1 ?h2; (case N => k_asm); (case h1 => with_reducible assumption); (case h2 => with_reducible assumption)))
local macro_rules | `(tactic| walk_at "exec For Tuple Attribute cons nil") => `(tactic| (k_here; (with_unfolding_all refine' For_E (by k_asm) ?_ ?k1; (case k1 => (intro _; exact rfl)); k_whole)))
local macro_rules | `(tactic| walk_at "exec For Tuple Call cons nil") => `(tactic| (k_here; (with_unfolding_all refine' For_E (by k_asm) ?_ ?k1; (case k1 => (intro _; exact rfl)); k_whole)))
local macro_rules | `(tactic| walk_at "call type:enumerate") => `(tactic| refine hold ?_)
theorem len_base {prog : Program} {w : World} {A : Around} {E : Value → Shared → Prop} {s : Shared} {h₀ : Heap} {L D : Addr} {m : Str → Option Value} {vs : List Value} {k : Nat} {Q : Value → Shared → Prop} (F : Fr h₀ L s.heap m) (hl : h₀.get? D = some (W.listOf (List.toArray vs) k)) (hz : vs.length ≤ 16384) (h : Q (.int (vs.length : Int) (s.toks + 1)) { s with toks := s.toks + 1 + 1 }) :
    wpAny (model prog w) A (call (.builtin "len") [.ref D]) Q E s := len_made (isList_of (F.keep _ _ hl)) hz h
local macro_rules | `(tactic| walk_at "call builtin:len") => `(tactic| (k_here; (with_reducible show wpAny _ _ (call _ [Value.ref _]) _ _ _); k_dflt (refine' len_base ?k1 ?k2 ?k3 ?_; (case k1 => k_asm); (case k2 => with_reducible assumption); (case k3 => omega); k_whole)))
theorem kf_ints_of {vs : List Value} {ns : List Int} (h : IntsAre vs ns) : kf_ints vs = true := by
  induction h with
  | nil => rfl
  | cons n t _ ih => exact ih
theorem kf_at_of {vs : List Value} {ns : List Int} (h : IntsAre vs ns) (j : Int) : (ns.any fun x => x == j) = true → kf_at j vs = some (ns.idxOf j) := by
  induction h with
  | nil => intro h; exact nomatch h
  | cons n t _ ih =>
    intro hj
    rw [List.any_cons] at hj
    rw [List.idxOf_cons]
    unfold kf_at
    have e : isInt j (.int n t) = (n == j) := rfl
    rw [e]
    cases hq : n == j with
    | true => rfl
    | false =>
      rw [hq, Bool.false_or] at hj
      rw [ih hj]; rfl
section
variable {prog : Program} {w : World} {A : Around} {E : Value → Shared → Prop} {s : Shared} {D : Addr} {vs : List Value} {ns : List Int} {k : Nat}
theorem idx_method {h₀ : Heap} {L : Addr} {m : Str → Option Value} {name : Str} {id : String} {pl : Sem Bool} {Q : Value × List Value → Shared → Prop} (F : Fr h₀ L s.heap m) (hl : h₀.get? D = some (W.listOf (List.toArray vs) k)) (slot : Slot "list" name id) (hty : typeOf (.builtin id) = pure (.type "method_descriptor"))
    (h : Q (.builtin id, [.ref D]) s) : wpAny (model prog w) A (getMethod (.ref D) name pl) Q E s :=
  getMethod_builtin ⟨_, F.keep _ _ hl, rfl⟩ PySem.F.plainAttrs_list slot hty (fun a e => by cases e; exact ⟨_, F.keep _ _ hl, rfl⟩) h
theorem idx_known {h₀ : Heap} {L : Addr} {m : Str → Option Value} {j : Int} {t : Tok} {Q : Value → Shared → Prop} (F : Fr h₀ L s.heap m) (hl : h₀.get? D = some (W.listOf (List.toArray vs) k)) (hi : IntsAre vs ns) (hj : (ns.any fun x => x == j) = true) (hz : vs.length ≤ 1000)
    (h : Q (.int (ns.idxOf j : Int) s.toks) { s with toks := s.toks + 1 }) : wpAny (model prog w) A (call (.builtin "list.index") [.ref D, .int j t]) Q E s := by
  have e := kf_at_of hi j hj
  have hi' := kf_ints_of hi
  obtain ⟨a, b, c⟩ := kf_at_spec e
  have hg : s.heap.get? D = some (W.listOf (List.toArray vs) k) := F.keep _ _ hl
  refine call_meets PySem.F.slot_list_index ⟨_, hg, rfl⟩ PySem.F.entry_list_index (PySem.F.args_list_index_2 _ _)
    (MeetsSeq.list_index D vs.toArray k (.int j t) (isInt j) (fun y hy => kf_eq hi' y (by simpa using hy)) (ns.idxOf j) (by rw [List.size_toArray]; exact a) (by omega) (by simpa using b) (fun i hi hlt => (by simpa using c i (by simpa using hi) hlt))) ⟨hg, h⟩
end
local macro_rules | `(tactic| walk_at "getMethod ref") => `(tactic| (k_here; k_dflt (refine' idx_method (name := Str.ofString "index") ?k1 ?k2 PySem.F.slot_list_index PySem.F.type_list_index ?_; (case k1 => k_asm); (case k2 => with_reducible assumption); k_whole)))
local macro_rules | `(tactic| walk_at "call builtin:list.index") => `(tactic| (k_here; (with_reducible show wpAny _ _ (call (Value.builtin _) [Value.ref _, Value.int _ _]) _ _ _); k_dflt (refine' idx_known ?k1 ?k2 ?k3 ?k4 ?k5 ?_; (case k1 => k_asm); (case k2 => with_reducible assumption); (case k3 => with_reducible assumption); (case k4 => with_reducible assumption); (case k5 => omega); k_whole)))
/-- what a way tells: the number and the branch -/
def kstep (st : Option Int × Int) (d : Stp) (j : Int) : Option (Option Int × Int) := match d with
  | .non => some (some j, st.2)
  | .num n => if n = j then some st else none
  | .set l => if (l.any fun x => x == j) = true then some (st.1, (l.idxOf j : Int)) else none
def krun : List Stp → List Int → Option Int × Int → Option (Option Int × Int)
  | d :: ds, j :: js, st => (kstep st d j).bind (krun ds js)
  | _, _, st => some st
def known (ds : List Stp) (js : List Int) : Option (Int × Int) := if js.length = ds.length then (krun ds js (none, 0)).bind fun st => st.1.map fun n => (n, st.2) else none
theorem krun_at {ds : List Stp} {js : List Int} {i : Nat} {d : Stp} {j : Int} (h1 : ds[i]? = some d) (h2 : js[i]? = some j) (st : Option Int × Int) : krun (ds.drop i) (js.drop i) st = (kstep st d j).bind (krun (ds.drop (i + 1)) (js.drop (i + 1))) := by
  obtain ⟨a, rfl⟩ := List.getElem?_eq_some_iff.mp h1
  obtain ⟨b, rfl⟩ := List.getElem?_eq_some_iff.mp h2
  rw [List.drop_eq_getElem_cons a, List.drop_eq_getElem_cons b]
  rfl
theorem krun_end {ds : List Stp} {js : List Int} (st : Option Int × Int) : krun (ds.drop ds.length) js st = some st := by
  rw [List.drop_length]; cases js <;> rfl
def KnV (tl : List (Addr × Obj)) (r : Value) : Option (Int × Int) → Prop
  | none => r = .none
  | some (n, b) => ∃ T t1 t2 k, r = .ref T ∧ (T, ({ cls := .type "tuple", data := .seq #[.int n t1, .int b t2] k } : Obj)) ∈ tl
def IntO : Option Value → Int → Prop
  | some v, n => IntV n v
  | none, _ => False
theorem IntO.out : ∀ {o : Option Value} {n : Int}, IntO o n → ∃ t, o = some (.int n t)
  | some _, _, h => by
    obtain ⟨t, e⟩ := IntV.out h
    exact ⟨t, by rw [e]⟩
def OptO : Option Value → Option Int → Prop
  | some v, none => v = .none
  | some v, some n => IntV n v
  | none, _ => False
theorem OptO.out : ∀ {o : Option Value} {n : Option Int}, OptO o n → ∃ t, o = some (optI t n)
  | some _, none, h => ⟨0, by rw [show _ = Value.none from h]; rfl⟩
  | some _, some _, h => by
    obtain ⟨t, e⟩ := IntV.out h
    exact ⟨t, by rw [e]; rfl⟩
theorem nic {z a : Str} {l : List Str} (h : (a :: l).contains z = false) : z ≠ a ∧ l.contains z = false := by
  constructor
  · rintro rfl; simp at h
  · simp only [List.contains_cons, Bool.or_eq_false_iff] at h; exact h.2
local macro_rules | `(tactic| walk_at "fr_end5") => `(tactic| (intro z hz; obtain ⟨q1, z1⟩ := nic hz; obtain ⟨q2, z2⟩ := nic z1; obtain ⟨q3, z3⟩ := nic z2; obtain ⟨q4, z4⟩ := nic z3; obtain ⟨q5, z5⟩ := nic z4; simp only [if_neg q1, if_neg q2, if_neg q3, if_neg q4, if_neg q5, z2, Bool.false_eq_true, if_false]))
set_option maxHeartbeats 0 in
theorem check_ {w : World} (x dx : Addr) (t : Tok) (l : Addr) (vs : List Value) (k : Nat) (ds : List Stp) (hW : WF ds) (y : Addr) (us : List Value) (js : List Int) (hu : IntsAre us js) (hj : js.length ≤ 9) :
    Ctr w 10 802 ⟨[.ref x, .ref y], []⟩ (fun h => ObjH w h x dx t l vs k ds ∧ h.IsList y us.toArray) (fun tl r => KnV tl r (known ds js)) := by
  intro mean mg mb dp un gd cn cs a ccd cl outer A₀ base h₀ L m news s Q E B F X N T hk hdp hu hpre hret
  obtain ⟨⟨hx, hdx, hl, hst⟩, hy⟩ := hpre
  have hvl := hst.length
  have h5 := hW.len
  walk_at "enterP"
  k_steps
  · refine hret _ _ _ _ (by assumption) (by assumption) (by assumption) ?_
    have e : known ds js = none := if_neg (by omega)
    rw [e]; exact rfl
  · have hlen : js.length = ds.length := by omega
    have hkn : known ds js = (krun ds js (none, 0)).bind fun st => st.1.map fun n => (n, st.2) := if_pos hlen
    rename Fr s.heap _ _ _ => F2
    rename News s.heap _ _ _ => N2
    refine Hold.go (enum_frame [Str.ofString "branch_idx", Str.ofString "idx", Str.ofString "i", Str.ofString "el", Str.ofString "der"] (n := ds.length) (by rfl) (isList_of (F2.keep _ _ hl)) F2 N2 (fun i items u nx => (items = vs ∧ nx = []) ∧ ∃ st, krun (ds.drop i) (js.drop i) st = krun ds js (none, 0) ∧ IntO (u (Str.ofString "branch_idx")) st.2 ∧ OptO (u (Str.ofString "idx")) st.1) ?_ ⟨⟨rfl, rfl⟩, (none, 0), rfl, rfl, rfl⟩ ?_ ?_)
    · rintro i items m nx h F N ⟨⟨rfl, rfl⟩, _⟩
      exact ⟨isList_of (F.keep _ _ hl), hvl⟩
    · rintro i v u nx items h tk own T t hv hi hoff ⟨⟨rfl, rfl⟩, ⟨n0, b0⟩, hst0, hb0, hn0⟩ hT F3 N3
      obtain ⟨tb, hb0⟩ := hb0.out
      obtain ⟨tn, hn0⟩ := hn0.out
      simp only [fr_known hb0, fr_known hn0] at F3
      simp only [List.nil_append] at N3
      obtain ⟨d, hd, hS⟩ := hst.get hv
      have hij : i < js.length := by omega
      have hj' : js[i]? = some (js.getD i 0) := by rw [List.getD_eq_getElem?_getD, List.getElem?_eq_getElem hij]; rfl
      rw [krun_at hd hj'] at hst0
      cases d with
      | non =>
        obtain rfl : v = Value.none := hS
        k_steps
        refine Hold.go (turn_end (by assumption) (by assumption) [] (fun p hp => id hp) (by exact hoff) ⟨⟨_, ⟨rfl, rfl⟩, (some (js.getD i 0), b0), hst0, ?_, ?_⟩, ?_⟩)
        · exact rfl
        · exact rfl
        · walk_at "fr_end5"
      | num n =>
        obtain ⟨tq, rfl⟩ := hS
        k_steps
        · have e : krun ds js (none, 0) = none := by rw [← hst0]; show (if n = js.getD i 0 then _ else none : Option _).bind _ = none; rw [if_neg (by assumption)]; rfl
          refine hret _ _ _ _ (by assumption) (by assumption) (by assumption) ?_
          rw [hkn, e]; exact rfl
        · have e : kstep (n0, b0) (.num n) (js.getD i 0) = some (n0, b0) := if_pos (by assumption)
          rw [e] at hst0
          refine Hold.go (turn_end (by assumption) (by assumption) [] (fun p hp => id hp) (by exact hoff) ⟨⟨_, ⟨rfl, rfl⟩, (n0, b0), hst0, ?_, ?_⟩, ?_⟩)
          · exact rfl
          · cases n0 <;> exact rfl
          · walk_at "fr_end5"
      | set ls =>
        obtain ⟨c, bs, kb, rfl, hc, hbi⟩ := hS
        have hbl : s.heap.IsList c bs.toArray := ⟨_, hc, rfl, _, rfl⟩
        have hok := hW.ok _ (List.mem_of_getElem? hd)
        have hb3 := hbi.length
        have hl3 := hok.1
        k_steps
        · have e : kstep (n0, b0) (.set ls) (js.getD i 0) = some (n0, (ls.idxOf (js.getD i 0) : Int)) := if_pos (by assumption)
          rw [e] at hst0
          refine Hold.go (turn_end (by assumption) (by assumption) [] (fun p hp => id hp) (by exact hoff) ⟨⟨_, ⟨rfl, rfl⟩, (n0, (ls.idxOf (js.getD i 0) : Int)), hst0, ?_, ?_⟩, ?_⟩)
          · exact rfl
          · cases n0 <;> exact rfl
          · walk_at "fr_end5"
        · have e : krun ds js (none, 0) = none := by rw [← hst0]; show (if (ls.any fun x => x == js.getD i 0) = true then _ else none : Option _).bind _ = none; rw [if_neg (by first | assumption | exact Bool.eq_false_iff.mp (by assumption) | exact Bool.not_eq_true _ ▸ (by assumption) | simp_all)]; rfl
          refine hret _ _ _ _ (by assumption) (by assumption) (by assumption) ?_
          rw [hkn, e]; exact rfl
    · rintro items u nx h tk ⟨⟨rfl, rfl⟩, ⟨n0, b0⟩, hst0, hb0, hn0⟩ F3 N3
      rw [krun_end] at hst0
      rw [← hst0] at hkn
      obtain ⟨tb, hb0⟩ := hb0.out
      obtain ⟨tn, hn0⟩ := hn0.out
      simp only [fr_known hb0, fr_known hn0] at F3
      cases n0 with
      | none =>
        dsimp only [optI] at F3
        k_steps
        refine hret _ _ _ _ (by assumption) (by assumption) (by assumption) ?_
        rw [hkn]; exact rfl
      | some n0 =>
        dsimp only [optI] at F3
        rw [hkn] at hret
        k_steps
        refine' hret _ _ _ _ (by assumption) (by assumption) (by assumption) ⟨_, _, _, _, rfl, ?hm1⟩
        case hm1 => k_mem
end
section
theorem topP18 : True := by
  w_top off
  trivial
theorem StAll.concat {P : Addr → Obj → Prop} {vs : List Value} {ds : List Stp} {v : Value} {d : Stp} (h : StAll P vs ds) (hv : StV P v d) : StAll P (vs.toArray.toList.concat v) (ds ++ [d]) := by
  simpa using StAll.append h (.one hv)
set_option maxHeartbeats 0 in
theorem law_filled {w : World} (l : Addr) (vs : List Value) (k : Nat) (ds : List Stp) (hW : WF ds) (nv : Value) (idx : Stp) (hnv : ∀ P, StV P nv idx) (hidx : idx.isSet = true → False) (b : Option Nat) (tb : Tok) (hb : ∀ i, b = some i → i < 2) :
    Ctr w 10 885 ⟨[.ref l, nv, optI tb (b.map Int.ofNat)], []⟩ (fun h => h.get? l = some (W.listOf (List.toArray vs) k) ∧ StAll (AtH h) vs ds) (fun tl r => StL (InL tl) r (ds.map (fillStep idx (b.getD 0)))) := by
  intro mean mg mb dp un gd cn cs a ccd cl outer A₀ base h₀ L m news s Q E B F X N T hk hdp hu hpre hret
  obtain ⟨hl, hst⟩ := hpre
  have hvl := hst.length
  have h5 := hW.len
  obtain ⟨bv, hbv1, hbv⟩ : ∃ bv, optI tb (b.map Int.ofNat) = bv ∧ IsV (optI tb (b.map Int.ofNat)) bv := ⟨_, rfl, rfl⟩
  rw [hbv1]
  clear hbv1
  walk_at "enterP"
  k_steps
  rename Fr s.heap _ _ _ => F2
  rename News s.heap _ _ _ => N2
  refine Hold.go (for_frame [] (fun i _ nx => ∃ ws k, nx = [(_, W.listOf (List.toArray ws) k)] ∧ StAll (AtH s.heap) ws ((ds.take i).map (fillStep idx (b.getD 0)))) (by rfl) (isList_of hl) F2 N2 ⟨[], _, rfl, .nil⟩ ?_ ?_)
  · rintro i v u nx h tk own hv hoff ⟨ws, k, rfl, hws⟩ F3 N3
    simp only [List.cons_append, List.nil_append] at N3
    have hwl := hws.length
    simp only [List.length_map, List.length_take] at hwl
    obtain ⟨d, hd, hS⟩ := hst.get hv
    have hnext : (ds.take (i + 1)).map (fillStep idx (b.getD 0)) = (ds.take i).map (fillStep idx (b.getD 0)) ++ [fillStep idx (b.getD 0) d] := by
      rw [List.take_add_one, hd]; simp
    cases d with
    | non =>
      obtain rfl : v = Value.none := hS
      k_steps
      exact Hold.go (turn_end (by assumption) (by assumption) [_] (fun p hp => hp) (by exact hoff) ⟨⟨_, _, rfl, by rw [hnext]; exact hws.concat (hnv _)⟩, fun z h1 h2 => by rw [if_neg h1, if_neg (by rw [h2]; exact Bool.false_ne_true)]⟩)
    | num n =>
      obtain ⟨tn, rfl⟩ := hS
      k_steps
      exact Hold.go (turn_end (by assumption) (by assumption) [_] (fun p hp => hp) (by exact hoff) ⟨⟨_, _, rfl, by rw [hnext]; exact hws.concat (d := .num n) ⟨_, rfl⟩⟩, fun z h1 h2 => by rw [if_neg h1, if_neg (by rw [h2]; exact Bool.false_ne_true)]⟩)
    | set ls =>
      obtain ⟨c, bs, kb, rfl, hc, hbi⟩ := hS
      have hbl : s.heap.IsList c bs.toArray := ⟨_, hc, rfl, _, rfl⟩
      have hok := hW.ok _ (List.mem_of_getElem? hd)
      have hb3 := hbi.length
      have hl3 := hok.1
      cases b with
      | none =>
        have hbv2 : bv = Value.none := hbv
        clear hbv
        subst hbv2
        k_steps
        exact Hold.go (turn_end (by assumption) (by assumption) [_] (fun p hp => hp) (by exact hoff) ⟨⟨_, _, rfl, by rw [hnext]; exact hws.concat (d := .num (ls.getD 0 0)) ⟨_, rfl⟩⟩, fun z h1 h2 => by rw [if_neg h1, if_neg (by rw [h2]; exact Bool.false_ne_true)]⟩)
      | some b =>
        have hbv2 : bv = Value.int (b : Int) tb := hbv
        clear hbv
        subst hbv2
        have hb2 := hb b rfl
        k_steps
        exact Hold.go (turn_end (by assumption) (by assumption) [_] (fun p hp => hp) (by exact hoff) ⟨⟨_, _, rfl, by rw [hnext]; exact hws.concat (d := .num (ls.getD b 0)) ⟨_, rfl⟩⟩, fun z h1 h2 => by rw [if_neg h1, if_neg (by rw [h2]; exact Bool.false_ne_true)]⟩)
  · rintro u nx h tk ⟨ws, k, rfl, hws⟩ F3 N3
    rw [List.take_of_length_le (by rw [hst.length]; exact Nat.le_refl _)] at hws
    k_steps
    refine' hret _ _ _ _ (by assumption) (by assumption) (by assumption) ⟨_, ws, k, rfl, ?hm1, hws.nosets (fill_nosets _ hidx)⟩
    case hm1 => k_mem
section
variable {prog : Program} {w : World} {A : Around} {E : Value → Shared → Prop} {s : Shared} {h₀ : Heap} {L D : Addr} {m : Str → Option Value} {vs : List Value} {k i : Nat} {kk : Int} {u : Tok} {v : Value} {Q : Value → Shared → Prop}
theorem sub_base {value slice : PySem.Expr} (F : Fr h₀ L s.heap m) (hl : h₀.get? D = some (W.listOf (List.toArray vs) k)) (hv : vs[i]? = some v) (hk : kk = (i : Int)) (hi : (i : Int) < 2 ^ 62) (h : Q v s)
    (hs : subscripted slice false (.ref D) (.int kk u) = operate [.ref D, .int kk u] (getItem (.ref D) (.int kk u)) := by with_unfolding_all rfl) :
    wpAny (model prog w) A (subscriptTail value slice (.ref D) (.int kk u)) Q E s := by
  subst hk
  have hl' := isList_of (F.keep _ _ hl)
  exact tail_any hl'.typeIs slot_list_getitem.lookup (wpAny_getItem_list hl' (by omega) (by omega) (by simpa using hv) h) hs
end
theorem krun_non : ∀ (ds : List Stp) (js : List Int) (st : Option Int × Int), ds.length ≤ js.length → (ds.any Stp.isNon = true ∨ st.1.isSome = true) → ∀ st', krun ds js st = some st' → st'.1.isSome = true
  | [], js, st, _, h, st', e => by
    rcases h with h | h
    · exact nomatch h
    · cases js <;> (cases e; exact h)
  | _ :: _, [], st, hl, _, st', e => absurd hl (Nat.not_succ_le_zero _)
  | d :: ds, j :: js, st, hl, h, st', e => by
    have hl' : ds.length ≤ js.length := Nat.le_of_succ_le_succ hl
    rw [List.any_cons, Bool.or_eq_true] at h
    unfold krun at e
    cases d with
    | non => exact krun_non ds js (some j, st.2) hl' (Or.inr rfl) st' e
    | num n =>
      dsimp only [kstep] at e
      have h' : ds.any Stp.isNon = true ∨ st.1.isSome = true := by
        rcases h with (h | h) | h
        · exact nomatch h
        · exact Or.inl h
        · exact Or.inr h
      by_cases q : n = j
      · rw [if_pos q] at e
        exact krun_non ds js st hl' h' st' e
      · rw [if_neg q] at e; cases e
    | set l =>
      dsimp only [kstep] at e
      have h' : ds.any Stp.isNon = true ∨ st.1.isSome = true := by
        rcases h with (h | h) | h
        · exact nomatch h
        · exact Or.inl h
        · exact Or.inr h
      by_cases q : (l.any fun x => x == j) = true
      · rw [if_pos q] at e
        exact krun_non ds js (st.1, (l.idxOf j : Int)) hl' h' st' e
      · rw [if_neg q] at e; cases e
theorem krun_keep : ∀ (ds : List Stp) (js : List Int) (st : Option Int × Int), ds.any Stp.isNon = false → ∀ st', krun ds js st = some st' → st'.1 = st.1
  | [], js, st, _, st', e => by cases js <;> (cases e; rfl)
  | _ :: _, [], st, _, st', e => by cases e; rfl
  | d :: ds, j :: js, st, h, st', e => by
    rw [List.any_cons, Bool.or_eq_false_iff] at h
    unfold krun at e
    cases d with
    | non => exact nomatch h.1
    | num n =>
      dsimp only [kstep] at e
      by_cases q : n = j
      · rw [if_pos q] at e
        exact krun_keep ds js st h.2 st' e
      · rw [if_neg q] at e; cases e
    | set l =>
      dsimp only [kstep] at e
      by_cases q : (l.any fun x => x == j) = true
      · rw [if_pos q] at e
        exact krun_keep ds js (st.1, (l.idxOf j : Int)) h.2 st' e
      · rw [if_neg q] at e; cases e
theorem krun_nonon (ds : List Stp) (js : List Int) (h : ds.any Stp.isNon = false) : ((krun ds js (none, 0)).bind fun st => st.1.map fun n => (n, st.2)) = (none : Option (Int × Int)) := by
  cases e : krun ds js (none, 0) with
  | none => rfl
  | some st =>
    have q := krun_keep ds js (none, 0) h st e
    show st.1.map _ = none
    rw [q]; rfl
local macro_rules | `(tactic| walk_at "call builtin:len") => `(tactic| (k_here; (with_reducible show wpAny _ _ (call _ [Value.ref _]) _ _ _); k_dflt (refine' len_base ?k1 ?k2 ?k3 ?_; (case k1 => k_asm); (case k2 => with_reducible assumption); (case k3 => omega); k_whole)))
local macro_rules | `(tactic| walk_at "exec For Name Call cons nil") => `(tactic| (k_here; (with_reducible show wpAny _ _ (exec (Stmt.For _ (Expr.Call (Expr.Name (Str.ofString "range") _) _ _ _) _ _ _) _) _ _ _); (with_unfolding_all refine' For_invVF (by k_asm) ?k1 ?k2 ?_; (case k1 => exact rfl); (case k2 => exact rfl); k_whole)))
local macro_rules | `(tactic| walk_at "subscriptTail") => `(tactic| (k_here; (with_reducible show wpAny _ _ (subscriptTail _ _ (Value.ref _) (Value.int _ _)) _ _ _); k_dflt (refine' sub_base ?k1 ?k2 ?k3 ?k4 ?k5 ?_ ?k6; (case k1 => k_asm); (case k2 => with_reducible assumption); (case k3 => with_reducible assumption); (case k4 => omega); (case k5 => omega); (case k6 => with_unfolding_all rfl); k_whole)))
local macro_rules | `(tactic| walk_at "getMethod ref") => `(tactic| (k_here; k_dflt (refine' idx_method (name := Str.ofString "index") ?k1 ?k2 PySem.F.slot_list_index PySem.F.type_list_index ?_; (case k1 => k_asm); (case k2 => with_reducible assumption); k_whole)))
local macro_rules | `(tactic| walk_at "call builtin:list.index") => `(tactic| (k_here; (with_reducible show wpAny _ _ (call (Value.builtin _) [Value.ref _, Value.int _ _]) _ _ _); k_dflt (refine' idx_known ?k1 ?k2 ?k3 ?k4 ?k5 ?_; (case k1 => k_asm); (case k2 => with_reducible assumption); (case k3 => with_reducible assumption); (case k4 => with_reducible assumption); (case k5 => omega); k_whole)))
set_option maxHeartbeats 0 in
theorem law_known {w : World} (l : Addr) (vs : List Value) (k : Nat) (ds : List Stp) (hW : WF ds) (y : Addr) (us : List Value) (js : List Int) (hi : IntsAre us js) (hj : js.length ≤ 9) :
    Ctr w 10 892 ⟨[.ref l, .ref y], []⟩ (fun h => h.get? l = some (W.listOf (List.toArray vs) k) ∧ StAll (AtH h) vs ds ∧ h.IsList y us.toArray) (fun tl r => KnV tl r (known ds js)) := by
  intro mean mg mb dp un gd cn cs a ccd cl outer A₀ base h₀ L m news s Q E B F X N T hk hdp hu hpre hret
  obtain ⟨hl, hst, hy⟩ := hpre
  have hvl := hst.length
  have h5 := hW.len
  walk_at "enterP"
  k_steps
  · refine hret _ _ _ _ (by assumption) (by assumption) (by assumption) ?_
    have e : known ds js = none := if_neg (by omega)
    rw [e]; exact rfl
  · have hlen : js.length = ds.length := by omega
    have hkn : known ds js = (krun ds js (none, 0)).bind fun st => st.1.map fun n => (n, st.2) := if_pos hlen
    refine notIn_rd (ds.any Stp.isNon) (isList_of (Fr.keep (by k_asm) _ _ hl)) (ath_keep (by k_asm) hst).rd rd_none (ok_dats 7 ds) rfl (non_mem rfl) (by ktr_units) ?_
    cases hnon : ds.any Stp.isNon with
    | false =>
      k_steps
      refine hret _ _ _ _ (by assumption) (by assumption) (by assumption) ?_
      rw [hkn, krun_nonon ds js hnon]; exact rfl
    | true =>
      k_steps
      rename Fr s.heap _ _ _ => F2
      rename IsRange _ _ _ _ _ _ _ _ => hR
      have hn0 : ((vs.length : Int) - 0).toNat = ds.length := by omega
      refine Hold.go (range_frame [Str.ofString "branch", Str.ofString "number"] (n := ds.length) (fun i u nx => nx = [] ∧ ∃ st, krun (ds.drop i) (js.drop i) st = krun ds js (none, 0) ∧ IntO (u (Str.ofString "branch")) st.2 ∧ OptO (u (Str.ofString "number")) st.1) (by rfl) hR (small_one (by omega) (by omega) (by omega) (by omega)) (by rw [rangeSize_nat, hn0]) F2 News.nil ⟨rfl, (none, 0), rfl, rfl, rfl⟩ ?_ ?_)
      · rintro i t u nx h tk own hi' hoff ⟨rfl, ⟨n0, b0⟩, hst0, hb0, hn0⟩ F3 N3
        obtain ⟨tb, hb0⟩ := hb0.out
        obtain ⟨tn, hn0⟩ := hn0.out
        simp only [fr_known hb0, fr_known hn0, Int.zero_add] at F3
        simp only [List.nil_append] at N3
        have hij : i < js.length := by omega
        have hiv : i < vs.length := by omega
        have hv := List.getElem?_eq_getElem hiv
        generalize vs[i] = v at hv
        obtain ⟨d, hd, hS⟩ := hst.get hv
        have hj' : js[i]? = some (js.getD i 0) := by rw [List.getD_eq_getElem?_getD, List.getElem?_eq_getElem hij]; rfl
        rw [krun_at hd hj'] at hst0
        cases d with
        | non =>
          obtain rfl : v = Value.none := hS
          k_steps
          refine Hold.go (turn_end (by assumption) (by assumption) [] (fun p hp => id hp) (by exact hoff) ⟨⟨rfl, (some (js.getD i 0), b0), hst0, ?_, ?_⟩, ?_⟩)
          · exact rfl
          · exact rfl
          · intro z q1 hz; obtain ⟨q2, z2⟩ := nic hz; obtain ⟨q3, z3⟩ := nic z2; simp only [if_neg q1, if_neg q2, if_neg q3, z3, Bool.false_eq_true, if_false]
        | num n =>
          obtain ⟨tq, rfl⟩ := hS
          k_steps
          · have e : krun ds js (none, 0) = none := by rw [← hst0]; show (if n = js.getD i 0 then _ else none : Option _).bind _ = none; rw [if_neg (by assumption)]; rfl
            refine hret _ _ _ _ (by assumption) (by assumption) (by assumption) ?_
            rw [hkn, e]; exact rfl
          · have e : kstep (n0, b0) (.num n) (js.getD i 0) = some (n0, b0) := if_pos (by assumption)
            rw [e] at hst0
            refine Hold.go (turn_end (by assumption) (by assumption) [] (fun p hp => id hp) (by exact hoff) ⟨⟨rfl, (n0, b0), hst0, ?_, ?_⟩, ?_⟩)
            · exact rfl
            · cases n0 <;> exact rfl
            · intro z q1 hz; obtain ⟨q2, z2⟩ := nic hz; obtain ⟨q3, z3⟩ := nic z2; simp only [if_neg q1, if_neg q2, if_neg q3, z3, Bool.false_eq_true, if_false]
        | set ls =>
          obtain ⟨c, bs, kb, rfl, hc, hbi⟩ := hS
          have hbl : s.heap.IsList c bs.toArray := ⟨_, hc, rfl, _, rfl⟩
          have hok := hW.ok _ (List.mem_of_getElem? hd)
          have hb3 := hbi.length
          have hl3 := hok.1
          k_steps
          · have e : kstep (n0, b0) (.set ls) (js.getD i 0) = some (n0, (ls.idxOf (js.getD i 0) : Int)) := if_pos (by assumption)
            rw [e] at hst0
            refine Hold.go (turn_end (by assumption) (by assumption) [] (fun p hp => id hp) (by exact hoff) ⟨⟨rfl, (n0, (ls.idxOf (js.getD i 0) : Int)), hst0, ?_, ?_⟩, ?_⟩)
            · exact rfl
            · cases n0 <;> exact rfl
            · intro z q1 hz; obtain ⟨q2, z2⟩ := nic hz; obtain ⟨q3, z3⟩ := nic z2; simp only [if_neg q1, if_neg q2, if_neg q3, z3, Bool.false_eq_true, if_false]
          · have e : krun ds js (none, 0) = none := by rw [← hst0]; show (if (ls.any fun x => x == js.getD i 0) = true then _ else none : Option _).bind _ = none; rw [if_neg (by first | assumption | exact Bool.eq_false_iff.mp (by assumption) | simp_all)]; rfl
            refine hret _ _ _ _ (by assumption) (by assumption) (by assumption) ?_
            rw [hkn, e]; exact rfl
      · rintro u nx h tk ⟨rfl, ⟨n0, b0⟩, hst0, hb0, hn0⟩ F3 N3
        rw [krun_end] at hst0
        rw [← hst0] at hkn
        obtain ⟨tb, hb0⟩ := hb0.out
        obtain ⟨tn, hn0⟩ := hn0.out
        simp only [fr_known hb0, fr_known hn0] at F3
        cases n0 with
        | none => exact nomatch krun_non ds js (none, 0) (Nat.le_of_eq hlen.symm) (Or.inl hnon) _ hst0.symm
        | some n0 =>
          dsimp only [optI] at F3
          rw [hkn] at hret
          k_steps
          refine' hret _ _ _ _ (by assumption) (by assumption) (by assumption) ⟨_, _, _, _, rfl, ?hm1⟩
          case hm1 => k_mem
end
section
theorem topP19 : True := by
  w_top off
  trivial
local macro_rules | `(tactic| k_inst) => `(tactic| (refine' inst_base ?N ?h1 ?h2; (case N => k_asm); (case h1 => with_reducible assumption); (case h2 => with_reducible assumption)))
theorem wf_fill {ds : List Stp} (hW : WF ds) (b : Nat) (hb : b < 2) (idx : Stp) (hidx : idx = .non ∨ ∃ n, idx = .num n ∧ Good n) : WF (ds.map (fillStep idx b)) where
  len := by rw [List.length_map]; exact hW.len
  ok := fun d hd => by
    obtain ⟨e, he, rfl⟩ := List.mem_map.mp hd
    have hok := hW.ok e he
    cases e with
    | non =>
      rcases hidx with rfl | ⟨n, rfl, hg⟩
      · exact trivial
      · exact hg
    | num n => exact hok
    | set l =>
      obtain ⟨h1, h2⟩ := hok
      have hlt : b < l.length := by omega
      show Good (l.getD b 0)
      rw [List.getD_eq_getElem?_getD, List.getElem?_eq_getElem hlt]
      exact h2 _ (List.getElem_mem hlt)
  non := by
    rw [List.countP_map]
    refine Nat.le_trans (List.countP_mono_left fun d _ h => ?_) hW.non
    cases d with
    | non => rfl
    | num _ => exact h
    | set _ => exact h
  sets := by
    have z : (ds.map (fillStep idx b)).countP Stp.isSet = 0 := List.countP_eq_zero.mpr fun d hd => by
      rw [fill_nosets ds (by rintro e; rcases hidx with rfl | ⟨n, rfl, _⟩ <;> exact nomatch e) d hd]; exact Bool.false_ne_true
    omega
theorem ObjH.keep {w : World} {h₀ h : Heap} {L : Addr} {m : Str → Option Value} (F : Fr h₀ L h m) {x dx : Addr} {t : Tok} {l : Addr} {vs : List Value} {k : Nat} {ds : List Stp} (o : ObjH w h₀ x dx t l vs k ds) : ObjH w h x dx t l vs k ds :=
  ⟨F.keep _ _ o.1, F.keep _ _ o.2.1, F.keep _ _ o.2.2.1, ath_keep F o.2.2.2⟩
set_option maxHeartbeats 0 in
theorem branch_ {w : World} (x dx : Addr) (t : Tok) (l : Addr) (vs : List Value) (k : Nat) (ds : List Stp) (hW : WF ds) (b : Option Nat) (tb : Tok) (hb : ∀ i, b = some i → i < 2) :
    Ctr w 24 795 ⟨[.ref x, optI tb (b.map Int.ofNat)], []⟩ (fun h => ObjH w h x dx t l vs k ds) (fun tl r => ObjL (InL tl) w r (ds.map (fillStep .non (b.getD 0)))) := by
  intro mean mg mb dp un gd cn cs a ccd cl outer A₀ base h₀ L m news s Q E B F X N T hk hdp hu hpre hret
  have hpre' := hpre
  obtain ⟨hx, hdx, hl, hst⟩ := hpre
  obtain ⟨bv, hbv1, hbv⟩ : ∃ bv, optI tb (b.map Int.ofNat) = bv ∧ IsV (optI tb (b.map Int.ofNat)) bv := ⟨_, rfl, rfl⟩
  have C := fill_ (w := w) x dx t l vs k ds hW none 0 (fun _ h => nomatch h) b tb hb
  rw [hbv1] at C
  rw [hbv1]
  clear hbv1
  walk_at "enterP"
  k_steps
  refine Hold.go (ctr_call (Ctr.use C (by k_asm) (by k_asm) (by k_asm) (by k_asm) (by k_asm) (by first | exact rfl | assumption) (by ktr_room) (by ktr_units) (ObjH.keep (by k_asm) hpre') ?_))
  rintro r tl h' tk' F' N' S' ⟨al, as, ak, rfl, hal, has⟩
  have hW' := wf_fill hW (b.getD 0) (by cases b with | none => decide | some b => exact hb b rfl) .non (Or.inl rfl)
  simp only [List.nil_append] at N'
  k_steps
  refine Hold.go (mk_obj (by k_asm) (by k_asm) (by k_asm) (by k_asm) (by k_asm) (by first | exact rfl | assumption) (by ktr_room) (by ktr_units) _ as _ _ hal has hW' ?_)
  intro x2 dx2 tx h9 tk9 F9 N9 l9 l8
  k_steps
  exact hret _ _ _ _ (by assumption) (by assumption) (by assumption) ⟨x2, dx2, tx, _, as, _, rfl, List.mem_cons_self, List.mem_cons_of_mem _ List.mem_cons_self, List.mem_cons_of_mem _ (List.mem_cons_of_mem _ hal), has.mono fun _ _ hp => List.mem_cons_of_mem _ (List.mem_cons_of_mem _ hp)⟩
end
section
theorem topP20 : True := by
  w_top off
  trivial
/-! ## the texts, as rows of signs -/
def sg (x : Str) : List Nat := x.cps.toList
theorem sg_ext {x y : Str} (h : sg x = sg y) : x = y := by
  cases x; cases y; unfold sg at h
  congr; exact Array.toList_inj.mp h
theorem sg_append (x y : Str) : sg (x ++ y) = sg x ++ sg y := by
  show (x.cps ++ y.cps).toList = _
  simp [sg]
theorem sg_len (x : Str) : x.length = (sg x).length := by simp [sg, Str.length]
theorem sg_of (s : String) : sg (Str.ofString s) = s.toList.map Char.toNat := signs_ofString s
theorem sg_one (c : Nat) : sg ⟨#[c]⟩ = [c] := rfl
/-- texts joined by one sign -/
def jl (c : Nat) : List (List Nat) → List Nat
  | [] => []
  | [a] => a
  | a :: b :: r => a ++ c :: jl c (b :: r)
theorem sg_join (c : Nat) : ∀ ws : List Str, sg (Str.join ⟨#[c]⟩ ws) = jl c (ws.map sg)
  | [] => rfl
  | [_] => rfl
  | x :: y :: r => by
    show sg (x ++ ⟨#[c]⟩ ++ Str.join ⟨#[c]⟩ (y :: r)) = _
    rw [sg_append, sg_append, sg_join c (y :: r), List.append_assoc]
    rfl
theorem cut_same {c : Nat} : ∀ {a b X Y : List Nat}, c ∉ a → c ∉ b → a ++ c :: X = b ++ c :: Y → a = b ∧ X = Y
  | [], [], _, _, _, _, e => ⟨rfl, by simpa using e⟩
  | [], y :: b, _, _, _, h2, e => by
    simp only [List.nil_append, List.cons_append, List.cons.injEq] at e
    exact absurd (List.mem_cons.mpr (Or.inl e.1)) h2
  | x :: a, [], _, _, h1, _, e => by
    simp only [List.nil_append, List.cons_append, List.cons.injEq] at e
    exact absurd (List.mem_cons.mpr (Or.inl e.1.symm)) h1
  | x :: a, y :: b, _, _, h1, h2, e => by
    simp only [List.cons_append, List.cons.injEq] at e
    obtain ⟨q1, q2⟩ := cut_same (fun z => h1 (List.mem_cons_of_mem _ z)) (fun z => h2 (List.mem_cons_of_mem _ z)) e.2
    exact ⟨by rw [e.1, q1], q2⟩
theorem jl_same {c : Nat} : ∀ {as bs : List (List Nat)}, as ≠ [] → bs ≠ [] → (∀ a ∈ as, c ∉ a) → (∀ b ∈ bs, c ∉ b) → jl c as = jl c bs → as = bs
  | [], _, h, _, _, _, _ => absurd rfl h
  | _ :: _, [], _, h, _, _, _ => absurd rfl h
  | [a], [b], _, _, _, _, e => by rw [show a = b from e]
  | [a], b :: b2 :: r, _, _, h1, _, e => by
    exact absurd (show c ∈ a by rw [show a = b ++ c :: jl c (b2 :: r) from e]; simp) (h1 a List.mem_cons_self)
  | a :: a2 :: r, [b], _, _, _, h2, e => by
    exact absurd (show c ∈ b by rw [show b = a ++ c :: jl c (a2 :: r) from e.symm]; simp) (h2 b List.mem_cons_self)
  | a :: a2 :: r, b :: b2 :: q, _, _, h1, h2, e => by
    obtain ⟨e1, e2⟩ := cut_same (h1 a List.mem_cons_self) (h2 b List.mem_cons_self) (show a ++ c :: jl c (a2 :: r) = b ++ c :: jl c (b2 :: q) from e)
    have := jl_same (List.cons_ne_nil _ _) (List.cons_ne_nil _ _) (fun x hx => h1 x (List.mem_cons_of_mem _ hx)) (fun x hx => h2 x (List.mem_cons_of_mem _ hx)) e2
    rw [e1, this]
theorem map_sg_inj : ∀ {xs ys : List Str}, xs.map sg = ys.map sg → xs = ys
  | [], [], _ => rfl
  | [], _ :: _, e => nomatch e
  | _ :: _, [], e => nomatch e
  | x :: xs, y :: ys, e => by
    simp only [List.map_cons, List.cons.injEq] at e
    rw [sg_ext e.1, map_sg_inj e.2]
/-- a text that is joined of parts without the sign is split into them -/
theorem split_join {c : Nat} {ws : List Str} (h0 : ws ≠ []) (hf : ∀ x ∈ ws, c ∉ sg x) : Txt.split (Str.join ⟨#[c]⟩ ws) ⟨#[c]⟩ = ws := by
  have hp := split_pos (Str.join ⟨#[c]⟩ ws) ⟨#[c]⟩
  have hs := StrLaws.split_free (Str.join ⟨#[c]⟩ ws) c
  have hj := StrLaws.join_split (Str.join ⟨#[c]⟩ ws) ⟨#[c]⟩
  generalize Txt.split (Str.join ⟨#[c]⟩ ws) ⟨#[c]⟩ = vs at hp hs hj
  have e := congrArg sg hj
  rw [sg_join, sg_join] at e
  refine map_sg_inj (jl_same (c := c) ?_ ?_ ?_ ?_ e)
  · intro z; rw [List.map_eq_nil_iff.mp z] at hp; exact absurd hp (by decide)
  · intro z; exact h0 (List.map_eq_nil_iff.mp z)
  · intro a ha; obtain ⟨x, hx, rfl⟩ := List.mem_map.mp ha; exact hs x hx
  · intro a ha; obtain ⟨x, hx, rfl⟩ := List.mem_map.mp ha; exact hf x hx
theorem lit_slash : Str.ofString "/" = ⟨#[47]⟩ := by decide +kernel
theorem lit_comma : Str.ofString "," = ⟨#[44]⟩ := by decide +kernel
theorem lit_semi : Str.ofString ";" = ⟨#[59]⟩ := by decide +kernel
theorem item0 {x : Str} {a : Nat} {r : List Nat} (h : sg x = a :: r) : Txt.item x 0 = ⟨#[a]⟩ := by
  have e : x.cps[(0 : Int).toNat]? = some a := by
    rw [← Array.getElem?_toList, show x.cps.toList = a :: r from h]; rfl
  unfold Txt.item Txt.charAt
  rw [StrLaws.at_nonneg (by decide) e]; rfl
theorem itemL {x : Str} {a : Nat} {r : List Nat} (h : sg x = r ++ [a]) : Txt.item x (-1) = ⟨#[a]⟩ := by
  have hl : x.length = r.length + 1 := by rw [sg_len, h]; simp
  have e : x.cps[((-1 : Int) + x.length).toNat]? = some a := by
    rw [← Array.getElem?_toList, show x.cps.toList = r ++ [a] from h, hl, show ((-1 : Int) + ((r.length + 1 : Nat) : Int)).toNat = r.length by omega]; simp
  unfold Txt.item Txt.charAt
  rw [StrLaws.at_neg (by decide) (by omega) e]; rfl
theorem one_beq (a b : Nat) : ((⟨#[a]⟩ : Str) == ⟨#[b]⟩) = decide (a = b) := by
  by_cases h : a = b
  · subst h; simp
  · rw [decide_eq_false h, beq_eq_false_iff_ne]
    intro e; injection e with e; simp at e; exact h e
theorem slice_eq (x : Str) (l u : Option Int) : Txt.slice x l u = StrLaws.sliceText x l u := by
  rfl
theorem slice_mid {x : Str} {a b : Nat} {r : List Nat} (h : sg x = a :: (r ++ [b])) : sg (Txt.slice x (some 1) (some (-1))) = r := by
  have hl : x.length = r.length + 2 := by rw [sg_len, h]; simp
  have hc : x.cps.toList.length = r.length + 2 := by rw [show x.cps.toList = a :: (r ++ [b]) from h]; simp
  rw [slice_eq, StrLaws.sliceText_neg_hi x _ (by decide) (by omega), StrLaws.sliceText_plain ⟨by decide, by omega, by omega⟩]
  show ((x.cps.toList.drop (1 : Int).toNat).take _).toArray.toList = r
  rw [show x.cps.toList = a :: (r ++ [b]) from h, show ((-1 : Int) + x.length - 1).toNat = r.length by omega]
  simp
theorem slice_init {x : Str} {b : Nat} {r : List Nat} (h : sg x = r ++ [b]) : sg (Txt.slice x none (some (-1))) = r := by
  have hl : x.length = r.length + 1 := by rw [sg_len, h]; simp
  rw [slice_eq, StrLaws.sliceText_to_neg (by decide) (by omega)]
  show ((x.cps.toList.drop 0).take _).toArray.toList = r
  rw [show x.cps.toList = r ++ [b] from h, show ((-1 : Int) + x.length - 0).toNat = r.length by omega]
  simp
end
section
theorem topP21 : True := by
  w_top off
  trivial
theorem Ctr.mono {w : World} {d1 d2 : Nat} {f : Addr} {args : Args} {Pre Pre' : Heap → Prop} {Post Post' : List (Addr × Obj) → Value → Prop} (C : Ctr w d1 f args Pre Post) (hd : d1 ≤ d2) (hp : ∀ h, Pre' h → Pre h) (hq : ∀ tl r, Post tl r → Post' tl r) : Ctr w d2 f args Pre' Post' :=
  fun mean mg mb dp un gd cn cs a ccd cl outer A₀ base h₀ L m news s Q E B F X N T hk hdp hu hpre hret =>
    C mean mg mb dp un gd cn cs a ccd cl outer A₀ base h₀ L m news s Q E B F X N T hk (by omega) (by omega) (hp _ hpre) fun r tl h' tk' F' N' S' P' => hret r tl h' tk' F' N' S' (hq _ _ P')
theorem lits : Str.ofString "*" = ⟨#[42]⟩ ∧ Str.ofString "{" = ⟨#[123]⟩ ∧ Str.ofString "}" = ⟨#[125]⟩ ∧ Str.ofString "<" = ⟨#[60]⟩ ∧ Str.ofString ">" = ⟨#[62]⟩ ∧ Str.ofString "h" = ⟨#[104]⟩ ∧ Str.ofString "H" = ⟨#[72]⟩ ∧ Str.ofString "'" = ⟨#[39]⟩ := by decide +kernel
def Digit (c : Nat) : Prop := 48 ≤ c ∧ c ≤ 57
def Wordy (c : Nat) : Prop := Digit c ∨ c = 104 ∨ c = 39 ∨ c = 72
theorem num_sg {n : Int} (h0 : 0 ≤ n) : (∀ c ∈ sg (Str.ofString (toString n)), Digit c) ∧ sg (Str.ofString (toString n)) ≠ [] := by
  obtain ⟨m, rfl⟩ := Int.eq_ofNat_of_zero_le h0
  have e : sg (Str.ofString (toString ((m : Nat) : Int))) = (Nat.toDigits 10 m).map Char.toNat := KIN.signs_num m
  constructor
  · intro c hc
    rw [e] at hc
    obtain ⟨ch, hch, e⟩ := List.mem_map.mp hc
    have r := digit_range (Nat.isDigit_of_mem_toDigits (by decide) (by decide) hch)
    rw [← e]
    exact r
  · rw [e]
    intro e
    have h := toDigits_len_ge 10 m
    rw [List.map_eq_nil_iff.mp e] at h
    exact absurd h (by decide)
theorem mark_sg (f : Nat) : sg (mark f) = [104] ∨ sg (mark f) = [39] ∨ sg (mark f) = [72] := by
  unfold mark
  split
  · exact Or.inl (by rw [lits.2.2.2.2.2.1]; rfl)
  · split
    · exact Or.inr (Or.inl (by rw [lits.2.2.2.2.2.2.2]; rfl))
    · exact Or.inr (Or.inr (by rw [lits.2.2.2.2.2.2.1]; rfl))
theorem word_lo {f : Nat} {n : Int} (h : n < 2147483648) : word f n = Str.ofString (toString n) := if_pos h
theorem word_hi {f : Nat} {n : Int} (h : 2147483648 ≤ n) : word f n = Str.ofString (toString (n - 2147483648)) ++ mark f := if_neg (by omega)
/-- a number's word: its first sign is a digit -/
theorem word_head (f : Nat) {n : Int} (hg : Good n) : ∃ a r, sg (word f n) = a :: r ∧ Digit a := by
  have key : ∀ {m : Int}, 0 ≤ m → ∃ a r, sg (Str.ofString (toString m)) = a :: r ∧ Digit a := by
    intro m hm
    obtain ⟨q1, q2⟩ := num_sg hm
    cases e : sg (Str.ofString (toString m)) with
    | nil => exact absurd e q2
    | cons a r => exact ⟨a, r, rfl, q1 a (by rw [e]; exact List.mem_cons_self)⟩
  by_cases h : n < 2147483648
  · rw [word_lo h]; exact key hg.1
  · rw [word_hi (by omega), sg_append]
    obtain ⟨a, r, e, d⟩ := key (m := n - 2147483648) (by omega)
    exact ⟨a, r ++ sg (mark f), by rw [e]; rfl, d⟩
theorem word_wordy (f : Nat) {n : Int} (hg : Good n) : ∀ c ∈ sg (word f n), Wordy c := by
  intro c hc
  by_cases h : n < 2147483648
  · rw [word_lo h] at hc; exact Or.inl ((num_sg hg.1).1 c hc)
  · rw [word_hi (by omega), sg_append] at hc
    rcases List.mem_append.mp hc with hc | hc
    · exact Or.inl ((num_sg (n := n - 2147483648) (by omega)).1 c hc)
    · rcases mark_sg f with e | e | e <;> rw [e] at hc <;> rw [List.mem_singleton.mp hc]
      · exact Or.inr (Or.inl rfl)
      · exact Or.inr (Or.inr (Or.inl rfl))
      · exact Or.inr (Or.inr (Or.inr rfl))
theorem last_of : ∀ {l : List Nat}, l ≠ [] → ∃ r a, l = r ++ [a] := fun {l} h => ⟨l.dropLast, l.getLast h, (List.dropLast_concat_getLast h).symm⟩
theorem ne_beq {x y : Str} (h : sg x ≠ sg y) : (x == y) = false := beq_eq_false_iff_ne.mpr fun e => h (by rw [e])
theorem pe_word {w : World} (f : Nat) (n : Int) (hg : Good n) (ah : Bool) (hah : ah = true ∨ n < 2147483648) (t : Tok) (args : Args) (ha : peArgs (word f n) t ah args) : Ctr w 2 841 args (fun _ => True) (fun _ r => IntV n r) := by
  obtain ⟨a, r, e, d⟩ := word_head f hg
  obtain ⟨k1, k2, k3, k4, k5, k6, k7, k8⟩ := lits
  obtain ⟨d1, d2⟩ := d
  have h1 : (word f n == Str.ofString "*") = false := ne_beq (by rw [e, k1, sg_one]; intro z; injection z with z; omega)
  have h2 : (Txt.item (word f n) 0 == Str.ofString "{") = false := by rw [item0 e, k2, one_beq]; exact decide_eq_false (by omega)
  have h3 : (Txt.item (word f n) 0 == Str.ofString "<") = false := by rw [item0 e, k4, one_beq]; exact decide_eq_false (by omega)
  have hl : 1 ≤ (word f n).length := by rw [sg_len, e]; simp
  have hl2 : (word f n).length ≤ 640 := Nat.le_trans (word_len f hg) (by decide)
  by_cases h : n < 2147483648
  · obtain ⟨q1, q2⟩ := num_sg hg.1
    obtain ⟨r2, b, e2⟩ := last_of q2
    have hb : Digit b := q1 b (by rw [e2]; simp)
    obtain ⟨b1, b2⟩ := hb
    refine pe_plain (word f n) t n ah args ha h1 h2 h3 hl hl2 ?_ (by rw [word_lo h]; exact KIN.num_reads hg.1 (by omega)) hg.1 h
    rw [itemL (x := word f n) (a := b) (r := r2) (by rw [word_lo h]; exact e2), k6, k7, k8]
    simp only [List.any_cons, List.any_nil, one_beq, Bool.or_false]
    rw [decide_eq_false (by omega), decide_eq_false (by omega), decide_eq_false (by omega)]; rfl
  · have hah' : ah = true := hah.resolve_right h
    subst hah'
    have hm : 0 ≤ n - 2147483648 ∧ n - 2147483648 < 2147483648 := by have := hg.2; omega
    obtain ⟨c, hc, hc2⟩ : ∃ c, sg (mark f) = [c] ∧ (c = 104 ∨ c = 39 ∨ c = 72) := by
      rcases mark_sg f with e | e | e
      · exact ⟨_, e, Or.inl rfl⟩
      · exact ⟨_, e, Or.inr (Or.inl rfl)⟩
      · exact ⟨_, e, Or.inr (Or.inr rfl)⟩
    have e3 : sg (word f n) = sg (Str.ofString (toString (n - 2147483648))) ++ [c] := by rw [word_hi (by omega), sg_append, hc]
    have e4 : Txt.slice (word f n) none (some (-1)) = Str.ofString (toString (n - 2147483648)) := sg_ext (slice_init e3)
    have C := pe_hard (w := w) (word f n) t (n - 2147483648) args ha h1 h2 h3 hl hl2 (by
      rw [itemL e3, k6, k7, k8]
      simp only [List.any_cons, List.any_nil, one_beq, Bool.or_false]
      rcases hc2 with rfl | rfl | rfl <;> decide) (by rw [e4]; exact KIN.num_reads hm.1 (by omega)) (by rw [e4]; exact Nat.le_trans (num_len hm.1 (by omega)) (by decide)) hm.1 hm.2
    rw [show 2147483648 + (n - 2147483648) = n by omega] at C
    exact C
theorem wordy_free {c : Nat} (h : Wordy c) : c ≠ 47 ∧ c ≠ 44 ∧ c ≠ 59 := by
  unfold Wordy Digit at h; omega
theorem text_parts (f : Nat) {l : List Int} (hg : ∀ n ∈ l, Good n) (c : Nat) (hc : c = 47 ∨ c = 44 ∨ c = 59) : ∀ x ∈ l.map (word f), c ∉ sg x := by
  intro x hx hcx
  obtain ⟨n, hn, rfl⟩ := List.mem_map.mp hx
  have := wordy_free (word_wordy f (hg n hn) c hcx)
  omega
theorem pe_step {w : World} (f : Nat) (d : Stp) (hd : d.ok) (ah : Bool) (hah : ah = true ∨ (match d with | .non => True | .num n => n < 2147483648 | .set l => ∀ n ∈ l, n < 2147483648)) (t : Tok) :
    Ctr w 4 841 ⟨[.ref 852, .str (stepText f d) t, .bool ah, .bool true], []⟩ (fun _ => True) (fun tl r => StV (InL tl) r d) := by
  cases d with
  | non =>
    refine Ctr.mono (pe_star (stepText f .non) t ah _ (Or.inl ⟨true, rfl⟩) ?_) (by decide) (fun _ h => h) fun tl r h => h
    show (Str.ofString "*" == Str.ofString "*") = true
    exact beq_self_eq_true _
  | num n =>
    refine Ctr.mono (pe_word f n hd ah hah t _ (Or.inl ⟨true, rfl⟩)) (by decide) (fun _ h => h) fun tl r h => ?_
    obtain ⟨t, rfl⟩ := IntV.out h
    exact ⟨t, rfl⟩
  | set l =>
    obtain ⟨hl, hg⟩ := hd
    obtain ⟨k1, k2, k3, k4, k5, k6, k7, k8⟩ := lits
    obtain ⟨b1, b2, b3⟩ := join_short f hl hg
    have hne : l.map (word f) ≠ [] := by
      intro z; rw [List.map_eq_nil_iff.mp z] at hl; rcases hl with h | h <;> exact nomatch h
    have hlen := step_len f (d := .set l) ⟨hl, hg⟩
    have hel : ∀ (i : Nat) (x : Str) (n : Int), (l.map (word f))[i]? = some x → l[i]? = some n → ∀ t, Ctr w 2 841 ⟨[.ref 852, .str x t, .bool ah], [(Str.ofString "allow_set", .bool false)]⟩ (fun _ => True) (fun _ r => IntV n r) := by
      intro i x n hx hn t
      rw [List.getElem?_map, hn] at hx
      have hx' : word f n = x := Option.some.inj hx
      subst hx'
      have hm := List.mem_of_getElem? hn
      exact pe_word f n (hg n hm) ah (hah.imp_right fun h => h n hm) t _ (Or.inr rfl)
    by_cases hf : f = 1
    · have e0 : stepText f (.set l) = Str.ofString "{" ++ Str.join (Str.ofString ",") (l.map (word f)) ++ Str.ofString "}" := if_pos hf
      rw [e0] at hlen ⊢
      have e1 : sg (Str.ofString "{" ++ Str.join (Str.ofString ",") (l.map (word f)) ++ Str.ofString "}") = 123 :: (sg (Str.join (Str.ofString ",") (l.map (word f))) ++ [125]) := by
        rw [sg_append, sg_append, k2, k3]; rfl
      have e2 : Txt.slice (Str.ofString "{" ++ Str.join (Str.ofString ",") (l.map (word f)) ++ Str.ofString "}") (some 1) (some (-1)) = Str.join (Str.ofString ",") (l.map (word f)) := sg_ext (slice_mid e1)
      refine pe_set1 _ t ah (l.map (word f)) l (ne_beq (by rw [e1, k1, sg_one]; intro z; injection z with z; omega)) (by rw [item0 e1, k2, one_beq]; rfl) (by rw [itemL (r := 123 :: sg (Str.join (Str.ofString ",") (l.map (word f)))) (a := 125) (by rw [e1]; rfl), k3, one_beq]; rfl) (by rw [sg_len, e1]; simp) (by omega) (by rw [e2]; omega) ?_ (by rw [List.length_map]) (by rw [List.length_map]; omega) hel
      rw [e2, lit_comma]
      exact split_join hne (text_parts f hg 44 (by omega))
    · have e0 : stepText f (.set l) = Str.ofString "<" ++ Str.join (Str.ofString ";") (l.map (word f)) ++ Str.ofString ">" := if_neg hf
      rw [e0] at hlen ⊢
      have e1 : sg (Str.ofString "<" ++ Str.join (Str.ofString ";") (l.map (word f)) ++ Str.ofString ">") = 60 :: (sg (Str.join (Str.ofString ";") (l.map (word f))) ++ [62]) := by
        rw [sg_append, sg_append, k4, k5]; rfl
      have e2 : Txt.slice (Str.ofString "<" ++ Str.join (Str.ofString ";") (l.map (word f)) ++ Str.ofString ">") (some 1) (some (-1)) = Str.join (Str.ofString ";") (l.map (word f)) := sg_ext (slice_mid e1)
      refine pe_set2 _ t ah (l.map (word f)) l (ne_beq (by rw [e1, k1, sg_one]; intro z; injection z with z; omega)) (by rw [item0 e1, k2, one_beq]; rfl) (by rw [item0 e1, k4, one_beq]; rfl) (by rw [itemL (r := 60 :: sg (Str.join (Str.ofString ";") (l.map (word f)))) (a := 62) (by rw [e1]; rfl), k5, one_beq]; rfl) (by rw [sg_len, e1]; simp) (by omega) (by rw [e2]; omega) ?_ (by rw [List.length_map]) (by rw [List.length_map]; omega) hel
      rw [e2, lit_semi]
      exact split_join hne (text_parts f hg 59 (by omega))
/-- a step's text holds no slash -/
theorem step_free (f : Nat) {d : Stp} (hd : d.ok) : 47 ∉ sg (stepText f d) := by
  obtain ⟨k1, k2, k3, k4, k5, k6, k7, k8⟩ := lits
  have jf : ∀ (c : Nat) (ws : List Str), c ≠ 47 → (∀ x ∈ ws, 47 ∉ sg x) → 47 ∉ sg (Str.join ⟨#[c]⟩ ws) := by
    intro c ws hc
    induction ws with
    | nil => intro _ h; exact nomatch h
    | cons x r ih =>
      intro hx
      cases r with
      | nil => exact hx x List.mem_cons_self
      | cons y r =>
        show 47 ∉ sg (x ++ ⟨#[c]⟩ ++ Str.join ⟨#[c]⟩ (y :: r))
        rw [sg_append, sg_append, List.mem_append, List.mem_append]
        rintro ((h | h) | h)
        · exact hx x List.mem_cons_self h
        · exact hc (List.mem_singleton.mp h).symm
        · exact ih (fun z hz => hx z (List.mem_cons_of_mem _ hz)) h
  cases d with
  | non =>
    show 47 ∉ sg (Str.ofString "*")
    rw [k1]; decide
  | num n => exact fun h => (wordy_free (word_wordy f hd 47 h)).1 rfl
  | set l =>
    rw [stepText_set]
    split
    · rw [sg_append, sg_append, k2, k3, lit_comma, List.mem_append, List.mem_append]
      rintro ((h | h) | h)
      · exact absurd h (by decide)
      · exact jf 44 _ (by decide) (text_parts f hd.2 47 (by omega)) h
      · exact absurd h (by decide)
    · rw [sg_append, sg_append, k4, k5, lit_semi, List.mem_append, List.mem_append]
      rintro ((h | h) | h)
      · exact absurd h (by decide)
      · exact jf 59 _ (by decide) (text_parts f hd.2 47 (by omega)) h
      · exact absurd h (by decide)
theorem text_split (f : Nat) {ds : List Stp} (h0 : ds ≠ []) (hok : ∀ d ∈ ds, d.ok) : Txt.split (text f ds) (Str.ofString "/") = ds.map (stepText f) := by
  unfold text
  rw [lit_slash]
  refine split_join (fun z => h0 (List.map_eq_nil_iff.mp z)) fun x hx => ?_
  obtain ⟨d, hd, rfl⟩ := List.mem_map.mp hx
  exact step_free f (hok d hd)
end
section
theorem topP22 : True := by
  w_top off
  trivial
theorem join_ge (sep x : Str) (r : List Str) : x.length ≤ (Str.join sep (x :: r)).length := by
  cases r with
  | nil => exact Nat.le_refl _
  | cons y r =>
    show _ ≤ (x ++ sep ++ Str.join sep (y :: r)).length
    rw [Str.length_append, Str.length_append]; omega
theorem step_pos (f : Nat) {d : Stp} (hd : d.ok) : 1 ≤ (stepText f d).length := by
  cases d with
  | non => show 1 ≤ (Str.ofString "*").length; rw [lit1_len.2.2.2.2.2.2.2]; decide
  | num n =>
    obtain ⟨a, r, e, _⟩ := word_head f hd
    show 1 ≤ (word f n).length
    rw [sg_len, e]; simp
  | set l =>
    rw [stepText_set]
    obtain ⟨a1, a2, a3, a4, _⟩ := lit1_len
    split <;> rw [Str.length_append, Str.length_append] <;> omega
theorem text_pos (f : Nat) {ds : List Stp} (h0 : ds ≠ []) (hok : ∀ d ∈ ds, d.ok) : 1 ≤ (text f ds).length := by
  cases ds with
  | nil => exact absurd rfl h0
  | cons d r => exact Nat.le_trans (step_pos f (hok d List.mem_cons_self)) (join_ge _ _ _)
/-- AllowedDerivation.from_string of the steps' text -/
theorem from_text {w : World} (f : Nat) (ds : List Stp) (h0 : ds ≠ []) (hW : WF ds) (ah : Bool) (hah : ah = true ∨ ds.any Stp.hard = false) (t : Tok) (args : Args) (ha : fsArgs (text f ds) t ah args) :
    Ctr w 16 832 args (fun _ => True) (fun tl r => ObjL (InL tl) w r ds) := by
  refine from_string (text f ds) t ah args ha (ds.map (stepText f)) ds (text_pos f h0 hW.ok) (Nat.le_trans (text_len f hW.ok hW.len) (by decide)) (text_split f h0 hW.ok) (by rw [List.length_map]) hW ?_
  intro i y d hy hd t
  rw [List.getElem?_map, hd] at hy
  have hy' : stepText f d = y := Option.some.inj hy
  subst hy'
  have hm := List.mem_of_getElem? hd
  refine pe_step f d (hW.ok d hm) ah (hah.imp_right fun h => ?_) t
  have hh : d.hard = false := Bool.eq_false_iff.mpr fun z => Bool.eq_false_iff.mp h (List.any_eq_true.mpr ⟨d, hm, z⟩)
  cases d with
  | non => exact trivial
  | num n =>
    have := of_decide_eq_false hh
    show n < 2147483648
    omega
  | set l =>
    intro n hn
    have := List.any_eq_false.mp hh n hn
    have := of_decide_eq_false (Bool.eq_false_iff.mpr this)
    omega
theorem lit_ss : sg (Str.ofString "/*") = [47, 42] ∧ sg (Str.ofString "/<") = [47, 60] ∧ sg (Str.ofString "/") = [47] ∧ sg (Str.ofString "*") = [42] ∧ sg (Str.ofString "<") = [60] ∧ sg (Str.ofString "") = [] := by decide +kernel
theorem strStep_is (r : Str) {d : Stp} (hd : d.ok) : strStep r d = r ++ (Str.ofString "/" ++ stepText 0 d) := by
  obtain ⟨a1, a2, a3, a4, a5, _⟩ := lit_ss
  apply sg_ext
  cases d with
  | non =>
    show sg (r ++ Str.ofString "/*") = sg (r ++ (Str.ofString "/" ++ Str.ofString "*"))
    simp only [sg_append, a1, a3, a4]; rfl
  | num n =>
    show sg (if 2147483648 ≤ n then _ else _ : Str) = sg (r ++ (Str.ofString "/" ++ word 0 n))
    by_cases h : 2147483648 ≤ n
    · rw [if_pos h, word_hi h]
      show _ = sg (r ++ (Str.ofString "/" ++ (Str.ofString (toString (n - 2147483648)) ++ Str.ofString "h")))
      simp only [sg_append, List.append_assoc]
    · rw [if_neg h, word_lo (by omega)]
  | set l =>
    show sg (r ++ Str.ofString "/<" ++ Str.join (Str.ofString ";") (l.map (word 0)) ++ Str.ofString ">") = _
    rw [stepText_set, if_neg (by decide)]
    simp only [sg_append, a2, a3, a5, List.append_assoc]; rfl
theorem foldl_is : ∀ (ds : List Stp) (r : Str), (∀ d ∈ ds, d.ok) → sg (ds.foldl strStep r) = sg r ++ (ds.map fun d => 47 :: sg (stepText 0 d)).flatten
  | [], r, _ => by simp
  | d :: ds, r, h => by
    rw [List.foldl_cons, foldl_is ds _ (fun e he => h e (List.mem_cons_of_mem _ he)), strStep_is r (h d List.mem_cons_self), sg_append, sg_append, lit_ss.2.2.1]
    simp
theorem jl_flat (c : Nat) : ∀ (as : List (List Nat)), as ≠ [] → (as.map fun a => c :: a).flatten = c :: jl c as
  | [], h => absurd rfl h
  | [a], _ => by simp [jl]
  | a :: b :: r, _ => by
    rw [List.map_cons, List.flatten_cons, jl_flat c (b :: r) (List.cons_ne_nil _ _)]
    rfl
/-- str(told) is a slash ahead of the text -/
theorem strText_is {ds : List Stp} (h0 : ds ≠ []) (hok : ∀ d ∈ ds, d.ok) : strText ds = Str.ofString "/" ++ text 0 ds := by
  apply sg_ext
  unfold strText text
  rw [foldl_is ds _ hok, sg_append, lit_ss.2.2.2.2.2, lit_ss.2.2.1, lit_slash, sg_join, List.map_map, List.nil_append]
  have := jl_flat 47 (ds.map fun d => sg (stepText 0 d)) (fun z => h0 (List.map_eq_nil_iff.mp z))
  rw [List.map_map] at this
  exact this
end
section
theorem topP23 : True := by
  w_top off
  trivial
local macro_rules | `(tactic| k_inst) => `(tactic| (refine' inst_base ?N ?h1 ?h2; (case N => k_asm); (case h1 => with_reducible assumption); (case h2 => with_reducible assumption)))
/-- an exception in flight, said of the frames below -/
abbrev Fly (base G : Heap) (l : List Env) (e : Addr) (C : Addr) (t : Addr) (vs : List Value) (h : Heap) : Prop := RaisedS base G l e (.ref C) t vs [] h
theorem Fly.of {base G : Heap} {l : List Env} {e C t : Addr} {vs : List Value} {nw : List (Addr × Obj)} {h : Heap} (R : RaisedS base G l e (.ref C) t vs nw h) : Fly base G l e C t vs h := by
  obtain ⟨⟨B, a, b, _, d, f⟩, g⟩ := R
  exact ⟨⟨B, a, b, fun _ hq => (nomatch hq), d, f⟩, g⟩
section
variable {M : Model} {A : Around} {E : Value → Shared → Prop} {s' : Shared} {base g g₂ h : Heap} {outer : List Env} {L e t C : Addr} {m : Str → Option Value} {env : Env} {Q : Unit → Shared → Prop} {vs : List Value}
theorem frames_mem {b : Addr} (hf : env.frame = some L) (hm : b ∈ (env :: outer).filterMap (·.frame)) : b = L ∨ b ∈ outer.filterMap (·.frame) := by
  obtain ⟨env', he, hb⟩ := List.mem_filterMap.mp hm
  rcases List.mem_cons.mp he with rfl | he
  · rw [hf] at hb; exact Or.inl (Option.some.inj hb).symm
  · exact Or.inr (List.mem_filterMap.mpr ⟨env', he, hb⟩)
/-- a raising frame is left, whatever its cells -/
theorem leave_raiseX (K : Below A base outer g) (hx : Heap.MadeExcOf h s'.heap e (.ref C) vs) (F : Fr g L h m) (hf : env.frame = some L) (hk : env.scope.kind = .function)
    (hQ : ∀ h' t, Fly base g outer e C t vs h' → g.UpToSlots h' → Q () { s' with heap := h' }) :
    wpAny M (A.deeper env) (leaving env (.ref e)) Q E s' := by
  have K' : Below (A.deeper env) base (env :: outer) h := (groundX (R := fun _ _ => True) (s := { s' with heap := h }) K F News.nil (Around.frames_deeper K.stack) hf hk).2.1
  have hin : ∀ env' ∈ (env :: outer), ∀ b, env'.frame = some b → b ∈ (env :: outer).filterMap (·.frame) := fun env' he b hb => List.mem_filterMap.mpr ⟨env', he, hb⟩
  have st : base.StaysIn (hideAll h ((env :: outer).filterMap (·.frame))) := fun b o q => hideAll_get _ (K'.stays b o q) fun hm => by
    rw [(K'.frames.mem hm).1] at q; cases q
  have sg : ∀ b o, g.get? b = some o → b ∉ outer.filterMap (·.frame) → (hideAll h ((env :: outer).filterMap (·.frame))).get? b = some o := fun b o q nm => hideAll_get _ (F.keep b o q) fun hm => by
    rcases frames_mem hf hm with z | z
    · rw [z, kts_self F] at q
      cases q
    · exact nm z
  exact wpAny_leaves_madeW K'.stack hf (fun b o q => of_hideAll _ q) (funFrames_hide K'.frames hin) hx fun h' t x1 x2 x3 x4 =>
    hQ h' t ⟨⟨_, st, sg, fun _ hq => (nomatch hq), x1, x3⟩, x2⟩ (((Heap.UpToSlots.of_keeps F.keep).trans (Heap.UpToSlots.of_keeps hx.keeps)).trans x4)
/-- an exception passes a frame, whatever its cells -/
theorem leave_onX (K : Below A base outer g) (F : Fr g L g₂ m) (R : Fly base g₂ (env :: outer) e C t vs s'.heap) (hsm : g₂.UpToSlots s'.heap) (hf : env.frame = some L)
    (hQ : ∀ h', Fly base g outer e C t vs h' → g.UpToSlots h' → Q () { s' with heap := h' }) :
    wpAny M (A.deeper env) (leaving env (.ref e)) Q E s' := by
  obtain ⟨⟨B, hB, hBG, hl, hfl, hnew⟩, htup⟩ := R
  exact wpAny_leaves_onW (Around.frames_deeper K.stack) hf hfl fun h' x1 x2 =>
    hQ h' ⟨⟨B, hB, fun b o q nm => hBG b o (F.keep b o q) (fun hm => by
      rcases frames_mem hf hm with z | z
      · rw [z, kts_self F] at q
        cases q
      · exact nm z), fun _ hq => (nomatch hq), x1, hnew⟩, htup.of_slots x2⟩ ((Heap.UpToSlots.of_keeps F.keep).trans (hsm.trans x2))
end
local macro_rules | `(tactic| walk_at "leaving ref") => `(tactic| (k_here; k_dflt (refine' leave_raiseX ?K ?hx ?F ?hf ?hk ?_; (case hx => assumption); (case K => k_asm); (case F => k_asm); (case hf => exact rfl); (case hk => exact rfl)); intro h' t' R' U'))
/-- a contract of a call that raises an own class's exception -/
def RCtr (w : World) (dpt : Nat) (f : Addr) (args : Args) (Pre : Heap → Prop) (C : Addr) : Prop :=
  ∀ (mean : ExcName → Option Value) (mg mb : Str → Option Value) (dp un : Nat) (gd : Option (List Code)) (cn : Str) (cs : Scope) (a : Addr) (ccd : Value) (cl : List (Str × Addr)) (outer : List Env) (A₀ : Around) (base h₀ : Heap) (L : Addr) (m : Str → Option Value) (news : List (Addr × Obj)) (s : Shared) (Q E : Value → Shared → Prop),
    Below A₀ base outer h₀ → Fr h₀ L s.heap m → (hd.heap_39 w.params).In h₀ → News h₀ L s.heap news → Top topProg LS mean mg mb h₀ → cs.kind = .function →
    dp + dpt < recursionLimit → un + 8 * dpt < cLine → Pre s.heap →
    (∀ e t vs h' tk', Fly base s.heap (envX cn cs L a ccd cl :: outer) e C t vs h' → s.heap.UpToSlots h' → E (.ref e) { s with heap := h', toks := tk' }) →
    codeAny (model PR w) (ktrTop dp un gd cn cs L a ccd cl outer) (.call (.ref f) args) (RetE Q E) s
theorem RCtr.use {w : World} {dpt : Nat} {f : Addr} {args : Args} {Pre : Heap → Prop} {C : Addr} {mean : ExcName → Option Value} {mg mb : Str → Option Value} {dp un : Nat} {gd : Option (List Code)} {cn : Str} {cs : Scope} {a : Addr} {ccd : Value} {cl : List (Str × Addr)} {outer : List Env} {A₀ : Around} {base h₀ : Heap} {L : Addr} {m : Str → Option Value} {news : List (Addr × Obj)} {s : Shared} {Q E : Value → Shared → Prop}
    (R : RCtr w dpt f args Pre C) (B : Below A₀ base outer h₀) (F : Fr h₀ L s.heap m) (X : (hd.heap_39 w.params).In h₀) (N : News h₀ L s.heap news) (T : Top topProg LS mean mg mb h₀) (hk : cs.kind = .function)
    (hd : dp + dpt < recursionLimit) (hu : un + 8 * dpt < cLine) (hp : Pre s.heap)
    (raise : ∀ e t vs h' tk', Fly base s.heap (envX cn cs L a ccd cl :: outer) e C t vs h' → s.heap.UpToSlots h' → E (.ref e) { s with heap := h', toks := tk' }) :
    codeAny (model PR w) (ktrTop dp un gd cn cs L a ccd cl outer) (.call (.ref f) args) (RetE Q E) s := R _ _ _ _ _ _ _ _ _ _ _ _ _ _ _ _ _ _ _ _ _ B F X N T hk hd hu hp raise
set_option maxHeartbeats 0 in
theorem fill_raise {w : World} (x dx : Addr) (t : Tok) (l : Addr) (vs : List Value) (k : Nat) (ds : List Stp) (n : Int) (tn : Tok) (hn : n < 0) :
    RCtr w 10 788 ⟨[.ref x, .int n tn], []⟩ (fun h => ObjH w h x dx t l vs k ds) 757 := by
  intro mean mg mb dp un gd cn cs a ccd cl outer A₀ base h₀ L m news s Q E B F X N T hk hdp hu hpre hret
  obtain ⟨hx, hdx, hl, hst⟩ := hpre
  walk_at "enterP"
  k_steps
  exact hret _ _ _ _ _ (by assumption) (by assumption)
set_option maxHeartbeats 0 in
theorem fill_raise2 {w : World} (x dx : Addr) (t : Tok) (l : Addr) (vs : List Value) (k : Nat) (ds : List Stp) (n : Int) (tn tb : Tok) (hn : 2147483648 ≤ n) :
    RCtr w 10 788 ⟨[.ref x, .int n tn, .int 0 tb], []⟩ (fun h => ObjH w h x dx t l vs k ds) 757 := by
  intro mean mg mb dp un gd cn cs a ccd cl outer A₀ base h₀ L m news s Q E B F X N T hk hdp hu hpre hret
  obtain ⟨hx, hdx, hl, hst⟩ := hpre
  walk_at "enterP"
  k_steps
  exact hret _ _ _ _ _ (by assumption) (by assumption)
end
section
theorem topP24 : True := by
  w_top off
  trivial
section
variable {prog : Program} {w : World} {A₀ A : Around} {s : Shared} {base h₀ : Heap} {L : Addr} {m : Str → Option Value} {env : Env} {news : List (Addr × Obj)} {K : Frag} {p : Program} {loose : List Str} {mean : ExcName → Option Value} {mg mb : Str → Option Value}
  {R : Result → Shared → Prop} {name qual : Str} {params : Arguments} {body : List Stmt} {scope : Scope} {dV kV doc pm cdv ct oc : Value} {an od : Option Addr} {osl : Array (Option Value)} {f : Addr} {args : Args} {binds : List (Str × Value)}
/-- the way back of a callee that may have caught an exception: the ground may have turned in the caller's frame's slots -/
def LeaveT (h₀ : Heap) (L : Addr) (m : Str → Option Value) (g : Heap) (news : List (Addr × Obj)) (R : Result → Shared → Prop) (v : Value) (s' : Shared) : Prop :=
  ∃ g' L' m', KtsTurn [L] g g' ∧ Fr g' L' s'.heap m' ∧ (Fr h₀ L s'.heap m → News h₀ L s'.heap news → R (.ok (.ret v)) s')
theorem leaveT_back (F : Fr h₀ L s.heap m) (N : News h₀ L s.heap news) {v : Value} {s' : Shared} (hl : LeaveT h₀ L m s.heap news R v s') : R (.ok (.ret v)) s' := by
  obtain ⟨g', L', m', T', F', k⟩ := hl
  obtain ⟨oL, es, ep, hL, hLd, hLk, hLf⟩ := F.ns
  obtain ⟨sl, hs⟩ := T'.up hL
  have nL₀ : h₀.get? L = none := kts_self F
  refine k ⟨⟨_, es, ep, F'.keep _ _ hs, hLd, hLk, hLf⟩, fun b o e => F'.keep b o (T'.other b o (F.keep b o e) fun q => ?_), F.above⟩ (fun p hp => ⟨F'.keep _ _ (T'.other _ _ (N p hp).1 fun q => (N p hp).2.1 (List.mem_singleton.mp q)), (N p hp).2⟩)
  rw [List.mem_singleton.mp q, nL₀] at e
  cases e
theorem enterT (B : Below A₀ base [] h₀) (F : Fr h₀ L s.heap m) (X₀ : K.In h₀) (N : News h₀ L s.heap news) (T : Top p loose mean mg mb h₀) (hA : A.frames = some [env]) (hf : env.frame = some L) (hke : env.scope.kind = .function)
    (ho : K.lookup f = some ⟨oc, od, .func (fnOf name qual params body scope dV kV doc pm an cdv ct), osl⟩) (hcd : codeIn K cdv qual = true) (hroom : A.depth < recursionLimit)
    (hbind : BindsTo s (fnOf name qual params body scope dV kV doc pm an cdv ct) args binds) (hloc : ∀ y ∈ binds, scope.names.lookup y.1 = some .local)
    (h : ∀ L' h₁, Fr s.heap L' h₁ (fun y => binds.reverse.lookup y) → News s.heap L' h₁ [] → Below A base [env] s.heap → K.In s.heap → Top p loose mean mg mb s.heap → KtsDicts [L] s.heap →
      wpAny (model prog w) (A.deeper (envOf qual scope L' f cdv)) (execs body (envOf qual scope L' f cdv))
        (fun fl s' => LeaveT h₀ L m s.heap news R (match fl with | .ret v => v | _ => .none) s')
        (fun e s' => wpAny (model prog w) (A.deeper (envOf qual scope L' f cdv)) (leaving (envOf qual scope L' f cdv) e) (fun _ s'' => R (.error e) s'') (fun e' s'' => R (.error e') s'') s')
        { s with heap := h₁, toks := s.toks + binds.length })
    (hco : scope.isCoroutine = false) (hgen : scope.isGenerator = false) (hk : scope.kind = .function)
    (hcell : ∀ x ∈ scope.names, x.2 ≠ .cell) : codeAny (model prog w) A (.call (.ref f) args) R s := by
  obtain ⟨_, BG, st, _⟩ := groundX (R := R) (news := []) B F News.nil hA hf hke
  refine codeAny_call_def (fd := fnX name qual params body scope [] dV kV doc pm an cdv ct) (body := body) (binds := binds) hroom ((X₀.keeps F.keep) _ _ ho) rfl (T.nolimit.keeps F.keep) (codeRec_of (X₀.keeps F.keep) hcd) rfl hbind hcell hloc (fun h₁ hns hk₁ => ?_) hco hgen hk
  refine wpAny_mono (h s.heap.objs.size h₁ ⟨hns, hk₁, Nat.le_refl _⟩ News.nil BG (X₀.keeps F.keep) (T.keeps F.keep) (fun b hb => ?_)) (fun fl s' hl => leaveT_back F N hl) fun _ _ y => y
  obtain ⟨oL, es, ep, hL, hLd, _⟩ := F.ns
  rw [List.mem_singleton.mp hb]
  exact ⟨oL, es, ep, hL, hLd⟩
end
set_option maxHeartbeats 0 in
theorem law_refused {w : World} (q : Addr) (dpt : Nat) (Pre : Heap → Prop) (hmono : ∀ h h', (∀ b o, h.get? b = some o → h'.get? b = some o) → Pre h → Pre h') (hfn : ∀ h, Pre h → FnAt q h) (C : RCtr w dpt q ⟨[], []⟩ Pre 757)
    (mean : ExcName → Option Value) (mg mb : Str → Option Value) (dp un : Nat) (gd : Option (List Code)) (cn : Str) (cs : Scope) (a : Addr) (ccd : Value) (cl : List (Str × Addr)) (A₀ : Around) (base h₀ : Heap) (L : Addr) (m : Str → Option Value) (news : List (Addr × Obj)) (s : Shared) (Q E : Value → Shared → Prop)
    (B : Below A₀ base [] h₀) (F : Fr h₀ L s.heap m) (X : (hd.heap_39 w.params).In h₀) (N : News h₀ L s.heap news) (T : Top topProg LS mean mg mb h₀) (XB : (hd.heap_39 w.params).In base) (TB : Top topProg LS mean mg mb base) (hk : cs.kind = .function)
    (hdp : dp + (dpt + 1) < recursionLimit) (hu : un + 8 * (dpt + 1) < cLine) (hpre : Pre s.heap)
    (hret : ∀ h' tk', Fr h₀ L h' m → News h₀ L h' news → Q (.bool true) { s with heap := h', toks := tk' }) :
    codeAny (model PR w) (ktrTop dp un gd cn cs L a ccd cl []) (.call (.ref 899) ⟨[.ref q], []⟩) (RetE Q E) s := by
  k_dflt (refine' enterT ?k1 ?k2 ?k3 ?k4 ?k5 ?kA ?kF ?kK ?k6 ?k7 ?k8 ?k9 ?kB ?_ ?c2 ?c3 ?c4 ?c5; (case kA => exact rfl); (case kF => exact rfl); (case kK => assumption); (case k1 => exact B); (case k2 => exact F); (case k3 => exact X); (case k4 => exact N); (case k5 => exact T); (case k6 => k_is); (case k7 => k_is); (case k8 => ktr_room); (case k9 => first | exact BindsTo.of_eq rfl | exact binds_K (by k_in) rfl (by k_is) rfl rfl rfl); (case c5 => decide); (case kB => exact locs rfl); (case c2 => exact rfl); (case c3 => exact rfl); (case c4 => exact rfl); k_whole; intro L' h' F' N' B' X' T' D'; (try dsimp only); (try k_fold))
  k_steps
  have hp' := hmono _ _ F'.keep hpre
  refine callWith_F0 (hfn _ hp') ?_
  refine ctr_call (RCtr.use C (by k_asm) (by k_asm) (by k_asm) (by k_asm) (by k_asm) (by rfl) (by ktr_room) (by ktr_units) hp' ?_)
  intro e t vs h5 tk5 R5 U5
  k_steps
  rename KtsTurn _ _ _ => T8
  rename Fr _ L' _ _ => F8
  show LeaveT h₀ L m s.heap news (RetE Q E) (.bool true) _
  exact ⟨_, _, _, T8, F8, fun F9 N9 => hret _ _ F9 N9⟩
set_option maxHeartbeats 0 in
theorem law_refused_no {w : World} (q : Addr) (dpt : Nat) (Pre : Heap → Prop) (hmono : ∀ h h', (∀ b o, h.get? b = some o → h'.get? b = some o) → Pre h → Pre h') (hfn : ∀ h, Pre h → FnAt q h) (Post : List (Addr × Obj) → Value → Prop) (C : Ctr w dpt q ⟨[], []⟩ Pre Post)
    (mean : ExcName → Option Value) (mg mb : Str → Option Value) (dp un : Nat) (gd : Option (List Code)) (cn : Str) (cs : Scope) (a : Addr) (ccd : Value) (cl : List (Str × Addr)) (A₀ : Around) (base h₀ : Heap) (L : Addr) (m : Str → Option Value) (news : List (Addr × Obj)) (s : Shared) (Q E : Value → Shared → Prop)
    (B : Below A₀ base [] h₀) (F : Fr h₀ L s.heap m) (X : (hd.heap_39 w.params).In h₀) (N : News h₀ L s.heap news) (T : Top topProg LS mean mg mb h₀) (XB : (hd.heap_39 w.params).In base) (TB : Top topProg LS mean mg mb base) (hk : cs.kind = .function)
    (hdp : dp + (dpt + 1) < recursionLimit) (hu : un + 8 * (dpt + 1) < cLine) (hpre : Pre s.heap)
    (hret : ∀ h' tk', Fr h₀ L h' m → News h₀ L h' news → Q (.bool false) { s with heap := h', toks := tk' }) :
    codeAny (model PR w) (ktrTop dp un gd cn cs L a ccd cl []) (.call (.ref 899) ⟨[.ref q], []⟩) (RetE Q E) s := by
  k_dflt (refine' enterT ?k1 ?k2 ?k3 ?k4 ?k5 ?kA ?kF ?kK ?k6 ?k7 ?k8 ?k9 ?kB ?_ ?c2 ?c3 ?c4 ?c5; (case kA => exact rfl); (case kF => exact rfl); (case kK => assumption); (case k1 => exact B); (case k2 => exact F); (case k3 => exact X); (case k4 => exact N); (case k5 => exact T); (case k6 => k_is); (case k7 => k_is); (case k8 => ktr_room); (case k9 => first | exact BindsTo.of_eq rfl | exact binds_K (by k_in) rfl (by k_is) rfl rfl rfl); (case c5 => decide); (case kB => exact locs rfl); (case c2 => exact rfl); (case c3 => exact rfl); (case c4 => exact rfl); k_whole; intro L' h' F' N' B' X' T' D'; (try dsimp only); (try k_fold))
  k_steps
  have hp' := hmono _ _ F'.keep hpre
  refine callWith_F0 (hfn _ hp') ?_
  refine ctr_call (Ctr.use C (by k_asm) (by k_asm) (by k_asm) (by k_asm) (by k_asm) (by rfl) (by ktr_room) (by ktr_units) hp' ?_)
  intro r tl h5 tk5 F5 N5 S5 P5
  k_steps
  show LeaveT h₀ L m s.heap news (RetE Q E) (.bool false) _
  exact ⟨_, _, _, KtsTurn.refl, by assumption, fun F9 N9 => hret _ _ F9 N9⟩
end
section
theorem topP25 : True := by
  w_top off
  trivial
/-- an exception in flight that has come out of a comprehension: its flight may say anything -/
def FlyA (base G : Heap) (l : List Env) (e C t : Addr) (vs : List Value) (h : Heap) : Prop :=
  (∃ B fl, base.StaysIn B ∧ (∀ b o, G.get? b = some o → b ∉ l.filterMap (·.frame) → B.get? b = some o) ∧ B.StaysIn h ∧ B.get? e = none ∧ h.FunFrames B l ∧ h.TracedAtW B e (.ref C) (.ref t) fl ∧ B.get? t = none) ∧ h.TupAt t vs
section
variable {M : Model} {A : Around} {E : Value → Shared → Prop} {s s' : Shared} {base g g₂ h : Heap} {outer : List Env} {L e t C : Addr} {m : Str → Option Value} {env : Env} {vs : List Value}
theorem note_same {env' : Env} (x : Value) (h : env'.frame = env.frame) : noteFrame x env' = noteFrame x env := by
  unfold noteFrame PySem.frameOf
  rw [h]
/-- a note whatever the flight says -/
theorem note_any {cls a0 fl : Value} {Q : Unit → Shared → Prop} (hfr : A.frames = some (env :: outer)) (hl : s.heap.FunFrames base (env :: outer)) (hf : env.frame = some L) (ht : s.heap.TracedAtW base e cls a0 fl) (hkb : base.StaysIn s.heap) (hen : base.get? e = none)
    (h : ∀ h', Heap.HeldW base (env :: outer) e cls a0 L h' → s.heap.UpToSlots h' → Q () { s with heap := h' }) : wpAny M A (noteFrame (.ref e) env) Q E s := by
  by_cases hfl : fl = rawInt L
  · subst hfl
    exact wpAny_noteFrame_againW hf ht (h s.heap ⟨hkb, hen, hl, ht⟩ (Heap.UpToSlots.refl _))
  obtain ⟨oe, ws, T, oT, ts, he, ⟨hcls, h0⟩, hd, h1, hnT, hTe, hT, hdT, h3⟩ := ht
  subst hcls
  have hne : ¬ ((fl == rawInt L) = true) := fun q => hfl (eq_of_beq q)
  have other : ∀ b, b ≠ T → (s.heap.update T (Obj.mapFields (·.setIfInBounds 3 Value.none))).get? b = s.heap.get? b := fun b hb => Heap.get?_update_other _ _ (Ne.symm hb)
  have noRecord : ∀ b o, s.heap.get? b = some o → (∀ vs, o.data ≠ .fields vs) → b ≠ T := fun b o hb hnf q => by
    rw [q, hT] at hb; injection hb with hb; subst hb; exact hnf ts hdT
  unfold noteFrame
  simp only [hf]
  refine wpAny_bind (wpAny_field he hd h1 ?_)
  rw [if_pos (show (Value.ref T != Value.none) = true from by simp)]
  refine wpAny_bind (wpAny_field hT hdT h3 ?_)
  rw [if_neg hne]
  refine wpAny_bind (wpAny_setField hT hdT (Array.getElem?_eq_some_iff.mp h3).1 ?_)
  refine wpAny_entryW hfr (hl.of_keeps fun b o hb hnf => ⟨o, (other b (noRecord b o hb hnf)).trans hb, rfl⟩) hf ((other e (Ne.symm hTe)).trans he)
    (fun b o hbo => (other b fun q => by rw [q, hnT] at hbo; cases hbo).trans (hkb b o hbo)) hen hd (Array.getElem?_eq_some_iff.mp h1).1 h0
    fun h' ⟨x1, x2, x3, x4⟩ => h h' ⟨x1, hen, x2, x3⟩ fun b o hb hnf => x4 b o ((other b (noRecord b o hb hnf)).trans hb) hnf
/-- a frame is left, whatever the flight says -/
theorem leave_anyX {Q : Unit → Shared → Prop} (K : Below A base outer g) (F : Fr g L g₂ m) (R : FlyA base g₂ (env :: outer) e C t vs s'.heap) (hsm : g₂.UpToSlots s'.heap) (hf : env.frame = some L)
    (hQ : ∀ h', Fly base g outer e C t vs h' → g.UpToSlots h' → Q () { s' with heap := h' }) :
    wpAny M (A.deeper env) (leaving env (.ref e)) Q E s' := by
  obtain ⟨⟨B, fl, hB, hBG, b1, b2, b3, b4, b5⟩, htup⟩ := R
  unfold leaving
  refine wpAny_bind (note_any (Around.frames_deeper K.stack) b3 hf b4 b1 b2 fun h₁ hh hs₁ => ?_)
  refine wpAny_landsW hh fun h' hfl hs => ?_
  obtain ⟨k1, k2, ⟨_, _, k3⟩, k4⟩ := hfl
  exact hQ h' ⟨⟨B, hB, fun b o q nm => hBG b o (F.keep b o q) (fun hm => by
    rcases frames_mem hf hm with z | z
    · rw [z, kts_self F] at q
      cases q
    · exact nm z), fun _ hq => (nomatch hq), ⟨k1, k2, k3, k4⟩, b5⟩, (htup.of_slots hs₁).of_slots hs⟩ ((Heap.UpToSlots.of_keeps F.keep).trans ((hsm.trans hs₁).trans hs))
/-- the flight is set to anything -/
theorem flight_any {cls a0 fl : Value} {fr : Option Addr} {l : List Env} {Q : Unit → Shared → Prop} (hkb : base.StaysIn s.heap) (hl : s.heap.FunFrames base l) (ht : s.heap.TracedAtW base e cls a0 fl)
    (h : ∀ h' fl', base.StaysIn h' → h'.FunFrames base l → h'.TracedAtW base e cls a0 fl' → s.heap.UpToSlots h' → Q () { s with heap := h' }) : wpAny M A (setFlight (.ref e) fr) Q E s := by
  obtain ⟨oe, ws, T, oT, ts, he, hcls, hd, h1, hnT, hTe, hT, hdT, h3⟩ := ht
  have hsz3 : 3 < ts.size := (Array.getElem?_eq_some_iff.mp h3).1
  have other : ∀ b, b ≠ T → (s.heap.update T (Obj.mapFields (·.setIfInBounds 3 (fr.elim Value.none fun f => rawInt f)))).get? b = s.heap.get? b := fun b hb => Heap.get?_update_other _ _ (Ne.symm hb)
  have noRecord : ∀ b o, s.heap.get? b = some o → (∀ vs, o.data ≠ .fields vs) → b ≠ T := fun b o hb hnf q => by
    rw [q, hT] at hb; injection hb with hb; subst hb; exact hnf ts hdT
  unfold setFlight
  refine wpAny_bind (wpAny_field he hd h1 ?_)
  rw [if_pos (show (Value.ref T != Value.none) = true from by simp)]
  refine wpAny_setField hT hdT hsz3 (h _ (fr.elim Value.none fun f => rawInt f) (fun b o hbo => (other b fun q => by rw [q, hnT] at hbo; cases hbo).trans (hkb b o hbo))
    (hl.of_keeps fun b o hb hnf => ⟨o, (other b (noRecord b o hb hnf)).trans hb, rfl⟩) ?_ fun b o hb hnf => ⟨o.slots, (other b (noRecord b o hb hnf)).trans hb⟩)
  exact ⟨oe, ws, T, _, _, (other e (Ne.symm hTe)).trans he, hcls, hd, h1, hnT, hTe, Heap.get?_update_self _ hT (Obj.isFreed_of_fields (Obj.data_mapFields hdT _)), Obj.data_mapFields hdT _, by rw [Array.getElem?_setIfInBounds_self_of_lt hsz3]⟩
theorem pass_on {α : Type} {what : String} {cls a0 fl : Value} {l : List Env} {env' : Env} {Q : α → Shared → Prop} (hkb : base.StaysIn s.heap) (hl : s.heap.FunFrames base l) (ht : s.heap.TracedAtW base e cls a0 fl)
    (h : ∀ h' fl', base.StaysIn h' → h'.FunFrames base l → h'.TracedAtW base e cls a0 fl' → s.heap.UpToSlots h' → E (.ref e) { s with heap := h' }) : wpAny M A (PySem.passOn what (.ref e) env' : Sem α) Q E s := by
  obtain ⟨oe, ws, T, oT, ts, he, hcls, hd, h1, hr⟩ := id ht
  unfold PySem.passOn
  refine wpAny_bind (wpAny_field he hd h1 ?_)
  rw [if_neg (show ¬ ((Value.ref T == Value.none) = true) from by simp)]
  refine wpAny_bind (flight_any hkb hl ht fun h' fl' a b c d => ?_)
  exact wpAny_throw (h h' fl' a b c d)
end
/-- how a turn of a comprehension raises -/
def CompOut (h₀ : Heap) (L : Addr) (m : Str → Option Value) (base : Heap) (l : List Env) (C Cn : Addr) (s : Shared) (e' : Value) (s' : Shared) : Prop :=
  ∃ e t vs G h' tk' mC, e' = .ref e ∧ s' = { s with heap := h', toks := tk' } ∧ Fr h₀ L G m ∧ G.Ns Cn mC ∧ Fly base G l e C t vs h' ∧ G.UpToSlots h'
section
variable {prog : Program} {w : World} {A₀ A : Around} {E : Value → Shared → Prop} {s : Shared} {base h₀ : Heap} {L Ce : Addr} {m : Str → Option Value} {env : Env} {outer : List Env}
/-- an exception is let out of a comprehension -/
theorem comp_out {Cn : Addr} {scope : Scope} {cl : List (Str × Addr)} {use : Option (Value → Sem Unit)} {Q : Value → Shared → Prop} {acc e' : Value} {s' : Shared} (K : Below A₀ base outer h₀) (hA : A.frames = some (env :: outer)) (hf : env.frame = some L) (hC₀ : h₀.get? Cn = none) (hCL : Cn ≠ L)
    (hE : ∀ e t vs G h' tk', Fr h₀ L G m → FlyA base G (env :: outer) e Ce t vs h' → G.UpToSlots h' → E (.ref e) { s with heap := h', toks := tk' })
    (h : CompOut h₀ L m base (env :: outer) Ce Cn s e' s') :
    notedBy (model prog w) A (compEnvC scope cl Cn env) (fun e s' => compPost (model prog w) A E use Q acc Cn (.error e) s') e' s' := by
  obtain ⟨e, t, vs, G, h₁, tk', mC, rfl, rfl, F, hns, ⟨⟨B, hB, hBG, _, hfl, hnew⟩, htup⟩, hsm⟩ := h
  show wpAny _ A (noteFrame (.ref e) (compEnvC scope cl Cn env)) _ _ _
  rw [note_same (env := env) (env' := compEnvC scope cl Cn env) (.ref e) rfl]
  refine wpAny_looks_onW hA hf hfl fun h₂ hh hs₂ => ?_
  obtain ⟨b1, b2, b3, b4⟩ := hh
  have hs₁₂ := hsm.trans hs₂
  refine ⟨mC, hs₁₂.ns hns, fun h₃ hsb cenv hcenv => ?_⟩
  have hCf : Cn ∉ (env :: outer).filterMap (·.frame) := fun hm => by
    rcases frames_mem hf hm with z | z
    · exact hCL z
    · obtain ⟨_, o, ho, _⟩ := K.frames.mem z
      rw [hC₀] at ho; cases ho
  obtain ⟨oC, es, ep, hoC, hoCd, _⟩ := id hns
  have hBC : B.get? Cn = some oC := hBG _ _ hoC hCf
  have sub : ∀ b o, (hideAll B [Cn]).get? b = some o → b ≠ Cn ∧ B.get? b = some o := fun b o x => ⟨fun q => (by rw [q, hideAll_none [Cn] (List.mem_singleton.mpr rfl)] at x; exact nomatch x), of_hideAll _ x⟩
  have none' : ∀ b, B.get? b = none → (hideAll B [Cn]).get? b = none := fun b x => by
    cases q : (hideAll B [Cn]).get? b with
    | none => rfl
    | some o => rw [of_hideAll _ q] at x; cases x
  have keep : ∀ b o, b ≠ Cn → h₂.get? b = some o → h₃.get? b = some o := fun b o hb x => (hsb.2 b hb).trans x
  obtain ⟨oe, ws, T, oT, ts, he, hcls, hd, h1, hnT, hTe, hT, hdT, h3⟩ := b4
  have heC : e ≠ Cn := fun q => by rw [q, hBC] at b2; cases b2
  have hTC : T ≠ Cn := fun q => by rw [q, hBC] at hnT; cases hnT
  have htC : t ≠ Cn := fun q => by rw [q, hBC] at hnew; cases hnew
  have b4' : h₃.TracedAtW (hideAll B [Cn]) e (.ref Ce) (.ref t) (rawInt L) := ⟨oe, ws, T, oT, ts, keep _ _ heC he, hcls, hd, h1, none' _ hnT, hTe, keep _ _ hTC hT, hdT, h3⟩
  have b3' : h₃.FunFrames (hideAll B [Cn]) (env :: outer) := by
    have gen : ∀ l : List Env, (∀ b ∈ l.filterMap (·.frame), b ≠ Cn) → h₂.FunFrames B l → h₃.FunFrames (hideAll B [Cn]) l := by
      intro l
      induction l with
      | nil => exact fun _ _ => trivial
      | cons env' l ih =>
        rintro hne ⟨k1, ⟨L', o', k2, k3, k4, k5⟩, k6⟩
        refine ⟨k1, ⟨L', o', k2, none' _ k3, keep _ _ (hne L' (List.mem_filterMap.mpr ⟨env', List.mem_cons_self, k2⟩)) k4, k5⟩, ih (fun b hb => hne b ?_) k6⟩
        obtain ⟨env2, q1, q2⟩ := List.mem_filterMap.mp hb
        exact List.mem_filterMap.mpr ⟨env2, List.mem_cons_of_mem _ q1, q2⟩
    exact gen _ (fun b hb q => hCf (q ▸ hb)) b3
  have stB : (hideAll B [Cn]).StaysIn h₃ := fun b o x => keep b o (sub b o x).1 (b1 b o (sub b o x).2)
  refine pass_on stB b3' b4' fun h₄ fl' c1 c2 c3 c4 => ?_
  have up : (hideAll G [Cn]).UpToSlots h₄ := fun b o x hn => by
    have hbC : b ≠ Cn := fun q => by rw [q, hideAll_none [Cn] (List.mem_singleton.mpr rfl)] at x; cases x
    obtain ⟨sl, q1⟩ := hs₁₂ b o (of_hideAll _ x) hn
    obtain ⟨sl', q2⟩ := c4 b _ (keep _ _ hbC q1) hn
    exact ⟨sl', q2⟩
  have FG : Fr h₀ L (hideAll G [Cn]) m := ⟨F.ns.at' fun o x => hideAll_get _ x (by simpa using Ne.symm hCL), fun b o x => hideAll_get _ (F.keep b o x) (fun q => by rw [List.mem_singleton.mp q, hC₀] at x; cases x), F.above⟩
  have htup₄ : h₄.TupAt t vs := by
    obtain ⟨o, n, ho, hc, hd'⟩ := htup.of_slots hs₂
    exact Heap.TupAt.of_slots ⟨o, n, keep _ _ htC ho, hc, hd'⟩ c4
  refine hE e t vs (hideAll G [Cn]) h₄ _ FG ⟨⟨hideAll B [Cn], fl', fun b o x => hideAll_get _ (hB b o x) (fun q => ?_), fun b o x nm => ?_, c1, none' _ b2, c2, c3, none' _ hnew⟩, htup₄⟩ up
  · rw [List.mem_singleton.mp q] at x
    have := K.stays _ _ x
    rw [hC₀] at this; cases this
  · have hbC : b ≠ Cn := fun q => by rw [q, hideAll_none [Cn] (List.mem_singleton.mpr rfl)] at x; cases x
    exact hideAll_get _ (hBG b o (of_hideAll _ x) nm) (by simpa using hbC)
end
section
variable {prog : Program} {w : World} {A₀ A : Around} {E : Value → Shared → Prop} {s : Shared} {base h₀ : Heap} {L Ce : Addr} {m : Str → Option Value} {env : Env} {outer : List Env}
/-- a comprehension over a list that is bound to raise in one of its turns -/
theorem block_R {elt iter : PySem.Expr} {x : Str} {px : Pos} {scope : Scope} {cl : List (Str × Addr)} {pos : Pos} {s₂ : Shared} {I ax : Addr} {its : Array Value} {news : List (Addr × Obj)} {use : Option (Value → Sem Unit)} {Q : Value → Shared → Prop}
    (K : Below A₀ base outer h₀) (hA : A.frames = some (env :: outer)) (hf : env.frame = some L) (hh : A.handled = none) (hsz : its.size ≤ sizeLine) (hIa : I ≠ ax)
    (hcell : ∀ y ∈ scope.names, y.2 ≠ .cell) (hkind : scope.kind = .function) (hx : scope.names.lookup x = some .local) (hst : s₂.heap.IsListIter I ax 0 ∧ s₂.heap.IsList ax its)
    (F : Fr h₀ L s₂.heap m) (N : News h₀ L s₂.heap news) (hIL : L ≠ I) (hI₀ : h₀.get? I = none) (off : ∀ p ∈ news, p.1 ≠ I) (hS : LCg.SrcAt h₀ ax its news)
    (J : Nat → List Value → List (Addr × Obj) → Prop) (hj : J 0 [] news) (fin : ∀ ys nw, J its.size ys nw → False)
    (turn : ∀ i v ys nw oI Cn oC D m₂ h tk, its[i]? = some v → J i ys nw → LCg.NsObj oC m₂ → m₂ x = some v → Fr h₀ L h m → News h₀ L h ((I, oI) :: (Cn, oC) :: (D, LCg.lst ys) :: nw) → LCg.Off3 I Cn D nw → ((@Ne Nat I Cn) ∧ (@Ne Nat I D) ∧ (@Ne Nat Cn D)) →
      wpAny (model prog w) A (eval elt (compEnvC scope cl Cn env)) (LCg.CompEnd h₀ L m { s₂ with heap := h, toks := tk } I oI Cn oC D (LCg.lst ys) (LCg.SrcAt h₀ ax its) (fun y nw' => J (i + 1) (ys ++ [y]) nw')) (CompOut h₀ L m base (env :: outer) Ce Cn { s₂ with heap := h, toks := tk }) { s₂ with heap := h, toks := tk })
    (hE : ∀ e t vs G h' tk', Fr h₀ L G m → FlyA base G (env :: outer) e Ce t vs h' → G.UpToSlots h' → E (.ref e) { s₂ with heap := h', toks := tk' }) :
    wpAny (model prog w) A (newList []) (fun acc s₃ => wpAny (model prog w) A (newFunctionEnv scope env.globals cl [] env.qual none .none (some env)) (fun cenv s₄ =>
      codeAny (model prog w) A (.compStart (.ListComp elt [⟨.Name x px, iter, [], 0⟩] scope pos) 0 (.ref I) acc { cenv with scope := relabel scope env }) (compPost (model prog w) A E use Q acc cenv.locals) s₄) E s₃) E s₂ := by
  have W := Walks.list (prog := prog) (w := w) hh I ax (Ne.symm hIa) its
  refine wpAny_newObj_type (wpAny_newFunctionEnv hcell (by intro y hy; simp at hy) (fun h₁ hns₁ hsb₁ => ?_) hkind)
  dsimp only at hns₁ hsb₁ ⊢
  generalize hH2 : s₂.heap.push { cls := .type "list", dict := none, data := .seq ([] : List Value).toArray } = H2 at hns₁ hsb₁ ⊢
  have hC : H2.objs.size = s₂.heap.objs.size + 1 := by rw [← hH2, Heap.size_push]
  have hDC : s₂.heap.objs.size ≠ H2.objs.size := by rw [hC]; exact Nat.ne_of_lt (Nat.lt_succ_self _)
  have below : ∀ b, b < s₂.heap.objs.size → b ≠ H2.objs.size ∧ b ≠ s₂.heap.objs.size := fun b hb => ⟨by rw [hC]; exact Nat.ne_of_lt (Nat.lt_succ_of_lt hb), Nat.ne_of_lt hb⟩
  have hIlt : I < s₂.heap.objs.size := by obtain ⟨_, q, _⟩ := hst.1; exact Heap.lt_size q
  have halt : ax < s₂.heap.objs.size := by obtain ⟨_, q, _⟩ := hst.2; exact Heap.lt_size q
  have old : ∀ b o, s₂.heap.get? b = some o → h₁.get? b = some o := fun b o e => hsb₁.extBut b o (below b (Heap.lt_size e)).1 (Heap.get?_push_of_some _ (hH2 ▸ Heap.get?_push_of_some _ e))
  have hacc : h₁.get? s₂.heap.objs.size = some (LCg.lst []) := hsb₁.extBut _ _ hDC (Heap.get?_push_of_some _ (hH2 ▸ Heap.get?_push_size _ rfl))
  have fresh₀ : ∀ a, s₂.heap.objs.size ≤ a → h₀.get? a = none := fun a ha => by
    cases e : h₀.get? a with
    | none => rfl
    | some o' => exact absurd (Heap.lt_size (F.keep a o' e)) (Nat.not_lt.mpr ha)
  have hD₀ : h₀.get? s₂.heap.objs.size = none := fresh₀ _ (Nat.le_refl _)
  have hC₀ : h₀.get? H2.objs.size = none := fresh₀ _ (by rw [hC]; exact Nat.le_succ _)
  have hLlt : L < s₂.heap.objs.size := F.ns.lt
  have hDL : s₂.heap.objs.size ≠ L := Ne.symm (below L hLlt).2
  have hCL : H2.objs.size ≠ L := Ne.symm (below L hLlt).1
  have hCI : I ≠ H2.objs.size := (below I hIlt).1
  have hDI : I ≠ s₂.heap.objs.size := (below I hIlt).2
  have haC : ax ≠ H2.objs.size := (below ax halt).1
  have off₀ : LCg.Off3 I H2.objs.size s₂.heap.objs.size news := LCg.Off3.of fun p hp => ⟨off p hp, (below _ (Heap.lt_size (N p hp).1)).1, (below _ (Heap.lt_size (N p hp).1)).2⟩
  have hst₁ : h₁.IsListIter I ax 0 ∧ h₁.IsList ax its := ⟨hst.1.at fun o q => old _ o q, hst.2.at fun o q => old _ o q⟩
  have loop : ∀ s₃ : Shared, s₃ = { s₂ with heap := h₁, toks := s₂.toks + ([] : List (Str × Value)).length } →
      codeAny (model prog w) A (.compLoop (.ListComp elt [⟨.Name x px, iter, [], 0⟩] scope pos) 0 (.ref I) (.ref s₂.heap.objs.size) (compEnvC scope cl H2.objs.size env))
        (compPost (model prog w) A E use Q (.ref s₂.heap.objs.size) H2.objs.size) s₃ := by
    rintro s₃ rfl
    refine codeAny_compLoop_tests
      (fun k s' => ∃ h' tk i ys m' news', s' = { s₂ with heap := h', toks := tk } ∧ i ≤ its.size ∧ k = its.size + 1 - i ∧ ys.length = i ∧ (h'.IsListIter I ax i ∧ h'.IsList ax its) ∧ Fr h₀ L h' m ∧ h'.Ns H2.objs.size m' ∧ News h₀ L h' ((s₂.heap.objs.size, LCg.lst ys) :: news') ∧
        LCg.Off3 I H2.objs.size s₂.heap.objs.size news' ∧ LCg.SrcAt h₀ ax its news' ∧ J i ys news') ?_ (its.size + 1)
      ⟨h₁, _, 0, [], _, news, rfl, Nat.zero_le _, rfl, rfl, hst₁, F.keeps old, hns₁, fun p hp => ?_, off₀, hS, hj⟩
    · rintro k s' ⟨h', tk, i, ys, m', news', rfl, hi, rfl, hyl, hst', F', hn', N', off', hS', hJ⟩
      by_cases hlt : i < its.size
      · refine W.item i _ _ _ hlt hst' fun v h₂ tk₂ hPv hst₂ hk₂ => ?_
        refine wpAny_assign_Name (wpAny_storeName_local (lookup_relabel_local hx) (hn'.at' fun o e => hk₂ _ o (by simpa using Ne.symm hCI) e) (fun h₃ hn₃ hs₃ => ?_) (by simp [compEnvC, relabel, hkind]))
        refine wpAny_tests_nil ?_
        simp only [if_true]
        have hst₃ : h₃.IsListIter I ax (i + 1) ∧ h₃.IsList ax its := ⟨hst₂.1.at fun o q => hs₃.extBut _ o hCI q, hst₂.2.at fun o q => hs₃.extBut _ o haC q⟩
        obtain ⟨oI, heI, hoI⟩ := id hst₃.1
        obtain ⟨oC, heC, hoC⟩ := LCg.ns_obj hn₃
        have F₃ : Fr h₀ L h₃ m := (LCg.fr_but F' hk₂ hIL hI₀).change hs₃ hCL hC₀
        have off3 := off'.mem
        have N₂ : News h₀ L h₂ ((s₂.heap.objs.size, LCg.lst ys) :: news') := LCg.news_but N' hk₂ fun p hp => by
          rcases List.mem_cons.mp hp with rfl | hp
          · exact Ne.symm hDI
          · exact (off3 p hp).1
        have N₃ : News h₀ L h₃ ((I, oI) :: (H2.objs.size, oC) :: (s₂.heap.objs.size, LCg.lst ys) :: news') := fun p hp => by
          rcases List.mem_cons.mp hp with rfl | hp
          · exact ⟨heI, Ne.symm hIL, hI₀⟩
          · rcases List.mem_cons.mp hp with rfl | hp
            · exact ⟨heC, hCL, hC₀⟩
            · have z := N₂ p hp
              refine ⟨hs₃.extBut _ _ ?_ z.1, z.2⟩
              rcases List.mem_cons.mp hp with rfl | hp
              · exact hDC
              · exact (off3 p hp).2.1
        refine wpAny_mono (turn i v ys news' oI H2.objs.size oC s₂.heap.objs.size _ h₃ _ hPv hJ hoC (by simp) F₃ N₃ off' ⟨hCI, hDI, Ne.symm hDC⟩) (fun y s₄ h₄ => ?_) fun e' s₄ h₄ => comp_out (Ce := Ce) (L := L) K hA hf hC₀ hCL hE h₄
        obtain ⟨h₄, tk₄, news₄, rfl, F₄, N₄, off₄, hS₄, R₄⟩ := h₄
        have zI := (N₄ (I, oI) List.mem_cons_self).1
        have zC := (N₄ (H2.objs.size, oC) (List.mem_cons_of_mem _ List.mem_cons_self)).1
        have zD := (N₄ (s₂.heap.objs.size, LCg.lst ys) (List.mem_cons_of_mem _ (List.mem_cons_of_mem _ List.mem_cons_self))).1
        have N₄' : News h₀ L h₄ news₄ := fun p hp => N₄ p (List.mem_cons_of_mem _ (List.mem_cons_of_mem _ (List.mem_cons_of_mem _ hp)))
        have hst₄ : h₄.IsListIter I ax (i + 1) ∧ h₄.IsList ax its := ⟨⟨oI, zI, hoI⟩, hS₄.list F₄.keep N₄'⟩
        refine append_at (hsz := by show ys.toArray.size ≤ sizeLine; rw [List.size_toArray, hyl]; exact Nat.le_trans hi hsz) zD fun h₅ hs₅ hD₅ => ?_
        have off4 := off₄.mem
        have haD : ax ≠ s₂.heap.objs.size := (below ax halt).2
        refine ⟨its.size + 1 - (i + 1), by omega, h₅, tk₄, i + 1, ys ++ [y], _, news₄, rfl, hlt, rfl, by rw [List.length_append, List.length_singleton, hyl], ⟨hst₄.1.at fun o q => hs₅.extBut _ o hDI q, hst₄.2.at fun o q => hs₅.extBut _ o haD q⟩, F₄.change hs₅ hDL hD₀,
          (hoC.ns zC).sameBut hs₅ (Ne.symm hDC), fun p hp => ?_, off₄, hS₄, R₄⟩
        rcases List.mem_cons.mp hp with rfl | hp
        · exact ⟨hD₅.trans (congrArg some (LCg.lst_snoc ys y)), hDL, hD₀⟩
        · exact ⟨hs₅.extBut _ _ (off4 p hp).2.2 (N₄' p hp).1, (N₄' p hp).2⟩
      · obtain rfl : i = its.size := Nat.le_antisymm hi (Nat.not_lt.mp hlt)
        exact (fin _ _ hJ).elim
    · rcases List.mem_cons.mp hp with rfl | hp
      · exact ⟨hacc, hDL, hD₀⟩
      · exact ⟨old _ _ (N p hp).1, (N p hp).2⟩
  exact codeAny_compStart_list (loop _ rfl) (W.self 0 _ _ _ hst₁ (loop _ rfl))
end
section
variable {prog : Program} {w : World} {A₀ A : Around} {E : Value → Shared → Prop} {s : Shared} {base h₀ : Heap} {L Ce : Addr} {m : Str → Option Value} {env : Env} {outer : List Env}
/-- the source of a comprehension that is bound to raise -/
def CompSrcR (prog : Program) (w : World) (A : Around) (E : Value → Shared → Prop) (base h₀ : Heap) (L Ce : Addr) (m : Str → Option Value) (env : Env) (outer : List Env) (elt : PySem.Expr) (x : Str) (scope : Scope) (cl : List (Str × Addr)) (xv : Value) (s₁ : Shared) : Prop :=
  ∃ (ax : Addr) (its : Array Value) (news : List (Addr × Obj)) (A₀ : Around) (J : Nat → List Value → List (Addr × Obj) → Prop), xv = .ref ax ∧ Below A₀ base outer h₀ ∧ A.frames = some (env :: outer) ∧ env.frame = some L ∧ A.handled = none ∧ Fr h₀ L s₁.heap m ∧ News h₀ L s₁.heap news ∧ LCg.SrcAt h₀ ax its news ∧ its.size ≤ sizeLine ∧ J 0 [] news ∧ (∀ ys nw, J its.size ys nw → False) ∧
    (∀ i v ys nw I oI Cn oC D m₂ h tk, its[i]? = some v → J i ys nw → LCg.NsObj oC m₂ → m₂ x = some v → Fr h₀ L h m → News h₀ L h ((I, oI) :: (Cn, oC) :: (D, LCg.lst ys) :: nw) → LCg.Off3 I Cn D nw → ((@Ne Nat I Cn) ∧ (@Ne Nat I D) ∧ (@Ne Nat Cn D)) →
      wpAny (model prog w) A (eval elt (compEnvC scope cl Cn env)) (LCg.CompEnd h₀ L m { s₁ with heap := h, toks := tk } I oI Cn oC D (LCg.lst ys) (LCg.SrcAt h₀ ax its) (fun y nw' => J (i + 1) (ys ++ [y]) nw')) (CompOut h₀ L m base (env :: outer) Ce Cn { s₁ with heap := h, toks := tk }) { s₁ with heap := h, toks := tk }) ∧
    ∀ e t vs G h' tk', Fr h₀ L G m → FlyA base G (env :: outer) e Ce t vs h' → G.UpToSlots h' → E (.ref e) { s₁ with heap := h', toks := tk' }
theorem comp_srcR {elt iter : PySem.Expr} {x : Str} {px : Pos} {scope : Scope} {cl : List (Str × Addr)} {pos : Pos} {use : Option (Value → Sem Unit)} {Q : Value → Shared → Prop} {xv : Value} {s₁ : Shared}
    (hcell : ∀ y ∈ scope.names, y.2 ≠ .cell) (hkind : scope.kind = .function) (hx : scope.names.lookup x = some .local) (h : CompSrcR prog w A E base h₀ L Ce m env outer elt x scope cl xv s₁) :
    wpAny (model prog w) A (pyIter xv) (fun it s₂ => wpAny (model prog w) A (newList []) (fun acc s₃ => wpAny (model prog w) A (newFunctionEnv scope env.globals cl [] env.qual none .none (some env)) (fun cenv s₄ =>
      codeAny (model prog w) A (.compStart (.ListComp elt [⟨.Name x px, iter, [], 0⟩] scope pos) 0 it acc { cenv with scope := relabel scope env }) (compPost (model prog w) A E use Q acc cenv.locals) s₄) E s₃) E s₂) E s₁ := by
  obtain ⟨ax, its, news, A₀, J, rfl, K, hA, hf, hh, F, N, S, hsz, hj, fin, turn, hE⟩ := h
  have hl := S.list F.keep N
  have hlt : ax < s₁.heap.objs.size := by obtain ⟨_, e, _⟩ := hl; exact Heap.lt_size e
  refine wpAny_pyIter_list hl ?_
  have up : ∀ b o, s₁.heap.get? b = some o → (s₁.heap.push { cls := .type "list_iterator", data := .fields #[.ref ax, .int 0 0] }).get? b = some o := fun b o e => Heap.get?_push_of_some _ e
  exact block_R (Ce := Ce) (base := base) (outer := outer) (ax := ax) (its := its) (news := news) K hA hf hh hsz (Ne.symm (Nat.ne_of_lt hlt)) hcell hkind hx ⟨⟨_, Heap.get?_push_size _ rfl, rfl, rfl⟩, hl.push _⟩ (F.keeps up) (N.grown up) (Nat.ne_of_lt F.ns.lt) (next_is_new F) (fun p hp => Nat.ne_of_lt (Heap.lt_size (N p hp).1)) S J hj fin
    (fun i v ys nw oI Cn oC D m₂ h tk a b c d e f g k => turn i v ys nw _ oI Cn oC D m₂ h tk a b c d e f g k) hE
theorem ListComp_R {elt iter : PySem.Expr} {x : Str} {px : Pos} {scope : Scope} {cl : List (Str × Addr)} {pos : Pos} {Q : Value → Shared → Prop}
    (hclos : closureFor scope env = pure cl) (hcell : ∀ y ∈ scope.names, y.2 ≠ .cell) (hkind : scope.kind = .function)
    (hnames : ∀ y ∈ scope.names, y.2 = .local → scope.names.lookup y.1 = some .local) (hx : scope.names.lookup x = some .local)
    (h : wpAny (model prog w) A (eval iter env) (CompSrcR prog w A E base h₀ L Ce m env outer elt x scope cl) E s)
    (hs : ∀ x, foldedSetIterable iter env x = pure x := by intro _; rfl) :
    wpAny (model prog w) A (eval (.ListComp elt [⟨.Name x px, iter, [], 0⟩] scope pos) env) Q E s := by
  rw [eval_ListComp]
  exact wpAny_comprehension_free (use := none) rfl hs hclos hkind hnames (wpAny_mono h (fun xv s₁ h₁ => comp_srcR hcell hkind hx h₁) fun _ _ e => e)
theorem Assign_ListComp_R {elt iter : PySem.Expr} {x y : Str} {px py : Pos} {scope : Scope} {cl : List (Str × Addr)} {pos spos : Pos} {Q : Flow → Shared → Prop}
    (hsw : swapsWith (.ListComp elt [⟨.Name x px, iter, [], 0⟩] scope pos) (some (.Name y py)) spos.line env = pure true)
    (hclos : closureFor scope env = pure cl) (hcell : ∀ z ∈ scope.names, z.2 ≠ .cell) (hkind : scope.kind = .function)
    (hnames : ∀ z ∈ scope.names, z.2 = .local → scope.names.lookup z.1 = some .local) (hx : scope.names.lookup x = some .local)
    (h : wpAny (model prog w) A (eval iter env) (CompSrcR prog w A E base h₀ L Ce m env outer elt x scope cl) E s)
    (hs : ∀ x, foldedSetIterable iter env x = pure x := by intro _; rfl) :
    wpAny (model prog w) A (exec (.Assign [.Name y py] (.ListComp elt [⟨.Name x px, iter, [], 0⟩] scope pos) spos) env) Q E s := by
  rw [exec_Assign_Name_used _ _ _ _ hsw]
  refine wpAny_bind (wpAny_standAt (wpAny_bind ?_))
  show wpAny _ A (do let _ ← comprehension (.ListComp elt [⟨.Name x px, iter, [], 0⟩] scope pos) scope env _ (newList []) false (eval iter env) (some (assign (.Name y py) env))) _ _ s
  exact wpAny_bind (wpAny_mono (wpAny_comprehension_free (use := some (assign (.Name y py) env)) (Q := fun _ s' => Q .next s') rfl hs hclos hkind hnames
    (wpAny_mono h (fun xv s₁ h₁ => comp_srcR hcell hkind hx h₁) fun _ _ e => e)) (fun _ s' hq => wpAny_pure (wpAny_pure hq)) fun _ _ e => e)
end
end
section
theorem topP26 : True := by
  w_top off
  trivial
local macro_rules | `(tactic| walk_at "pad") => `(tactic| fail "pad")
local macro_rules | `(tactic| walk_at "pad") => `(tactic| fail "pad")
local macro_rules | `(tactic| walk_at "pad") => `(tactic| fail "pad")
local macro_rules | `(tactic| walk_at "pad") => `(tactic| fail "pad")
local macro_rules | `(tactic| walk_at "pad") => `(tactic| fail "pad")
local macro_rules | `(tactic| walk_at "pad") => `(tactic| fail "pad")
local macro_rules | `(tactic| walk_at "pad") => `(tactic| fail "pad")
local macro_rules | `(tactic| walk_at "leaving ref") => `(tactic| (k_here; k_dflt (refine' leave_raiseX ?K ?hx ?F ?hf ?hk ?_; (case hx => assumption); (case K => k_asm); (case F => k_asm); (case hf => exact rfl); (case hk => exact rfl)); intro h' t' R' U'))
section
variable {prog : Program} {w : World} {A : Around} {E : Value → Shared → Prop} {s : Shared} {env : Env} {L : Addr} {h₀ : Heap} {m mg : Str → Option Value} {x : Str} {C : Addr} {B newId initId : String} {bm : List Value} {np cpos pos : Pos} {Q : Flow → Shared → Prop}
/-- an own class's exception is raised, whatever the frame's cells -/
theorem Raise_ownX {e₀ : PySem.Expr} {rest : List PySem.Expr} (heg : env.globals = mainGlobals) (F : Fr h₀ L s.heap m) (hg : h₀.Ns mainGlobals mg) (O : OwnCls x C bm newId mg h₀) (FB : ExcBaseFacts B newId initId bm) (hh : A.handled = none)
    (h : wpAny (model prog w) A (spliced (backTo cpos (starEach (e₀ :: rest) env))) (fun vs s₂ => vs.length ≤ sizeLine ∧ (∀ b o, h₀.get? b = some o → s₂.heap.get? b = some o) ∧
      ∀ h' e, Heap.MadeExcOf s₂.heap h' e (.ref C) vs → E (.ref e) { s₂ with heap := h' }) E s)
    (he : starEach (e₀ :: rest) env = (false, eval e₀ env) :: starEach rest env) (hplain : (backTo cpos (starEach rest env)).any (·.1) = false)
    (hk : env.scope.kind = .function) (hx : env.kindOf x = some .globalImplicit) (hd : (x == ("__debug__" : Str)) = false) :
    wpAny (model prog w) A (exec (.Raise (some (.Call (.Name x np) (e₀ :: rest) [] cpos)) none pos) env) Q E s := by
  obtain ⟨tl, N, nm, q, bs, hdct, sn, sub, ab, col, dd, k0, k1, k2, k3, k5, mN, hC, hN, hni, T⟩ := O.obj
  have hgl : s.heap.Ns env.globals mg := by rw [heg]; exact hg.keeps F.keep
  refine wpAny_Raise_call_subT (C := C) (nm := nm) (q := q) (N := N) (bs := bs) (bm := tl) (hdct := hdct) (sn := sn) (sub := sub) (ab := ab) (col := col) (dd := dd) (k0 := k0) (k1 := k1) (k2 := k2) (k3 := k3) (k5 := k5)
    FB (mN := mN) (T.hasType FB.hasBase) hh (by rw [he]; show (false || (backTo cpos (starEach rest env)).any (·.1)) = false; rw [hplain]; rfl) hni (Calls.Name_function_global hk hx (Calls.loadGlobal_global (env := env) hgl O.bound ⟨rfl, ?_⟩) hd)
  rw [he] at h ⊢
  exact Calls.evalArgs_plain (wpAny_mono h (fun vs s₂ h₂ => ⟨rfl, h₂.1, h₂.2.1 _ _ hC, hN.keeps h₂.2.1, T.keeps h₂.2.1, h₂.2.2⟩) fun _ _ y => y)
end
local macro_rules | `(tactic| walk_at "exec Raise some none") => `(tactic| (k_here; (with_reducible show wpAny _ _ (exec (Stmt.Raise (some (Expr.Call (Expr.Name _ _) (_ :: _) [] _)) none _) _) _ _ _); k_dflt (refine' Raise_ownX ?eg ?F ?g ?O PySem.F.excBase_Exception ?h ?_ ?a ?b ?c ?d ?e; (case F => k_asm); (case eg => exact rfl); (case g => exact TopRead.g (by k_asm)); (case O => exact own_of_in (by k_asm) (by k_asm) (by k_is) (by k_exc)); (case h => first | rfl | assumption); (case a => rfl); (case b => rfl); (case c => rfl); (case d => rfl); (case e => decide); k_whole)))
local macro_rules | `(tactic| walk_at "call type:int") => `(tactic| (k_here; (with_reducible refine call_textI (by with_reducible assumption) (by omega) ?_)))
section
variable {prog : Program} {w : World} {A : Around} {E : Value → Shared → Prop} {s : Shared} {Q : Value → Shared → Prop} {t u : Tok} {d : Str}
set_option maxHeartbeats 0 in
/-- the two messages, whatever they say -/
theorem pct_range (h : ∀ T t' k, Q (.str T t') { s with toks := k }) : wpAny (model prog w) A (binaryOp .Mod (.str (Str.ofString "Derivation index can be in a range [0, %d)") t) (.int 2147483648 u)) Q E s := by
  refine' KPc.mod_lit ?kpcF ?kpcd ?kpcm ?_
  (case kpcF => kpc_eq)
  (case kpcd => decide +kernel)
  (case kpcm => kpc_run)
  intro _ _
  exact h _ _ _
set_option maxHeartbeats 0 in
theorem pct_hard (hy : d.length ≤ 300) (h : ∀ T t' k, Q (.str T t') { s with toks := k }) : wpAny (model prog w) A (binaryOp .Mod (.str (Str.ofString "Hardened derivation is not allowed in %s") t) (.str d u)) Q E s := by
  refine' KPc.mod_str ?kpcF ?kpcl ?kpcm ?_
  (case kpcF => kpc_eq)
  (case kpcl => omega)
  (case kpcm => kpc_run_s)
  intro _ _
  exact h _ _ _
end
local macro_rules | `(tactic| walk_at "binaryOp Mod str int") => `(tactic| (k_here; (with_reducible refine pct_range ?_); intro _ _ _))
local macro_rules | `(tactic| walk_at "binaryOp Mod str str") => `(tactic| (k_here; (with_reducible refine pct_hard (by assumption) ?_); intro _ _ _))
local macro_rules | `(tactic| walk_at "enterC0") => `(tactic| (k_dflt (refine' enterC ?k1 ?k2 ?k3 ?k4 ?k5 ?kA ?kF ?kK ?k6 ?k7 ?k8 ?k9 ?kB ?kD ?_ ?c2 ?c3 ?c4; (case kA => exact rfl); (case kF => exact rfl); (case kK => assumption); (case k1 => k_asm); (case k2 => k_asm); (case k3 => k_asm); (case k4 => k_asm); (case k5 => k_asm); (case k6 => k_is); (case k7 => k_is); (case k8 => ktr_room); (case k9 => first | exact BindsTo.of_eq rfl | exact binds_K (by k_in) rfl (by k_is) rfl rfl rfl); (case kB => exact rfl); (case kD => decide +kernel); (case c2 => exact rfl); (case c3 => exact rfl); (case c4 => exact rfl); k_whole)))
local macro_rules | `(tactic| walk_at "enterC1") => `(tactic| (intro L' h' tk' cells' F' N' Y' B' X' T'; k_cells Y'; (try simp only [List.cons_append, List.nil_append] at N'); (try dsimp only); (try k_fold)))
set_option maxHeartbeats 0 in
/-- a hardened step without leave -/
theorem pe_bad1 {w : World} (d : Str) (t : Tok) (args : Args) (ha : peArgs d t false args) (h1 : (d == Str.ofString "*") = false) (h2 : (Txt.item d 0 == Str.ofString "{") = false) (h3 : (Txt.item d 0 == Str.ofString "<") = false) (hlen : 1 ≤ d.length) (hlen2 : d.length ≤ 300)
    (h4 : [Str.ofString "h", Str.ofString "H", Str.ofString "'"].any (· == Txt.item d (-1)) = true) : RCtr w 2 841 args (fun _ => True) 757 := by
  intro mean mg mb dp un gd cn cs a ccd cl outer A₀ base h₀ L m news s Q E B F X N T hk hdp hu hpre hret
  apply bothShapes (G := fun args => codeAny (model PR w) (ktrTop dp un gd cn cs L a ccd cl outer) (.call (.ref 841) args) (RetE Q E) s) ha
  case k1 =>
    intro b hb
    walk_at "enterC0"
    exact hb.out
  case k2 =>
    intro hb
    walk_at "enterC0"
    exact hb.out
  intro b
  (walk_at "enterC1"; k_steps)
  all_goals exact hret _ _ _ _ _ (by assumption) (by assumption)
set_option maxHeartbeats 0 in
/-- a number out of range -/
theorem pe_bad2 {w : World} (d : Str) (t : Tok) (n : Int) (ah : Bool) (args : Args) (ha : peArgs d t ah args) (h1 : (d == Str.ofString "*") = false) (h2 : (Txt.item d 0 == Str.ofString "{") = false) (h3 : (Txt.item d 0 == Str.ofString "<") = false) (hlen : 1 ≤ d.length) (hlen2 : d.length ≤ 300)
    (h4 : [Str.ofString "h", Str.ofString "H", Str.ofString "'"].any (· == Txt.item d (-1)) = false) (h7 : PySem.intText? d = some n) (g : n < 0 ∨ 2147483648 ≤ n) (g2 : n.natAbs < 10000000000) : RCtr w 2 841 args (fun _ => True) 757 := by
  intro mean mg mb dp un gd cn cs a ccd cl outer A₀ base h₀ L m news s Q E B F X N T hk hdp hu hpre hret
  replace h7 := IntT.mk h7
  apply bothShapes (G := fun args => codeAny (model PR w) (ktrTop dp un gd cn cs L a ccd cl outer) (.call (.ref 841) args) (RetE Q E) s) ha
  case k1 =>
    intro b hb
    walk_at "enterC0"
    exact hb.out
  case k2 =>
    intro hb
    walk_at "enterC0"
    exact hb.out
  intro b
  (walk_at "enterC1"; k_steps)
  all_goals exact hret _ _ _ _ _ (by assumption) (by assumption)
set_option maxHeartbeats 0 in
theorem pe_bad3 {w : World} (d : Str) (t : Tok) (n : Int) (args : Args) (ha : peArgs d t true args) (h1 : (d == Str.ofString "*") = false) (h2 : (Txt.item d 0 == Str.ofString "{") = false) (h3 : (Txt.item d 0 == Str.ofString "<") = false) (hlen : 1 ≤ d.length) (hlen2 : d.length ≤ 300)
    (h4 : [Str.ofString "h", Str.ofString "H", Str.ofString "'"].any (· == Txt.item d (-1)) = true) (h7 : PySem.intText? (Txt.slice d none (some (-1))) = some n) (hlen3 : (Txt.slice d none (some (-1))).length ≤ 300) (g : n < 0 ∨ 2147483648 ≤ n) (g2 : n.natAbs < 10000000000) : RCtr w 2 841 args (fun _ => True) 757 := by
  intro mean mg mb dp un gd cn cs a ccd cl outer A₀ base h₀ L m news s Q E B F X N T hk hdp hu hpre hret
  replace h7 := IntT.mk h7
  apply bothShapes (G := fun args => codeAny (model PR w) (ktrTop dp un gd cn cs L a ccd cl outer) (.call (.ref 841) args) (RetE Q E) s) ha
  case k1 =>
    intro b hb
    walk_at "enterC0"
    exact hb.out
  case k2 =>
    intro hb
    walk_at "enterC0"
    exact hb.out
  intro b
  (walk_at "enterC1"; k_steps)
  all_goals exact hret _ _ _ _ _ (by assumption) (by assumption)
end
section
theorem topP27 : True := by
  w_top off
  trivial
theorem ListComp_RF {prog : Program} {w : World} {A₀ A : Around} {E : Value → Shared → Prop} {s : Shared} {base h₀ : Heap} {L : Addr} (Ce : Addr) {m : Str → Option Value} {env : Env} {outer : List Env} {elt iter : PySem.Expr} {x : Str} {px : Pos} {scope : Scope} {cl : List (Str × Addr)} {pos : Pos} {Q : Value → Shared → Prop}
    (_F : Fr h₀ L s.heap m) (_K : Below A₀ base outer h₀) (hclos : closureFor scope env = pure cl) (hcell : ∀ y ∈ scope.names, y.2 ≠ .cell) (hkind : scope.kind = .function)
    (hnames : ∀ y ∈ scope.names, y.2 = .local → scope.names.lookup y.1 = some .local) (hx : scope.names.lookup x = some .local)
    (h : wpAny (model prog w) A (eval iter env) (CompSrcR prog w A E base h₀ L Ce m env outer elt x scope cl) E s)
    (hs : ∀ x, foldedSetIterable iter env x = pure x := by intro _; rfl) :
    wpAny (model prog w) A (eval (.ListComp elt [⟨.Name x px, iter, [], 0⟩] scope pos) env) Q E s := ListComp_R hclos hcell hkind hnames hx h hs
local macro_rules | `(tactic| walk_at "eval ListComp") => `(tactic| ((with_reducible show wpAny _ _ (eval (PySem.Expr.ListComp _ [Comprehension.mk _ _ [] _] _ _) _) _ _ _); k_dflt (refine ListComp_RF 757 (by k_asm) (by k_asm) (by with_unfolding_all rfl) (by decide) (by rfl) (by decide) (by rfl) ?_)))
local macro_rules | `(tactic| walk_at "CompSrcR") => `(tactic| refine hold ?_)
set_option maxHeartbeats 0 in
/-- a set one of whose parts raises -/
theorem pe_setR {w : World} (d : Str) (t : Tok) (ah : Bool) (ws : List Str) (ns : List Int) (h1 : (d == Str.ofString "*") = false) (h2 : (Txt.item d 0 == Str.ofString "{") = false) (h2b : (Txt.item d 0 == Str.ofString "<") = true) (h3 : (Txt.item d (-1) == Str.ofString ">") = true) (hlen : 1 ≤ d.length) (hlen2 : d.length ≤ 640)
    (hlen3 : (Txt.slice d (some 1) (some (-1))).length ≤ 640) (h5 : Txt.split (Txt.slice d (some 1) (some (-1))) (Str.ofString ";") = ws) (hn : ns.length < ws.length) (h6 : ws.length ≤ 5)
    (hel : ∀ (i : Nat) (x : Str) (n : Int), ws[i]? = some x → ns[i]? = some n → ∀ t, Ctr w 2 841 ⟨[.ref 852, .str x t, .bool ah], [(Str.ofString "allow_set", .bool false)]⟩ (fun _ => True) (fun _ r => IntV n r))
    (hbad : ∀ (x : Str), ws[ns.length]? = some x → ∀ t, RCtr w 2 841 ⟨[.ref 852, .str x t, .bool ah], [(Str.ofString "allow_set", .bool false)]⟩ (fun _ => True) 757) :
    RCtr w 4 841 ⟨[.ref 852, .str d t, .bool ah, .bool true], []⟩ (fun _ => True) 757 := by
  intro mean mg mb dp un gd cn cs a ccd cl outer A₀ base h₀ L m news s Q E B F X N T hk hdp hu hpre hret
  walk_at "enterC"
  k_steps
  rename_i Lc _ _ _ _ _ _ _ _ _ _ _ _ D vs2 h5' _ hvs F2 N2 l2
  have hvl := hvs.length
  refine Hold.go ⟨_, vs2.toArray, _, _, (fun i ys nw => nw = _ ∧ IntsAre ys (ns.take i) ∧ i ≤ ns.length), rfl, by k_asm, rfl, rfl, rfl, by k_asm, N2, Or.inr ⟨_, List.mem_cons_self, rfl, _, rfl⟩, by rw [PySem.sizeLine_eq, List.size_toArray]; omega, ⟨rfl, .nil, Nat.zero_le _⟩, ?_, ?_, ?_⟩
  · rintro ys nw ⟨_, _, hle⟩
    rw [List.size_toArray] at hle
    omega
  · intro i v ys nw I oI Cn oC D' m₂ h tk hv hI hC hx F1 N1 off ne
    obtain ⟨rfl, hys, hile⟩ := hI
    obtain ⟨x, tx, rfl, hx0⟩ := StrsAre.at hvs i v (by simpa using hv)
    by_cases hin : i < ns.length
    · have hC1 := hel i x _ hx0 (List.getElem?_eq_getElem hin)
      k_steps
      refine Hold.go (Ctr.use (hC1 tx) (by k_asm) (by k_asm) (by k_asm) (by k_asm) (by k_asm) (by first | exact rfl | assumption) (by ktr_room) (by ktr_units) trivial ?_)
      intro r9 tl9 h9 tk9 F9 N9 S9 P9
      obtain ⟨t9, e9⟩ := IntV.out P9
      subst e9
      replace N9 := cb_drop N9 (fun _ hp => List.mem_append_left _ (List.mem_cons_of_mem _ hp))
      k_steps
      refine Hold.go (compEnd_same (by assumption) (by assumption) off (Or.inr ⟨_, List.mem_cons_self, rfl, _, rfl⟩) ⟨rfl, ?_, hin⟩)
      rw [List.take_add_one, List.getElem?_eq_getElem hin]
      exact IntsAre.append hys (.cons _ _ .nil)
    · obtain rfl : i = ns.length := by omega
      have hR := hbad x hx0 tx
      k_steps
      refine Hold.go (RCtr.use hR (by k_asm) (by k_asm) (by k_asm) (by k_asm) (by k_asm) (by first | exact rfl | assumption) (by ktr_room) (by ktr_units) trivial ?_)
      intro e t vs h5 tk5 R5 U5
      rename Fr s.heap _ _ _ => FG
      rename News s.heap _ _ _ => NG
      have z := (NG (Cn, oC) (List.mem_cons_of_mem _ (List.mem_cons_of_mem _ List.mem_cons_self))).1
      exact ⟨e, t, vs, _, h5, tk5, m₂, rfl, rfl, FG, hC.ns z, R5, U5⟩
  · intro e t vs G h' tk' FG RA U
    refine leave_anyX (by k_asm) FG RA U rfl ?_
    intro h'' R'' U''
    exact hret _ _ _ _ _ R'' U''
end
section
theorem topP28 : True := by
  w_top off
  trivial
local macro_rules | `(tactic| walk_at "pad") => `(tactic| fail "pad")
theorem Assign_ListComp_RF {prog : Program} {w : World} {A₀ A : Around} {E : Value → Shared → Prop} {s : Shared} {base h₀ : Heap} {L : Addr} (Ce : Addr) {m : Str → Option Value} {env : Env} {outer : List Env} {elt iter : PySem.Expr} {x y : Str} {px py : Pos} {scope : Scope} {cl : List (Str × Addr)} {pos spos : Pos} {Q : Flow → Shared → Prop}
    (_F : Fr h₀ L s.heap m) (_K : Below A₀ base outer h₀) (hsw : swapsWith (.ListComp elt [⟨.Name x px, iter, [], 0⟩] scope pos) (some (.Name y py)) spos.line env = pure true)
    (hclos : closureFor scope env = pure cl) (hcell : ∀ z ∈ scope.names, z.2 ≠ .cell) (hkind : scope.kind = .function)
    (hnames : ∀ z ∈ scope.names, z.2 = .local → scope.names.lookup z.1 = some .local) (hx : scope.names.lookup x = some .local)
    (h : wpAny (model prog w) A (eval iter env) (CompSrcR prog w A E base h₀ L Ce m env outer elt x scope cl) E s)
    (hs : ∀ x, foldedSetIterable iter env x = pure x := by intro _; rfl) :
    wpAny (model prog w) A (exec (.Assign [.Name y py] (.ListComp elt [⟨.Name x px, iter, [], 0⟩] scope pos) spos) env) Q E s := Assign_ListComp_R hsw hclos hcell hkind hnames hx h hs
local macro_rules | `(tactic| walk_at "exec Assign cons ListComp") => `(tactic| ((with_reducible show wpAny _ _ (exec (Stmt.Assign _ (PySem.Expr.ListComp _ [Comprehension.mk _ _ [] _] _ _) _) _) _ _ _); k_dflt (refine Assign_ListComp_RF 757 (by k_asm) (by k_asm) (by with_unfolding_all rfl) (by with_unfolding_all rfl) (by decide) (by rfl) (by decide) (by rfl) ?_)))
local macro_rules | `(tactic| walk_at "CompSrcR") => `(tactic| refine hold ?_)
set_option maxHeartbeats 0 in
/-- from_string of a text one of whose parts raises -/
theorem from_stringR {w : World} (x : Str) (t : Tok) (ah : Bool) (args : Args) (ha : fsArgs x t ah args) (ws : List Str) (ds : List Stp) (hx : 1 ≤ x.length) (hx2 : x.length ≤ 640) (hsp : Txt.split x (Str.ofString "/") = ws) (hn : ds.length < ws.length) (h9 : ws.length ≤ 9)
    (hel : ∀ (i : Nat) (y : Str) (d : Stp), ws[i]? = some y → ds[i]? = some d → ∀ t, Ctr w 4 841 ⟨[.ref 852, .str y t, .bool ah, .bool true], []⟩ (fun _ => True) (fun tl r => StV (InL tl) r d))
    (hbad : ∀ (y : Str), ws[ds.length]? = some y → ∀ t, RCtr w 4 841 ⟨[.ref 852, .str y t, .bool ah, .bool true], []⟩ (fun _ => True) 757) :
    RCtr w 16 832 args (fun _ => True) 757 := by
  intro mean mg mb dp un gd cn cs a ccd cl outer A₀ base h₀ L m news s Q E B F X N T hk hdp hu hpre hret
  rcases ha with ⟨rfl, rfl⟩ | ⟨rfl, rfl⟩
  all_goals (walk_at "enterC"; k_steps)
  any_goals (exfalso; omega)
  all_goals
    rename_i D vs2 _ _ hvs F2 N2 _
    have hvl := hvs.length
    refine Hold.go ⟨_, vs2.toArray, _, _, (fun i ys nw => (∃ ex, nw = _ ++ ex) ∧ StAll (InL nw) ys (ds.take i) ∧ i ≤ ds.length), rfl, by k_asm, rfl, rfl, rfl, by k_asm, N2, Or.inr ⟨_, List.mem_cons_self, rfl, _, rfl⟩, by rw [PySem.sizeLine_eq, List.size_toArray]; omega, ⟨⟨[], (List.append_nil _).symm⟩, .nil, Nat.zero_le _⟩, ?_, ?_, ?_⟩
    · rintro ys nw ⟨_, _, hle⟩
      rw [List.size_toArray] at hle
      omega
    · intro i v ys nw I oI Cn oC D' m₂ h tk hv hI hC hx F1 N1 off ne
      obtain ⟨⟨ex, rfl⟩, hys, hile⟩ := hI
      simp only [List.cons_append, List.nil_append] at N1 off hys ⊢
      obtain ⟨y, ty, rfl, hy0⟩ := StrsAre.at hvs i v (by simpa using hv)
      by_cases hin : i < ds.length
      · have hC1 := hel i y _ hy0 (List.getElem?_eq_getElem hin) ty
        k_steps
        refine Hold.go (Ctr.use hC1 (by k_asm) (by k_asm) (by k_asm) (by k_asm) (by k_asm) (by first | exact rfl | assumption) (by ktr_room) (by ktr_units) trivial ?_)
        intro r9 tl9 h9 tk9 F9 N9 S9 P9
        have N8 := cb_drop (news := ((I, oI) :: (Cn, oC) :: (D', LCg.lst ys) :: _) ++ tl9) N9 (fun _ hp => List.mem_cons_of_mem _ hp)
        refine compEnd_more F9 N8 off (fun q hq p hp => S9 q (List.mem_cons_of_mem _ hq) p hp) (Or.inr ⟨_, List.mem_cons_self, rfl, _, rfl⟩) ⟨⟨ex ++ tl9, by simp⟩, ?_, hin⟩
        rw [List.take_add_one, List.getElem?_eq_getElem hin]
        exact StAll.append (hys.mono fun _ _ hp => List.mem_append_left _ hp) (.one (P9.mono fun _ _ hp => List.mem_append_right _ hp))
      · obtain rfl : i = ds.length := by omega
        have hR := hbad y hy0 ty
        k_steps
        refine Hold.go (RCtr.use hR (by k_asm) (by k_asm) (by k_asm) (by k_asm) (by k_asm) (by first | exact rfl | assumption) (by ktr_room) (by ktr_units) trivial ?_)
        intro e t vs h5 tk5 R5 U5
        rename Fr s.heap _ _ _ => FG
        rename News s.heap _ _ _ => NG
        have z := (NG (Cn, oC) (List.mem_cons_of_mem _ (List.mem_cons_of_mem _ List.mem_cons_self))).1
        exact ⟨e, t, vs, _, h5, tk5, m₂, rfl, rfl, FG, hC.ns z, R5, U5⟩
    · intro e t vs G h' tk' FG RA U
      refine leave_anyX (by k_asm) FG RA U rfl ?_
      intro h'' R'' U''
      exact hret _ _ _ _ _ R'' U''
end
section
theorem topP29 : True := by
  w_top off
  trivial
local macro_rules | `(tactic| walk_at "pad") => `(tactic| fail "pad")
local macro_rules | `(tactic| walk_at "pad") => `(tactic| fail "pad")
local macro_rules | `(tactic| walk_at "pad") => `(tactic| fail "pad")
local macro_rules | `(tactic| walk_at "leaving ref") => `(tactic| (k_here; k_dflt (refine' leave_raiseX ?K ?hx ?F ?hf ?hk ?_; (case hx => assumption); (case K => k_asm); (case F => k_asm); (case hf => exact rfl); (case hk => exact rfl)); intro h' t' R' U'))
set_option maxHeartbeats 0 in
theorem mk_objR {w : World} {mean : ExcName → Option Value} {mg mb : Str → Option Value} {dp un : Nat} {gd : Option (List Code)} {cn : Str} {cs : Scope} {a : Addr} {ccd : Value} {cl : List (Str × Addr)} {outer : List Env} {A₀ : Around} {base h₀ : Heap} {L : Addr} {m : Str → Option Value} {news : List (Addr × Obj)} {s : Shared} {Q E : Value → Shared → Prop}
    (B : Below A₀ base outer h₀) (F : Fr h₀ L s.heap m) (X : (hd.heap_39 w.params).In h₀) (N : News h₀ L s.heap news) (T : Top topProg LS mean mg mb h₀) (hk : cs.kind = .function)
    (hdp : dp + 3 < recursionLimit) (hu : un + 8 * 12 < cLine) (l : Addr) (vs : List Value) (k : Nat) (ds : List Stp) (hl : (l, W.listOf (List.toArray vs) k) ∈ news) (hst : StAll (InL news) vs ds) (h5 : ds.length ≤ 9) (hbad : 1 < ds.countP Stp.isNon ∨ 1 < ds.countP Stp.isSet)
    (hret : ∀ e t vs G h' tk', Fr h₀ L G m → Fly base G (envX cn cs L a ccd cl :: outer) e 757 t vs h' → G.UpToSlots h' → E (.ref e) { s with heap := h', toks := tk' }) :
    wpAny (model PR w) (ktrTop dp un gd cn cs L a ccd cl outer) (call (.ref 852) [.ref l] []) Q E s := by
  k_dflt (refine' call_cls F X N ?k4 ?k5 ?k6 ?_; (case k4 => k_is); (case k5 => k_is); (case k6 => k_is))
  intro x dx h1 F1 N1 l1 l2
  have l2' : @LT.lt Nat _ dx x := l2
  walk_at "enterD"
  k_steps
  have hvl := hst.length
  refine Hold.go (LCt.CompSrcT.ledger (by rfl) (by k_asm) (by k_asm) (List.mem_cons_of_mem _ (List.mem_cons_of_mem _ hl)) (by rw [PySem.sizeLine_eq, List.size_toArray]; omega) ?_)
  intro g2
  refine comp_invT (fun i ys nw => nw = _ ∧ ys.length = (ds.take i).countP Stp.isNon) ⟨rfl, rfl⟩ ?_ ?_
  · intro i v ys nw J oJ C oC D' m₂ h tk E' hi' hv hI hC hx F1 N1 off ne
    obtain ⟨rfl, hys⟩ := hI
    obtain ⟨d, hd, hS⟩ := hst.get (show vs[i]? = some v by simpa using hv)
    have hcnt : (ds.take (i + 1)).countP Stp.isNon = (ds.take i).countP Stp.isNon + (if d.isNon then 1 else 0) := by
      rw [List.take_add_one, hd, List.countP_append]; simp [List.countP_cons]
    cases d with
    | non =>
      obtain rfl : v = Value.none := hS
      k_steps
      refine Hold.go (compEnd_same (by assumption) (by assumption) off (Or.inr ⟨_, List.mem_cons_of_mem _ (List.mem_cons_of_mem _ hl), rfl, _, rfl⟩) ⟨rfl, ?_⟩)
      rw [hcnt]; simp [hys, Stp.isNon]
    | num n =>
      obtain ⟨tn, rfl⟩ := hS
      k_steps
      refine Hold.go (compEnd_same (by assumption) (by assumption) off (Or.inr ⟨_, List.mem_cons_of_mem _ (List.mem_cons_of_mem _ hl), rfl, _, rfl⟩) ⟨rfl, ?_⟩)
      rw [hcnt]; simp [hys, Stp.isNon]
    | set ls =>
      obtain ⟨b, bs, kb, rfl, hb, hbi⟩ := hS
      have hb' : (b, W.listOf (List.toArray bs) kb) ∈ news := hb
      k_steps
      refine in_rd false (News.isList (by k_asm) (by k_mem)) (rds_ints hbi) rd_none (ok_ints 8 _) rfl none_not_ints (by ktr_units) ?_
      k_steps
      refine Hold.go (compEnd_same (by assumption) (by assumption) off (Or.inr ⟨_, List.mem_cons_of_mem _ (List.mem_cons_of_mem _ hl), rfl, _, rfl⟩) ⟨rfl, ?_⟩)
      rw [hcnt]; simp [hys, Stp.isNon]
  · rintro ys nw ⟨rfl, hys⟩
    rw [List.size_toArray, hvl, List.take_length] at hys
    have hcl1 := List.countP_le_length (p := Stp.isNon) (l := ds)
    have hcl2 := List.countP_le_length (p := Stp.isSet) (l := ds)
    by_cases hw : 1 < ds.countP Stp.isNon
    · k_steps
      all_goals exact hret _ _ _ _ _ _ (by assumption) (by assumption) (by assumption)
    k_steps
    refine Hold.go (LCt.CompSrcT.ledger (by rfl) (by k_asm) (by k_asm) (List.mem_cons_of_mem _ (List.mem_cons_of_mem _ (List.mem_cons_of_mem _ hl))) (by rw [PySem.sizeLine_eq, List.size_toArray]; omega) ?_)
    intro g3
    refine comp_invT (fun i ys nw => nw = _ ∧ ys.length = (ds.take i).countP Stp.isSet) ⟨rfl, rfl⟩ ?_ ?_
    · intro i v ys2 nw J oJ C oC D' m₂ h tk E' hi' hv hI hC hx F1 N1 off ne
      obtain ⟨rfl, hys2⟩ := hI
      obtain ⟨d, hd, hS⟩ := hst.get (show vs[i]? = some v by simpa using hv)
      have hcnt : (ds.take (i + 1)).countP Stp.isSet = (ds.take i).countP Stp.isSet + (if d.isSet then 1 else 0) := by
        rw [List.take_add_one, hd, List.countP_append]; simp [List.countP_cons]
      cases d with
      | non =>
        obtain rfl : v = Value.none := hS
        k_steps
        refine Hold.go (compEnd_same (by assumption) (by assumption) off (Or.inr ⟨_, List.mem_cons_of_mem _ (List.mem_cons_of_mem _ (List.mem_cons_of_mem _ hl)), rfl, _, rfl⟩) ⟨rfl, ?_⟩)
        rw [hcnt]; simp [hys2, Stp.isSet]
      | num n =>
        obtain ⟨tn, rfl⟩ := hS
        k_steps
        refine Hold.go (compEnd_same (by assumption) (by assumption) off (Or.inr ⟨_, List.mem_cons_of_mem _ (List.mem_cons_of_mem _ (List.mem_cons_of_mem _ hl)), rfl, _, rfl⟩) ⟨rfl, ?_⟩)
        rw [hcnt]; simp [hys2, Stp.isSet]
      | set ls =>
        obtain ⟨b, bs, kb, rfl, hb, hbi⟩ := hS
        have hb' : (b, W.listOf (List.toArray bs) kb) ∈ news := hb
        k_steps
        refine Hold.go (compEnd_same (by assumption) (by assumption) off (Or.inr ⟨_, List.mem_cons_of_mem _ (List.mem_cons_of_mem _ (List.mem_cons_of_mem _ hl)), rfl, _, rfl⟩) ⟨rfl, ?_⟩)
        rw [hcnt]; simp [hys2, Stp.isSet]
    · rintro ys2 nw ⟨rfl, hys2⟩
      rw [List.size_toArray, hvl, List.take_length] at hys2
      k_steps
      all_goals exact hret _ _ _ _ _ _ (by assumption) (by assumption) (by assumption)
end
section
theorem topP30 : True := by
  w_top off
  trivial
set_option maxHeartbeats 0 in
/-- from_string of a text that reads, whose steps the class refuses -/
theorem from_stringO {w : World} (x : Str) (t : Tok) (ah : Bool) (args : Args) (ha : fsArgs x t ah args) (ws : List Str) (ds : List Stp) (hx : 1 ≤ x.length) (hx2 : x.length ≤ 640) (hsp : Txt.split x (Str.ofString "/") = ws) (hn : ws.length = ds.length) (h5 : ds.length ≤ 9) (hbad : 1 < ds.countP Stp.isNon ∨ 1 < ds.countP Stp.isSet)
    (hel : ∀ (i : Nat) (y : Str) (d : Stp), ws[i]? = some y → ds[i]? = some d → ∀ t, Ctr w 4 841 ⟨[.ref 852, .str y t, .bool ah, .bool true], []⟩ (fun _ => True) (fun tl r => StV (InL tl) r d)) :
    RCtr w 16 832 args (fun _ => True) 757 := by
  intro mean mg mb dp un gd cn cs a ccd cl outer A₀ base h₀ L m news s Q E B F X N T hk hdp hu hpre hret
  rcases ha with ⟨rfl, rfl⟩ | ⟨rfl, rfl⟩
  all_goals (walk_at "enterC"; k_steps)
  any_goals (exfalso; omega)
  all_goals
    rename_i D vs2 _ _ hvs _ _ _
    have hvl := hvs.length
    refine Hold.go (LCg.CompSrc.ledger (by rfl) (by k_asm) (by k_asm) (by k_mem) (by rw [PySem.sizeLine_eq, List.size_toArray]; omega) ?_)
    intro g2
    refine comp_inv (fun i ys nw => (∃ ex, nw = _ ++ ex) ∧ StAll (InL nw) ys (ds.take i)) ⟨⟨[], (List.append_nil _).symm⟩, .nil⟩ ?_ ?_
    · intro i v ys nw J oJ C oC D' m₂ h tk E' hi' hv hI hC hx F1 N1 off ne
      obtain ⟨⟨ex, rfl⟩, hys⟩ := hI
      simp only [List.cons_append, List.nil_append] at N1 off hys ⊢
      obtain ⟨y, ty, rfl, hy0⟩ := StrsAre.at hvs i v (by simpa using hv)
      have hin : i < ds.length := by rw [← hn]; exact (List.getElem?_eq_some_iff.mp hy0).1
      have hC1 := hel i y _ hy0 (List.getElem?_eq_getElem hin) ty
      k_steps
      refine Hold.go (Ctr.use hC1 (by k_asm) (by k_asm) (by k_asm) (by k_asm) (by k_asm) (by first | exact rfl | assumption) (by ktr_room) (by ktr_units) trivial ?_)
      intro r9 tl9 h9 tk9 F9 N9 S9 P9
      have N8 := cb_drop (news := ((J, oJ) :: (C, oC) :: (D', LCg.lst ys) :: _) ++ tl9) N9 (fun _ hp => List.mem_cons_of_mem _ hp)
      refine compEnd_more F9 N8 off (fun q hq p hp => S9 q (List.mem_cons_of_mem _ hq) p hp) (Or.inr ⟨_, List.mem_cons_self, rfl, _, rfl⟩) ⟨⟨ex ++ tl9, by simp⟩, ?_⟩
      rw [List.take_add_one, List.getElem?_eq_getElem hin]
      exact StAll.append (hys.mono fun _ _ hp => List.mem_append_left _ hp) (.one (P9.mono fun _ _ hp => List.mem_append_right _ hp))
    · rintro ys nw ⟨⟨ex, rfl⟩, hys⟩
      rw [List.size_toArray, hvl, hn, List.take_length] at hys
      simp only [List.cons_append, List.nil_append] at hys ⊢
      have hyl := hys.length
      k_steps
      refine Hold.go (mk_objR (by k_asm) (by k_asm) (by k_asm) (by k_asm) (by k_asm) (by first | exact rfl | assumption) (by ktr_room) (by ktr_units) _ ys _ ds (List.mem_cons_self) (hys.mono fun _ _ hp => List.mem_cons_of_mem _ hp) h5 hbad ?_)
      intro e t vs G h9 tk9 FG R9 U9
      refine leave_onX (by k_asm) FG R9 U9 rfl ?_
      intro h'' R'' U''
      exact hret _ _ _ _ _ R'' U''
end
section
theorem topP31 : True := by
  w_top off
  trivial
local macro_rules | `(tactic| walk_at "pad") => `(tactic| fail "pad")
local macro_rules | `(tactic| walk_at "pad") => `(tactic| fail "pad")
local macro_rules | `(tactic| k_inst) => `(tactic| (refine' inst_base ?N ?h1 ?h2; (case N => k_asm); (case h1 => with_reducible assumption); (case h2 => with_reducible assumption)))
local macro_rules | `(tactic| walk_at "exec For Tuple Call cons nil") => `(tactic| (k_here; (with_unfolding_all refine' For_E (by k_asm) ?_ ?k1; (case k1 => (intro _; exact rfl)); k_whole)))
local macro_rules | `(tactic| walk_at "call type:enumerate") => `(tactic| refine hold ?_)
local macro_rules | `(tactic| k_all) => `(tactic| exact OwnOff.ne (by with_reducible assumption) List.mem_cons_self)
local macro_rules | `(tactic| walk_at "leaving ref") => `(tactic| (k_here; k_dflt (refine' leave_raiseX ?K ?hx ?F ?hf ?hk ?_; (case hx => assumption); (case K => k_asm); (case F => k_asm); (case hf => exact rfl); (case hk => exact rfl)); intro h' t' R' U'))
set_option maxHeartbeats 0 in
/-- fill with a branch that is not there -/
theorem fill_badb {w : World} (x dx : Addr) (t : Tok) (l : Addr) (vs : List Value) (k : Nat) (ds : List Stp) (hW : WF ds) (hset : ds.any Stp.isSet = true) (n : Option Int) (tn : Tok) (hn : ∀ i, n = some i → 0 ≤ i ∧ i < 2147483648) (b : Int) (tb : Tok) (hb : b < 0 ∨ ∀ ls, Stp.set ls ∈ ds → (ls.length : Int) ≤ b) :
    RCtr w 10 788 ⟨[.ref x, optI tn n, .int b tb], []⟩ (fun h => ObjH w h x dx t l vs k ds) 757 := by
  intro mean mg mb dp un gd cn cs a ccd cl outer A₀ base h₀ L m news s Q E B F X N T hk hdp hu hpre hret
  obtain ⟨hx, hdx, hl, hst⟩ := hpre
  have hvl := hst.length
  have h5 := hW.len
  cases n with
  | none =>
    dsimp only [optI]
    walk_at "enterP"
    k_steps
    refine Hold.go (LCg.CompSrc.base (by rfl) (by k_asm) (by k_asm) (isList_of hl) (by rw [PySem.sizeLine_eq, List.size_toArray]; omega) ?_)
    intro g2
    refine comp_inv (fun i ys nw => nw = _ ∧ ys = vs.take i) ⟨rfl, rfl⟩ ?_ ?_
    · intro i v ys nw J oJ C oC D' m₂ h tk E' hi' hv hI hC hx F1 N1 off ne
      obtain ⟨rfl, hys⟩ := hI
      k_steps
      refine Hold.go (compEnd_same (by assumption) (by assumption) off (Or.inl (isList_of hl)) ⟨rfl, ?_⟩)
      have hv' : vs[i]? = some v := by simpa using hv
      rw [hys, List.take_add_one, hv']; rfl
    · rintro ys nw ⟨rfl, hys⟩
      rw [List.size_toArray, List.take_length] at hys
      subst hys
      k_steps
      rename Fr s.heap _ _ _ => F2
      rename News s.heap _ _ _ => N2
      refine Hold.go (enum_frame [Str.ofString "i", Str.ofString "el"] (n := ds.length) (by rfl) (News.isList N2 (by k_mem)) F2 N2 (fun i items u nx => (∃ k, nx = [(_, W.listOf (List.toArray items) k)]) ∧ StAll (AtH s.heap) items (dsI (fillStep .non 0) ds i) ∧ (ds.take i).any Stp.isSet = false) ?_ ⟨⟨_, rfl⟩, hst, rfl⟩ ?_ ?_)
      · rintro i items m nx h F N ⟨⟨k, rfl⟩, hJ, _⟩
        exact ⟨News.isList N List.mem_cons_self, by rw [hJ.length, dsI_length]⟩
      · rintro i v u nx items h tk own T t hv hi hoff ⟨⟨k, rfl⟩, hJ, hns⟩ hT F3 N3
        simp only [List.cons_append, List.nil_append] at N3
        obtain ⟨d, hd, hS⟩ := hJ.get hv
        have hd' : ds[i]? = some d := by rw [← hd, dsI_get _ (List.getElem?_eq_getElem hi), List.getElem?_eq_getElem hi]
        have hil : i < items.length := (List.getElem?_eq_some_iff.mp hv).1
        have hil5 : items.length ≤ 5 := by rw [hJ.length, dsI_length]; exact h5
        have hnx : (ds.take (i + 1)).any Stp.isSet = d.isSet := by rw [List.take_add_one, hd', List.any_append, hns]; simp
        cases d with
        | non =>
          obtain rfl : v = Value.none := hS
          k_steps
          refine Hold.go (set_any (by assumption) (by assumption) (by k_upd) (by omega) (by omega) (by omega) ?_)
          intro h5 F5 N5
          k_steps
          refine Hold.go (turn_end (by assumption) (by assumption) [_] (fun p hp => hp) (by exact hoff) ⟨⟨_, ⟨_, rfl⟩, ?_, hnx⟩, fun z hz => ?_⟩)
          · rw [dsI_next _ hd']; exact StAll.set (d := .non) hJ _ rfl
          · simp only [if_neg (not_in_two hz).1, if_neg (not_in_two hz).2, hz, Bool.false_eq_true, if_false]
        | num q =>
          obtain ⟨tq, rfl⟩ := hS
          k_steps
          refine Hold.go (turn_end (by assumption) (by assumption) [_] (fun p hp => hp) (by exact hoff) ⟨⟨_, ⟨_, rfl⟩, ?_, hnx⟩, fun z hz => ?_⟩)
          · rw [dsI_same _ hd' rfl]; exact hJ
          · simp only [if_neg (not_in_two hz).1, if_neg (not_in_two hz).2, hz, Bool.false_eq_true, if_false]
        | set ls =>
          obtain ⟨c, bs, kb, rfl, hc, hbi⟩ := hS
          have hbl : s.heap.IsList c bs.toArray := ⟨_, hc, rfl, _, rfl⟩
          have hb3 := hbi.length
          have hl3 := (hW.ok _ (List.mem_of_getElem? hd')).1
          rcases hb with hb | hb
          · k_steps
            exact hret _ _ _ _ _ (by assumption) (by assumption)
          · have hb4 := hb _ (List.mem_of_getElem? hd')
            k_steps
            exact hret _ _ _ _ _ (by assumption) (by assumption)
      · rintro items u nx h tk ⟨⟨k, rfl⟩, hJ, hns⟩ F3 N3
        rw [List.take_length, hset] at hns
        exact absurd hns Bool.noConfusion
  | some n =>
    dsimp only [optI]
    obtain ⟨n0, n1⟩ := hn n rfl
    walk_at "enterP"
    k_steps
    refine Hold.go (LCg.CompSrc.base (by rfl) (by k_asm) (by k_asm) (isList_of hl) (by rw [PySem.sizeLine_eq, List.size_toArray]; omega) ?_)
    intro g2
    refine comp_inv (fun i ys nw => nw = _ ∧ ys = vs.take i) ⟨rfl, rfl⟩ ?_ ?_
    · intro i v ys nw J oJ C oC D' m₂ h tk E' hi' hv hI hC hx F1 N1 off ne
      obtain ⟨rfl, hys⟩ := hI
      k_steps
      refine Hold.go (compEnd_same (by assumption) (by assumption) off (Or.inl (isList_of hl)) ⟨rfl, ?_⟩)
      have hv' : vs[i]? = some v := by simpa using hv
      rw [hys, List.take_add_one, hv']; rfl
    · rintro ys nw ⟨rfl, hys⟩
      rw [List.size_toArray, List.take_length] at hys
      subst hys
      k_steps
      rename Fr s.heap _ _ _ => F2
      rename News s.heap _ _ _ => N2
      refine Hold.go (enum_frame [Str.ofString "i", Str.ofString "el"] (n := ds.length) (by rfl) (News.isList N2 (by k_mem)) F2 N2 (fun i items u nx => (∃ k, nx = [(_, W.listOf (List.toArray items) k)]) ∧ StAll (AtH s.heap) items (dsI (fillStep (.num n) 0) ds i) ∧ (ds.take i).any Stp.isSet = false) ?_ ⟨⟨_, rfl⟩, hst, rfl⟩ ?_ ?_)
      · rintro i items m nx h F N ⟨⟨k, rfl⟩, hJ, _⟩
        exact ⟨News.isList N List.mem_cons_self, by rw [hJ.length, dsI_length]⟩
      · rintro i v u nx items h tk own T t hv hi hoff ⟨⟨k, rfl⟩, hJ, hns⟩ hT F3 N3
        simp only [List.cons_append, List.nil_append] at N3
        obtain ⟨d, hd, hS⟩ := hJ.get hv
        have hd' : ds[i]? = some d := by rw [← hd, dsI_get _ (List.getElem?_eq_getElem hi), List.getElem?_eq_getElem hi]
        have hil : i < items.length := (List.getElem?_eq_some_iff.mp hv).1
        have hil5 : items.length ≤ 5 := by rw [hJ.length, dsI_length]; exact h5
        have hnx : (ds.take (i + 1)).any Stp.isSet = d.isSet := by rw [List.take_add_one, hd', List.any_append, hns]; simp
        cases d with
        | non =>
          obtain rfl : v = Value.none := hS
          k_steps
          refine Hold.go (set_any (by assumption) (by assumption) (by k_upd) (by omega) (by omega) (by omega) ?_)
          intro h5 F5 N5
          k_steps
          refine Hold.go (turn_end (by assumption) (by assumption) [_] (fun p hp => hp) (by exact hoff) ⟨⟨_, ⟨_, rfl⟩, ?_, hnx⟩, fun z hz => ?_⟩)
          · rw [dsI_next _ hd']; exact StAll.set (d := (.num n)) hJ _ ⟨_, rfl⟩
          · simp only [if_neg (not_in_two hz).1, if_neg (not_in_two hz).2, hz, Bool.false_eq_true, if_false]
        | num q =>
          obtain ⟨tq, rfl⟩ := hS
          k_steps
          refine Hold.go (turn_end (by assumption) (by assumption) [_] (fun p hp => hp) (by exact hoff) ⟨⟨_, ⟨_, rfl⟩, ?_, hnx⟩, fun z hz => ?_⟩)
          · rw [dsI_same _ hd' rfl]; exact hJ
          · simp only [if_neg (not_in_two hz).1, if_neg (not_in_two hz).2, hz, Bool.false_eq_true, if_false]
        | set ls =>
          obtain ⟨c, bs, kb, rfl, hc, hbi⟩ := hS
          have hbl : s.heap.IsList c bs.toArray := ⟨_, hc, rfl, _, rfl⟩
          have hb3 := hbi.length
          have hl3 := (hW.ok _ (List.mem_of_getElem? hd')).1
          rcases hb with hb | hb
          · k_steps
            exact hret _ _ _ _ _ (by assumption) (by assumption)
          · have hb4 := hb _ (List.mem_of_getElem? hd')
            k_steps
            exact hret _ _ _ _ _ (by assumption) (by assumption)
      · rintro items u nx h tk ⟨⟨k, rfl⟩, hJ, hns⟩ F3 N3
        rw [List.take_length, hset] at hns
        exact absurd hns Bool.noConfusion
set_option maxHeartbeats 0 in
/-- branch of a branch that is not there -/
theorem branch_bad {w : World} (x dx : Addr) (t : Tok) (l : Addr) (vs : List Value) (k : Nat) (ds : List Stp) (hW : WF ds) (hset : ds.any Stp.isSet = true) (b : Int) (tb : Tok) (hb : b < 0) :
    RCtr w 24 795 ⟨[.ref x, .int b tb], []⟩ (fun h => ObjH w h x dx t l vs k ds) 757 := by
  intro mean mg mb dp un gd cn cs a ccd cl outer A₀ base h₀ L m news s Q E B F X N T hk hdp hu hpre hret
  have hpre' := hpre
  obtain ⟨hx, hdx, hl, hst⟩ := hpre
  have C := fill_badb (w := w) x dx t l vs k ds hW hset none 0 (fun _ h => nomatch h) b tb (Or.inl hb)
  walk_at "enterP"
  k_steps
  refine Hold.go (ctr_call (RCtr.use C (by k_asm) (by k_asm) (by k_asm) (by k_asm) (by k_asm) (by first | exact rfl | assumption) (by ktr_room) (by ktr_units) (ObjH.keep (by k_asm) hpre') ?_))
  intro e t9 vs9 h9 tk9 R9 U9
  refine leave_onX (by k_asm) (by k_asm) R9 U9 rfl ?_
  intro h'' R'' U''
  exact hret _ _ _ _ _ R'' U''
end
section
theorem topP32 : True := by
  w_top off
  trivial
theorem RCtr.mono {w : World} {d1 d2 : Nat} {f : Addr} {args : Args} {Pre Pre' : Heap → Prop} {C : Addr} (R : RCtr w d1 f args Pre C) (hd : d1 ≤ d2) (hp : ∀ h, Pre' h → Pre h) : RCtr w d2 f args Pre' C := by
  intro mean mg mb dp un gd cn cs a ccd cl outer A₀ base h₀ L m news s Q E B F X N T hk hdp hu hpre hret
  exact R _ _ _ _ _ _ _ _ _ _ _ _ _ _ _ _ _ _ _ _ _ B F X N T hk (by omega) (by omega) (hp _ hpre) hret
/-- a hardened word without leave -/
theorem pe_hardword {w : World} (f : Nat) (n : Int) (hg : Good n) (hh : 2147483648 ≤ n) (t : Tok) (args : Args) (ha : peArgs (word f n) t false args) : RCtr w 2 841 args (fun _ => True) 757 := by
  obtain ⟨a, r, e, d⟩ := word_head f hg
  obtain ⟨k1, k2, k3, k4, k5, k6, k7, k8⟩ := lits
  obtain ⟨d1, d2⟩ := d
  have hl2 : (word f n).length ≤ 300 := Nat.le_trans (word_len f hg) (by decide)
  obtain ⟨c, hc, hc2⟩ : ∃ c, sg (mark f) = [c] ∧ (c = 104 ∨ c = 39 ∨ c = 72) := by
    rcases mark_sg f with e | e | e
    · exact ⟨_, e, Or.inl rfl⟩
    · exact ⟨_, e, Or.inr (Or.inl rfl)⟩
    · exact ⟨_, e, Or.inr (Or.inr rfl)⟩
  have e3 : sg (word f n) = sg (Str.ofString (toString (n - 2147483648))) ++ [c] := by rw [word_hi hh, sg_append, hc]
  refine pe_bad1 (word f n) t args ha (ne_beq (by rw [e, k1, sg_one]; intro z; injection z with z; omega)) (by rw [item0 e, k2, one_beq]; exact decide_eq_false (by omega)) (by rw [item0 e, k4, one_beq]; exact decide_eq_false (by omega)) (by rw [sg_len, e]; simp) hl2 ?_
  rw [itemL e3, k6, k7, k8]
  simp only [List.any_cons, List.any_nil, one_beq, Bool.or_false]
  rcases hc2 with rfl | rfl | rfl <;> decide
/-- the first of a list that is so -/
theorem first_of {α : Type} {p : α → Bool} : ∀ {l : List α}, l.any p = true → ∃ (i : Nat) (x : α), l[i]? = some x ∧ p x = true ∧ ∀ j y, j < i → l[j]? = some y → p y = false
  | [], h => nomatch h
  | x :: r, h => by
    cases hx : p x with
    | true => exact ⟨0, x, rfl, hx, fun j y hj => absurd hj (Nat.not_lt_zero _)⟩
    | false =>
      rw [List.any_cons, hx, Bool.false_or] at h
      obtain ⟨i, z, e, hz, hb⟩ := first_of h
      refine ⟨i + 1, z, by simpa using e, hz, fun j y hj e2 => ?_⟩
      cases j with
      | zero => simp at e2; rw [← e2]; exact hx
      | succ j => exact hb j y (by omega) (by simpa using e2)
theorem get_take {α : Type} {l : List α} {i j : Nat} {y : α} (h : (l.take i)[j]? = some y) : j < i ∧ l[j]? = some y := by
  rw [List.getElem?_take] at h
  by_cases q : j < i
  · rw [if_pos q] at h; exact ⟨q, h⟩
  · rw [if_neg q] at h; exact nomatch h
/-- a hardened step without leave -/
theorem pe_hardstep {w : World} (d : Stp) (hd : d.ok) (hh : d.hard = true) (t : Tok) : RCtr w 4 841 ⟨[.ref 852, .str (stepText 0 d) t, .bool false, .bool true], []⟩ (fun _ => True) 757 := by
  cases d with
  | non => exact nomatch hh
  | num n => exact RCtr.mono (pe_hardword 0 n hd (of_decide_eq_true hh) t _ (Or.inl ⟨true, rfl⟩)) (by decide) fun _ h => h
  | set l =>
    obtain ⟨hl, hg⟩ := hd
    obtain ⟨k1, k2, k3, k4, k5, k6, k7, k8⟩ := lits
    obtain ⟨b1, b2, b3⟩ := join_short 0 hl hg
    have hne : l.map (word 0) ≠ [] := by
      intro z; rw [List.map_eq_nil_iff.mp z] at hl; rcases hl with h | h <;> exact nomatch h
    have hlen := step_len 0 (d := .set l) ⟨hl, hg⟩
    obtain ⟨i, n, hi, hn, hb⟩ := first_of (p := fun n => decide (2147483648 ≤ n)) (l := l) hh
    have hil : i < l.length := (List.getElem?_eq_some_iff.mp hi).1
    have e0 : stepText 0 (.set l) = Str.ofString "<" ++ Str.join (Str.ofString ";") (l.map (word 0)) ++ Str.ofString ">" := by rw [stepText_set]; exact if_neg (by decide)
    rw [e0] at hlen ⊢
    have e1 : sg (Str.ofString "<" ++ Str.join (Str.ofString ";") (l.map (word 0)) ++ Str.ofString ">") = 60 :: (sg (Str.join (Str.ofString ";") (l.map (word 0))) ++ [62]) := by
      rw [sg_append, sg_append, k4, k5]; rfl
    have e2 : Txt.slice (Str.ofString "<" ++ Str.join (Str.ofString ";") (l.map (word 0)) ++ Str.ofString ">") (some 1) (some (-1)) = Str.join (Str.ofString ";") (l.map (word 0)) := sg_ext (slice_mid e1)
    have htl : (l.take i).length = i := by rw [List.length_take]; omega
    refine pe_setR _ t false (l.map (word 0)) (l.take i) (ne_beq (by rw [e1, k1, sg_one]; intro z; injection z with z; omega)) (by rw [item0 e1, k2, one_beq]; rfl) (by rw [item0 e1, k4, one_beq]; rfl) (by rw [itemL (r := 60 :: sg (Str.join (Str.ofString ";") (l.map (word 0)))) (a := 62) (by rw [e1]; rfl), k5, one_beq]; rfl) (by rw [sg_len, e1]; simp) (by omega) (by rw [e2]; omega) ?_ (by rw [List.length_map, htl]; exact hil) (by rw [List.length_map]; omega) ?_ ?_
    · rw [e2, lit_semi]
      exact split_join hne (text_parts 0 hg 59 (by omega))
    · intro j x m hx hm t
      obtain ⟨hj, hm⟩ := get_take hm
      rw [List.getElem?_map, hm] at hx
      have hx' : word 0 m = x := Option.some.inj hx
      subst hx'
      have := of_decide_eq_false (hb j m hj hm)
      exact pe_word 0 m (hg m (List.mem_of_getElem? hm)) false (Or.inr (by omega)) t _ (Or.inr rfl)
    · intro x hx t
      rw [htl, List.getElem?_map, hi] at hx
      have hx' : word 0 n = x := Option.some.inj hx
      subst hx'
      exact pe_hardword 0 n (hg n (List.mem_of_getElem? hi)) (of_decide_eq_true hn) t _ (Or.inr rfl)
/-- from_string of a text with a hardened step, without leave -/
theorem from_hard {w : World} (ds : List Stp) (hW : WF ds) (hh : ds.any Stp.hard = true) (t : Tok) (args : Args) (ha : fsArgs (text 0 ds) t false args) : RCtr w 16 832 args (fun _ => True) 757 := by
  obtain ⟨i, d, hi, hd, hb⟩ := first_of hh
  have h0 : ds ≠ [] := fun z => by rw [z] at hh; exact nomatch hh
  have hil : i < ds.length := (List.getElem?_eq_some_iff.mp hi).1
  have htl : (ds.take i).length = i := by rw [List.length_take]; omega
  have h5 := hW.len
  refine from_stringR (text 0 ds) t false args ha (ds.map (stepText 0)) (ds.take i) (text_pos 0 h0 hW.ok) (Nat.le_trans (text_len 0 hW.ok hW.len) (by decide)) (text_split 0 h0 hW.ok) (by rw [List.length_map, htl]; exact hil) (by rw [List.length_map]; omega) ?_ ?_
  · intro j y e hy he t
    obtain ⟨hj, he⟩ := get_take he
    rw [List.getElem?_map, he] at hy
    have hy' : stepText 0 e = y := Option.some.inj hy
    subst hy'
    have hm := List.mem_of_getElem? he
    refine pe_step 0 e (hW.ok e hm) false (Or.inr ?_) t
    have hh : e.hard = false := hb j e hj he
    cases e with
    | non => exact trivial
    | num n =>
      have := of_decide_eq_false hh
      show n < 2147483648
      omega
    | set l =>
      intro n hn
      have := of_decide_eq_false (Bool.eq_false_iff.mpr fun z => Bool.eq_false_iff.mp hh (List.any_eq_true.mpr ⟨n, hn, z⟩))
      omega
  · intro y hy t
    rw [htl, List.getElem?_map, hi] at hy
    have hy' : stepText 0 d = y := Option.some.inj hy
    subst hy'
    exact pe_hardstep d (hW.ok d (List.mem_of_getElem? hi)) hd t
/-! ## the ten bad texts -/
theorem bad_a {w : World} (t : Tok) (args : Args) (ha : peArgs (Str.ofString "2147483648h") t true args) : RCtr w 2 841 args (fun _ => True) 757 :=
  pe_bad3 (Str.ofString "2147483648h") t 2147483648 args ha (by decide +kernel) (by decide +kernel) (by decide +kernel) (by decide +kernel) (by decide +kernel) (by decide +kernel) (by decide +kernel) (by decide +kernel) (by decide) (by decide)
theorem bad_b {w : World} (t : Tok) (args : Args) (ha : peArgs (Str.ofString "-1h") t true args) : RCtr w 2 841 args (fun _ => True) 757 :=
  pe_bad3 (Str.ofString "-1h") t (-1) args ha (by decide +kernel) (by decide +kernel) (by decide +kernel) (by decide +kernel) (by decide +kernel) (by decide +kernel) (by decide +kernel) (by decide +kernel) (by decide) (by decide)
theorem bad_c {w : World} (t : Tok) (args : Args) (ha : peArgs (Str.ofString "2147483648") t true args) : RCtr w 2 841 args (fun _ => True) 757 :=
  pe_bad2 (Str.ofString "2147483648") t 2147483648 true args ha (by decide +kernel) (by decide +kernel) (by decide +kernel) (by decide +kernel) (by decide +kernel) (by decide +kernel) (by decide +kernel) (by decide) (by decide)
theorem bad_d {w : World} (t : Tok) (args : Args) (ha : peArgs (Str.ofString "-1") t true args) : RCtr w 2 841 args (fun _ => True) 757 :=
  pe_bad2 (Str.ofString "-1") t (-1) true args ha (by decide +kernel) (by decide +kernel) (by decide +kernel) (by decide +kernel) (by decide +kernel) (by decide +kernel) (by decide +kernel) (by decide) (by decide)
theorem bad_e {w : World} (t : Tok) (args : Args) (ha : peArgs (Str.ofString "4294967296") t true args) : RCtr w 2 841 args (fun _ => True) 757 :=
  pe_bad2 (Str.ofString "4294967296") t 4294967296 true args ha (by decide +kernel) (by decide +kernel) (by decide +kernel) (by decide +kernel) (by decide +kernel) (by decide +kernel) (by decide +kernel) (by decide) (by decide)
theorem zero_word : word 0 0 = Str.ofString "0" := by decide +kernel
theorem good0 : Good 0 := ⟨by decide, by decide⟩
theorem bad_set {w : World} (d y : Str) (h1 : (d == Str.ofString "*") = false) (h2 : (Txt.item d 0 == Str.ofString "{") = false) (h2b : (Txt.item d 0 == Str.ofString "<") = true) (h3 : (Txt.item d (-1) == Str.ofString ">") = true) (hlen : 1 ≤ d.length) (hlen2 : d.length ≤ 640)
    (hlen3 : (Txt.slice d (some 1) (some (-1))).length ≤ 640) (h5 : Txt.split (Txt.slice d (some 1) (some (-1))) (Str.ofString ";") = [Str.ofString "0", y]) (hb : ∀ t args, peArgs y t true args → RCtr w 2 841 args (fun _ => True) 757) (t : Tok) :
    RCtr w 4 841 ⟨[.ref 852, .str d t, .bool true, .bool true], []⟩ (fun _ => True) 757 := by
  refine pe_setR d t true _ [0] h1 h2 h2b h3 hlen hlen2 hlen3 h5 (by simp) (by simp) ?_ ?_
  · intro i x n hx hn t
    have hi : i = 0 := by
      have := (List.getElem?_eq_some_iff.mp hn).1
      simp at this; exact this
    subst hi
    have hx' : Str.ofString "0" = x := Option.some.inj hx
    have hn' : (0 : Int) = n := Option.some.inj hn
    subst hx' hn'
    rw [← zero_word]
    exact pe_word 0 0 good0 true (Or.inl rfl) t _ (Or.inr rfl)
  · intro x hx t
    have hx' : y = x := Option.some.inj hx
    subst hx'
    exact hb t _ (Or.inr rfl)
/-- a text of one part, which raises -/
theorem bad_one {w : World} (x : Str) (hx : 1 ≤ x.length) (hx2 : x.length ≤ 640) (hsp : Txt.split x (Str.ofString "/") = [x]) (hb : ∀ t, RCtr w 4 841 ⟨[.ref 852, .str x t, .bool true, .bool true], []⟩ (fun _ => True) 757) (t : Tok) (args : Args) (ha : fsArgs x t true args) : RCtr w 16 832 args (fun _ => True) 757 := by
  refine from_stringR x t true args ha [x] [] hx hx2 hsp (by simp) (by simp) ?_ ?_
  · intro i y d _ hd
    simp at hd
  · intro y hy t
    have hy' : x = y := Option.some.inj hy
    subst hy'
    exact hb t
/-- a text of parts that read, whose steps the class refuses -/
theorem bad_many {w : World} (x : Str) (ws : List Str) (fs : List Nat) (ds : List Stp) (hx : 1 ≤ x.length) (hx2 : x.length ≤ 640) (hsp : Txt.split x (Str.ofString "/") = ws) (hws : ws = List.zipWith stepText fs ds) (hn : fs.length = ds.length) (hok : ∀ d ∈ ds, d.ok) (h5 : ds.length ≤ 9) (hbad : 1 < ds.countP Stp.isNon ∨ 1 < ds.countP Stp.isSet)
    (t : Tok) (args : Args) (ha : fsArgs x t true args) : RCtr w 16 832 args (fun _ => True) 757 := by
  refine from_stringO x t true args ha ws ds hx hx2 hsp (by rw [hws, List.length_zipWith, hn, Nat.min_self]) h5 hbad ?_
  intro i y d hy hd t
  rw [hws, List.getElem?_zipWith, hd] at hy
  cases hf : fs[i]? with
  | none => rw [hf] at hy; exact nomatch hy
  | some f =>
    rw [hf] at hy
    have hy' : stepText f d = y := Option.some.inj hy
    subst hy'
    exact pe_step f d (hok d (List.mem_of_getElem? hd)) true (Or.inl rfl) t
theorem goods : Good 0 ∧ Good 1 ∧ Good 2 ∧ Good 3 := by unfold Good; decide
theorem set_ok {a b : Int} (h : Good a) (k : Good b) : (Stp.set [a, b]).ok := ⟨Or.inl rfl, fun n hn => by
  rcases List.mem_cons.mp hn with rfl | hn
  · exact h
  · rw [List.mem_singleton.mp hn]; exact k⟩
theorem jl_more (c : Nat) (b : List Nat) : ∀ as : List (List Nat), as ≠ [] → jl c (as ++ [b]) = jl c as ++ c :: b
  | [], h => absurd rfl h
  | [a], _ => rfl
  | a :: a2 :: r, _ => by
    show a ++ c :: jl c (a2 :: r ++ [b]) = (a ++ c :: jl c (a2 :: r)) ++ c :: b
    rw [jl_more c b (a2 :: r) (List.cons_ne_nil _ _)]; simp
theorem lit_e : sg (Str.ofString "/4294967296") = 47 :: sg (Str.ofString "4294967296") ∧ 47 ∉ sg (Str.ofString "4294967296") := by decide +kernel
theorem text_more {ds : List Stp} (h0 : ds ≠ []) : text 0 ds ++ Str.ofString "/4294967296" = Str.join (Str.ofString "/") (ds.map (stepText 0) ++ [Str.ofString "4294967296"]) := by
  apply sg_ext
  unfold text
  rw [sg_append, lit_slash, sg_join, sg_join, lit_e.1, List.map_append]
  exact (jl_more 47 _ _ fun z => h0 (List.map_eq_nil_iff.mp (List.map_eq_nil_iff.mp z))).symm
theorem bad_last {w : World} (ds : List Stp) (h0 : ds ≠ []) (hW : WF ds) (t : Tok) (args : Args) (ha : fsArgs (text 0 ds ++ Str.ofString "/4294967296") t true args) : RCtr w 16 832 args (fun _ => True) 757 := by
  have h5 := hW.len
  have hl := text_len 0 hW.ok hW.len
  have hp := text_pos 0 h0 hW.ok
  have he : (Str.ofString "/4294967296").length = 11 := by decide +kernel
  refine from_stringR _ t true args ha (ds.map (stepText 0) ++ [Str.ofString "4294967296"]) ds (by rw [Str.length_append]; omega) (by rw [Str.length_append]; omega) ?_ (by simp) (by simp; omega) ?_ ?_
  · rw [text_more h0, lit_slash]
    refine split_join (by simp) fun x hx => ?_
    rcases List.mem_append.mp hx with hx | hx
    · obtain ⟨d, hd, rfl⟩ := List.mem_map.mp hx
      exact step_free 0 (hW.ok d hd)
    · rw [List.mem_singleton.mp hx]; exact lit_e.2
  · intro i y d hy hd t
    have hil : i < ds.length := (List.getElem?_eq_some_iff.mp hd).1
    rw [List.getElem?_append_left (by rw [List.length_map]; exact hil), List.getElem?_map, hd] at hy
    have hy' : stepText 0 d = y := Option.some.inj hy
    subst hy'
    exact pe_step 0 d (hW.ok d (List.mem_of_getElem? hd)) true (Or.inl rfl) t
  · intro y hy t
    rw [List.getElem?_append_right (by rw [List.length_map]; exact Nat.le_refl _), List.length_map, Nat.sub_self] at hy
    have hy' : Str.ofString "4294967296" = y := Option.some.inj hy
    subst hy'
    exact RCtr.mono (bad_e t _ (Or.inl ⟨true, rfl⟩)) (by decide) fun _ h => h
/-- the ten -/
def bads (ds : List Stp) : List Str := [Str.ofString "2147483648h", Str.ofString "-1h", Str.ofString "<0;2147483648>", Str.ofString "<0;-1h>", Str.ofString "*/*", Str.ofString "<0;1>/<2;3>", Str.ofString "2147483648", Str.ofString "-1", text 0 ds ++ Str.ofString "/4294967296", Str.ofString "*/<0;1>/{2,3}"]
theorem bad_all {w : World} (ds : List Stp) (h0 : ds ≠ []) (hW : WF ds) (x : Str) (hx : x ∈ bads ds) (t : Tok) (args : Args) (ha : fsArgs x t true args) : RCtr w 16 832 args (fun _ => True) 757 := by
  unfold bads at hx
  simp only [List.mem_cons, List.not_mem_nil, or_false] at hx
  rcases hx with rfl | rfl | rfl | rfl | rfl | rfl | rfl | rfl | rfl | rfl
  · exact bad_one _ (by decide +kernel) (by decide +kernel) (by decide +kernel) (fun t => RCtr.mono (bad_a t _ (Or.inl ⟨true, rfl⟩)) (by decide) fun _ h => h) t args ha
  · exact bad_one _ (by decide +kernel) (by decide +kernel) (by decide +kernel) (fun t => RCtr.mono (bad_b t _ (Or.inl ⟨true, rfl⟩)) (by decide) fun _ h => h) t args ha
  · exact bad_one _ (by decide +kernel) (by decide +kernel) (by decide +kernel) (bad_set _ (Str.ofString "2147483648") (by decide +kernel) (by decide +kernel) (by decide +kernel) (by decide +kernel) (by decide +kernel) (by decide +kernel) (by decide +kernel) (by decide +kernel) fun t args => bad_c t args) t args ha
  · exact bad_one _ (by decide +kernel) (by decide +kernel) (by decide +kernel) (bad_set _ (Str.ofString "-1h") (by decide +kernel) (by decide +kernel) (by decide +kernel) (by decide +kernel) (by decide +kernel) (by decide +kernel) (by decide +kernel) (by decide +kernel) fun t args => bad_b t args) t args ha
  · exact bad_many _ _ [0, 0] [.non, .non] (by decide +kernel) (by decide +kernel) rfl (by decide +kernel) rfl (fun d hd => by simp at hd; subst hd; exact trivial) (by decide) (Or.inl (by decide)) t args ha
  · exact bad_many _ _ [0, 0] [.set [0, 1], .set [2, 3]] (by decide +kernel) (by decide +kernel) rfl (by decide +kernel) rfl (fun d hd => by
      simp only [List.mem_cons, List.not_mem_nil, or_false] at hd
      rcases hd with rfl | rfl
      · exact set_ok goods.1 goods.2.1
      · exact set_ok goods.2.2.1 goods.2.2.2) (by decide) (Or.inr (by decide)) t args ha
  · exact bad_one _ (by decide +kernel) (by decide +kernel) (by decide +kernel) (fun t => RCtr.mono (bad_c t _ (Or.inl ⟨true, rfl⟩)) (by decide) fun _ h => h) t args ha
  · exact bad_one _ (by decide +kernel) (by decide +kernel) (by decide +kernel) (fun t => RCtr.mono (bad_d t _ (Or.inl ⟨true, rfl⟩)) (by decide) fun _ h => h) t args ha
  · exact bad_last ds h0 hW t args ha
  · exact bad_many _ _ [0, 0, 1] [.non, .set [0, 1], .set [2, 3]] (by decide +kernel) (by decide +kernel) rfl (by decide +kernel) rfl (fun d hd => by
      simp only [List.mem_cons, List.not_mem_nil, or_false] at hd
      rcases hd with rfl | rfl | rfl
      · exact trivial
      · exact set_ok goods.1 goods.2.1
      · exact set_ok goods.2.2.1 goods.2.2.2) (by decide) (Or.inr (by decide)) t args ha
end
section
theorem topP41 : True := by
  w_top off
  trivial
/-- the law's text, its names, its frame -/
def lawBody : List Stmt := match PySem.Challenge.pw_ci0004_01.main.body.getLast? with
  | some (.FunctionDef (body := b) ..) => b
  | _ => []
def lawScope : Scope := match PySem.Challenge.pw_ci0004_01.main.body.getLast? with
  | some (.FunctionDef (scope := b) ..) => b
  | _ => default
/-- the law's frame: its cells stand above it: bad, sets, text, told -/
abbrev lawEnvS (cs : Scope) (L fa : Addr) : Env := envX (Str.ofString "law") cs L fa (.ref 903) [(Str.ofString "told", L + 1 + 1 + 1 + 1), (Str.ofString "text", L + 1 + 1 + 1), (Str.ofString "sets", L + 1 + 1), (Str.ofString "bad", L + 1)]
abbrev lawEnv (L fa : Addr) : Env := lawEnvS lawScope L fa
abbrev lawA (L fa : Addr) : Around := callerA.deeper (lawEnv L fa)
theorem law_at {prog : Program} {w : World} {L fa : Addr} {cs : Scope} {Q : Flow → Shared → Prop} {E : Value → Shared → Prop} {s : Shared} {l l' : List Stmt} (e : l = l') (ec : lawScope = cs) (h : wpAny (model prog w) (callerA.deeper (lawEnvS cs L fa)) (execs l' (lawEnvS cs L fa)) Q E s) : wpAny (model prog w) (lawA L fa) (execs l (lawEnv L fa)) Q E s := by
  subst e ec; exact h
theorem law_cut1 {prog : Program} {w : World} {L fa : Addr} {cs : Scope} {Q : Flow → Shared → Prop} {E : Value → Shared → Prop} {s : Shared} {l rest : List Stmt} {a : Stmt} (e : l = a :: rest) (ec : lawScope = cs) (hE : PassesOwn (model prog w) (lawA L fa) (lawEnv L fa) E) (h : ∀ r, r = rest → PassesOwn (model prog w) (callerA.deeper (lawEnvS cs L fa)) (lawEnvS cs L fa) E → wpAny (model prog w) (callerA.deeper (lawEnvS cs L fa)) (execs (a :: r) (lawEnvS cs L fa)) Q E s) : wpAny (model prog w) (lawA L fa) (execs l (lawEnv L fa)) Q E s := by
  subst ec; rw [e]; exact h _ rfl hE
theorem law_cut2 {prog : Program} {w : World} {L fa : Addr} {cs : Scope} {Q : Flow → Shared → Prop} {E : Value → Shared → Prop} {s : Shared} {l rest : List Stmt} {a b : Stmt} (e : l = a :: b :: rest) (ec : lawScope = cs) (hE : PassesOwn (model prog w) (lawA L fa) (lawEnv L fa) E) (h : ∀ r, r = rest → PassesOwn (model prog w) (callerA.deeper (lawEnvS cs L fa)) (lawEnvS cs L fa) E → wpAny (model prog w) (callerA.deeper (lawEnvS cs L fa)) (execs (a :: b :: r) (lawEnvS cs L fa)) Q E s) : wpAny (model prog w) (lawA L fa) (execs l (lawEnv L fa)) Q E s := by
  subst ec; rw [e]; exact h _ rfl hE
theorem law_cut3 {prog : Program} {w : World} {L fa : Addr} {cs : Scope} {Q : Flow → Shared → Prop} {E : Value → Shared → Prop} {s : Shared} {l rest : List Stmt} {a b c : Stmt} (e : l = a :: b :: c :: rest) (ec : lawScope = cs) (hE : PassesOwn (model prog w) (lawA L fa) (lawEnv L fa) E) (h : ∀ r, r = rest → PassesOwn (model prog w) (callerA.deeper (lawEnvS cs L fa)) (lawEnvS cs L fa) E → wpAny (model prog w) (callerA.deeper (lawEnvS cs L fa)) (execs (a :: b :: c :: r) (lawEnvS cs L fa)) Q E s) : wpAny (model prog w) (lawA L fa) (execs l (lawEnv L fa)) Q E s := by
  subst ec; rw [e]; exact h _ rfl hE
theorem fr_map {h₀ h : Heap} {L : Addr} {m m' : Str → Option Value} (F : Fr h₀ L h m) (e : ∀ y, m y = m' y) : Fr h₀ L h m' := (funext e : m = m') ▸ F
theorem look_cons {y a : Str} {b : Value} {r : List (Str × Value)} : List.lookup y ((a, b) :: r) = if y = a then some b else List.lookup y r := by
  rw [List.lookup_cons]
  by_cases h : y = a
  · subst h; simp
  · rw [if_neg h, beq_eq_false_iff_ne.mpr h]
theorem fr_st {h₀ h : Heap} {L : Addr} {a : Str} {v : Value} {r : List (Str × Value)} (F : Fr h₀ L h (fun y => if y = a then some v else List.lookup y r)) : Fr h₀ L h (fun y => List.lookup y ((a, v) :: r)) := fr_map F fun _ => look_cons.symm
theorem fr_st2 {h₀ h : Heap} {L : Addr} {a b : Str} {v u : Value} {r : List (Str × Value)} (F : Fr h₀ L h (fun y => if y = a then some v else if y = b then some u else List.lookup y r)) : Fr h₀ L h (fun y => List.lookup y ((a, v) :: (b, u) :: r)) := fr_map F fun _ => by rw [look_cons, look_cons]
/-- the ground of the law's walk -/
structure LawG (w : World) (L fa : Addr) (mean : ExcName → Option Value) (mg mb : Str → Option Value) (h₀ : Heap) : Prop where
  B : Below callerA h₀ [] h₀
  X : (hd.heap_39 w.params).In h₀
  T : Top topProg LS mean mg mb h₀
  C : CodeHd h₀ 903 901
  lt : 901 < L
/-- what the law's end wants -/
abbrev LawQ (h₀ : Heap) (L : Addr) (Q : Flow → Shared → Prop) (s : Shared) : Prop := ∀ h' tk' m' ps news', Fr h₀ L h' m' → News h₀ L h' news' → (901, tabObj ps) ∈ news' → Q (.ret (.bool true)) { s with heap := h', toks := tk' }
end
section
theorem topP42 : True := by
  w_top off
  trivial
set_option maxHeartbeats 0 in
theorem from_empty {w : World} (t : Tok) : Ctr w 16 832 ⟨[.ref 852, .str (Str.ofString "") t], []⟩ (fun _ => True) (fun _ r => r = .none) := by
  intro mean mg mb dp un gd cn cs a ccd cl outer A₀ base h₀ L m news s Q E B F X N T hk hdp hu hpre hret
  walk_at "enterC"
  k_steps
  all_goals exact hret _ _ _ _ (by assumption) (by assumption) (by assumption) rfl
end
section
theorem topP43 : True := by
  w_top off
  trivial
/-- the ledger of the law: the four cells, the table of its codes, the rest -/
abbrev led (L : Addr) (c1 c2 c3 c4 ot : Obj) (rest : List (Addr × Obj)) : List (Addr × Obj) := (L + 1 + 1 + 1 + 1, c4) :: (L + 1 + 1 + 1, c3) :: (L + 1 + 1, c2) :: (L + 1, c1) :: (901, ot) :: rest
theorem led_tab {L : Addr} {c1 c2 c3 c4 ot : Obj} {rest : List (Addr × Obj)} : (901, ot) ∈ led L c1 c2 c3 c4 ot rest := List.mem_cons_of_mem _ (List.mem_cons_of_mem _ (List.mem_cons_of_mem _ (List.mem_cons_of_mem _ List.mem_cons_self)))
/-- the rest stands off the cells and the table -/
structure Off (L : Addr) (rest : List (Addr × Obj)) : Prop where
  o0 : ∀ p ∈ rest, p.1 ≠ 901
  o1 : ∀ p ∈ rest, p.1 ≠ L + 1
  o2 : ∀ p ∈ rest, p.1 ≠ L + 1 + 1
  o3 : ∀ p ∈ rest, p.1 ≠ L + 1 + 1 + 1
  o4 : ∀ p ∈ rest, p.1 ≠ L + 1 + 1 + 1 + 1
theorem led_more {h₀ h : Heap} {L : Addr} {c1 c2 c3 c4 ot : Obj} {rest tl : List (Addr × Obj)} (N : News h₀ L h (led L c1 c2 c3 c4 ot rest ++ tl)) (S : ∀ q ∈ led L c1 c2 c3 c4 ot rest, ∀ p ∈ tl, q.1 ≠ p.1) (O : Off L rest) :
    ∃ rest2, News h₀ L h (led L c1 c2 c3 c4 ot rest2) ∧ Off L rest2 ∧ (∀ p ∈ rest, p ∈ rest2) ∧ ∀ p ∈ tl, p ∈ rest2 := by
  refine ⟨rest ++ tl, N, ⟨?_, ?_, ?_, ?_, ?_⟩, fun p hp => List.mem_append_left _ hp, fun p hp => List.mem_append_right _ hp⟩ <;> intro p hp <;> rcases List.mem_append.mp hp with hp | hp
  · exact O.o0 p hp
  · exact (S (901, ot) (by simp) p hp).symm
  · exact O.o1 p hp
  · exact (S (L + 1, c1) (by simp) p hp).symm
  · exact O.o2 p hp
  · exact (S (L + 1 + 1, c2) (by simp) p hp).symm
  · exact O.o3 p hp
  · exact (S (L + 1 + 1 + 1, c3) (by simp) p hp).symm
  · exact O.o4 p hp
  · exact (S (L + 1 + 1 + 1 + 1, c4) (by simp) p hp).symm
theorem truthy_known {prog : Program} {w : World} {A : Around} {E : Value → Shared → Prop} {s : Shared} {l : Addr} {vs : List Value} {Q : Bool → Shared → Prop} (c : Bool) (hl : s.heap.IsList l vs.toArray) (hz : vs.length ≤ 1000) (hc : c = true ↔ 1 ≤ vs.length) (h : ∀ k, Q c { s with toks := k }) : wpAny (model prog w) A (truthy (.ref l)) Q E s := by
  refine wpAny_truthy_list hl (by rw [List.size_toArray]; omega) ?_
  have e : (!vs.toArray.isEmpty) = c := by
    cases vs with
    | nil =>
      cases c with
      | true => exact absurd (hc.mp rfl) (by simp)
      | false => rfl
    | cons v r =>
      cases c with
      | true => rfl
      | false => exact absurd (hc.mpr (by simp)) Bool.noConfusion
  rw [e]
  exact h _
theorem no_rest {L : Addr} : Off L [] := ⟨(fun _ h => nomatch h), (fun _ h => nomatch h), (fun _ h => nomatch h), (fun _ h => nomatch h), (fun _ h => nomatch h)⟩
theorem objH_of {w : World} {h₀ h : Heap} {L x dx l : Addr} {t : Tok} {vs : List Value} {k : Nat} {ds : List Stp} {news rest : List (Addr × Obj)} (N : News h₀ L h news) (hs : ∀ p ∈ rest, p ∈ news)
    (hx : (x, instObj 852 dx) ∈ rest) (hdx : (dx, dictOf [⟨PyData.keyHash w.params (Str.ofString "indexes"), .str (Str.ofString "indexes") t, .ref l⟩] 1) ∈ rest) (hl : (l, W.listOf (List.toArray vs) k) ∈ rest) (hst : StAll (InL rest) vs ds) : ObjH w h x dx t l vs k ds :=
  ⟨(N _ (hs _ hx)).1, (N _ (hs _ hdx)).1, (N _ (hs _ hl)).1, hst.mono (news_at N hs)⟩
theorem ne_known {prog : Program} {w : World} {A : Around} {E : Value → Shared → Prop} {s : Shared} {x y : Str} {t u : Tok} {b : Bool} {Q : Value → Shared → Prop} (e : (x == y) = b) (h : Q (.bool (!b)) s) : wpAny (model prog w) A (compareOp .NotEq (.str x t) (.str y u)) Q E s := by
  subst e
  exact ne_str h
theorem led_rest {L : Addr} {c1 c2 c3 c4 ot : Obj} {rest : List (Addr × Obj)} {p : Addr × Obj} (h : p ∈ rest) : p ∈ led L c1 c2 c3 c4 ot rest := List.mem_cons_of_mem _ (List.mem_cons_of_mem _ (List.mem_cons_of_mem _ (List.mem_cons_of_mem _ (List.mem_cons_of_mem _ h))))
theorem own_led {own rest tl : List (Addr × Obj)} {L : Addr} {c1 c2 c3 c4 ot c1' c2' c3' c4' ot' : Obj} (hoff : OwnOff own ((led L c1 c2 c3 c4 ot rest).map (·.1))) (ht : ∀ p ∈ own, ∀ q ∈ tl, p.1 ≠ q.1) : OwnOff own ((led L c1' c2' c3' c4' ot' (rest ++ tl)).map (·.1)) := by
  intro p hp b hb
  simp only [List.map_cons, List.map_append, List.mem_cons, List.mem_append] at hb
  rcases hb with rfl | rfl | rfl | rfl | rfl | hb | hb
  · exact hoff p hp _ (by simp)
  · exact hoff p hp _ (by simp)
  · exact hoff p hp _ (by simp)
  · exact hoff p hp _ (by simp)
  · exact hoff p hp _ (by simp)
  · exact hoff p hp _ (List.mem_cons_of_mem _ (List.mem_cons_of_mem _ (List.mem_cons_of_mem _ (List.mem_cons_of_mem _ (List.mem_cons_of_mem _ hb)))))
  · obtain ⟨q, hq, rfl⟩ := List.mem_map.mp hb
    exact ht p hp q hq
theorem Off.sub {L : Addr} {rest r : List (Addr × Obj)} (O : Off L rest) (h : ∀ p ∈ r, p ∈ rest) : Off L r := ⟨fun p hp => O.o0 p (h p hp), fun p hp => O.o1 p (h p hp), fun p hp => O.o2 p (h p hp), fun p hp => O.o3 p (h p hp), fun p hp => O.o4 p (h p hp)⟩
theorem led_sub {L : Addr} {c1 c2 c3 c4 ot : Obj} {rest own all : List (Addr × Obj)} (h : ∀ p ∈ rest, p ∈ all) (ho : ∀ p ∈ own, p ∈ all) : ∀ p ∈ led L c1 c2 c3 c4 ot rest ++ own, p ∈ led L c1 c2 c3 c4 ot all := by
  intro p hp
  rcases List.mem_append.mp hp with hp | hp
  · simp only [List.mem_cons] at hp ⊢
    rcases hp with h1 | h1 | h1 | h1 | h1 | h1
    · exact Or.inl h1
    · exact Or.inr (Or.inl h1)
    · exact Or.inr (Or.inr (Or.inl h1))
    · exact Or.inr (Or.inr (Or.inr (Or.inl h1)))
    · exact Or.inr (Or.inr (Or.inr (Or.inr (Or.inl h1))))
    · exact Or.inr (Or.inr (Or.inr (Or.inr (Or.inr (h p h1)))))
  · exact led_rest (ho p hp)
theorem led_push {h₀ h : Heap} {L D : Addr} {o : Obj} {c1 c2 c3 c4 ot : Obj} {rest : List (Addr × Obj)} (N : News h₀ L h ((D, o) :: led L c1 c2 c3 c4 ot rest)) (e : @Ne Nat (L + 1 + 1 + 1 + 1) D ∧ @Ne Nat (L + 1 + 1 + 1) D ∧ @Ne Nat (L + 1 + 1) D ∧ @Ne Nat (L + 1) D ∧ @Ne Nat 901 D) (O : Off L rest) :
    ∃ rest2, News h₀ L h (led L c1 c2 c3 c4 ot rest2) ∧ Off L rest2 ∧ (D, o) ∈ rest2 ∧ ∀ p ∈ rest, p ∈ rest2 := by
  obtain ⟨e4, e3, e2, e1, e0⟩ := e
  refine ⟨(D, o) :: rest, fun p hp => N p ?_, ⟨?_, ?_, ?_, ?_, ?_⟩, List.mem_cons_self, fun p hp => List.mem_cons_of_mem _ hp⟩
  · simp only [List.mem_cons] at hp ⊢
    rcases hp with h | h | h | h | h | h | h
    · exact Or.inr (Or.inl h)
    · exact Or.inr (Or.inr (Or.inl h))
    · exact Or.inr (Or.inr (Or.inr (Or.inl h)))
    · exact Or.inr (Or.inr (Or.inr (Or.inr (Or.inl h))))
    · exact Or.inr (Or.inr (Or.inr (Or.inr (Or.inr (Or.inl h)))))
    · exact Or.inl h
    · exact Or.inr (Or.inr (Or.inr (Or.inr (Or.inr (Or.inr h)))))
  · exact List.forall_mem_cons.mpr ⟨fun z => e0 z.symm, O.o0⟩
  · exact List.forall_mem_cons.mpr ⟨fun z => e1 z.symm, O.o1⟩
  · exact List.forall_mem_cons.mpr ⟨fun z => e2 z.symm, O.o2⟩
  · exact List.forall_mem_cons.mpr ⟨fun z => e3 z.symm, O.o3⟩
  · exact List.forall_mem_cons.mpr ⟨fun z => e4 z.symm, O.o4⟩
theorem fr_kn {h₀ h : Heap} {L : Addr} {m : Str → Option Value} {a : Str} {v : Value} (F : Fr h₀ L h m) (e : m a = some v) : Fr h₀ L h (fun y => if y = a then some v else m y) := fr_map F fun y => by
  by_cases h : y = a
  · subst h; rw [if_pos rfl, e]
  · rw [if_neg h]
/-- the numbers that stand alone, and those of the sets -/
def Stp.alone : Stp → Option Int
  | .num n => some n
  | _ => none
def Stp.nums : Stp → List Int
  | .set l => l
  | _ => []
theorem led_nil {L : Addr} {c1 c2 c3 c4 ot : Obj} {rest : List (Addr × Obj)} {p : Addr × Obj} (h : p ∈ led L c1 c2 c3 c4 ot []) : p ∈ led L c1 c2 c3 c4 ot rest := by
  have := led_sub (own := []) (fun p (hp : p ∈ []) => (nomatch hp : p ∈ rest)) (fun _ h => nomatch h) p (by simpa using h)
  exact this
theorem led_mem {L : Addr} {c1 c2 c3 c4 ot : Obj} {rest all : List (Addr × Obj)} (h1 : ∀ p ∈ rest, p ∈ all) (h2 : ∀ p ∈ led L c1 c2 c3 c4 ot [], p ∈ all) : ∀ p ∈ led L c1 c2 c3 c4 ot rest, p ∈ all := by
  intro p hp
  simp only [List.mem_cons] at hp
  rcases hp with h | h | h | h | h | h
  · exact h2 p (by simp [h])
  · exact h2 p (by simp [h])
  · exact h2 p (by simp [h])
  · exact h2 p (by simp [h])
  · exact h2 p (by simp [h])
  · exact h1 p h
theorem Off.push {L D : Addr} {o : Obj} {rest : List (Addr × Obj)} (O : Off L rest) (e : @Ne Nat (L + 1 + 1 + 1 + 1) D ∧ @Ne Nat (L + 1 + 1 + 1) D ∧ @Ne Nat (L + 1 + 1) D ∧ @Ne Nat (L + 1) D ∧ @Ne Nat 901 D) : Off L ((D, o) :: rest) := by
  obtain ⟨e4, e3, e2, e1, e0⟩ := e
  exact ⟨List.forall_mem_cons.mpr ⟨fun z => e0 z.symm, O.o0⟩, List.forall_mem_cons.mpr ⟨fun z => e1 z.symm, O.o1⟩, List.forall_mem_cons.mpr ⟨fun z => e2 z.symm, O.o2⟩, List.forall_mem_cons.mpr ⟨fun z => e3 z.symm, O.o3⟩, List.forall_mem_cons.mpr ⟨fun z => e4 z.symm, O.o4⟩⟩
theorem led_cons {L : Addr} {c1 c2 c3 c4 ot : Obj} {rest : List (Addr × Obj)} {q p : Addr × Obj} (h : p ∈ led L c1 c2 c3 c4 ot (q :: rest)) : p = q ∨ p ∈ led L c1 c2 c3 c4 ot rest := by
  simp only [List.mem_cons] at h ⊢
  rcases h with h | h | h | h | h | h | h
  · exact Or.inr (Or.inl h)
  · exact Or.inr (Or.inr (Or.inl h))
  · exact Or.inr (Or.inr (Or.inr (Or.inl h)))
  · exact Or.inr (Or.inr (Or.inr (Or.inr (Or.inl h))))
  · exact Or.inr (Or.inr (Or.inr (Or.inr (Or.inr (Or.inl h)))))
  · exact Or.inl h
  · exact Or.inr (Or.inr (Or.inr (Or.inr (Or.inr (Or.inr h)))))
theorem ret_match {M : Model} {A : Around} {Q E : Value → Shared → Prop} {s : Shared} {c : Code} (h : codeAny M A c (RetE Q E) s) : codeAny M A c (fun r s' => match r with | .ok (.ret v) => Q v s' | .ok _ => False | .error e => E e s') s :=
  codeAny_mono h fun r s' x => by
    cases r with
    | error e => exact x
    | ok f => cases f <;> exact x
theorem filter_one {ds : List Stp} (hW : WF ds) {d : Stp} (hd : d ∈ ds) (h : d.isSet = true) : ds.filter Stp.isSet = [d] := by
  have hm : d ∈ ds.filter Stp.isSet := List.mem_filter.mpr ⟨hd, h⟩
  have hc := hW.sets
  rw [List.countP_eq_length_filter] at hc
  cases q : ds.filter Stp.isSet with
  | nil => rw [q] at hm; exact nomatch hm
  | cons a r =>
    rw [q] at hm hc
    have hr : r = [] := List.length_eq_zero_iff.mp (by simp at hc; simpa using hc)
    subst hr
    rw [List.mem_singleton.mp hm]
theorem filter_none {ds : List Stp} (h : ds.any Stp.isSet = false) : ds.filter Stp.isSet = [] := List.filter_eq_nil_iff.mpr fun d hd z => by
  rw [List.any_eq_true.mpr ⟨d, hd, z⟩] at h; exact nomatch h
theorem led_front {h₀ h : Heap} {L : Addr} {c1 c2 c3 c4 ot : Obj} {rest tl : List (Addr × Obj)} {q : Addr × Obj} (N : News h₀ L h ((q :: led L c1 c2 c3 c4 ot rest) ++ tl)) : ∃ rest2, News h₀ L h (q :: led L c1 c2 c3 c4 ot rest2) ∧ (∀ p ∈ rest, p ∈ rest2) ∧ ∀ p ∈ tl, p ∈ rest2 :=
  ⟨rest ++ tl, N, fun _ hp => List.mem_append_left _ hp, fun _ hp => List.mem_append_right _ hp⟩
theorem led_rest2 {L : Addr} {c1 c2 c3 c4 ot : Obj} {rest : List (Addr × Obj)} {p q : Addr × Obj} (h : p ∈ rest) : p ∈ q :: led L c1 c2 c3 c4 ot rest := List.mem_cons_of_mem _ (led_rest h)
/-- one more object at the front goes into the rest -/
theorem led_in {h₀ h : Heap} {L : Addr} {c1 c2 c3 c4 ot : Obj} {rest : List (Addr × Obj)} {q d : Addr × Obj} (N : News h₀ L h (d :: q :: led L c1 c2 c3 c4 ot rest)) : ∃ rest2, News h₀ L h (q :: led L c1 c2 c3 c4 ot rest2) ∧ (∀ p ∈ rest, p ∈ rest2) ∧ d ∈ rest2 := by
  refine ⟨d :: rest, fun p hp => N p ?_, fun _ hp => List.mem_cons_of_mem _ hp, List.mem_cons_self⟩
  rcases List.mem_cons.mp hp with rfl | hp
  · exact List.mem_cons_of_mem _ List.mem_cons_self
  · rcases led_cons hp with rfl | hp
    · exact List.mem_cons_self
    · exact List.mem_cons_of_mem _ (List.mem_cons_of_mem _ hp)
/-- the body of the loop over the branches -/
def loopBody : List Stmt := match lawBody.drop 12 with
  | .For _ _ b _ _ :: _ => b
  | _ => []
theorem body_cut4 {M : Model} {A : Around} {env : Env} {Q : Flow → Shared → Prop} {E : Value → Shared → Prop} {s : Shared} {l rest : List Stmt} {a b c d : Stmt} (e : l = a :: b :: c :: d :: rest) (h : ∀ r, r = rest → wpAny M A (execs (a :: b :: c :: d :: r) env) Q E s) : wpAny M A (execs l env) Q E s := by
  rw [e]; exact h _ rfl
end
section
theorem topP44 : True := by
  w_top off
  trivial
section
variable {prog : Program} {w : World} {A : Around} {E : Value → Shared → Prop} {s : Shared} {env : Env} {h₀ : Heap} {x : Str} {body : List Stmt} {Q : Flow → Shared → Prop}
/-- a loop over a list of the ledger, which stays, by an invariant -/
theorem for_led (names : List Str) {ax : Addr} {kk : Nat} {vs : List Value} {m₀ : Str → Option Value} {news : List (Addr × Obj)} (J : Nat → (Str → Option Value) → List (Addr × Obj) → Prop)
    (hh : A.handled = none) (F : Fr h₀ env.locals s.heap m₀) (N : News h₀ env.locals s.heap news) (hm : (ax, W.listOf (List.toArray vs) kk) ∈ news) (hj : J 0 m₀ news)
    (turn : ∀ I it i v u nx h tk, vs[i]? = some v → (∀ p ∈ nx, p.1 ≠ I) → J i u nx → Fr h₀ env.locals h (fun y => if y = x then some v else if names.contains y then u y else m₀ y) → News h₀ env.locals h ((I, it) :: nx) →
      wpAny (model prog w) A (execs body env) (UnrPost h₀ env.locals { s with heap := h, toks := tk } I it (fun m' nx' => (ax, W.listOf (List.toArray vs) kk) ∈ nx' ∧ J (i + 1) m' nx' ∧ ∀ z, z ≠ x → names.contains z = false → m' z = m₀ z) Q) E { s with heap := h, toks := tk })
    (done : ∀ u nx h tk, J vs.length u nx → Fr h₀ env.locals h (fun y => if y = x then u y else if names.contains y then u y else m₀ y) → News h₀ env.locals h nx → Q .next { s with heap := h, toks := tk }) :
    wpAny (model prog w) A (pyIter (.ref ax)) (fun it s₂ => LoopAtV prog w A h₀ env x body Q E it s₂) E s := by
  refine iter_listUnr hh F N hm rfl rfl fun I hI => ?_
  have key : ∀ (r : List Value) (i : Nat) (u : Str → Option Value) (nx : List (Addr × Obj)), vs.drop i = r → i ≤ vs.length → J i u nx → (∀ p ∈ nx, p.1 ≠ I) → (∀ z, z ≠ x → names.contains z = false → u z = m₀ z) → ListRest prog w A E h₀ env x body Q s I (ax, W.listOf (List.toArray vs) kk) r u nx := by
    intro r
    induction r with
    | nil =>
      intro i u nx hd hi hJ hoff hu
      refine ListRest.zero fun h tk F' N' => ?_
      have e : i = vs.length := by
        have := congrArg List.length hd
        rw [List.length_drop, List.length_nil] at this
        omega
      subst e
      exact done u nx h tk hJ (fr_done hu F') N'
    | cons v r ih =>
      intro i u nx hd hi hJ hoff hu
      refine ListRest.succ fun it h tk hc F' N' => ?_
      have hv : vs[i]? = some v := by
        have := congrArg (fun l => l[0]?) hd
        simpa using this
      have hlt : i < vs.length := (List.getElem?_eq_some_iff.mp hv).1
      have hd2 : vs.drop (i + 1) = r := by
        rw [← List.drop_drop, hd]; rfl
      refine wpAny_mono (turn I it i v u nx h tk hv hoff hJ (fr_turn hu F') N') (fun f s₂ hf => ?_) fun _ _ e => e
      have back : UnrEnd h₀ env.locals { s with heap := h, toks := tk } I it (fun m' nx' => (ax, W.listOf (List.toArray vs) kk) ∈ nx' ∧ J (i + 1) m' nx' ∧ ∀ z, z ≠ x → names.contains z = false → m' z = m₀ z) s₂ → UnrEnd h₀ env.locals { s with heap := h, toks := tk } I it (fun m' n' => (ax, W.listOf (List.toArray vs) kk) ∈ n' ∧ ListRest prog w A E h₀ env x body Q s I (ax, W.listOf (List.toArray vs) kk) r m' n') s₂ := by
        rintro ⟨h', tk', m', nx', e, F2, N2, ho, hmm, hJ', hu'⟩
        exact ⟨h', tk', m', nx', e, F2, N2, ho, hmm, ih (i + 1) m' nx' hd2 hlt hJ' ho hu'⟩
      cases f with
      | ret v => exact hf
      | brk => exact hf
      | next => exact back hf
      | cont => exact back hf
  exact key vs 0 m₀ news List.drop_zero (Nat.zero_le _) hj (fun p hp => Nat.ne_of_lt (hI p hp)) fun _ _ _ => rfl
end
/-- a turn's end -/
theorem led_end {h₀ : Heap} {L I : Addr} {it : Obj} {rest : (Str → Option Value) → List (Addr × Obj) → Prop} {s₁ : Shared} {h' : Heap} {tk : Nat} {m' : Str → Option Value} {all : List (Addr × Obj)} (nx : List (Addr × Obj)) (F : Fr h₀ L h' m') (N : News h₀ L h' all)
    (sub : ∀ p ∈ (I, it) :: nx, p ∈ all) (off : ∀ p ∈ nx, p.1 ≠ I) (r : rest m' nx) : UnrEnd h₀ L s₁ I it rest { s₁ with heap := h', toks := tk } := UnrEnd.intro F N nx sub off r
end
section
theorem topP33 : True := by
  w_top off
  trivial
section
variable {prog : Program} {w : World} {A₀ A : Around} {s : Shared} {base h₀ : Heap} {outer : List Env} {L : Addr} {m : Str → Option Value} {env : Env} {news : List (Addr × Obj)} {K : Frag} {p : Program} {loose : List Str} {mean : ExcName → Option Value} {mg mb : Str → Option Value}
  {R : Result → Shared → Prop} {name qual : Str} {params : Arguments} {body : PySem.Expr} {scope : Scope} {cl : List (Str × Addr)} {pm ctv : Value} {c' f : Addr} {args : Args} {binds : List (Str × Value)}
/-- a lambda of the ground is called -/
theorem enterL (B : Below A₀ base outer h₀) (F : Fr h₀ L s.heap m) (X₀ : K.In h₀) (N : News h₀ L s.heap news) (T : Top p loose mean mg mb h₀) (hA : A.frames = some (env :: outer)) (hf : env.frame = some L) (hke : env.scope.kind = .function)
    (ho : s.heap.get? f = some (kla_obj name qual params body scope cl pm c' ctv)) (hcd : s.heap.CodeRec (.ref c') qual) (hroom : A.depth < recursionLimit)
    (hbind : bindArgs (kla_fn name qual params body scope cl pm (.ref c') ctv) args = pure binds) (hloc : ∀ y ∈ binds, scope.names.lookup y.1 = some .local)
    (h : ∀ L' h₁, Fr s.heap L' h₁ (fun y => binds.reverse.lookup y) → News s.heap L' h₁ [] → Below A base (env :: outer) s.heap → K.In s.heap → Top p loose mean mg mb s.heap →
      wpAny (model prog w) (A.deeper (envX qual scope L' f (.ref c') cl)) (eval body (envX qual scope L' f (.ref c') cl))
        (fun v s' => LeaveF h₀ L m s.heap news R v s')
        (fun e s' => wpAny (model prog w) (A.deeper (envX qual scope L' f (.ref c') cl)) (leaving (envX qual scope L' f (.ref c') cl) e) (fun _ s'' => R (.error e) s'') (fun e' s'' => R (.error e') s'') s')
        { s with heap := h₁, toks := s.toks + binds.length })
    (hco : scope.isCoroutine = false) (hgen : scope.isGenerator = false) (hk : scope.kind = .function)
    (hcell : ∀ x ∈ scope.names, x.2 ≠ .cell) : codeAny (model prog w) A (.call (.ref f) args) R s := by
  obtain ⟨_, BG, st, _⟩ := groundX (R := R) (news := []) B F News.nil hA hf hke
  refine kla_callFunE hroom ho rfl hco hgen rfl hcd ?_
  rw [hbind]
  refine wpAny_pure (wpAny_newFunctionEnv hcell hloc (fun h₁ hns hsb => ⟨((T.nolimit).keeps F.keep).fresh _ hsb, ?_⟩) hk)
  show codeAny _ _ (.expr body (envX qual scope s.heap.objs.size f (.ref c') cl)) _ _
  have hk₁ : ∀ b o, s.heap.get? b = some o → h₁.get? b = some o := fun b o e => hsb.extBut b o (Nat.ne_of_lt (Heap.lt_size e)) (Heap.get?_push_of_some _ e)
  exact kla_codeExpr (wpAny_mono (h s.heap.objs.size h₁ ⟨hns, hk₁, Nat.le_refl _⟩ News.nil BG (X₀.keeps F.keep) (T.keeps F.keep)) (fun v s' hl => leaveF_back F N hl) fun _ _ y => y)
end
/-- a free name whose cell lies in the ground -/
theorem nameX_G {M : Model} {A : Around} {E : Value → Shared → Prop} {s : Shared} {h₀ : Heap} {L a c : Addr} {m : Str → Option Value} {cn : Str} {cs : Scope} {ccd : Value} {cl : List (Str × Addr)} {x : Str} {pos : Pos} {v : Value} {Q : Value → Shared → Prop} {o : Obj}
    (F : Fr h₀ L s.heap m) (hc : cl.lookup x = some c) (hm : h₀.get? c = some o) (hd : o.data = .cell (some v)) (h : Q v s)
    (hk : cs.kind = .function := by rfl) (hx : (envX cn cs L a ccd cl).kindOf x = some .free := by rfl) (hb : (x == ("__debug__" : Str)) = false := by decide) (hn : (x == ("__classdict__" : Str)) = false := by decide) :
    wpAny M A (eval (.Name x pos) (envX cn cs L a ccd cl)) Q E s := wpAny_Name (wpAny_loadName_free hk hx hc ⟨o, F.keep _ _ hm, hd⟩ h hn) hb
/-- the closure at f -/
def LamAt (f : Addr) (name qual : Str) (params : Arguments) (body : PySem.Expr) (scope : Scope) (cl : List (Str × Addr)) (pm : Value) (c' : Addr) (ctv : Value) (h : Heap) : Prop := h.get? f = some (kla_obj name qual params body scope cl pm c' ctv) ∧ h.CodeRec (.ref c') qual
theorem LamAt.keeps {f : Addr} {name qual : Str} {params : Arguments} {body : PySem.Expr} {scope : Scope} {cl : List (Str × Addr)} {pm ctv : Value} {c' : Addr} {h h' : Heap} (x : LamAt f name qual params body scope cl pm c' ctv h) (k : ∀ b o, h.get? b = some o → h'.get? b = some o) : LamAt f name qual params body scope cl pm c' ctv h' :=
  ⟨k _ _ x.1, let ⟨c, oc, vs, t, e, hc, hd, hv⟩ := x.2; ⟨c, oc, vs, t, e, k _ _ hc, hd, hv⟩⟩
theorem refuse_lam {w : World} {f : Addr} {name qual : Str} {params : Arguments} {body : PySem.Expr} {scope : Scope} {clo : List (Str × Addr)} {pm ctv : Value} {c' : Addr} (dpt : Nat) (Ex : Heap → Prop) (mono : ∀ h h', (∀ b o, h.get? b = some o → h'.get? b = some o) → Ex h → Ex h')
    {mean : ExcName → Option Value} {mg mb : Str → Option Value} {dp un : Nat} {gd : Option (List Code)} {cn : Str} {cs : Scope} {a : Addr} {ccd : Value} {cl : List (Str × Addr)} {A₀ : Around} {base h₀ : Heap} {L : Addr} {m : Str → Option Value} {news : List (Addr × Obj)} {s : Shared} {Q E : Value → Shared → Prop}
    (hf : LamAt f name qual params body scope clo pm c' ctv s.heap) (hx : Ex s.heap) (Z : RCtr w dpt f ⟨[], []⟩ (fun h => LamAt f name qual params body scope clo pm c' ctv h ∧ Ex h) 757)
    (B : Below A₀ base [] h₀) (F : Fr h₀ L s.heap m) (X : (hd.heap_39 w.params).In h₀) (N : News h₀ L s.heap news) (T : Top topProg LS mean mg mb h₀) (XB : (hd.heap_39 w.params).In base) (TB : Top topProg LS mean mg mb base) (hk : cs.kind = .function)
    (hdp : dp + (dpt + 1) < recursionLimit) (hu : un + 8 * (dpt + 1) < cLine)
    (hret : ∀ h' tk', Fr h₀ L h' m → News h₀ L h' news → Q (.bool true) { s with heap := h', toks := tk' }) :
    codeAny (model PR w) (ktrTop dp un gd cn cs L a ccd cl []) (.call (.ref 899) ⟨[.ref f], []⟩) (RetE Q E) s :=
  law_refused f dpt _ (fun h h' k x => ⟨x.1.keeps k, mono h h' k x.2⟩) (fun h x => ⟨_, _, _, _, x.1.1⟩) Z mean mg mb dp un gd cn cs a ccd cl A₀ base h₀ L m news s Q E B F X N T XB TB hk hdp hu ⟨hf, hx⟩ hret
theorem refuse_lam_no {w : World} {f : Addr} {name qual : Str} {params : Arguments} {body : PySem.Expr} {scope : Scope} {clo : List (Str × Addr)} {pm ctv : Value} {c' : Addr} (dpt : Nat) (Ex : Heap → Prop) (mono : ∀ h h', (∀ b o, h.get? b = some o → h'.get? b = some o) → Ex h → Ex h')
    {mean : ExcName → Option Value} {mg mb : Str → Option Value} {dp un : Nat} {gd : Option (List Code)} {cn : Str} {cs : Scope} {a : Addr} {ccd : Value} {cl : List (Str × Addr)} {A₀ : Around} {base h₀ : Heap} {L : Addr} {m : Str → Option Value} {news : List (Addr × Obj)} {s : Shared} {Q E : Value → Shared → Prop}
    (hf : LamAt f name qual params body scope clo pm c' ctv s.heap) (hx : Ex s.heap) (Z : Ctr w dpt f ⟨[], []⟩ (fun h => LamAt f name qual params body scope clo pm c' ctv h ∧ Ex h) (fun _ _ => True))
    (B : Below A₀ base [] h₀) (F : Fr h₀ L s.heap m) (X : (hd.heap_39 w.params).In h₀) (N : News h₀ L s.heap news) (T : Top topProg LS mean mg mb h₀) (XB : (hd.heap_39 w.params).In base) (TB : Top topProg LS mean mg mb base) (hk : cs.kind = .function)
    (hdp : dp + (dpt + 1) < recursionLimit) (hu : un + 8 * (dpt + 1) < cLine)
    (hret : ∀ h' tk', Fr h₀ L h' m → News h₀ L h' news → Q (.bool false) { s with heap := h', toks := tk' }) :
    codeAny (model PR w) (ktrTop dp un gd cn cs L a ccd cl []) (.call (.ref 899) ⟨[.ref f], []⟩) (RetE Q E) s :=
  law_refused_no f dpt _ (fun h h' k x => ⟨x.1.keeps k, mono h h' k x.2⟩) (fun h x => ⟨_, _, _, _, x.1.1⟩) _ Z mean mg mb dp un gd cn cs a ccd cl A₀ base h₀ L m news s Q E B F X N T XB TB hk hdp hu ⟨hf, hx⟩ hret
end
section
theorem topP34 : True := by
  w_top off
  trivial
/-- a table of codes, all of lines before n -/
def TabOk (n : Nat) (ps : Array Value) : Prop := TriplesOk ps.toList ∧ ∀ pos : Pos, n ≤ pos.line → codeAmong pos ps.toList = none
theorem TabOk.nil {n : Nat} : TabOk n #[] := ⟨trivial, fun _ _ => rfl⟩
theorem among_none {pos : Pos} {a b : Int} {c : Value} (hne : (a == (pos.line : Int)) = false) (l : List Value) (h : TriplesOk l) (hn : codeAmong pos l = none) : codeAmong pos (l ++ [rawInt a, rawInt b, c]) = none := by
  fun_induction TriplesOk l with
  | case1 =>
    show (if (a == (pos.line : Int) && b == (pos.col : Int)) = true then some c else codeAmong pos []) = none
    rw [hne]; rfl
  | case2 x t y u z rest ih =>
    show (if (x == (pos.line : Int) && y == (pos.col : Int)) = true then some z else codeAmong pos (rest ++ [rawInt a, rawInt b, c])) = none
    have hn' : (if (x == (pos.line : Int) && y == (pos.col : Int)) = true then some z else codeAmong pos rest) = none := hn
    by_cases q : (x == (pos.line : Int) && y == (pos.col : Int)) = true
    · rw [if_pos q] at hn'; exact nomatch hn'
    · rw [if_neg q] at hn' ⊢
      exact ih h hn'
  | case3 l h1 h2 => exact h.elim
theorem TabOk.push {n : Nat} {ps : Array Value} (T : TabOk n ps) {pos : Pos} (hn : n ≤ pos.line) (c : Value) : TabOk (pos.line + 1) (ps ++ #[rawInt pos.line, rawInt pos.col, c]) := by
  refine ⟨?_, fun p hp => ?_⟩
  · rw [Array.toList_append]; exact TriplesOk_snoc _ _ _ _ T.1
  · rw [Array.toList_append]
    exact among_none (beq_eq_false_iff_ne.mpr (by omega)) _ T.1 (T.2 p (by omega))
section
variable {M : Model} {A : Around} {E : Value → Shared → Prop} {s : Shared} {h₀ : Heap} {L a : Addr} {m mg mb : Str → Option Value} {cn : Str} {cs : Scope} {cl : List (Str × Addr)} {c1 c2 c3 c4 : Obj} {rest : List (Addr × Obj)}
  {p : Program} {loose : List Str} {mean : ExcName → Option Value} {params : Arguments} {body : PySem.Expr} {scope : Scope} {ps : Array Value} {pos : Pos} {clos : List (Str × Addr)} {n : Nat}
/-- what a code object must bear -/
def CodeBears (qual : Str) (oc : Obj) : Prop := ∃ vs t, oc.data = .fields vs ∧ vs[1]? = some (.str qual t)
/-- a lambda is made; its code is new -/
theorem lam_led {Q : Value → Shared → Prop} (F : Fr h₀ L s.heap m) (N : News h₀ L s.heap (led L c1 c2 c3 c4 (tabObj ps) rest)) (O : Off L rest) (lt : @LT.lt Nat _ 901 L) (T : Top p loose mean mg mb h₀) (C : CodeHd h₀ 903 901) (TO : TabOk n ps) (hn : n ≤ pos.line)
    (hcl : closureFor scope (envX cn cs L a (.ref 903) cl) = pure clos) (hdef : defaultsOf params (envX cn cs L a (.ref 903) cl) = ([], []))
    (h : ∀ f c' ctv pm oc h' tk rest2, Fr h₀ L h' m → News h₀ L h' (led L c1 c2 c3 c4 (tabObj (ps ++ #[rawInt pos.line, rawInt pos.col, .ref c'])) rest2) → Off L rest2 → (∀ q ∈ rest, q ∈ rest2) → TabOk (pos.line + 1) (ps ++ #[rawInt pos.line, rawInt pos.col, .ref c']) →
      ((c', oc) ∈ rest2 ∧ codeAmong pos (ps ++ #[rawInt pos.line, rawInt pos.col, .ref c']).toList = some (.ref c') ∧ ∀ q ∈ rest, @Ne Nat q.1 c') → CodeBears ((envX cn cs L a (.ref 903) cl).qual ++ "<lambda>") oc → LamAt f "<lambda>" ((envX cn cs L a (.ref 903) cl).qual ++ "<lambda>") params body scope clos pm c' ctv h' → Q (.ref f) { s with heap := h', toks := tk }) :
    wpAny M A (eval (.Lambda params body scope pos) (envX cn cs L a (.ref 903) cl)) Q E s := by
  have U : UpdF 901 (tabObj ps) (led L c1 c2 c3 c4 (tabObj ps) rest) (fun o' => led L c1 c2 c3 c4 o' rest) :=
    .tail (show @Ne Nat (L + 1 + 1 + 1 + 1) 901 by omega) (.tail (show @Ne Nat (L + 1 + 1 + 1) 901 by omega) (.tail (show @Ne Nat (L + 1 + 1) 901 by omega) (.tail (show @Ne Nat (L + 1) 901 by omega) (.head O.o0))))
  refine kla_eval hdef (kla_nest F N T C rfl U TO.1 (TO.2 pos hn) hcl ?_)
  intro f c' oc vs t ctv h' tk F' N' hd hv hlt hcf
  have hc : ∀ q ∈ led L c1 c2 c3 c4 (tabObj ps) rest, @LT.lt Nat _ q.1 c' := hlt
  have hcf' : @LT.lt Nat _ c' f := hcf
  have g4 : @LT.lt Nat _ (L + 1 + 1 + 1 + 1) c' := hc (L + 1 + 1 + 1 + 1, c4) (by simp)
  have ne : ∀ d : Nat, @LE.le Nat _ c' d → @Ne Nat (L + 1 + 1 + 1 + 1) d ∧ @Ne Nat (L + 1 + 1 + 1) d ∧ @Ne Nat (L + 1 + 1) d ∧ @Ne Nat (L + 1) d ∧ @Ne Nat 901 d := fun d hd => by omega
  refine h f c' ctv _ oc h' tk ((f, kla_obj (Str.ofString "<lambda>") ((envX cn cs L a (.ref 903) cl).qual ++ Str.ofString "<lambda>") params body scope clos ((mg (Str.ofString "__name__")).getD Value.none) c' ctv) :: (c', oc) :: rest) F' (cb_drop N' (led_mem (fun q hq => ?_) fun q hq => List.mem_cons_of_mem _ (List.mem_cons_of_mem _ (led_nil hq)))) ((O.push (ne c' (Nat.le_refl _))).push (ne f (Nat.le_of_lt hcf'))) (fun q hq => List.mem_cons_of_mem _ (List.mem_cons_of_mem _ hq)) (TO.push hn _) ⟨List.mem_cons_of_mem _ List.mem_cons_self, by rw [Array.toList_append]; exact codeAmong_snoc _ TO.1 (TO.2 pos hn), fun q hq => Nat.ne_of_lt (hc q (led_rest hq))⟩ ⟨vs, t, hd, hv⟩
    ⟨(N' _ List.mem_cons_self).1, ⟨c', oc, vs, t, rfl, (N' _ (List.mem_cons_of_mem _ List.mem_cons_self)).1, hd, hv⟩⟩
  rcases List.mem_cons.mp hq with rfl | hq
  · exact List.mem_cons_self
  · rcases List.mem_cons.mp hq with rfl | hq
    · exact List.mem_cons_of_mem _ List.mem_cons_self
    · exact List.mem_cons_of_mem _ (List.mem_cons_of_mem _ (led_rest hq))
/-- a lambda is made anew, of a code that is there -/
theorem lam_hit {Q : Value → Shared → Prop} {c' : Addr} {oc : Obj} (F : Fr h₀ L s.heap m) (N : News h₀ L s.heap (led L c1 c2 c3 c4 (tabObj ps) rest)) (O : Off L rest) (lt : @LT.lt Nat _ 901 L) (T : Top p loose mean mg mb h₀) (C : CodeHd h₀ 903 901) (ht : TriplesOk ps.toList) (hf : codeAmong pos ps.toList = some (.ref c'))
    (hm : (c', oc) ∈ rest) (hb : CodeBears ((envX cn cs L a (.ref 903) cl).qual ++ "<lambda>") oc)
    (hcl : closureFor scope (envX cn cs L a (.ref 903) cl) = pure clos) (hdef : defaultsOf params (envX cn cs L a (.ref 903) cl) = ([], []))
    (h : ∀ f ctv pm h' tk rest2, Fr h₀ L h' m → News h₀ L h' (led L c1 c2 c3 c4 (tabObj ps) rest2) → Off L rest2 → (∀ q ∈ rest, q ∈ rest2) →
      LamAt f "<lambda>" ((envX cn cs L a (.ref 903) cl).qual ++ "<lambda>") params body scope clos pm c' ctv h' → Q (.ref f) { s with heap := h', toks := tk }) :
    wpAny M A (eval (.Lambda params body scope pos) (envX cn cs L a (.ref 903) cl)) Q E s := by
  obtain ⟨vs, t, hd, hv⟩ := hb
  refine kla_eval hdef (kla_hit F N T C rfl led_tab ht hf hcl ?_)
  intro f ctv h' tk F' N' hlt
  have hc : ∀ q ∈ led L c1 c2 c3 c4 (tabObj ps) rest, @LT.lt Nat _ q.1 f := hlt
  have g4 : @LT.lt Nat _ (L + 1 + 1 + 1 + 1) f := hc (L + 1 + 1 + 1 + 1, c4) (by simp)
  have ne : @Ne Nat (L + 1 + 1 + 1 + 1) f ∧ @Ne Nat (L + 1 + 1 + 1) f ∧ @Ne Nat (L + 1 + 1) f ∧ @Ne Nat (L + 1) f ∧ @Ne Nat 901 f := by omega
  refine h f ctv _ h' tk ((f, kla_obj (Str.ofString "<lambda>") ((envX cn cs L a (.ref 903) cl).qual ++ Str.ofString "<lambda>") params body scope clos ((mg (Str.ofString "__name__")).getD Value.none) c' ctv) :: rest) F' (cb_drop N' (led_mem (fun q hq => ?_) fun q hq => List.mem_cons_of_mem _ (led_nil hq))) (O.push ne) (fun q hq => List.mem_cons_of_mem _ hq)
    ⟨(N' _ List.mem_cons_self).1, ⟨c', oc, vs, t, rfl, (N' _ (List.mem_cons_of_mem _ (led_rest hm))).1, hd, hv⟩⟩
  rcases List.mem_cons.mp hq with rfl | hq
  · exact List.mem_cons_self
  · exact List.mem_cons_of_mem _ (led_rest hq)
end
end
section
theorem topP35 : True := by
  w_top off
  trivial
/-- a filled step, as a number -/
def fillI (n : Int) (b : Nat) : Stp → Int
  | .non => n
  | .num k => k
  | .set l => l.getD b 0
theorem filled_ints {P : Addr → Obj → Prop} {n : Int} {b : Nat} : ∀ {ds : List Stp} {ws : List Value}, StAll P ws (ds.map (fillStep (.num n) b)) → IntsAre ws (ds.map (fillI n b))
  | [], _, h => by cases h; exact .nil
  | d :: ds, _, h => by
    cases h with
    | cons hv ht =>
      rename_i v ws
      have key : ∃ t, v = Value.int (fillI n b d) t := by
        cases d with
        | non => exact hv
        | num k => exact hv
        | set l => exact hv
      obtain ⟨t, rfl⟩ := key
      exact .cons _ _ (filled_ints ht)
theorem fill_dat {n : Int} {b : Nat} (ds : List Stp) : (ds.map (fillI n b)).map Dat.int = (ds.map (fillStep (.num n) b)).map Stp.dat := by
  rw [List.map_map, List.map_map]
  refine List.map_congr_left fun d _ => ?_
  cases d <;> rfl
/-- the number's and the branch's place, told from what was put in -/
theorem krun_fill (n : Int) (b : Nat) (hb : b < 2) : ∀ (ds : List Stp) (st : Option Int × Int), (∀ d ∈ ds, d.ok) → (∀ l, Stp.set l ∈ ds → l.idxOf (l.getD b 0) = b) →
    krun ds (ds.map (fillI n b)) st = some (if ds.any Stp.isNon = true then some n else st.1, if ds.any Stp.isSet = true then (b : Int) else st.2)
  | [], st, _, _ => rfl
  | d :: ds, st, hok, hd => by
    have ih := fun st => krun_fill n b hb ds st (fun e he => hok e (List.mem_cons_of_mem _ he)) (fun l hl => hd l (List.mem_cons_of_mem _ hl))
    show (kstep st d (fillI n b d)).bind (krun ds (ds.map (fillI n b))) = _
    cases d with
    | non =>
      show krun ds (ds.map (fillI n b)) (some n, st.2) = _
      rw [ih]
      simp [Stp.isNon, Stp.isSet]
    | num k =>
      have e : kstep st (.num k) (fillI n b (.num k)) = some st := if_pos rfl
      rw [e]
      show krun ds (ds.map (fillI n b)) st = _
      rw [ih]
      simp [Stp.isNon, Stp.isSet]
    | set l =>
      have hl := (hok _ List.mem_cons_self).1
      have hm : (l.any fun x => x == l.getD b 0) = true := by
        refine List.any_eq_true.mpr ⟨l.getD b 0, ?_, beq_self_eq_true _⟩
        have hbl : b < l.length := by omega
        rw [List.getD_eq_getElem?_getD, List.getElem?_eq_getElem hbl]
        exact List.getElem_mem hbl
      have e : kstep st (.set l) (fillI n b (.set l)) = some (st.1, (b : Int)) := by
        show (if (l.any fun x => x == l.getD b 0) = true then some (st.1, (l.idxOf (l.getD b 0) : Int)) else none) = _
        rw [if_pos hm, hd l List.mem_cons_self]
      rw [e]
      show krun ds (ds.map (fillI n b)) (st.1, (b : Int)) = _
      rw [ih]
      simp only [List.any_cons, Stp.isNon, Stp.isSet, Bool.false_or, Bool.true_or, if_true]
      cases ds.any Stp.isSet <;> rfl
theorem known_fill {n : Int} {b : Nat} (hb : b < 2) {ds : List Stp} (hok : ∀ d ∈ ds, d.ok) (hd : ∀ l, Stp.set l ∈ ds → l.idxOf (l.getD b 0) = b) (hn : ds.any Stp.isNon = true) :
    known ds (ds.map (fillI n b)) = some (n, if ds.any Stp.isSet = true then (b : Int) else 0) := by
  unfold known
  rw [if_pos (by rw [List.length_map]), krun_fill n b hb ds _ hok hd, hn]
  rfl
/-- a list all of whose items a set of it keeps: an item's first place is its own -/
theorem first_at {l : List Int} (hl : l.length = 2 ∨ l.length = 3) (h : (firstMet (fun i => l.getD i 0) l.length).length = l.length) {b : Nat} (hb : b < 2) : l.idxOf (l.getD b 0) = b := by
  have nd : ∀ a c : Int, ∀ r : List Int, l = a :: c :: r → a ≠ c := by
    intro a c r e z
    subst z
    rcases hl with h2 | h3
    · have hr : r = [] := List.length_eq_zero_iff.mp (by rw [e] at h2; simpa using h2)
      subst hr; subst e
      have : (firstMet (fun i => [a, a].getD i 0) [a, a].length).length = 1 := by
        simp [firstMet, step_dedup, List.range, List.range.loop]
      rw [this] at h; simp at h
    · cases r with
      | nil => rw [e] at h3; simp at h3
      | cons x r =>
        have hr : r = [] := List.length_eq_zero_iff.mp (by rw [e] at h3; simpa using h3)
        subst hr; subst e
        have : (firstMet (fun i => [a, a, x].getD i 0) [a, a, x].length).length ≤ 2 := by
          simp [firstMet, step_dedup, List.range, List.range.loop]
          split <;> simp
        have h4 : [a, a, x].length = 3 := rfl
        omega
  match l, hl, nd with
  | [], hl, _ => simp at hl
  | [a], hl, _ => simp at hl
  | a :: c :: r, _, nd =>
    have hac := nd a c r rfl
    match b, hb with
    | 0, _ => simp [List.idxOf_cons]
    | 1, _ =>
      show (a :: c :: r).idxOf c = 1
      have : (a == c) = false := beq_eq_false_iff_ne.mpr hac
      simp [List.idxOf_cons, this]
section
variable {prog : Program} {w : World} {A : Around} {E : Value → Shared → Prop} {s : Shared} {h₀ : Heap} {L : Addr} {m : Str → Option Value} {news : List (Addr × Obj)}
/-- set(l) of a list of ints, wherever it lies -/
theorem newSet_any {l : Addr} {vs : List Value} {ns : List Int} {Q : Value → Shared → Prop} (F : Fr h₀ L s.heap m) (N : News h₀ L s.heap news) (hh : A.handled = none) (hl : s.heap.IsList l vs.toArray) (hi : IntsAre vs ns) (hb : ns.length ≤ 1000)
    (h : ∀ S h' (tk : Nat) o, Fr h₀ L h' m → News h₀ L h' ((S, o) :: news) → (∀ p ∈ news, p.1 < S) → o.SetObjOf (intKind prog w) (fun k' => (firstMet (fun i => ns.getD i 0) ns.length).any (· == k')) (firstMet (fun i => ns.getD i 0) ns.length).length → Q (.ref S) { s with heap := h', toks := tk }) :
    wpAny (model prog w) A (call (.type "set") [.ref l]) Q E s := by
  have hn : vs.toArray.size = ns.length := by rw [List.size_toArray, hi.length]
  have hL : L < s.heap.objs.size := F.ns.lt
  refine PySem.call_set_list (items := vs.toArray) (ns := ns) hh hl (by simpa using hi) (by rw [hn]; unfold scanBound; omega) fun h' tk hS hk => ?_
  rw [hn] at hS
  obtain ⟨o, ho, hso⟩ := hS.objOf
  refine h _ h' tk o ⟨F.ns.at' fun o' e => hk L o' hL e, fun b o' e => hk b o' (Heap.lt_size (F.keep b o' e)) (F.keep b o' e), F.above⟩ (fun p hp => ?_) (fun p hp => Heap.lt_size (N p hp).1) hso
  rcases List.mem_cons.mp hp with rfl | hp
  · refine ⟨ho, Nat.ne_of_gt hL, ?_⟩
    cases hq : h₀.get? s.heap.objs.size with
    | none => rfl
    | some o' => exact absurd (Heap.lt_size (F.keep _ _ hq)) (Nat.lt_irrefl _)
  · exact ⟨hk _ _ (Heap.lt_size (N p hp).1) (N p hp).1, (N p hp).2⟩
/-- len of such a set -/
theorem len_set {S : Addr} {o : Obj} {K : Int → Bool} {n : Nat} {Q : Value → Shared → Prop} (N : News h₀ L s.heap news) (hm : (S, o) ∈ news) (hso : o.SetObjOf (intKind prog w) K n) (hfit : n ≤ 1000)
    (h : Q (.int n (s.toks + 1)) { s with toks := s.toks + 1 + 1 }) : wpAny (model prog w) A (call (.builtin "len") [.ref S]) Q E s :=
  len_sl1 (own := []) (rest := []) (cb_drop N (fun p hp => by rw [List.mem_singleton.mp hp]; exact hm)) hso (by omega) h
theorem rd_tup2 {h : Heap} {T : Addr} {a b : Int} {t u : Tok} {k : Nat} (e : h.get? T = some { cls := .type "tuple", data := .seq #[.int a t, .int b u] k }) : Rd h (.ref T) (.tuple [.int a, .int b]) :=
  ⟨_, reads_tuple_at e rfl rfl (.cons (.int a t) (.cons (.int b u) .nil))⟩
/-- two answers that are the same -/
theorem ne_kn {r1 r2 : Value} {o : Option (Int × Int)} {n1 n2 : List (Addr × Obj)} {Q : Value → Shared → Prop} (N : News h₀ L s.heap news) (k1 : KnV n1 r1 o) (s1 : ∀ p ∈ n1, p ∈ news) (k2 : KnV n2 r2 o) (s2 : ∀ p ∈ n2, p ∈ news) (hu : A.units + 64 < cLine) (h : Q (.bool false) s) :
    wpAny (model prog w) A (compareOp .NotEq r1 r2) Q E s := by
  cases o with
  | none =>
    have e1 : r1 = .none := k1
    have e2 : r2 = .none := k2
    subst e1 e2
    exact ne_rd true rd_none rd_none rfl rfl ⟨fun _ => rfl, fun _ => rfl⟩ hu h
  | some p =>
    obtain ⟨a, b⟩ := p
    obtain ⟨T1, t1, t2, q1, rfl, hm1⟩ := k1
    obtain ⟨T2, t3, t4, q2, rfl, hm2⟩ := k2
    exact ne_rd true (rd_tup2 (N _ (s1 _ hm1)).1) (rd_tup2 (N _ (s2 _ hm2)).1) rfl rfl ⟨fun _ => rfl, fun _ => rfl⟩ hu h
end
end
section
theorem topP57 : True := by
  w_top off
  trivial
local macro_rules | `(tactic| k_all) => `(tactic| first | exact Off.o0 (by with_reducible assumption) | exact Off.o1 (by with_reducible assumption) | exact Off.o2 (by with_reducible assumption) | exact Off.o3 (by with_reducible assumption) | exact Off.o4 (by with_reducible assumption))
local macro_rules | `(tactic| walk_at "truthy ref") => `(tactic| refine hold ?_)
local macro_rules | `(tactic| walk_at "eval Lambda") => `(tactic| refine hold ?_)
local macro_rules | `(tactic| walk_at "eval Name") => `(tactic| (k_here; k_dflt (refine' nameX_G ?F ?c ?m ?d ?_ ?hk ?hx ?hb ?hn; (case F => k_asm); (case c => rfl); (case hk => rfl); (case hx => rfl); (case m => with_reducible assumption); (case d => with_reducible assumption); (case hb => decide); (case hn => decide); k_whole)))
local macro_rules | `(tactic| walk_at "enterL") => `(tactic| (k_dflt (refine' enterL (binds := []) ?k1 ?k2 ?k3 ?k4 ?k5 ?kA ?kF ?kK ?k6 ?k7 ?k8 ?k9 ?kB ?_ ?c2 ?c3 ?c4 ?c5; (case kA => exact rfl); (case kF => exact rfl); (case kK => assumption); (case k1 => k_asm); (case k2 => k_asm); (case k3 => k_asm); (case k4 => k_asm); (case k5 => k_asm); (case k6 => with_reducible assumption); (case k7 => with_reducible assumption); (case k8 => ktr_room); (case k9 => exact rfl); (case c5 => decide); (case kB => exact (fun _ h => nomatch h)); (case c2 => exact rfl); (case c3 => exact rfl); (case c4 => exact rfl); k_whole; intro L' h' F' N' B' X' T'; (try dsimp only); (try k_fold))))
local macro_rules | `(tactic| k_inst) => `(tactic| (refine' inst_base ?N ?h1 ?h2; (case N => k_asm); (case h1 => with_reducible assumption); (case h2 => with_reducible assumption)))
local macro_rules | `(tactic| walk_at "call builtin:len") => `(tactic| (k_here; (with_reducible show wpAny _ _ (call _ [Value.ref _]) _ _ _); k_dflt (refine' len_base ?k1 ?k2 ?k3 ?_; (case k1 => k_asm); (case k2 => with_reducible assumption); (case k3 => omega); k_whole)))
local macro_rules | `(tactic| walk_at "subscriptTail") => `(tactic| (k_here; (with_reducible show wpAny _ _ (subscriptTail _ _ (Value.ref _) (Value.int _ _)) _ _ _); k_dflt (refine' sub_base (i := 0) ?k1 ?k2 ?k3 ?k4 ?k5 ?_ ?k6; (case k1 => k_asm); (case k2 => with_reducible assumption); (case k3 => exact rfl); (case k4 => exact rfl); (case k5 => decide); (case k6 => with_unfolding_all rfl); k_whole)))
theorem ObjH.mono {w : World} {h h' : Heap} (k : ∀ b o, h.get? b = some o → h'.get? b = some o) {x dx : Addr} {t : Tok} {l : Addr} {vs : List Value} {n : Nat} {ds : List Stp} (o : ObjH w h x dx t l vs n ds) : ObjH w h' x dx t l vs n ds :=
  ⟨k _ _ o.1, k _ _ o.2.1, k _ _ o.2.2.1, o.2.2.2.mono fun a o e => k a o e⟩
set_option maxHeartbeats 0 in
theorem law_H {w : World} {L fa : Addr} {mean : ExcName → Option Value} {mg mb : Str → Option Value} {h₀ : Heap} {s : Shared} {Q : Flow → Shared → Prop} {E : Value → Shared → Prop} (G : LawG w L fa mean mg mb h₀) (hE : PassesOwn (model PR w) (lawA L fa) (lawEnv L fa) E)
    (ds : List Stp) (hW : WF ds) (m : Str → Option Value) (F : Fr h₀ L s.heap m)
    (rest : List (Addr × Obj)) (c1 c2 c3 c4 : Obj) (ps : Array Value) (TO : TabOk 715 ps) (N : News h₀ L s.heap (led L c1 c2 c3 c4 (tabObj ps) rest))
    (x : Addr) (d4 : c4.data = .cell (some (.ref x))) (O : Off L rest) (hob : ObjL (InL rest) w (.ref x) ds) (hQ : LawQ h₀ L Q s) :
    wpAny (model PR w) (lawA L fa) (execs (lawBody.drop 15) (lawEnv L fa)) Q E s := by
  obtain ⟨B, X, T, C, lt0⟩ := G
  have lt : @LT.lt Nat _ 901 L := lt0
  obtain ⟨x', dx, tx, l2, vs2, k2, ex, hx, hdx, hl2, hst2⟩ := hob
  obtain rfl : x = x' := by injection ex
  refine law_at (l' := _ :: _) (cs := ⟨_, _ :: _, _, _, _⟩) rfl rfl ?_
  k_steps
  refine' Hold.go (lam_led ?F ?N O lt T C TO (by decide) ?hcl ?hdef ?_)
  case F => k_asm
  case N => k_asm
  case hcl => exact rfl
  case hdef => exact rfl
  intro f1 c1' ctv1 pm1 oc1 h1 tk1 rest1 F1 N1 O1 up1 TO1 hmc1 hbc1 hlam1
  k_steps
  refine' Hold.go (ctr_call (refuse_lam 40 (fun h => h.get? (L + 1 + 1 + 1 + 1) = some c4 ∧ ObjH w h x dx tx l2 vs2 k2 ds) (fun h h' k e => ⟨k _ _ e.1, e.2.mono k⟩) hlam1 ?hEx ?Z ?k1 ?k2 ?k3 ?k4 ?k5 ?k6 ?k7 ?k8 ?k9 ?k10 ?_))
  case k1 => k_asm
  case k2 => k_asm
  case k3 => k_asm
  case k4 => k_asm
  case k5 => k_asm
  case k6 => exact X
  case k7 => exact T
  case k8 => exact rfl
  case k9 => ktr_room
  case k10 => ktr_units
  case hEx => exact ⟨(N1 _ List.mem_cons_self).1, objH_of N1 (fun p hp => led_rest (up1 p hp)) hx hdx hl2 hst2⟩
  case Z =>
      intro mean mg mb dp un gd cn cs a ccd cl outer A₀ base h₀ L' m news s Q E B F X N T hk hdp hu hpre hret
      obtain ⟨⟨hz1, hz2⟩, hz3, hz7⟩ := hpre
      have hz8 := hz7
      obtain ⟨hz9, hz10, hz11, hz12⟩ := hz7
      walk_at "enterL"
      k_steps
      refine' Hold.go (ctr_call (RCtr.use (fill_raise x dx tx l2 vs2 k2 ds (-1) _ (by decide)) ?k1 ?k2 ?k3 ?k4 ?k5 ?k6 ?k7 ?k8 (ObjH.keep (by k_asm) hz8) ?_))
      case k1 => k_asm
      case k2 => k_asm
      case k3 => k_asm
      case k4 => k_asm
      case k5 => k_asm
      case k6 => exact rfl
      case k7 => ktr_room
      case k8 => ktr_units
      intro e t9 vs9 h9 tk9 R9 U9
      refine leave_onX (by k_asm) (by k_asm) R9 U9 rfl ?_
      intro h'' R'' U''
      exact hret _ _ _ _ _ R'' U''
  intro g1 tg1 Fg1 Ng1
  k_steps
  refine' Hold.go (lam_led ?F ?N O1 lt T C TO1 (by decide) ?hcl ?hdef ?_)
  case F => k_asm
  case N => k_asm
  case hcl => exact rfl
  case hdef => exact rfl
  intro f2 c2' ctv2 pm2 oc2 h2 tk2 rest2 F2 N2 O2 up2 TO2 hmc2 hbc2 hlam2
  k_steps
  refine' Hold.go (ctr_call (refuse_lam 40 (fun h => h.get? (L + 1 + 1 + 1 + 1) = some c4 ∧ ObjH w h x dx tx l2 vs2 k2 ds) (fun h h' k e => ⟨k _ _ e.1, e.2.mono k⟩) hlam2 ?hEx ?Z ?k1 ?k2 ?k3 ?k4 ?k5 ?k6 ?k7 ?k8 ?k9 ?k10 ?_))
  case k1 => k_asm
  case k2 => k_asm
  case k3 => k_asm
  case k4 => k_asm
  case k5 => k_asm
  case k6 => exact X
  case k7 => exact T
  case k8 => exact rfl
  case k9 => ktr_room
  case k10 => ktr_units
  case hEx => exact ⟨(N2 _ List.mem_cons_self).1, objH_of N2 (fun p hp => led_rest (up2 _ (up1 p hp))) hx hdx hl2 hst2⟩
  case Z =>
      intro mean mg mb dp un gd cn cs a ccd cl outer A₀ base h₀ L' m news s Q E B F X N T hk hdp hu hpre hret
      obtain ⟨⟨hz1, hz2⟩, hz3, hz7⟩ := hpre
      have hz8 := hz7
      obtain ⟨hz9, hz10, hz11, hz12⟩ := hz7
      walk_at "enterL"
      k_steps
      refine' Hold.go (ctr_call (RCtr.use (fill_raise2 x dx tx l2 vs2 k2 ds 2147483648 _ _ (by decide)) ?k1 ?k2 ?k3 ?k4 ?k5 ?k6 ?k7 ?k8 (ObjH.keep (by k_asm) hz8) ?_))
      case k1 => k_asm
      case k2 => k_asm
      case k3 => k_asm
      case k4 => k_asm
      case k5 => k_asm
      case k6 => exact rfl
      case k7 => ktr_room
      case k8 => ktr_units
      intro e t9 vs9 h9 tk9 R9 U9
      refine leave_onX (by k_asm) (by k_asm) R9 U9 rfl ?_
      intro h'' R'' U''
      exact hret _ _ _ _ _ R'' U''
  intro g2 tg2 Fg2 Ng2
  k_steps
  exact hQ _ _ _ _ _ Fg2 Ng2 led_tab
end
section
theorem topP58 : True := by
  w_top off
  trivial
theorem isList_led {h₀ h : Heap} {L ax : Addr} {kk : Nat} {vs : List Value} {news : List (Addr × Obj)} (N : News h₀ L h news) (hm : (ax, W.listOf (List.toArray vs) kk) ∈ news) : h.IsList ax vs.toArray := ⟨_, (N _ hm).1, rfl, _, rfl⟩
section
variable {prog : Program} {w : World} {A : Around} {E : Value → Shared → Prop} {s : Shared} {env : Env} {h₀ : Heap} {body : List Stmt} {Q : Flow → Shared → Prop} {x : Str} {px : Pos}
theorem any_loop {R : Result → Shared → Prop} {I ax : Addr} {kk : Nat} {vs : List Value} {m₀ : Str → Option Value} {news : List (Addr × Obj)} (hh : A.handled = none) (hIa : I ≠ ax) (hLI : env.locals ≠ I) (h0I : h₀.get? I = none) (hnw : ∀ p ∈ news, p.1 ≠ I)
    (hit : s.heap.IsListIter I ax 0) (F : Fr h₀ env.locals s.heap m₀) (N : News h₀ env.locals s.heap news)
    (J : Nat → (Str → Option Value) → List (Addr × Obj) → Prop) (hJm : ∀ i u nx, J i u nx → (ax, W.listOf (List.toArray vs) kk) ∈ nx) (hj : J 0 m₀ news)
    (turn : ∀ it i v u nx h tk, vs[i]? = some v → (∀ p ∈ nx, p.1 ≠ I) → J i u nx → Fr h₀ env.locals h u → News h₀ env.locals h ((I, it) :: nx) →
      wpAny (model prog w) A (assign (.Name x px) env v) (fun _ s₂ => wpAny (model prog w) A (execs body env) (UnrPost h₀ env.locals { s with heap := h, toks := tk } I it (fun m' nx' => J (i + 1) m' nx') (fun f s' => R (.ok f) s')) (notedBy (model prog w) A env fun e s' => R (.error e) s') s₂) (notedBy (model prog w) A env fun e s' => R (.error e) s') { s with heap := h, toks := tk })
    (done : ∀ u nx h tk, J vs.length u nx → Fr h₀ env.locals h u → News h₀ env.locals h nx → R (.ok .next) { s with heap := h, toks := tk }) :
    codeAny (model prog w) A (.forLoop (.Name x px) (.ref I) body [] env) R s := by
  have old : ∀ b o, h₀.get? b = some o → b ≠ I := fun b o z y => by rw [y, h0I] at z; exact nomatch z
  refine codeAny_forLoop_any
    (fun k s' => ∃ h' tk m' nx i, s' = { s with heap := h', toks := tk } ∧ h'.IsListIter I ax i ∧ Fr h₀ env.locals h' m' ∧ News h₀ env.locals h' nx ∧ (∀ p ∈ nx, p.1 ≠ I) ∧ J i m' nx ∧ i ≤ vs.length ∧ k = vs.length + 1 - i) ?_ (vs.length + 1)
    ⟨s.heap, s.toks, m₀, news, 0, rfl, hit, F, N, hnw, hj, Nat.zero_le _, rfl⟩
  rintro k s' ⟨h', tk, m', nx, i, rfl, hit', F', N', hnw', hJ, hi, rfl⟩
  have hl' : h'.IsList ax vs.toArray := isList_led N' (hJm i m' nx hJ)
  have W := Walks.list (prog := prog) (w := w) hh I ax hIa.symm vs.toArray
  have hsz : vs.toArray.size = vs.length := List.size_toArray
  have next : ∀ h₁ : Heap, (∀ b o, b ∉ [I] → h'.get? b = some o → h₁.get? b = some o) → Fr h₀ env.locals h₁ m' ∧ News h₀ env.locals h₁ nx := fun h₁ hk₁ =>
    ⟨⟨F'.ns.at' fun o z => hk₁ _ o (by simp [hLI]) z, fun b o z => hk₁ b o (by simp [old b o z]) (F'.keep b o z), F'.above⟩, fun p hp => ⟨hk₁ _ _ (by simp [hnw' p hp]) (N' p hp).1, (N' p hp).2⟩⟩
  by_cases hlt : i < vs.length
  · refine W.item i _ _ _ (by rw [hsz]; exact hlt) ⟨hit', hl'⟩ fun v h₁ tk₁ hP hst hk₁ => ?_
    refine wpAny_pure ?_
    obtain ⟨F₁, N₁⟩ := next h₁ hk₁
    obtain ⟨oi, hoi, hic, hid⟩ := hst.1
    have N₃ : News h₀ env.locals h₁ ((I, oi) :: nx) := fun p hp => by
      rcases List.mem_cons.mp hp with rfl | hp
      · exact ⟨hoi, fun z => hLI z.symm, h0I⟩
      · exact N₁ p hp
    have back : ∀ s₃, UnrEnd h₀ env.locals { s with heap := h₁, toks := tk₁ } I oi (fun m' nx' => J (i + 1) m' nx') s₃ → ∃ m, m < vs.length + 1 - i ∧ ∃ h' tk m' nx i, s₃ = { s with heap := h', toks := tk } ∧ h'.IsListIter I ax i ∧ Fr h₀ env.locals h' m' ∧ News h₀ env.locals h' nx ∧ (∀ p ∈ nx, p.1 ≠ I) ∧ J i m' nx ∧ i ≤ vs.length ∧ m = vs.length + 1 - i := by
      rintro s₃ ⟨h', tk, m', nx', rfl, F2, N2, ho, hJ'⟩
      exact ⟨vs.length + 1 - (i + 1), by omega, h', tk, m', nx', i + 1, rfl, ⟨oi, (N2 _ List.mem_cons_self).1, hic, hid⟩, F2, fun p hp => N2 p (List.mem_cons_of_mem _ hp), ho, hJ', hlt, rfl⟩
    refine wpAny_mono (turn oi i v m' nx h₁ tk₁ (by simpa using hP) hnw' hJ F₁ N₃) (fun _ s₂ h₂' => wpAny_mono h₂' (fun f s₃ h₃ => ?_) fun _ _ e => e) fun _ _ e => e
    cases f with
    | ret v => exact h₃
    | brk => exact h₃
    | cont => exact back s₃ h₃
    | next => exact back s₃ h₃
  · have hin : i = vs.length := by omega
    subst hin
    refine W.done _ _ _ ⟨by rw [hsz]; exact hit', hl'⟩ fun h₁ tk₁ hk₁ => wpAny_execs_nil ?_
    obtain ⟨F₁, N₁⟩ := next h₁ hk₁
    exact done m' nx h₁ tk₁ hJ F₁ N₁
/-- a loop over a list of the ledger, whose name may be a cell -/
theorem for_any {ax : Addr} {kk : Nat} {vs : List Value} {m₀ : Str → Option Value} {news : List (Addr × Obj)} (J : Nat → (Str → Option Value) → List (Addr × Obj) → Prop) (hh : A.handled = none) (F : Fr h₀ env.locals s.heap m₀) (N : News h₀ env.locals s.heap news)
    (hJm : ∀ i u nx, J i u nx → (ax, W.listOf (List.toArray vs) kk) ∈ nx) (hj : J 0 m₀ news) (hE : PassesOwn (model prog w) A env E)
    (turn : ∀ I it i v u nx h tk, vs[i]? = some v → (∀ p ∈ nx, p.1 ≠ I) → J i u nx → Fr h₀ env.locals h u → News h₀ env.locals h ((I, it) :: nx) →
      wpAny (model prog w) A (assign (.Name x px) env v) (fun _ s₂ => wpAny (model prog w) A (execs body env) (UnrPost h₀ env.locals { s with heap := h, toks := tk } I it (fun m' nx' => J (i + 1) m' nx') Q) E s₂) E { s with heap := h, toks := tk })
    (done : ∀ u nx h tk, J vs.length u nx → Fr h₀ env.locals h u → News h₀ env.locals h nx → Q .next { s with heap := h, toks := tk }) :
    wpAny (model prog w) A (pyIter (.ref ax)) (fun it s₂ => ELoop prog w A env (.Name x px) body Q E it s₂) E s := by
  have hax := N _ (hJm 0 m₀ news hj)
  have hl : s.heap.IsList ax vs.toArray := isList_led N (hJm 0 m₀ news hj)
  have hlt : ax < s.heap.objs.size := Heap.lt_size hax.1
  have hL : env.locals < s.heap.objs.size := F.ns.lt
  refine wpAny_pyIter_list hl ?_
  exact any_loop (R := fun r s' => match r with | .ok f => Q f s' | .error e => cameBackBy (model prog w) A env E e s') hh (Nat.ne_of_gt hlt) (Nat.ne_of_lt hL) (next_is_new F) (fun p hp => Nat.ne_of_lt (Heap.lt_size (N p hp).1)) ⟨_, Heap.get?_push_size _ rfl, rfl, rfl⟩ (F.push _) (fun p hp => ⟨Heap.get?_push_of_some _ (N p hp).1, (N p hp).2⟩) J hJm hj
    (fun it i v u nx h tk a b c d e => wpAny_mono (turn _ it i v u nx h tk a b c d e) (fun _ _ z => wpAny_passesOwn hE z) hE) done
end
end
section
theorem topP56 : True := by
  w_top off
  trivial
local macro_rules | `(tactic| walk_at "pad") => `(tactic| fail "pad")
local macro_rules | `(tactic| k_all) => `(tactic| first | exact Off.o0 (by with_reducible assumption) | exact Off.o1 (by with_reducible assumption) | exact Off.o2 (by with_reducible assumption) | exact Off.o3 (by with_reducible assumption) | exact Off.o4 (by with_reducible assumption))
local macro_rules | `(tactic| walk_at "truthy ref") => `(tactic| refine hold ?_)
local macro_rules | `(tactic| walk_at "eval Lambda") => `(tactic| refine hold ?_)
local macro_rules | `(tactic| walk_at "eval Name") => `(tactic| (k_here; k_dflt (refine' nameX_G ?F ?c ?m ?d ?_ ?hk ?hx ?hb ?hn; (case F => k_asm); (case c => rfl); (case hk => rfl); (case hx => rfl); (case m => with_reducible assumption); (case d => with_reducible assumption); (case hb => decide); (case hn => decide); k_whole)))
local macro_rules | `(tactic| walk_at "enterL") => `(tactic| (k_dflt (refine' enterL (binds := []) ?k1 ?k2 ?k3 ?k4 ?k5 ?kA ?kF ?kK ?k6 ?k7 ?k8 ?k9 ?kB ?_ ?c2 ?c3 ?c4 ?c5; (case kA => exact rfl); (case kF => exact rfl); (case kK => assumption); (case k1 => k_asm); (case k2 => k_asm); (case k3 => k_asm); (case k4 => k_asm); (case k5 => k_asm); (case k6 => with_reducible assumption); (case k7 => with_reducible assumption); (case k8 => ktr_room); (case k9 => exact rfl); (case c5 => decide); (case kB => exact (fun _ h => nomatch h)); (case c2 => exact rfl); (case c3 => exact rfl); (case c4 => exact rfl); k_whole; intro L' h' F' N' B' X' T'; (try dsimp only); (try k_fold))))
local macro_rules | `(tactic| walk_at "UnrEnd") => `(tactic| refine hold ?_)
local macro_rules | `(tactic| walk_at "exec For Name List cons nil") => `(tactic| (k_here; (with_reducible refine' For_E ?k0 ?_ ?k1); (case k0 => k_asm); (case k1 => (intro _; k_dflt (exact rfl))); k_whole))
theorem led_offI {L : Addr} {I : Nat} {c1 c2 c3 c4 ot : Obj} {rest : List (Addr × Obj)} (i4 : @Ne Nat (L + 1 + 1 + 1 + 1) I) (i3 : @Ne Nat (L + 1 + 1 + 1) I) (i2 : @Ne Nat (L + 1 + 1) I) (i1 : @Ne Nat (L + 1) I) (i0 : @Ne Nat 901 I) (hr : ∀ p ∈ rest, p.1 ≠ I) : ∀ p ∈ led L c1 c2 c3 c4 ot rest, p.1 ≠ I := by
  intro p hp
  simp only [List.mem_cons] at hp
  rcases hp with h | h | h | h | h | h
  · rw [h]; exact i4
  · rw [h]; exact i3
  · rw [h]; exact i2
  · rw [h]; exact i1
  · rw [h]; exact i0
  · exact hr p h
set_option maxHeartbeats 0 in
theorem law_G {w : World} {L fa : Addr} {mean : ExcName → Option Value} {mg mb : Str → Option Value} {h₀ : Heap} {s : Shared} {Q : Flow → Shared → Prop} {E : Value → Shared → Prop} (G : LawG w L fa mean mg mb h₀) (hE : PassesOwn (model PR w) (lawA L fa) (lawEnv L fa) E)
    (ds : List Stp) (hW : WF ds) (h0 : ds ≠ []) (m : Str → Option Value) (F : Fr h₀ L s.heap m)
    (rest : List (Addr × Obj)) (c1 c2 c3 c4 : Obj) (ps : Array Value) (TO : TabOk 710 ps) (N : News h₀ L s.heap (led L c1 c2 c3 c4 (tabObj ps) rest))
    (d1 : c1.data = .cell none) (tt : Tok) (d3 : c3.data = .cell (some (.str (text 0 ds) tt))) (x : Addr) (d4 : c4.data = .cell (some (.ref x))) (O : Off L rest)
    (hob : ObjL (InL rest) w (.ref x) ds) (hQ : LawQ h₀ L Q s) :
    wpAny (model PR w) (lawA L fa) (execs (lawBody.drop 14) (lawEnv L fa)) Q E s := by
  have hG := G
  obtain ⟨B, X, T, C, lt0⟩ := G
  have lt : @LT.lt Nat _ 901 L := lt0
  have htl := text_len 0 hW.ok hW.len
  with_reducible refine' law_cut1 (rest := lawBody.drop 15) (cs := ⟨_, _ :: _, _, _, _⟩) ?e1 ?e2 hE ?_
  case e1 => exact rfl
  case e2 => exact rfl
  intro r15 e15 hE15
  k_steps
  rename_i D1 _ F1 N1 l1
  generalize hvs : ([Value.str (Str.ofString "2147483648h") _, Value.str _ _, Value.str _ _, Value.str _ _, Value.str _ _, Value.str _ _, Value.str _ _, Value.str _ _, Value.str _ _, Value.str _ _] : List Value) = vs at N1
  have hstr : ∀ (i : Nat) v, vs[i]? = some v → ∃ y ty, v = Value.str y ty ∧ y ∈ bads ds := by
    intro i v hv
    rw [← hvs] at hv
    match i, hv with
    | 0, hv => exact ⟨_, _, (Option.some.inj hv).symm, by unfold bads; simp⟩
    | 1, hv => exact ⟨_, _, (Option.some.inj hv).symm, by unfold bads; simp⟩
    | 2, hv => exact ⟨_, _, (Option.some.inj hv).symm, by unfold bads; simp⟩
    | 3, hv => exact ⟨_, _, (Option.some.inj hv).symm, by unfold bads; simp⟩
    | 4, hv => exact ⟨_, _, (Option.some.inj hv).symm, by unfold bads; simp⟩
    | 5, hv => exact ⟨_, _, (Option.some.inj hv).symm, by unfold bads; simp⟩
    | 6, hv => exact ⟨_, _, (Option.some.inj hv).symm, by unfold bads; simp⟩
    | 7, hv => exact ⟨_, _, (Option.some.inj hv).symm, by unfold bads; simp⟩
    | 8, hv => exact ⟨_, _, (Option.some.inj hv).symm, by unfold bads; simp⟩
    | 9, hv => exact ⟨_, _, (Option.some.inj hv).symm, by unfold bads; simp⟩
    | n + 10, hv => exact nomatch hv
  have hvl : vs.length = 10 := by rw [← hvs]; rfl
  clear hvs
  have O1 : Off L ((D1, W.listOf (List.toArray vs) 0) :: rest) := O.push ⟨Nat.ne_of_lt l1.1, Nat.ne_of_lt l1.2.1, Nat.ne_of_lt l1.2.2.1, Nat.ne_of_lt l1.2.2.2.1, Nat.ne_of_lt l1.2.2.2.2.1⟩
  have N2 := cb_drop (news := led L c1 c2 c3 c4 (tabObj ps) ((D1, W.listOf (List.toArray vs) 0) :: rest)) N1 (led_mem (fun p hp => by
    rcases List.mem_cons.mp hp with rfl | hp
    · exact List.mem_cons_self
    · exact List.mem_cons_of_mem _ (led_rest hp)) fun p hp => List.mem_cons_of_mem _ (led_nil hp))
  have up : ∀ p ∈ rest, p ∈ (D1, W.listOf (List.toArray vs) 0) :: rest := fun p hp => List.mem_cons_of_mem _ hp
  have hDm : (D1, W.listOf (List.toArray vs) 0) ∈ (D1, W.listOf (List.toArray vs) 0) :: rest := List.mem_cons_self
  clear N1 l1
  generalize (D1, W.listOf (List.toArray vs) 0) :: rest = rest1 at O1 N2 up hDm
  refine Hold.go (for_any (vs := vs) (kk := 0) (fun i u nx => u = m ∧ ∃ c1 ps rest2, nx = led L c1 c2 c3 c4 (tabObj ps) rest2 ∧ Off L rest2 ∧ (∀ p ∈ rest1, p ∈ rest2) ∧ (∃ v₀, c1.data = .cell v₀) ∧ TabOk 715 ps ∧ (TabOk 713 ps ∨ ∃ c' oc, codeAmong ⟨713, 0, 713, 63⟩ ps.toList = some (.ref c') ∧ (c', oc) ∈ rest2 ∧ CodeBears ((lawEnv L fa).qual ++ Str.ofString "<lambda>") oc)) (by rfl) F1 N2 ?_ ⟨rfl, c1, ps, rest1, rfl, O1, fun _ h => h, ⟨_, d1⟩, ⟨TO.1, fun p hp => TO.2 p (Nat.le_trans (by decide) hp)⟩, Or.inl ⟨TO.1, fun p hp => TO.2 p (Nat.le_trans (by decide) hp)⟩⟩ hE15 ?_ ?_)
  · rintro i u nx ⟨_, c1, ps, rest2, rfl, _, up2, _⟩
    exact led_rest (up2 _ hDm)
  · rintro I it i v u nx hT tkT hv hoff ⟨rfl, c1, ps, rest2, rfl, O2, up2, ⟨v₀, d1⟩, TO2, hcase⟩ F3 N3
    replace N3 : News h₀ L hT _ := N3
    replace F3 : Fr h₀ L hT _ := F3
    obtain ⟨y, ty, rfl, hy⟩ := hstr i v hv
    have hIn : ∀ d : Nat, (∃ o, (d, o) ∈ led L c1 c2 c3 c4 (tabObj ps) rest2) → @Ne Nat d I := fun d ⟨o, ho⟩ => hoff (d, o) ho
    have i4 := hIn (L + 1 + 1 + 1 + 1) ⟨c4, by simp⟩
    have i3 := hIn (L + 1 + 1 + 1) ⟨c3, by simp⟩
    have i2 := hIn (L + 1 + 1) ⟨c2, by simp⟩
    have i1 := hIn (L + 1) ⟨c1, by simp⟩
    have i0 := hIn 901 ⟨tabObj ps, led_tab⟩
    k_steps
    rename Obj.data _ = Data.cell (some (Value.str y ty)) => d1'
    rename Fr _ _ _ _ => F4
    rename News _ _ _ _ => N4
    rename_i o1
    have O5 : Off L ((I, it) :: rest2) := O2.push ⟨i4, i3, i2, i1, i0⟩
    have N5 := cb_drop (news := led L o1 c2 c3 c4 (tabObj ps) ((I, it) :: rest2)) N4 (led_mem (fun p hp => by
      rcases List.mem_cons.mp hp with rfl | hp
      · exact List.mem_cons_self
      · exact List.mem_cons_of_mem _ (led_rest (c1 := o1) hp)) fun p hp => List.mem_cons_of_mem _ (led_nil (c1 := o1) hp))
    rcases hcase with TO4 | ⟨c', oc, hca, hcm, hcb⟩
    · refine' Hold.go (lam_led F4 N5 O5 lt T C TO4 (by decide) ?hcl ?hdef ?_)
      case hcl => exact rfl
      case hdef => exact rfl
      intro f c' ctv pm oc h1 tk1 rest3 F1 N1 O1 up3 TO1 hmc hbc hlam
      obtain ⟨hmc, hca, hnc⟩ := hmc
      k_steps
      refine' Hold.go (ctr_call (refuse_lam 40 (fun h => h.get? (L + 1) = some o1) (fun h h' k e => k _ _ e) hlam ?hEx ?Z ?k1 ?k2 ?k3 ?k4 ?k5 ?k6 ?k7 ?k8 ?k9 ?k10 ?_))
      case k1 => k_asm
      case k2 => k_asm
      case k3 => k_asm
      case k4 => k_asm
      case k5 => k_asm
      case k6 => exact X
      case k7 => exact T
      case k8 => exact rfl
      case k9 => ktr_room
      case k10 => ktr_units
      case hEx => exact (N1 _ (List.mem_cons_of_mem _ (List.mem_cons_of_mem _ (List.mem_cons_of_mem _ List.mem_cons_self)))).1
      case Z =>
        intro mean mg mb dp un gd cn cs a ccd cl outer A₀ base h₀ L' m news s Q E B F X N T hk hdp hu hpre hret
        obtain ⟨⟨hz1, hz2⟩, hz3⟩ := hpre
        walk_at "enterL"
        k_steps
        all_goals (try k_data)
        refine' Hold.go (RCtr.use (bad_all ds h0 hW y hy _ _ (Or.inl ⟨rfl, rfl⟩)) ?k1 ?k2 ?k3 ?k4 ?k5 ?k6 ?k7 ?k8 trivial ?_)
        case k1 => k_asm
        case k2 => k_asm
        case k3 => k_asm
        case k4 => k_asm
        case k5 => k_asm
        case k6 => exact rfl
        case k7 => ktr_room
        case k8 => ktr_units
        intro e t9 vs9 h9 tk9 R9 U9
        refine leave_onX (by k_asm) (by k_asm) R9 U9 rfl ?_
        intro h'' R'' U''
        exact hret _ _ _ _ _ R'' U''
      intro h2 tk2 F2 N2
      k_steps
      refine Hold.go (led_end (led L o1 c2 c3 c4 (tabObj _) ((c', oc) :: rest2)) F2 N2 (fun p hp => ?_) (led_offI i4 i3 i2 i1 i0 fun p hp => ?_) ⟨rfl, o1, _, (c', oc) :: rest2, rfl, O1.sub fun p hp => ?_, fun p hp => List.mem_cons_of_mem _ (up2 p hp), ⟨_, d1'⟩, ⟨TO1.1, fun p hp => TO1.2 p (Nat.le_trans (by decide) hp)⟩, Or.inr ⟨c', oc, hca, List.mem_cons_self, hbc⟩⟩)
      · rcases List.mem_cons.mp hp with rfl | hp
        · exact led_rest (up3 _ List.mem_cons_self)
        · refine led_mem (fun p hp => ?_) (fun p hp => led_nil hp) p hp
          rcases List.mem_cons.mp hp with rfl | hp
          · exact led_rest hmc
          · exact led_rest (up3 _ (List.mem_cons_of_mem _ hp))
      · rcases List.mem_cons.mp hp with rfl | hp
        · exact fun e => hnc (I, it) List.mem_cons_self e.symm
        · exact hoff p (led_rest hp)
      · rcases List.mem_cons.mp hp with rfl | hp
        · exact hmc
        · exact up3 _ (List.mem_cons_of_mem _ hp)
    · refine' Hold.go (lam_hit F4 N5 O5 lt T C TO2.1 hca (List.mem_cons_of_mem _ hcm) hcb ?hcl ?hdef ?_)
      case hcl => exact rfl
      case hdef => exact rfl
      intro f ctv pm h1 tk1 rest3 F1 N1 O1 up3 hlam
      k_steps
      refine' Hold.go (ctr_call (refuse_lam 40 (fun h => h.get? (L + 1) = some o1) (fun h h' k e => k _ _ e) hlam ?hEx ?Z ?k1 ?k2 ?k3 ?k4 ?k5 ?k6 ?k7 ?k8 ?k9 ?k10 ?_))
      case k1 => k_asm
      case k2 => k_asm
      case k3 => k_asm
      case k4 => k_asm
      case k5 => k_asm
      case k6 => exact X
      case k7 => exact T
      case k8 => exact rfl
      case k9 => ktr_room
      case k10 => ktr_units
      case hEx => exact (N1 _ (List.mem_cons_of_mem _ (List.mem_cons_of_mem _ (List.mem_cons_of_mem _ List.mem_cons_self)))).1
      case Z =>
        intro mean mg mb dp un gd cn cs a ccd cl outer A₀ base h₀ L' m news s Q E B F X N T hk hdp hu hpre hret
        obtain ⟨⟨hz1, hz2⟩, hz3⟩ := hpre
        walk_at "enterL"
        k_steps
        all_goals (try k_data)
        refine' Hold.go (RCtr.use (bad_all ds h0 hW y hy _ _ (Or.inl ⟨rfl, rfl⟩)) ?k1 ?k2 ?k3 ?k4 ?k5 ?k6 ?k7 ?k8 trivial ?_)
        case k1 => k_asm
        case k2 => k_asm
        case k3 => k_asm
        case k4 => k_asm
        case k5 => k_asm
        case k6 => exact rfl
        case k7 => ktr_room
        case k8 => ktr_units
        intro e t9 vs9 h9 tk9 R9 U9
        refine leave_onX (by k_asm) (by k_asm) R9 U9 rfl ?_
        intro h'' R'' U''
        exact hret _ _ _ _ _ R'' U''
      intro h2 tk2 F2 N2
      k_steps
      refine Hold.go (led_end (led L o1 c2 c3 c4 (tabObj ps) rest2) F2 N2 (fun p hp => ?_) (led_offI i4 i3 i2 i1 i0 fun p hp => hoff p (led_rest hp)) ⟨rfl, o1, ps, rest2, rfl, O2, up2, ⟨_, d1'⟩, TO2, Or.inr ⟨c', oc, hca, hcm, hcb⟩⟩)
      rcases List.mem_cons.mp hp with rfl | hp
      · exact led_rest (up3 _ List.mem_cons_self)
      · exact led_mem (fun p hp => led_rest (up3 _ (List.mem_cons_of_mem _ hp))) (fun p hp => led_nil hp) p hp
  · rintro u nx h tk ⟨rfl, c1, ps, rest2, rfl, O2, up2, _, TO2, _⟩ F3 N3
    replace F3 : Fr h₀ L h _ := F3
    replace N3 : News h₀ L h _ := N3
    k_steps
    show wpAny _ _ (execs r15 _) _ _ _
    subst e15
    obtain ⟨x', dx, tx, l2, vs2, k2, e, q1, q2, q3, q4⟩ := hob
    exact law_H hG hE ds hW _ F3 rest2 c1 c2 c3 c4 ps TO2 N3 x d4 O2 ⟨x', dx, tx, l2, vs2, k2, e, up2 _ (up _ q1), up2 _ (up _ q2), up2 _ (up _ q3), q4.mono fun a o h => up2 _ (up (a, o) h)⟩ fun h' tk' m' ps nw F' N' hm => hQ h' tk' m' ps nw F' N' hm
end
section
theorem topP55 : True := by
  w_top off
  trivial
local macro_rules | `(tactic| walk_at "pad") => `(tactic| fail "pad")
local macro_rules | `(tactic| walk_at "pad") => `(tactic| fail "pad")
local macro_rules | `(tactic| k_all) => `(tactic| first | exact Off.o0 (by with_reducible assumption) | exact Off.o1 (by with_reducible assumption) | exact Off.o2 (by with_reducible assumption) | exact Off.o3 (by with_reducible assumption) | exact Off.o4 (by with_reducible assumption))
local macro_rules | `(tactic| walk_at "truthy ref") => `(tactic| refine hold ?_)
local macro_rules | `(tactic| walk_at "eval Lambda") => `(tactic| refine hold ?_)
local macro_rules | `(tactic| walk_at "eval Name") => `(tactic| (k_here; k_dflt (refine' nameX_G ?F ?c ?m ?d ?_ ?hk ?hx ?hb ?hn; (case F => k_asm); (case c => rfl); (case hk => rfl); (case hx => rfl); (case m => with_reducible assumption); (case d => with_reducible assumption); (case hb => decide); (case hn => decide); k_whole)))
local macro_rules | `(tactic| walk_at "enterL") => `(tactic| (k_dflt (refine' enterL (binds := []) ?k1 ?k2 ?k3 ?k4 ?k5 ?kA ?kF ?kK ?k6 ?k7 ?k8 ?k9 ?kB ?_ ?c2 ?c3 ?c4 ?c5; (case kA => exact rfl); (case kF => exact rfl); (case kK => assumption); (case k1 => k_asm); (case k2 => k_asm); (case k3 => k_asm); (case k4 => k_asm); (case k5 => k_asm); (case k6 => with_reducible assumption); (case k7 => with_reducible assumption); (case k8 => ktr_room); (case k9 => exact rfl); (case c5 => decide); (case kB => exact (fun _ h => nomatch h)); (case c2 => exact rfl); (case c3 => exact rfl); (case c4 => exact rfl); k_whole; intro L' h' F' N' B' X' T'; (try dsimp only); (try k_fold))))
local macro_rules | `(tactic| k_inst) => `(tactic| (refine' inst_base ?N ?h1 ?h2; (case N => k_asm); (case h1 => with_reducible assumption); (case h2 => with_reducible assumption)))
local macro_rules | `(tactic| walk_at "call builtin:len") => `(tactic| (k_here; (with_reducible show wpAny _ _ (call _ [Value.ref _]) _ _ _); k_dflt (refine' len_base ?k1 ?k2 ?k3 ?_; (case k1 => k_asm); (case k2 => with_reducible assumption); (case k3 => omega); k_whole)))
local macro_rules | `(tactic| walk_at "subscriptTail") => `(tactic| (k_here; (with_reducible show wpAny _ _ (subscriptTail _ _ (Value.ref _) (Value.int _ _)) _ _ _); k_dflt (refine' sub_base (i := 0) ?k1 ?k2 ?k3 ?k4 ?k5 ?_ ?k6; (case k1 => k_asm); (case k2 => with_reducible assumption); (case k3 => exact rfl); (case k4 => exact rfl); (case k5 => decide); (case k6 => with_unfolding_all rfl); k_whole)))
set_option maxHeartbeats 0 in
theorem law_F {w : World} {L fa : Addr} {mean : ExcName → Option Value} {mg mb : Str → Option Value} {h₀ : Heap} {s : Shared} {Q : Flow → Shared → Prop} {E : Value → Shared → Prop} (G : LawG w L fa mean mg mb h₀) (hE : PassesOwn (model PR w) (lawA L fa) (lawEnv L fa) E)
    (ds : List Stp) (hW : WF ds) (h0 : ds ≠ []) (m : Str → Option Value) (F : Fr h₀ L s.heap m)
    (rest : List (Addr × Obj)) (c1 c2 c3 c4 : Obj) (ps : Array Value) (TO : TabOk 700 ps) (N : News h₀ L s.heap (led L c1 c2 c3 c4 (tabObj ps) rest))
    (d1 : c1.data = .cell none) (lS : Addr) (d2 : c2.data = .cell (some (.ref lS))) (tt : Tok) (d3 : c3.data = .cell (some (.str (text 0 ds) tt))) (x : Addr) (d4 : c4.data = .cell (some (.ref x))) (O : Off L rest)
    (hob : ObjL (InL rest) w (.ref x) ds) (ss : List Value) (kS : Nat) (hS : (lS, W.listOf (List.toArray ss) kS) ∈ rest) (hss : StAll (InL rest) ss (ds.filter Stp.isSet)) (hQ : LawQ h₀ L Q s) :
    wpAny (model PR w) (lawA L fa) (execs (lawBody.drop 13) (lawEnv L fa)) Q E s := by
  have hG := G
  obtain ⟨B, X, T, C, lt0⟩ := G
  have lt : @LT.lt Nat _ 901 L := lt0
  have hob' := hob
  obtain ⟨x', dx, tx, l2, vs2, k2, ex, hx, hdx, hl2, hst2⟩ := hob
  obtain rfl : x = x' := by injection ex
  have hoH := objH_of N (fun p hp => led_rest hp) hx hdx hl2 hst2
  refine law_cut1 (rest := lawBody.drop 14) (cs := ⟨_, _ :: _, _, _, _⟩) rfl rfl hE ?_
  intro r14 e14 hE14
  cases hset : ds.any Stp.isSet with
  | false =>
    have hss' := hss
    rw [filter_none hset] at hss'
    cases hss'
    k_steps
    refine Hold.go (truthy_known false (News.isList (by k_asm) (led_rest hS)) (by simp) (by simp) ?_)
    intro k9
    k_steps
    show wpAny _ _ (execs r14 _) _ _ _
    subst e14
    show wpAny (model PR w) (lawA L fa) (execs (lawBody.drop 14) (lawEnv L fa)) Q E _
    have TOg : TabOk 710 ps := ⟨TO.1, fun p hp => TO.2 p (Nat.le_trans (by decide) hp)⟩
    with_reducible exact law_G hG hE ds hW h0 m (by assumption) rest c1 c2 c3 c4 ps TOg (by assumption) d1 tt d3 x d4 O hob' fun h' tk' m' ps nw F' N' hm => hQ h' tk' m' ps nw F' N' hm
  | true =>
    obtain ⟨d, hd, hds⟩ := List.any_eq_true.mp hset
    cases d with
    | non => exact nomatch hds
    | num _ => exact nomatch hds
    | set ls =>
    have hls := (hW.ok _ hd).1
    have hfo := filter_one hW hd rfl
    rw [hfo] at hss
    cases hss with
    | cons hs0 hs1 =>
    cases hs1
    obtain ⟨b2, bs2, kb2, rfl, hb2m, hbi2⟩ := hs0
    replace hb2m : (b2, W.listOf (List.toArray bs2) kb2) ∈ rest := hb2m
    have hbl2 := hbi2.length
    k_steps
    refine Hold.go (truthy_known true (News.isList (by k_asm) (led_rest hS)) (by simp) (by simp) ?_)
    intro k9
    k_steps
    refine' Hold.go (lam_led ?F ?N O lt T C TO (by decide) ?hcl ?hdef ?_)
    case F => k_asm
    case N => k_asm
    case hcl => exact rfl
    case hdef => exact rfl
    intro f c' ctv pm oc h1 tk1 rest2 F1 N1 O1 up TO1 hmc hbc hlam
    k_steps
    refine' Hold.go (ctr_call (refuse_lam 40 (fun h => h.get? (L + 1 + 1 + 1 + 1) = some c4 ∧ h.get? (L + 1 + 1) = some c2 ∧ h.get? lS = some (W.listOf (List.toArray [Value.ref b2]) kS) ∧ h.get? b2 = some (W.listOf (List.toArray bs2) kb2) ∧ ObjH w h x dx tx l2 vs2 k2 ds) (fun h h' k e => ⟨k _ _ e.1, k _ _ e.2.1, k _ _ e.2.2.1, k _ _ e.2.2.2.1, e.2.2.2.2.mono k⟩) hlam ?hEx ?Z ?k1 ?k2 ?k3 ?k4 ?k5 ?k6 ?k7 ?k8 ?k9 ?k10 ?_))
    case k1 => k_asm
    case k2 => k_asm
    case k3 => k_asm
    case k4 => k_asm
    case k5 => k_asm
    case k6 => exact X
    case k7 => exact T
    case k8 => exact rfl
    case k9 => ktr_room
    case k10 => ktr_units
    case hEx => exact ⟨(N1 _ List.mem_cons_self).1, (N1 _ (List.mem_cons_of_mem _ (List.mem_cons_of_mem _ List.mem_cons_self))).1, (N1 _ (led_rest (up _ hS))).1, (N1 _ (led_rest (up _ hb2m))).1, objH_of N1 (fun p hp => led_rest (up p hp)) hx hdx hl2 hst2⟩
    case Z =>
      intro mean mg mb dp un gd cn cs a ccd cl outer A₀ base h₀ L' m news s Q E B F X N T hk hdp hu hpre hret
      obtain ⟨⟨hz1, hz2⟩, hz3, hz4, hz5, hz6, hz7⟩ := hpre
      have hz8 := hz7
      obtain ⟨hz9, hz10, hz11, hz12⟩ := hz7
      walk_at "enterL"
      k_steps
      refine' Hold.go (ctr_call (RCtr.use (fill_badb x dx tx l2 vs2 k2 ds hW hset (some 1) _ (fun i e => by rw [← Option.some.inj e]; exact ⟨by decide, by decide⟩) (bs2.length : Int) _ (Or.inr fun ls' hl' => ?q9)) ?k1 ?k2 ?k3 ?k4 ?k5 ?k6 ?k7 ?k8 (ObjH.keep (by k_asm) hz8) ?_))
      case q9 =>
        have hq := filter_one hW hl' rfl
        rw [hfo] at hq
        have hq2 : Stp.set ls = Stp.set ls' := (List.cons.inj hq).1
        injection hq2 with hq2
        subst hq2
        omega
      case k1 => k_asm
      case k2 => k_asm
      case k3 => k_asm
      case k4 => k_asm
      case k5 => k_asm
      case k6 => exact rfl
      case k7 => ktr_room
      case k8 => ktr_units
      intro e t9 vs9 h9 tk9 R9 U9
      refine leave_onX (by k_asm) (by k_asm) R9 U9 rfl ?_
      intro h'' R'' U''
      exact hret _ _ _ _ _ R'' U''
    intro h2 tk2 F2 N2
    k_steps
    refine' Hold.go (lam_led ?F ?N O1 lt T C TO1 (by decide) ?hcl ?hdef ?_)
    case F => k_asm
    case N => k_asm
    case hcl => exact rfl
    case hdef => exact rfl
    intro f3 c3' ctv3 pm3 oc3 h3 tk3 rest3 F3 N3 O3 up3 TO3 hmc3 hbc3 hlam3
    k_steps
    refine' Hold.go (ctr_call (refuse_lam 40 (fun h => h.get? (L + 1 + 1 + 1 + 1) = some c4 ∧ ObjH w h x dx tx l2 vs2 k2 ds) (fun h h' k e => ⟨k _ _ e.1, e.2.mono k⟩) hlam3 ?hEx ?Z ?k1 ?k2 ?k3 ?k4 ?k5 ?k6 ?k7 ?k8 ?k9 ?k10 ?_))
    case k1 => k_asm
    case k2 => k_asm
    case k3 => k_asm
    case k4 => k_asm
    case k5 => k_asm
    case k6 => exact X
    case k7 => exact T
    case k8 => exact rfl
    case k9 => ktr_room
    case k10 => ktr_units
    case hEx => exact ⟨(N3 _ List.mem_cons_self).1, objH_of N3 (fun p hp => led_rest (up3 _ (up p hp))) hx hdx hl2 hst2⟩
    case Z =>
      intro mean mg mb dp un gd cn cs a ccd cl outer A₀ base h₀ L' m news s Q E B F X N T hk hdp hu hpre hret
      obtain ⟨⟨hz1, hz2⟩, hz3, hz7⟩ := hpre
      have hz8 := hz7
      obtain ⟨hz9, hz10, hz11, hz12⟩ := hz7
      walk_at "enterL"
      k_steps
      refine' Hold.go (ctr_call (RCtr.use (branch_bad x dx tx l2 vs2 k2 ds hW hset (-1) _ (by decide)) ?k1 ?k2 ?k3 ?k4 ?k5 ?k6 ?k7 ?k8 (ObjH.keep (by k_asm) hz8) ?_))
      case k1 => k_asm
      case k2 => k_asm
      case k3 => k_asm
      case k4 => k_asm
      case k5 => k_asm
      case k6 => exact rfl
      case k7 => ktr_room
      case k8 => ktr_units
      intro e t9 vs9 h9 tk9 R9 U9
      refine leave_onX (by k_asm) (by k_asm) R9 U9 rfl ?_
      intro h'' R'' U''
      exact hret _ _ _ _ _ R'' U''
    intro h4 tk4 F4 N4
    k_steps
    show wpAny _ _ (execs r14 _) _ _ _
    subst e14
    show wpAny (model PR w) (lawA L fa) (execs (lawBody.drop 14) (lawEnv L fa)) Q E _
    have TOg : TabOk 710 _ := ⟨TO3.1, fun p hp => TO3.2 p (Nat.le_trans (by decide) hp)⟩
    have hob3 : ObjL (InL rest3) w (.ref x) ds := ⟨x, dx, tx, l2, vs2, k2, rfl, up3 _ (up _ hx), up3 _ (up _ hdx), up3 _ (up _ hl2), hst2.mono fun a o h => up3 _ (up (a, o) h)⟩
    with_reducible exact law_G hG hE ds hW h0 m (by assumption) rest3 c1 c2 c3 c4 _ TOg (by assumption) d1 tt d3 x d4 O3 hob3 fun h' tk' m' ps nw F' N' hm => hQ h' tk' m' ps nw F' N' hm
end
section
theorem topP54 : True := by
  w_top off
  trivial
local macro_rules | `(tactic| k_all) => `(tactic| first | exact Off.o0 (by with_reducible assumption) | exact Off.o1 (by with_reducible assumption) | exact Off.o2 (by with_reducible assumption) | exact Off.o3 (by with_reducible assumption) | exact Off.o4 (by with_reducible assumption))
local macro_rules | `(tactic| walk_at "compareOp NotEq ref ref") => `(tactic| refine hold ?_)
local macro_rules | `(tactic| walk_at "compareOp NotEq") => `(tactic| refine hold ?_)
local macro_rules | `(tactic| walk_at "compareOp In none ref") => `(tactic| refine hold ?_)
local macro_rules | `(tactic| walk_at "truthy ref") => `(tactic| refine hold ?_)
local macro_rules | `(tactic| walk_at "UnrEnd") => `(tactic| refine hold ?_)
local macro_rules | `(tactic| walk_at "exec For Name List cons nil") => `(tactic| (k_here; (with_unfolding_all refine' For_invVF (by k_asm) ?k1 ?k2 ?_; (case k1 => exact rfl); (case k2 => exact rfl); k_whole)))
local macro_rules | `(tactic| walk_at "newList") => `(tactic| (k_here; k_dflt (refine' newList_K ?k1 ?k2 ?_; (case k1 => k_asm); (case k2 => k_asm); k_whole); intro l' h' F' N' l1; clear l1; (try k_sweep)))
local macro_rules | `(tactic| walk_at "binaryOp Add ref ref") => `(tactic| (k_here; (with_reducible show wpAny _ _ (binaryOp _ (Value.ref _) (Value.ref _)) _ _ _); k_dflt (refine' kmk_add_ints ?F ?N ?a ?b ?i ?j ?_ ?z; (case F => k_asm); (case N => k_asm); (case a => kmk_list); (case b => kmk_list); (case i => l_ints); (case j => l_ints); (case z => kmk_sum)); intro D' ws' h' F' N' l1 hI'; clear l1; (try k_sweep)))
local macro_rules | `(tactic| walk_at "subscriptTail Name Slice ref ref") => `(tactic| (k_here; (with_reducible show wpAny _ _ (subscriptTail _ (PySem.Expr.Slice none none (some _) _) (Value.ref _) (Value.ref _)) _ _ _); k_dflt (refine' krv_ints ?F ?N ?l ?k ?i ?_ ?s ?t ?z; (case F => k_asm); (case N => k_asm); (case l => kmk_list); (case k => exact IsPart.int _ _); (case i => l_ints); (case s => with_unfolding_all rfl); (case t => kmk_pure); (case z => kmk_size)); intro D' ws' h' F' N' l1 hI' hC'; clear l1 hC'; (try k_sweep)))
local macro_rules | `(tactic| walk_at "subscriptTail Name Slice ref ref") => `(tactic| (k_here; (with_reducible show wpAny _ _ (subscriptTail _ (PySem.Expr.Slice _ _ none _) (Value.ref _) (Value.ref _)) _ _ _); k_dflt (refine' kmk_slice_ints ?F ?N ?l ?p ?q ?i ?m ?c ?_ ?s ?t ?z; (case F => k_asm); (case N => k_asm); (case l => kmk_list); (case p => kmk_part); (case q => kmk_part); (case i => l_ints); (case m => kmk_nums); (case c => kmk_len); (case s => with_unfolding_all rfl); (case t => kmk_pure); (case z => kmk_size)); intro D' ws' h' F' N' l1 hI' hC' hL'; (try simp only [Int.reduceNeg, Int.neg_neg, Int.reduceToNat] at hI' hC' hL'); clear l1; (try k_sweep)))
theorem mk4 {a : Addr} {us : List Value} {jz : List Int} {kz : Nat} {news : List (Addr × Obj)} (hm : (a, W.listOf (List.toArray us) kz) ∈ news) (hi : IntsAre us jz) (hl : jz.length ≤ 9) : ∃ a' us' jz' kz', Value.ref a = Value.ref a' ∧ (a', W.listOf (List.toArray us') kz') ∈ news ∧ IntsAre us' jz' ∧ jz'.length ≤ 9 := ⟨_, _, _, _, rfl, hm, hi, hl⟩
theorem with_all {P : Prop} {h₀ h : Heap} {L : Addr} {q : Addr × Obj} {news : List (Addr × Obj)} (N : News h₀ L h (q :: news)) (k : ∀ all, all = q :: news → News h₀ L h all → q ∈ all → P) : P := k _ rfl N List.mem_cons_self
theorem un_kn4 {m : Str → Option Value} {a b c d : Str} {va vb vc vd : Value} (ea : m a = some va) (eb : m b = some vb) (ec : m c = some vc) (ed : m d = some vd) (y : Str) : (if y = a then some va else if y = b then some vb else if y = c then some vc else if y = d then some vd else m y) = m y := by
  by_cases h : y = a
  · subst h; rw [if_pos rfl, ea]
  · rw [if_neg h]
    by_cases h : y = b
    · subst h; rw [if_pos rfl, eb]
    · rw [if_neg h]
      by_cases h : y = c
      · subst h; rw [if_pos rfl, ec]
      · rw [if_neg h]
        by_cases h : y = d
        · subst h; rw [if_pos rfl, ed]
        · rw [if_neg h]
local macro_rules | `(tactic| kmk_nums) => `(tactic| first | (with_reducible exact kmk_upto (by l_ints) (by kmk_sign)) | (with_reducible exact kmk_from (by l_ints) (by kmk_sign)))
set_option maxHeartbeats 0 in
theorem law_T5 {w : World} {L fa : Addr} {mean : ExcName → Option Value} {mg mb : Str → Option Value} {h₀ : Heap} {s : Shared} {Qb : Flow → Shared → Prop} {E : Value → Shared → Prop} (G : LawG w L fa mean mg mb h₀) (hE : PassesOwn (model PR w) (lawA L fa) (lawEnv L fa) E)
    (l : Addr) (vs : List Value) (k : Nat) (ds : List Stp) (hW : WF ds) (h0 : ds ≠ []) (more : Int) (tm : Tok) (m : Str → Option Value) (F : Fr h₀ L s.heap m) (m1 : m (Str.ofString "steps") = some (.ref l)) (m2 : m (Str.ofString "more") = some (.int more tm))
    (wl : Addr) (ws : List Value) (wk : Nat) (js : List Int) (b : Option Nat) (tb : Tok) (hb : ∀ i, b = some i → i < 2) (bv : Value) (hbv : optI tb (b.map Int.ofNat) = bv) (m3 : m (Str.ofString "way") = some (.ref wl)) (m4 : m (Str.ofString "branch") = some bv)
    (q0 : Addr × Obj) (rest : List (Addr × Obj)) (c1 c2 c3 c4 : Obj) (ps : Array Value) (N : News h₀ L s.heap (q0 :: led L c1 c2 c3 c4 (tabObj ps) rest))
    (x dx : Addr) (tx : Tok) (l2 : Addr) (vs2 : List Value) (k2 : Nat) (d4 : c4.data = .cell (some (.ref x)))
    (hl : (l, W.listOf (List.toArray vs) k) ∈ rest) (hst : StAll (InL rest) vs ds) (hx : (x, instObj 852 dx) ∈ rest) (hdx : (dx, dictOf [⟨PyData.keyHash w.params (Str.ofString "indexes"), .str (Str.ofString "indexes") tx, .ref l2⟩] 1) ∈ rest) (hl2 : (l2, W.listOf (List.toArray vs2) k2) ∈ rest) (hst2 : StAll (InL rest) vs2 ds)
    (hwl : (wl, W.listOf (List.toArray ws) wk) ∈ rest) (hwi : IntsAre ws js) (hjs : js.length = ds.length)
    (hQ : ∀ h' tk' m', Fr h₀ L h' m' → (∀ z, z ≠ Str.ofString "k" → z ≠ Str.ofString "other" → m' z = m z) → News h₀ L h' (q0 :: led L c1 c2 c3 c4 (tabObj ps) rest) → Qb .next { s with heap := h', toks := tk' }) :
    wpAny (model PR w) (lawA L fa) (execs (loopBody.drop 4) (lawEnv L fa)) Qb E s := by
  have hG := G
  obtain ⟨B, X, T, C, lt0⟩ := G
  have lt : @LT.lt Nat _ 901 L := lt0
  have hvl := hst.length
  have h5 := hW.len
  have hwlen := hwi.length
  have hd1 : 1 ≤ ds.length := by
    cases ds with
    | nil => exact absurd rfl h0
    | cons d r => simp
  refine law_at (l' := _ :: _) (cs := ⟨_, _ :: _, _, _, _⟩) rfl rfl ?_
  have F0 := F
  replace F := fr_kn (a := Str.ofString "steps") (fr_kn (a := Str.ofString "more") (fr_kn (a := Str.ofString "way") (fr_kn F m4) m3) m2) m1
  have Cl2 := law_filled (w := w) l vs k ds hW .none .non (fun _ => rfl) (fun e => nomatch e) b tb hb
  have Cb := branch_ (w := w) x dx tx l2 vs2 k2 ds hW b tb hb
  rw [hbv] at Cl2 Cb
  k_steps
  refine' Hold.go (ctr_call (Ctr.use Cb ?k1 ?k2 ?k3 ?k4 ?k5 ?kK ?kd ?ku (objH_of (rest := rest) (by k_asm) (fun p hp => led_rest2 hp) hx hdx hl2 hst2) ?_))
  walk_at "useCtr"
  rintro r tl h9 tk9 F9 N9 _ ⟨x3, dx3, tx3, l3, vs3, k3, rfl, hx3, hdx3, hl3, hst3⟩
  obtain ⟨rest2, N8, j1, j2⟩ := led_front N9
  clear N9
  replace hx3 := j2 _ hx3
  replace hdx3 := j2 _ hdx3
  replace hl3 := j2 _ hl3
  k_steps
  refine' Hold.go (ctr_call (Ctr.use Cl2 ?k1 ?k2 ?k3 ?k4 ?k5 ?kK ?kd ?ku ⟨?p1, ?p2⟩ ?_))
  walk_at "useCtr"
  case p1 => exact (News.get (by k_asm) (led_rest2 (j1 _ hl)))
  case p2 => exact hst.mono (news_at (by k_asm) fun p hp => led_rest2 (j1 p hp))
  rintro r tl h8 tk8 F8 N7 _ ⟨fl, fs, fk, rfl, hfl, hfs⟩
  obtain ⟨rest3, N6, q1, q2⟩ := led_front N7
  clear N7
  replace hfl := q2 _ hfl
  refine Hold.go (ne_rd true (rd_list (News.isList (by k_asm) (led_rest2 (q1 _ hl3))) (StAll.rd (hst3.mono (news_at (by k_asm) fun p hp => led_rest2 (q1 _ (j2 p hp)))))) (rd_list (News.isList (by k_asm) (led_rest2 hfl)) (StAll.rd (hfs.mono (news_at (by k_asm) fun p hp => led_rest2 (q2 p hp))))) (ok_list (ok_dats 7 _)) (ok_list (ok_dats 7 _)) ⟨fun _ => rfl, fun _ => rfl⟩ (by ktr_units) ?_)
  replace N6 := cb_drop N6 (fun p (hp : p ∈ q0 :: led L c1 c2 c3 c4 (tabObj ps) rest) => by
    rcases List.mem_cons.mp hp with rfl | hp
    · exact List.mem_cons_self
    · exact List.mem_cons_of_mem _ (led_mem (fun p hp => led_rest (q1 p (j1 p hp))) (fun p hp => led_nil hp) p hp))
  clear q1 q2 hfl hfs j1 j2 hx3 hdx3 hl3 hst3
  have hk1 := Int.fmod_nonneg_of_pos (more.fdiv 4) (show (0 : Int) < (ws.length : Int) by omega)
  have hk2 := Int.fmod_lt_of_pos (more.fdiv 4) (show (0 : Int) < (ws.length : Int) by omega)
  k_steps
  rename News _ _ _ _ => NL
  rename Fr _ _ _ _ => FL
  refine with_all NL fun all eall NA hD4 => ?_
  have hsub : ∀ p ∈ rest, p ∈ all := by
    rw [eall]; intro p hp
    (repeat' refine' List.mem_cons_of_mem _ ?_)
    exact hp
  have hback : ∀ p ∈ q0 :: led L c1 c2 c3 c4 (tabObj ps) rest, p ∈ all := by
    rw [eall]; intro p hp
    rcases List.mem_cons.mp hp with rfl | hp
    · (repeat (first | exact List.mem_cons_self | refine' List.mem_cons_of_mem _ ?_))
    · refine led_mem (fun p hp => ?_) (fun p hp => ?_) p hp
      · (repeat' refine' List.mem_cons_of_mem _ ?_)
        exact hp
      · have hp2 : p ∈ led L c1 c2 c3 c4 (tabObj ps) rest := led_nil hp
        (repeat (first | exact hp2 | refine' List.mem_cons_of_mem _ ?_))
  have hjl : js.length = ws.length := hwlen.symm
  refine Hold.go (for_led [] (fun i u nx => nx = all) (by rfl) FL NA hD4 rfl ?_ ?_)
  · rintro I it i v u nx hT tkT hv hoff rfl F3 N3
    replace N3 : News h₀ L hT _ := N3
    simp only [List.contains_nil, Bool.false_eq_true, if_false] at F3
    replace F3 : Fr h₀ L hT _ := F3
    obtain ⟨a, us, jz, kz, rfl, hm4, hi4, hl4⟩ : ∃ a us jz kz, v = Value.ref a ∧ (a, W.listOf (List.toArray us) kz) ∈ nx ∧ IntsAre us jz ∧ jz.length ≤ 9 := by
      rw [eall]
      match i, hv with
      | 0, hv =>
        obtain rfl := Option.some.inj hv
        refine' mk4 ?m0 ?i0 ?l0
        case m0 => k_mem
        case i0 => assumption
        case l0 => simp only [List.length_append, List.length_take, List.length_drop, List.length_cons, List.length_nil]; omega
      | 1, hv =>
        obtain rfl := Option.some.inj hv
        refine' mk4 ?m1 ?i1 ?l1
        case m1 => k_mem
        case i1 => assumption
        case l1 => simp only [List.length_append, List.length_take, List.length_drop]; omega
      | 2, hv =>
        obtain rfl := Option.some.inj hv
        refine' mk4 ?m2 ?i2 ?l2
        case m2 => k_mem
        case i2 => assumption
        case l2 => simp only [List.length_append, List.length_cons, List.length_nil]; omega
      | 3, hv =>
        obtain rfl := Option.some.inj hv
        refine' mk4 ?m3 ?i3 ?l3
        case m3 => k_mem
        case i3 => assumption
        case l3 => rw [List.length_reverse]; omega
      | n + 4, hv => exact nomatch hv
    clear hv
    have hd4 : (L + 1 + 1 + 1 + 1, c4) ∈ nx := hback _ (List.mem_cons_of_mem _ List.mem_cons_self)
    clear eall NL
    replace hx := hsub _ hx
    replace hdx := hsub _ hdx
    replace hl2 := hsub _ hl2
    replace hst2 : StAll (InL nx) vs2 ds := hst2.mono fun a o h => hsub (a, o) h
    replace hl := hsub _ hl
    replace hst : StAll (InL nx) vs ds := hst.mono fun a o h => hsub (a, o) h
    k_steps
    refine' Hold.go (ctr_call (Ctr.use (check_ x dx tx l2 vs2 k2 ds hW a us _ hi4 hl4) ?k1 ?k2 ?k3 ?k4 ?k5 ?kK ?kd ?ku ⟨objH_of (rest := nx) (by k_asm) (fun p hp => List.mem_cons_of_mem _ hp) hx hdx hl2 hst2, News.isList (by k_asm) (List.mem_cons_of_mem _ hm4)⟩ ?_))
    walk_at "useCtr"
    intro r1 tl1 h7 tk7 F7 N7 _ kn1
    k_steps
    refine' Hold.go (ctr_call (Ctr.use (law_known l vs k ds hW a us _ hi4 hl4) ?k1 ?k2 ?k3 ?k4 ?k5 ?kK ?kd ?ku ⟨?p1, ?p2, ?p3⟩ ?_))
    walk_at "useCtr"
    case p1 => exact (News.get (by k_asm) (List.mem_append_left _ (List.mem_cons_of_mem _ hl)))
    case p2 => exact hst.mono (news_at (by k_asm) fun p hp => List.mem_append_left _ (List.mem_cons_of_mem _ hp))
    case p3 => exact News.isList (by k_asm) (List.mem_append_left _ (List.mem_cons_of_mem _ hm4))
    intro r2 tl2 h6 tk6 F6 N6 _ kn2
    refine Hold.go (ne_kn N6 kn1 (fun p hp => List.mem_append_left _ (List.mem_append_right _ hp)) kn2 (fun p hp => List.mem_append_right _ hp) (by ktr_units) ?_)
    k_steps
    exact Hold.go (led_end nx (by assumption) N6 (fun p hp => List.mem_append_left _ (List.mem_append_left _ hp)) hoff ⟨hD4, rfl, fun z h1 h2 => by rw [if_neg h1]⟩)
  · rintro u nx h tk rfl F3 N3
    simp only [List.contains_nil, Bool.false_eq_true, if_false] at F3
    k_steps
    refine hQ h tk _ F3 (fun z h1 h2 => ?_) (cb_drop N3 hback)
    rw [if_neg h2]
    simp only [if_neg h1]
    exact un_kn4 m1 m2 m3 m4 z
end
section
theorem topP53 : True := by
  w_top off
  trivial
local macro_rules | `(tactic| walk_at "pad") => `(tactic| fail "pad")
local macro_rules | `(tactic| k_all) => `(tactic| first | exact Off.o0 (by with_reducible assumption) | exact Off.o1 (by with_reducible assumption) | exact Off.o2 (by with_reducible assumption) | exact Off.o3 (by with_reducible assumption) | exact Off.o4 (by with_reducible assumption))
local macro_rules | `(tactic| walk_at "compareOp NotEq ref ref") => `(tactic| refine hold ?_)
local macro_rules | `(tactic| walk_at "compareOp NotEq") => `(tactic| refine hold ?_)
local macro_rules | `(tactic| walk_at "compareOp In none ref") => `(tactic| refine hold ?_)
local macro_rules | `(tactic| walk_at "truthy ref") => `(tactic| refine hold ?_)
local macro_rules | `(tactic| walk_at "UnrEnd") => `(tactic| refine hold ?_)
local macro_rules | `(tactic| walk_at "exec For Name List cons nil") => `(tactic| (k_here; (with_unfolding_all refine' For_invVF (by k_asm) ?k1 ?k2 ?_; (case k1 => exact rfl); (case k2 => exact rfl); k_whole)))
local macro_rules | `(tactic| walk_at "subscriptTail Name Constant ref int") => `(tactic| refine hold ?_)
local macro_rules | `(tactic| walk_at "subscriptTail") => `(tactic| refine hold ?_)
theorem sub_led2 {prog : Program} {w : World} {A : Around} {E : Value → Shared → Prop} {s : Shared} {D : Addr} {vs : List Value} {v : Value} {i : Nat} {kk : Int} {u : Tok} {Q : Value → Shared → Prop} {value slice : PySem.Expr} (hl : s.heap.IsList D vs.toArray) (hv : vs[i]? = some v) (hk : kk = (i : Int)) (hi : (i : Int) < 2 ^ 62) (h : Q v s)
    (hs : subscripted slice false (.ref D) (.int kk u) = operate [.ref D, .int kk u] (getItem (.ref D) (.int kk u)) := by with_unfolding_all rfl) :
    wpAny (model prog w) A (subscriptTail value slice (.ref D) (.int kk u)) Q E s := by
  subst hk
  exact tail_any hl.typeIs slot_list_getitem.lookup (wpAny_getItem_list hl (by omega) (by omega) (by simpa using hv) h) hs
set_option maxHeartbeats 0 in
theorem law_E2 {w : World} {L fa : Addr} {mean : ExcName → Option Value} {mg mb : Str → Option Value} {h₀ : Heap} {s : Shared} {Q : Flow → Shared → Prop} {E : Value → Shared → Prop} (G : LawG w L fa mean mg mb h₀) (hE : PassesOwn (model PR w) (lawA L fa) (lawEnv L fa) E)
    (l : Addr) (vs : List Value) (k : Nat) (ds : List Stp) (hW : WF ds) (h0 : ds ≠ []) (more : Int) (tm : Tok) (n : Int) (tn : Tok) (n0 : 0 ≤ n) (n1 : n < 2147483648) (m : Str → Option Value) (F : Fr h₀ L s.heap m) (m1 : m (Str.ofString "steps") = some (.ref l)) (m2 : m (Str.ofString "more") = some (.int more tm))
    (m4 : m (Str.ofString "number") = some (.int n tn)) (rest : List (Addr × Obj)) (c1 c2 c3 c4 : Obj) (ps : Array Value) (TO : TabOk 700 ps) (N : News h₀ L s.heap (led L c1 c2 c3 c4 (tabObj ps) rest))
    (d1 : c1.data = .cell none) (lS : Addr) (d2 : c2.data = .cell (some (.ref lS))) (tt : Tok) (d3 : c3.data = .cell (some (.str (text 0 ds) tt))) (x : Addr) (d4 : c4.data = .cell (some (.ref x))) (O : Off L rest)
    (hl : (l, W.listOf (List.toArray vs) k) ∈ rest) (hst : StAll (InL rest) vs ds) (hob : ObjL (InL rest) w (.ref x) ds)
    (ss : List Value) (kS : Nat) (hS : (lS, W.listOf (List.toArray ss) kS) ∈ rest) (hss : StAll (InL rest) ss (ds.filter Stp.isSet)) (hQ : LawQ h₀ L Q s) :
    wpAny (model PR w) (lawA L fa) (execs (lawBody.drop 12) (lawEnv L fa)) Q E s := by
  have hG := G
  obtain ⟨B, X, T, C, lt0⟩ := G
  have lt : @LT.lt Nat _ 901 L := lt0
  have hvl := hst.length
  have h5 := hW.len
  have hsl := hss.length
  refine law_cut1 (rest := lawBody.drop 13) (cs := ⟨_, _ :: _, _, _, _⟩) rfl rfl hE ?_
  intro r13 e13 hE13
  replace F := fr_kn (a := Str.ofString "number") (fr_kn (a := Str.ofString "more") (fr_kn F m1) m2) m4
  k_steps
  rename_i D1 _ F1 N1 l1
  have O1 : Off L ((D1, W.listOf (List.toArray [Value.none, Value.int 0 s.toks, Value.int 1 (s.toks + 1)]) 0) :: rest) := O.push ⟨Nat.ne_of_lt l1.1, Nat.ne_of_lt l1.2.1, Nat.ne_of_lt l1.2.2.1, Nat.ne_of_lt l1.2.2.2.1, Nat.ne_of_lt l1.2.2.2.2.1⟩
  have N2 := cb_drop (news := led L c1 c2 c3 c4 (tabObj ps) ((D1, W.listOf (List.toArray [Value.none, Value.int 0 s.toks, Value.int 1 (s.toks + 1)]) 0) :: rest)) N1 (led_mem (fun p hp => by
    rcases List.mem_cons.mp hp with rfl | hp
    · exact List.mem_cons_self
    · exact List.mem_cons_of_mem _ (led_rest hp)) fun p hp => List.mem_cons_of_mem _ (led_nil hp))
  have up : ∀ p ∈ rest, p ∈ (D1, W.listOf (List.toArray [Value.none, Value.int 0 s.toks, Value.int 1 (s.toks + 1)]) 0) :: rest := fun p hp => List.mem_cons_of_mem _ hp
  have hDm : (D1, W.listOf (List.toArray [Value.none, Value.int 0 s.toks, Value.int 1 (s.toks + 1)]) 0) ∈ (D1, W.listOf (List.toArray [Value.none, Value.int 0 s.toks, Value.int 1 (s.toks + 1)]) 0) :: rest := List.mem_cons_self
  clear N1
  generalize (D1, W.listOf (List.toArray [Value.none, Value.int 0 s.toks, Value.int 1 (s.toks + 1)]) 0) :: rest = rest1 at O1 N2 up hDm
  refine Hold.go (for_led [Str.ofString "way", Str.ofString "k", Str.ofString "other"] (fun i u nx => nx = led L c1 c2 c3 c4 (tabObj ps) rest1) (by rfl) F1 N2 (led_rest hDm) rfl ?_ ?_)
  · rintro I it i v u nx hT tkT hv hoff rfl F3 N3
    replace N3 : News h₀ L hT _ := N3
    obtain ⟨b, tb, hb, rfl⟩ : ∃ (b : Option Nat) (tb : Tok), (∀ i, b = some i → i < 2) ∧ v = optI tb (b.map Int.ofNat) := by
      match i, hv with
      | 0, hv => exact ⟨none, 0, (fun _ h => nomatch h), (Option.some.inj hv).symm⟩
      | 1, hv => exact ⟨some 0, _, fun j h => by rw [← Option.some.inj h]; decide, (Option.some.inj hv).symm⟩
      | 2, hv => exact ⟨some 1, _, fun j h => by rw [← Option.some.inj h]; decide, (Option.some.inj hv).symm⟩
      | n + 3, hv => exact nomatch hv
    clear hv
    obtain ⟨x', dx, tx, l2, vs2, k2, ex, hx, hdx, hl2, hst2⟩ := hob
    obtain rfl : x = x' := by injection ex
    replace hx := up _ hx
    replace hdx := up _ hdx
    replace hl2 := up _ hl2
    replace hst2 : StAll (InL rest1) vs2 ds := hst2.mono fun a o h => up (a, o) h
    replace hl := up _ hl
    replace hst : StAll (InL rest1) vs ds := hst.mono fun a o h => up (a, o) h
    replace hS := up _ hS
    replace hss : StAll (InL rest1) ss (ds.filter Stp.isSet) := hss.mono fun a o h => up (a, o) h
    obtain ⟨bv, hbv⟩ : ∃ bv, optI tb (b.map Int.ofNat) = bv := ⟨_, rfl⟩
    rw [hbv] at F3
    replace F3 : Fr h₀ L hT _ := F3
    refine body_cut4 (rest := loopBody.drop 4) rfl ?_
    intro r4 e4
    have Cf := fill_ (w := w) x dx tx l2 vs2 k2 ds hW (some n) tn (fun i e => by rw [← Option.some.inj e]; exact ⟨n0, n1⟩) b tb hb
    have Cl := law_filled (w := w) l vs k ds hW (.int n tn) (.num n) (fun _ => ⟨tn, rfl⟩) (fun e => nomatch e) b tb hb
    have Cl2 := law_filled (w := w) l vs k ds hW .none .non (fun _ => rfl) (fun e => nomatch e) b tb hb
    have Cb := branch_ (w := w) x dx tx l2 vs2 k2 ds hW b tb hb
    rw [hbv] at Cf Cl Cl2 Cb
    dsimp only at Cf
    have hb2 : b.getD 0 < 2 := by
      cases b with
      | none => decide
      | some i => exact hb i rfl
    k_steps
    refine' Hold.go (ctr_call (Ctr.use Cf ?k1 ?k2 ?k3 ?k4 ?k5 ?kK ?kd ?ku (objH_of (rest := rest1) (by k_asm) (fun p hp => led_rest2 hp) hx hdx hl2 hst2) ?_))
    walk_at "useCtr"
    rintro r tl h9 tk9 F9 N9 _ ⟨wl, ws, wk, rfl, hwl, hws⟩
    obtain ⟨rest2, N8, j1, j2⟩ := led_front N9
    clear N9
    replace hwl := j2 _ hwl
    replace hx := j1 _ hx
    replace hdx := j1 _ hdx
    replace hl2 := j1 _ hl2
    replace hst2 : StAll (InL rest2) vs2 ds := hst2.mono fun a o h => j1 (a, o) h
    replace hl := j1 _ hl
    replace hst : StAll (InL rest2) vs ds := hst.mono fun a o h => j1 (a, o) h
    replace hS := j1 _ hS
    replace hss : StAll (InL rest2) ss (ds.filter Stp.isSet) := hss.mono fun a o h => j1 (a, o) h
    have hwi := filled_ints hws
    have hwlen := hwi.length
    rw [List.length_map] at hwlen
    k_steps
    refine' Hold.go (ctr_call (Ctr.use Cl ?k1 ?k2 ?k3 ?k4 ?k5 ?kK ?kd ?ku ⟨?p1, ?p2⟩ ?_))
    walk_at "useCtr"
    case p1 => exact (News.get (by k_asm) (led_rest2 hl))
    case p2 => exact hst.mono (news_at (by k_asm) fun p hp => led_rest2 hp)
    rintro r tl h8 tk8 F8 N8 _ ⟨fl, fs, fk, rfl, hfl, hfs⟩
    obtain ⟨rest3, N7, q1, q2⟩ := led_front N8
    clear N8
    replace hfl := q2 _ hfl
    k_steps
    refine Hold.go (ne_rd true (rd_list (News.isList (by k_asm) (led_rest2 (q1 _ hwl))) (rds_ints hwi)) (rd_list (News.isList (by k_asm) (led_rest2 hfl)) (StAll.rd (hfs.mono (news_at (by k_asm) fun p hp => led_rest2 (q2 p hp))))) (ok_list (ok_ints 8 _)) (ok_list (ok_dats 7 _)) ⟨fun _ => by rw [fill_dat], fun _ => rfl⟩ (by ktr_units) ?_)
    replace N7 := cb_drop N7 (fun p (hp : p ∈ (I, it) :: led L c1 c2 c3 c4 (tabObj ps) rest2) => by
      rcases List.mem_cons.mp hp with rfl | hp
      · exact List.mem_cons_self
      · exact List.mem_cons_of_mem _ (led_mem (fun p hp => led_rest (q1 p hp)) (fun p hp => led_nil hp) p hp))
    clear q1 q2 hfl hfs
    k_steps
    refine Hold.go (ne_rd true (rd_list (News.isList (by k_asm) (led_rest2 hl2)) (StAll.rd (hst2.mono (news_at (by k_asm) fun p hp => led_rest2 hp)))) (rd_list (News.isList (by k_asm) (led_rest2 hl)) (StAll.rd (hst.mono (news_at (by k_asm) fun p hp => led_rest2 hp)))) (ok_list (ok_dats 7 _)) (ok_list (ok_dats 7 _)) ⟨fun _ => rfl, fun _ => rfl⟩ (by ktr_units) ?_)
    k_steps
    refine' Hold.go (ctr_call (Ctr.use (check_ x dx tx l2 vs2 k2 ds hW wl ws _ hwi (by rw [List.length_map]; omega)) ?k1 ?k2 ?k3 ?k4 ?k5 ?kK ?kd ?ku ⟨objH_of (rest := rest2) (by k_asm) (fun p hp => led_rest2 hp) hx hdx hl2 hst2, News.isList (by k_asm) (led_rest2 hwl)⟩ ?_))
    walk_at "useCtr"
    intro r1 tl1 h7 tk7 F7 N7 _ kn1
    obtain ⟨rest3, N6, q1, q2⟩ := led_front N7
    clear N7
    k_steps
    refine' Hold.go (ctr_call (Ctr.use (law_known l vs k ds hW wl ws _ hwi (by rw [List.length_map]; omega)) ?k1 ?k2 ?k3 ?k4 ?k5 ?kK ?kd ?ku ⟨?p1, ?p2, ?p3⟩ ?_))
    walk_at "useCtr"
    case p1 => exact (News.get (by k_asm) (led_rest2 (q1 _ hl)))
    case p2 => exact hst.mono (news_at (by k_asm) fun p hp => led_rest2 (q1 p hp))
    case p3 => exact News.isList (by k_asm) (led_rest2 (q1 _ hwl))
    intro r2 tl2 h6 tk6 F6 N5 _ kn2
    obtain ⟨rest4, N4, q3, q4⟩ := led_front N5
    clear N5
    refine Hold.go (ne_kn N4 kn1 (fun p hp => led_rest2 (q3 _ (q2 p hp))) kn2 (fun p hp => led_rest2 (q4 p hp)) (by ktr_units) ?_)
    replace N4 := cb_drop N4 (fun p (hp : p ∈ (I, it) :: led L c1 c2 c3 c4 (tabObj ps) rest2) => by
      rcases List.mem_cons.mp hp with rfl | hp
      · exact List.mem_cons_self
      · exact List.mem_cons_of_mem _ (led_mem (fun p hp => led_rest (q3 _ (q1 p hp))) (fun p hp => led_nil hp) p hp))
    clear q1 q2 q3 q4 kn1 kn2
    k_steps
    refine Hold.go (in_rd (ds.any Stp.isNon) (News.isList (by k_asm) (led_rest2 hl)) (StAll.rd (hst.mono (news_at (by k_asm) (fun p hp => led_rest2 hp)))) rd_none (ok_dats 7 ds) rfl (non_mem rfl) (by ktr_units) ?_)
    have fin : ∀ (Qz : Flow → Shared → Prop) (s' : Shared) (hp : Heap) (kp : Nat) (all : List (Addr × Obj)), s' = { s with heap := hp, toks := kp } → Fr h₀ L hp (fun y => if y = Str.ofString "way" then some (Value.ref wl) else if y = Str.ofString "branch" then some bv else if [Str.ofString "way", Str.ofString "k", Str.ofString "other"].contains y = true then u y else if y = Str.ofString "number" then some (Value.int n tn) else if y = Str.ofString "more" then some (Value.int more tm) else if y = Str.ofString "steps" then some (Value.ref l) else m y) → News h₀ L hp all → (∀ p ∈ (I, it) :: led L c1 c2 c3 c4 (tabObj ps) rest2, p ∈ all) →
        wpAny (model PR w) (lawA L fa) (execs r4 (lawEnv L fa)) (UnrPost h₀ L { s with heap := hT, toks := tkT } I it (fun m' nx' => (D1, W.listOf (List.toArray [Value.none, Value.int 0 s.toks, Value.int 1 (s.toks + 1)]) 0) ∈ nx' ∧ nx' = led L c1 c2 c3 c4 (tabObj ps) rest1 ∧ ∀ z, z ≠ Str.ofString "branch" → [Str.ofString "way", Str.ofString "k", Str.ofString "other"].contains z = false → m' z = if z = Str.ofString "number" then some (Value.int n tn) else if z = Str.ofString "more" then some (Value.int more tm) else if z = Str.ofString "steps" then some (Value.ref l) else m z) Qz) E s' := by
      rintro Qz s' hp kp all rfl Fp Np sub
      subst e4
      refine law_T5 hG hE l vs k ds hW h0 more tm _ Fp rfl rfl wl ws wk _ b tb hb bv hbv rfl rfl (I, it) rest2 c1 c2 c3 c4 ps (cb_drop Np sub) x dx tx l2 vs2 k2 d4 hl hst hx hdx hl2 hst2 hwl hwi (by rw [List.length_map]) ?_
      intro h' tk' m' F' hm' N'
      refine led_end (led L c1 c2 c3 c4 (tabObj ps) rest1) F' N' (fun p hp => ?_) hoff ⟨led_rest hDm, rfl, fun z h1 h2 => ?_⟩
      · rcases List.mem_cons.mp hp with rfl | hp
        · exact List.mem_cons_self
        · exact List.mem_cons_of_mem _ (led_mem (fun p hp => led_rest (j1 p hp)) (fun p hp => led_nil hp) p hp)
      · obtain ⟨z1, h3⟩ := nic h2
        obtain ⟨z2, h4⟩ := nic h3
        obtain ⟨z3, _⟩ := nic h4
        rw [hm' z z2 z3, if_neg z1, if_neg h1, if_neg (by rw [h2]; exact Bool.false_ne_true)]
    cases hnon : ds.any Stp.isNon with
    | false =>
      k_steps
      show wpAny _ _ (execs r4 _) _ _ _
      exact fin _ _ _ _ _ rfl (by assumption) N4 fun _ h => h
    | true =>
      cases hset : ds.any Stp.isSet with
      | false =>
        have hss' := hss
        rw [filter_none hset] at hss'
        cases hss'
        k_steps
        refine Hold.go (truthy_known false (News.isList (by k_asm) (led_rest2 hS)) (by simp) (by simp) ?_)
        intro k9
        k_steps
        refine' newSet_any (ns := []) ?F ?N (by rfl) ?l .nil (by simp) ?_
        case F => k_asm
        case N => k_asm
        case l => exact News.isList (by k_asm) (by k_mem)
        intro S1 h7 tk7 o1 F7 N7 _ hso
        k_steps
        refine Hold.go (truthy_known false (News.isList (by k_asm) (List.mem_cons_of_mem _ (List.mem_cons_of_mem _ (led_rest2 hS)))) (by simp) (by simp) ?_)
        intro k9
        k_steps
        have HD : ∀ l, Stp.set l ∈ ds → l.idxOf (l.getD (b.getD 0) 0) = b.getD 0 := fun l hl => absurd (List.any_eq_true.mpr ⟨_, hl, rfl⟩) (by rw [hset]; exact Bool.false_ne_true)
        refine' Hold.go (ctr_call (Ctr.use (check_ x dx tx l2 vs2 k2 ds hW wl ws _ hwi (by rw [List.length_map]; omega)) ?k1 ?k2 ?k3 ?k4 ?k5 ?kK ?kd ?ku ⟨?p1, ?p2⟩ ?_))
        walk_at "useCtr"
        case p1 => exact objH_of (rest := rest2) (by k_asm) (fun p hp => List.mem_cons_of_mem _ (List.mem_cons_of_mem _ (List.mem_cons_of_mem _ (led_rest2 hp)))) hx hdx hl2 hst2
        case p2 => exact News.isList (by k_asm) ((fun p (hp : p ∈ rest2) => List.mem_cons_of_mem _ (List.mem_cons_of_mem _ (List.mem_cons_of_mem _ (led_rest2 hp)))) _ hwl)
        intro r1 tl1 h7 tk7 F7 N7 _ kn1
        rw [known_fill hb2 hW.ok HD hnon, hset] at kn1
        obtain ⟨T1, t1, t2, q1, rfl, hT1⟩ := kn1
        replace N7 := cb_drop (news := (T1, _) :: (I, it) :: led L c1 c2 c3 c4 (tabObj ps) rest2) N7 (fun p hp => by
          rcases List.mem_cons.mp hp with rfl | hp
          · exact List.mem_append_right _ hT1
          · exact List.mem_append_left _ (List.mem_cons_of_mem _ (List.mem_cons_of_mem _ (List.mem_cons_of_mem _ (hp)))))
        clear hT1
        cases b with
        | none =>
          have eb : bv = Value.none := hbv.symm
          subst eb
          k_steps
          refine Hold.go (ne_rd true (rd_tup2 (News.get (by k_asm) (List.mem_cons_of_mem _ List.mem_cons_self))) (rd_tup2 (News.get (by k_asm) List.mem_cons_self)) rfl rfl ⟨fun _ => rfl, fun _ => rfl⟩ (by ktr_units) ?_)
          k_steps
          show wpAny _ _ (execs r4 _) _ _ _
          exact fin _ _ _ _ _ rfl (by assumption) (by assumption) fun _ h => List.mem_cons_of_mem _ (List.mem_cons_of_mem _ h)
        | some i =>
          have eb : bv = Value.int (Int.ofNat i) tb := hbv.symm
          subst eb
          k_steps
          refine Hold.go (truthy_known false (News.isList (by k_asm) (List.mem_cons_of_mem _ (led_rest2 hS))) (by simp) (by simp) ?_)
          intro k9
          k_steps
          refine Hold.go (ne_rd true (rd_tup2 (News.get (by k_asm) (List.mem_cons_of_mem _ List.mem_cons_self))) (rd_tup2 (News.get (by k_asm) List.mem_cons_self)) rfl rfl ⟨fun _ => rfl, fun _ => rfl⟩ (by ktr_units) ?_)
          k_steps
          show wpAny _ _ (execs r4 _) _ _ _
          exact fin _ _ _ _ _ rfl (by assumption) (by assumption) fun _ h => List.mem_cons_of_mem _ (List.mem_cons_of_mem _ h)
      | true =>
        obtain ⟨d, hd, hds⟩ := List.any_eq_true.mp hset
        cases d with
        | non => exact nomatch hds
        | num _ => exact nomatch hds
        | set ls =>
        have hls := (hW.ok _ hd).1
        have hfo := filter_one hW hd rfl
        have hss' := hss
        rw [hfo] at hss'
        cases hss' with
        | cons hs0 hs1 =>
        cases hs1
        obtain ⟨b2, bs2, kb2, rfl, hb2m, hbi2⟩ := hs0
        replace hb2m : (b2, W.listOf (List.toArray bs2) kb2) ∈ rest2 := hb2m
        have hbl2 := hbi2.length
        have hfm := firstMet_length_le (fun i => ls.getD i 0) ls.length
        k_steps
        refine Hold.go (truthy_known true (News.isList (by k_asm) (led_rest2 hS)) (by simp) (by simp) ?_)
        intro k9
        k_steps
        refine Hold.go (sub_led2 (News.isList (by k_asm) (led_rest2 hS)) (i := 0) rfl rfl (by decide) ?_ (by with_unfolding_all rfl))
        k_steps
        refine' newSet_any (ns := ls) ?F ?N (by rfl) ?l hbi2 (by omega) ?_
        case F => k_asm
        case N => k_asm
        case l => exact News.isList (by k_asm) (led_rest2 hb2m)
        intro S1 h7 tk7 o1 F7 N7 _ hso
        k_steps
        refine Hold.go (truthy_known true (News.isList (by k_asm) (List.mem_cons_of_mem _ (led_rest2 hS))) (by simp) (by simp) ?_)
        intro k8
        k_steps
        refine Hold.go (sub_led2 (News.isList (by k_asm) (List.mem_cons_of_mem _ (led_rest2 hS))) (i := 0) rfl rfl (by decide) ?_ (by with_unfolding_all rfl))
        k_steps
        · rename_i heq
          have HD : ∀ l, Stp.set l ∈ ds → l.idxOf (l.getD (b.getD 0) 0) = b.getD 0 := fun l hl => by
            have hq := filter_one hW hl rfl
            rw [hfo] at hq
            have hq2 : Stp.set ls = Stp.set l := (List.cons.inj hq).1
            injection hq2 with hq2
            subst hq2
            exact first_at hls (by omega) hb2
          refine' Hold.go (ctr_call (Ctr.use (check_ x dx tx l2 vs2 k2 ds hW wl ws _ hwi (by rw [List.length_map]; omega)) ?k1 ?k2 ?k3 ?k4 ?k5 ?kK ?kd ?ku ⟨?p1, ?p2⟩ ?_))
          walk_at "useCtr"
          case p1 => exact objH_of (rest := rest2) (by k_asm) (fun p hp => List.mem_cons_of_mem _ (led_rest2 hp)) hx hdx hl2 hst2
          case p2 => exact News.isList (by k_asm) ((fun p (hp : p ∈ rest2) => List.mem_cons_of_mem _ (led_rest2 hp)) _ hwl)
          intro r1 tl1 h7 tk7 F7 N7 _ kn1
          rw [known_fill hb2 hW.ok HD hnon, hset] at kn1
          obtain ⟨T1, t1, t2, q1, rfl, hT1⟩ := kn1
          replace N7 := cb_drop (news := (T1, _) :: (I, it) :: led L c1 c2 c3 c4 (tabObj ps) rest2) N7 (fun p hp => by
            rcases List.mem_cons.mp hp with rfl | hp
            · exact List.mem_append_right _ hT1
            · exact List.mem_append_left _ (List.mem_cons_of_mem _ (hp)))
          clear hT1
          cases b with
          | none =>
            have eb : bv = Value.none := hbv.symm
            subst eb
            k_steps
            refine Hold.go (ne_rd true (rd_tup2 (News.get (by k_asm) (List.mem_cons_of_mem _ List.mem_cons_self))) (rd_tup2 (News.get (by k_asm) List.mem_cons_self)) rfl rfl ⟨fun _ => rfl, fun _ => rfl⟩ (by ktr_units) ?_)
            k_steps
            show wpAny _ _ (execs r4 _) _ _ _
            exact fin _ _ _ _ _ rfl (by assumption) (by assumption) fun _ h => List.mem_cons_of_mem _ (List.mem_cons_of_mem _ h)
          | some i =>
            have eb : bv = Value.int (Int.ofNat i) tb := hbv.symm
            subst eb
            k_steps
            refine Hold.go (truthy_known true (News.isList (by k_asm) (List.mem_cons_of_mem _ (led_rest2 hS))) (by simp) (by simp) ?_)
            intro k7
            k_steps
            refine Hold.go (ne_rd true (rd_tup2 (News.get (by k_asm) (List.mem_cons_of_mem _ List.mem_cons_self))) (rd_tup2 (News.get (by k_asm) List.mem_cons_self)) rfl rfl ⟨fun _ => rfl, fun _ => rfl⟩ (by ktr_units) ?_)
            k_steps
            show wpAny _ _ (execs r4 _) _ _ _
            exact fin _ _ _ _ _ rfl (by assumption) (by assumption) fun _ h => List.mem_cons_of_mem _ (List.mem_cons_of_mem _ h)
        · show wpAny _ _ (execs r4 _) _ _ _
          exact fin _ _ _ _ _ rfl (by assumption) N7 fun _ h => List.mem_cons_of_mem _ h
  · rintro u nx h tk rfl F3 N3
    replace F3 : Fr h₀ L h _ := F3
    k_steps
    show wpAny _ _ (execs r13 _) _ _ _
    subst e13
    obtain ⟨x', dx, tx, l2, vs2, k2, e, q1, q2, q3, q4⟩ := hob
    exact law_F hG hE ds hW h0 _ F3 rest1 c1 c2 c3 c4 ps TO N3 d1 lS d2 tt d3 x d4 O1 ⟨x', dx, tx, l2, vs2, k2, e, up _ q1, up _ q2, up _ q3, q4.mono fun a o h => up (a, o) h⟩ ss kS (up _ hS) (hss.mono fun a o h => up (a, o) h) fun h' tk' m' ps nw F' N' hm => hQ h' tk' m' ps nw F' N' hm
end
section
theorem topP52 : True := by
  w_top off
  trivial
local macro_rules | `(tactic| k_all) => `(tactic| first | exact Off.o0 (by with_reducible assumption) | exact Off.o1 (by with_reducible assumption) | exact Off.o2 (by with_reducible assumption) | exact Off.o3 (by with_reducible assumption) | exact Off.o4 (by with_reducible assumption))
local macro_rules | `(tactic| walk_at "compareOp NotEq bool bool") => `(tactic| refine hold ?_)
theorem num_ok (a : Int) (i : Nat) : 0 ≤ [0, 7, 2147483647, a.fmod 100000].getD i 0 ∧ [0, 7, 2147483647, a.fmod 100000].getD i 0 < 2147483648 := by
  have h1 := Int.fmod_nonneg_of_pos a (b := 100000) (by decide)
  have h2 := Int.fmod_lt_of_pos a (b := 100000) (by decide)
  match i with
  | 0 => exact ⟨Int.le_refl 0, (by decide : (0 : Int) < 2147483648)⟩
  | 1 => exact ⟨(by decide : (0 : Int) ≤ 7), (by decide : (7 : Int) < 2147483648)⟩
  | 2 => exact ⟨(by decide : (0 : Int) ≤ 2147483647), (by decide : (2147483647 : Int) < 2147483648)⟩
  | 3 => exact ⟨h1, Int.lt_trans h2 (by decide)⟩
  | n + 4 => exact ⟨by simp, by simp⟩
set_option maxHeartbeats 0 in
theorem law_E {w : World} {L fa : Addr} {mean : ExcName → Option Value} {mg mb : Str → Option Value} {h₀ : Heap} {s : Shared} {Q : Flow → Shared → Prop} {E : Value → Shared → Prop} (G : LawG w L fa mean mg mb h₀) (hE : PassesOwn (model PR w) (lawA L fa) (lawEnv L fa) E)
    (l : Addr) (vs : List Value) (k : Nat) (ds : List Stp) (hW : WF ds) (h0 : ds ≠ []) (more : Int) (tm : Tok) (m : Str → Option Value) (F : Fr h₀ L s.heap m) (m1 : m (Str.ofString "steps") = some (.ref l)) (m2 : m (Str.ofString "more") = some (.int more tm))
    (rest : List (Addr × Obj)) (c1 c2 c3 c4 : Obj) (ps : Array Value) (TO : TabOk 700 ps) (N : News h₀ L s.heap (led L c1 c2 c3 c4 (tabObj ps) rest))
    (d1 : c1.data = .cell none) (lS : Addr) (d2 : c2.data = .cell (some (.ref lS))) (tt : Tok) (d3 : c3.data = .cell (some (.str (text 0 ds) tt))) (x : Addr) (d4 : c4.data = .cell (some (.ref x))) (O : Off L rest)
    (hl : (l, W.listOf (List.toArray vs) k) ∈ rest) (hst : StAll (InL rest) vs ds) (hob : ObjL (InL rest) w (.ref x) ds)
    (ss : List Value) (kS : Nat) (hS : (lS, W.listOf (List.toArray ss) kS) ∈ rest) (hss : StAll (InL rest) ss (ds.filter Stp.isSet)) (hQ : LawQ h₀ L Q s) :
    wpAny (model PR w) (lawA L fa) (execs (lawBody.drop 11) (lawEnv L fa)) Q E s := by
  have hG := G
  obtain ⟨B, X, T, C, lt0⟩ := G
  have lt : @LT.lt Nat _ 901 L := lt0
  refine law_cut1 (rest := lawBody.drop 12) (cs := ⟨_, _ :: _, _, _, _⟩) rfl rfl hE ?_
  intro r12 e12 hE12
  replace F := fr_kn F m2
  k_steps
  rename_i F4 N4
  subst e12
  exact law_E2 hG hE l vs k ds hW h0 more tm _ _ (num_ok more _).1 (num_ok more _).2 _ F4 m1 rfl rfl rest c1 c2 c3 c4 ps TO (cb_drop N4 (fun p hp => List.mem_cons_of_mem _ hp)) d1 lS d2 tt d3 x d4 O hl hst hob ss kS hS hss fun h' tk' m' ps nw F' N' hm => hQ h' tk' m' ps nw F' N' hm
end
section
theorem topP51 : True := by
  w_top off
  trivial
local macro_rules | `(tactic| k_all) => `(tactic| first | exact Off.o0 (by with_reducible assumption) | exact Off.o1 (by with_reducible assumption) | exact Off.o2 (by with_reducible assumption) | exact Off.o3 (by with_reducible assumption) | exact Off.o4 (by with_reducible assumption))
local macro_rules | `(tactic| walk_at "compareOp NotEq bool bool") => `(tactic| refine hold ?_)
local macro_rules | `(tactic| walk_at "eval Lambda") => `(tactic| refine hold ?_)
local macro_rules | `(tactic| walk_at "eval Name") => `(tactic| (k_here; k_dflt (refine' nameX_G ?F ?c ?m ?d ?_ ?hk ?hx ?hb ?hn; (case F => k_asm); (case c => rfl); (case hk => rfl); (case hx => rfl); (case m => with_reducible assumption); (case d => with_reducible assumption); (case hb => decide); (case hn => decide); k_whole)))
local macro_rules | `(tactic| walk_at "enterL") => `(tactic| (k_dflt (refine' enterL (binds := []) ?k1 ?k2 ?k3 ?k4 ?k5 ?kA ?kF ?kK ?k6 ?k7 ?k8 ?k9 ?kB ?_ ?c2 ?c3 ?c4 ?c5; (case kA => exact rfl); (case kF => exact rfl); (case kK => assumption); (case k1 => k_asm); (case k2 => k_asm); (case k3 => k_asm); (case k4 => k_asm); (case k5 => k_asm); (case k6 => with_reducible assumption); (case k7 => with_reducible assumption); (case k8 => ktr_room); (case k9 => exact rfl); (case c5 => decide); (case kB => exact (fun _ h => nomatch h)); (case c2 => exact rfl); (case c3 => exact rfl); (case c4 => exact rfl); k_whole; intro L' h' F' N' B' X' T'; (try dsimp only); (try k_fold))))
theorem ne_same2 {prog : Program} {w : World} {A : Around} {E : Value → Shared → Prop} {s : Shared} {b : Bool} {Q : Value → Shared → Prop} (h : Q (.bool false) s) : wpAny (model prog w) A (compareOp .NotEq (.bool b) (.bool b)) Q E s := ne_bool (by rw [bne_self_eq_false]; exact h)
theorem un_kn {m : Str → Option Value} {a : Str} {v : Value} (ea : m a = some v) (y : Str) : (if y = a then some v else m y) = m y := by
  by_cases h : y = a
  · subst h; rw [if_pos rfl, ea]
  · rw [if_neg h]
set_option maxHeartbeats 0 in
theorem law_D2 {w : World} {L fa : Addr} {mean : ExcName → Option Value} {mg mb : Str → Option Value} {h₀ : Heap} {s : Shared} {Q : Flow → Shared → Prop} {E : Value → Shared → Prop} (G : LawG w L fa mean mg mb h₀) (hE : PassesOwn (model PR w) (lawA L fa) (lawEnv L fa) E)
    (l : Addr) (vs : List Value) (k : Nat) (ds : List Stp) (hW : WF ds) (h0 : ds ≠ []) (more : Int) (tm : Tok) (m : Str → Option Value) (F : Fr h₀ L s.heap m) (m1 : m (Str.ofString "steps") = some (.ref l)) (m2 : m (Str.ofString "more") = some (.int more tm)) (m3 : m (Str.ofString "hardened") = some (.bool (ds.any Stp.hard)))
    (rest : List (Addr × Obj)) (c1 c2 c3 c4 : Obj) (N : News h₀ L s.heap (led L c1 c2 c3 c4 (tabObj #[]) rest))
    (d1 : c1.data = .cell none) (lS : Addr) (d2 : c2.data = .cell (some (.ref lS))) (tt : Tok) (d3 : c3.data = .cell (some (.str (text 0 ds) tt))) (x : Addr) (d4 : c4.data = .cell (some (.ref x))) (O : Off L rest)
    (hl : (l, W.listOf (List.toArray vs) k) ∈ rest) (hst : StAll (InL rest) vs ds) (hob : ObjL (InL rest) w (.ref x) ds)
    (ss : List Value) (kS : Nat) (hS : (lS, W.listOf (List.toArray ss) kS) ∈ rest) (hss : StAll (InL rest) ss (ds.filter Stp.isSet)) (hQ : LawQ h₀ L Q s) :
    wpAny (model PR w) (lawA L fa) (execs (lawBody.drop 10) (lawEnv L fa)) Q E s := by
  have hG := G
  obtain ⟨B, X, T, C, lt0⟩ := G
  have lt : @LT.lt Nat _ 901 L := lt0
  refine law_cut1 (rest := lawBody.drop 11) (cs := ⟨_, _ :: _, _, _, _⟩) rfl rfl hE ?_
  intro r11 e11 hE11
  cases hh : ds.any Stp.hard with
  | true =>
    rw [hh] at m3
    replace F := fr_kn F m3
    k_steps
    refine' Hold.go (lam_led ?F ?N O lt T C TabOk.nil (Nat.zero_le _) ?hcl ?hdef ?_)
    case F => k_asm
    case N => k_asm
    case hcl => exact rfl
    case hdef => exact rfl
    intro f c' ctv pm oc h1 tk1 rest2 F1 N1 O1 up TO1 hmc hbc hlam
    k_steps
    refine' Hold.go (ctr_call (refuse_lam 40 (fun h => h.get? (L + 1 + 1 + 1) = some c3) (fun h h' k e => k _ _ e) hlam (N1 _ (List.mem_cons_of_mem _ List.mem_cons_self)).1 ?Z ?k1 ?k2 ?k3 ?k4 ?k5 ?k6 ?k7 ?k8 ?k9 ?k10 ?_))
    case k1 => k_asm
    case k2 => k_asm
    case k3 => k_asm
    case k4 => k_asm
    case k5 => k_asm
    case k6 => exact X
    case k7 => exact T
    case k8 => exact rfl
    case k9 => ktr_room
    case k10 => ktr_units
    case Z =>
      intro mean mg mb dp un gd cn cs a ccd cl outer A₀ base h₀ L' m news s Q E B F X N T hk hdp hu hpre hret
      obtain ⟨⟨hz1, hz2⟩, hz3⟩ := hpre
      walk_at "enterL"
      k_steps
      all_goals (try k_data)
      refine' Hold.go (RCtr.use (from_hard ds hW hh _ _ (Or.inr ⟨rfl, rfl⟩)) ?k1 ?k2 ?k3 ?k4 ?k5 ?k6 ?k7 ?k8 trivial ?_)
      case k1 => k_asm
      case k2 => k_asm
      case k3 => k_asm
      case k4 => k_asm
      case k5 => k_asm
      case k6 => exact rfl
      case k7 => ktr_room
      case k8 => ktr_units
      intro e t9 vs9 h9 tk9 R9 U9
      refine leave_onX (by k_asm) (by k_asm) R9 U9 rfl ?_
      intro h'' R'' U''
      exact hret _ _ _ _ _ R'' U''
    intro h2 tk2 F2 N2
    k_steps
    refine Hold.go (ne_same2 ?_)
    k_steps
    subst e11
    obtain ⟨x', dx, tx, l2, vs2, k2, e, q1, q2, q3, q4⟩ := hob
    exact law_E hG hE l vs k ds hW h0 more tm m (fr_map F2 (fun y => un_kn m3 y)) m1 m2 rest2 c1 c2 c3 c4 _ ⟨TO1.1, fun p hp => TO1.2 p (Nat.le_trans (by decide) hp)⟩ N2 d1 lS d2 tt d3 x d4 O1 (up _ hl) (hst.mono fun a o h => up (a, o) h) ⟨x', dx, tx, l2, vs2, k2, e, up _ q1, up _ q2, up _ q3, q4.mono fun a o h => up (a, o) h⟩ ss kS (up _ hS) (hss.mono fun a o h => up (a, o) h) fun h' tk' m' ps nw F' N' hm => hQ h' tk' m' ps nw F' N' hm
  | false =>
    rw [hh] at m3
    replace F := fr_kn F m3
    k_steps
    refine' Hold.go (lam_led ?F ?N O lt T C TabOk.nil (Nat.zero_le _) ?hcl ?hdef ?_)
    case F => k_asm
    case N => k_asm
    case hcl => exact rfl
    case hdef => exact rfl
    intro f c' ctv pm oc h1 tk1 rest2 F1 N1 O1 up TO1 hmc hbc hlam
    k_steps
    refine' Hold.go (ctr_call (refuse_lam_no 40 (fun h => h.get? (L + 1 + 1 + 1) = some c3) (fun h h' k e => k _ _ e) hlam (N1 _ (List.mem_cons_of_mem _ List.mem_cons_self)).1 ?Z ?k1 ?k2 ?k3 ?k4 ?k5 ?k6 ?k7 ?k8 ?k9 ?k10 ?_))
    case k1 => k_asm
    case k2 => k_asm
    case k3 => k_asm
    case k4 => k_asm
    case k5 => k_asm
    case k6 => exact X
    case k7 => exact T
    case k8 => exact rfl
    case k9 => ktr_room
    case k10 => ktr_units
    case Z =>
      intro mean mg mb dp un gd cn cs a ccd cl outer A₀ base h₀ L' m news s Q E B F X N T hk hdp hu hpre hret
      obtain ⟨⟨hz1, hz2⟩, hz3⟩ := hpre
      walk_at "enterL"
      k_steps
      all_goals (try k_data)
      refine' Hold.go (Ctr.use (from_text 0 ds h0 hW false (Or.inr hh) _ _ (Or.inr ⟨rfl, rfl⟩)) ?k1 ?k2 ?k3 ?k4 ?k5 ?k6 ?k7 ?k8 trivial ?_)
      case k1 => k_asm
      case k2 => k_asm
      case k3 => k_asm
      case k4 => k_asm
      case k5 => k_asm
      case k6 => exact rfl
      case k7 => ktr_room
      case k8 => ktr_units
      intro r tl h9 tk9 F9 N9 _ _
      k_steps
      exact hret _ _ _ _ (by assumption) (by assumption) (by assumption) trivial
    intro h2 tk2 F2 N2
    k_steps
    refine Hold.go (ne_same2 ?_)
    k_steps
    subst e11
    obtain ⟨x', dx, tx, l2, vs2, k2, e, q1, q2, q3, q4⟩ := hob
    exact law_E hG hE l vs k ds hW h0 more tm m (fr_map F2 (fun y => un_kn m3 y)) m1 m2 rest2 c1 c2 c3 c4 _ ⟨TO1.1, fun p hp => TO1.2 p (Nat.le_trans (by decide) hp)⟩ N2 d1 lS d2 tt d3 x d4 O1 (up _ hl) (hst.mono fun a o h => up (a, o) h) ⟨x', dx, tx, l2, vs2, k2, e, up _ q1, up _ q2, up _ q3, q4.mono fun a o h => up (a, o) h⟩ ss kS (up _ hS) (hss.mono fun a o h => up (a, o) h) fun h' tk' m' ps nw F' N' hm => hQ h' tk' m' ps nw F' N' hm
end
section
theorem topP45 : True := by
  w_top off
  trivial
local macro_rules | `(tactic| walk_at "pad") => `(tactic| fail "pad")
local macro_rules | `(tactic| walk_at "pad") => `(tactic| fail "pad")
local macro_rules | `(tactic| walk_at "pad") => `(tactic| fail "pad")
local macro_rules | `(tactic| walk_at "pad") => `(tactic| fail "pad")
local macro_rules | `(tactic| k_all) => `(tactic| first | exact Off.o0 (by with_reducible assumption) | exact Off.o1 (by with_reducible assumption) | exact Off.o2 (by with_reducible assumption) | exact Off.o3 (by with_reducible assumption) | exact Off.o4 (by with_reducible assumption))
local macro_rules | `(tactic| walk_at "compareOp NotEq ref ref") => `(tactic| refine hold ?_)
local macro_rules | `(tactic| walk_at "compareOp NotEq bool bool") => `(tactic| refine hold ?_)
local macro_rules | `(tactic| walk_at "compareOp In none ref") => `(tactic| refine hold ?_)
local macro_rules | `(tactic| walk_at "truthy ref") => `(tactic| refine hold ?_)
local macro_rules | `(tactic| walk_at "getAttr ref") => `(tactic| (k_here; k_dflt (refine' get_prop ?k1 ?k2 ?k3 ?k4 ?k5 ?k6 ?k7 ?k8 ?k9 ?_; (case k1 => k_asm); (case k2 => k_asm); (case k3 => k_inst); (case k4 => k_is); (case k5 => k_is); (case k6 => k_is); (case k7 => k_is); (case k8 => k_is); (case k9 => k_is); k_whole; refine hold ?_)))
local macro_rules | `(tactic| walk_at "subscriptTail Name Constant ref int") => `(tactic| refine hold ?_)
local macro_rules | `(tactic| walk_at "subscriptTail") => `(tactic| refine hold ?_)
theorem sub_led {prog : Program} {w : World} {A : Around} {E : Value → Shared → Prop} {s : Shared} {D : Addr} {vs : List Value} {v : Value} {i : Nat} {kk : Int} {u : Tok} {Q : Value → Shared → Prop} {value slice : PySem.Expr} (hl : s.heap.IsList D vs.toArray) (hv : vs[i]? = some v) (hk : kk = (i : Int)) (hi : (i : Int) < 2 ^ 62) (h : Q v s)
    (hs : subscripted slice false (.ref D) (.int kk u) = operate [.ref D, .int kk u] (getItem (.ref D) (.int kk u)) := by with_unfolding_all rfl) :
    wpAny (model prog w) A (subscriptTail value slice (.ref D) (.int kk u)) Q E s := by
  subst hk
  exact tail_any hl.typeIs slot_list_getitem.lookup (wpAny_getItem_list hl (by omega) (by omega) (by simpa using hv) h) hs
theorem ne_same {prog : Program} {w : World} {A : Around} {E : Value → Shared → Prop} {s : Shared} {b : Bool} {Q : Value → Shared → Prop} (h : Q (.bool false) s) : wpAny (model prog w) A (compareOp .NotEq (.bool b) (.bool b)) Q E s := ne_bool (by rw [bne_self_eq_false]; exact h)
theorem un_kn2 {m : Str → Option Value} {a b : Str} {v u : Value} (ea : m a = some v) (eb : m b = some u) (y : Str) : (if y = b then some u else if y = a then some v else m y) = m y := by
  by_cases h : y = b
  · subst h; rw [if_pos rfl, eb]
  · rw [if_neg h]
    by_cases h : y = a
    · subst h; rw [if_pos rfl, ea]
    · rw [if_neg h]
set_option maxHeartbeats 0 in
theorem law_D {w : World} {L fa : Addr} {mean : ExcName → Option Value} {mg mb : Str → Option Value} {h₀ : Heap} {s : Shared} {Q : Flow → Shared → Prop} {E : Value → Shared → Prop} (G : LawG w L fa mean mg mb h₀) (hE : PassesOwn (model PR w) (lawA L fa) (lawEnv L fa) E)
    (l : Addr) (vs : List Value) (k : Nat) (ds : List Stp) (hW : WF ds) (h0 : ds ≠ []) (more : Int) (tm : Tok) (m : Str → Option Value) (F : Fr h₀ L s.heap m) (m1 : m (Str.ofString "steps") = some (.ref l)) (m2 : m (Str.ofString "more") = some (.int more tm)) (m3 : m (Str.ofString "hardened") = some (.bool (ds.any Stp.hard)))
    (rest : List (Addr × Obj)) (c1 c2 c3 c4 : Obj) (N : News h₀ L s.heap (led L c1 c2 c3 c4 (tabObj #[]) rest))
    (d1 : c1.data = .cell none) (lS : Addr) (d2 : c2.data = .cell (some (.ref lS))) (tt : Tok) (d3 : c3.data = .cell (some (.str (text 0 ds) tt))) (x : Addr) (d4 : c4.data = .cell (some (.ref x))) (O : Off L rest)
    (hl : (l, W.listOf (List.toArray vs) k) ∈ rest) (hst : StAll (InL rest) vs ds) (hob : ObjL (InL rest) w (.ref x) ds)
    (ss : List Value) (kS : Nat) (hS : (lS, W.listOf (List.toArray ss) kS) ∈ rest) (hss : StAll (InL rest) ss (ds.filter Stp.isSet)) (hQ : LawQ h₀ L Q s) :
    wpAny (model PR w) (lawA L fa) (execs (lawBody.drop 9) (lawEnv L fa)) Q E s := by
  have hG := G
  obtain ⟨B, X, T, C, lt0⟩ := G
  have lt : @LT.lt Nat _ 901 L := lt0
  have hvl := hst.length
  have h5 := hW.len
  have hsl := hss.length
  have hob' := hob
  have hss0 := hss
  obtain ⟨x', dx, tx, l2, vs2, k2, ex, hx, hdx, hl2, hst2⟩ := hob
  obtain rfl : x = x' := by injection ex
  replace hx : (x, instObj 852 dx) ∈ rest := hx
  replace hdx : (dx, dictOf [⟨PyData.keyHash w.params (Str.ofString "indexes"), .str (Str.ofString "indexes") tx, .ref l2⟩] 1) ∈ rest := hdx
  replace hl2 : (l2, W.listOf (List.toArray vs2) k2) ∈ rest := hl2
  refine law_cut1 (rest := lawBody.drop 10) (cs := ⟨_, _ :: _, _, _, _⟩) rfl rfl hE ?_
  intro r10 e10 hE10
  have F0 := F
  replace F := fr_kn (a := Str.ofString "steps") (fr_kn F m3) m1
  k_steps
  refine' Hold.go (ret_match (Ctr.use (is_wildcard x dx tx l2 vs2 k2 ds _ rfl) ?k1 ?k2 ?k3 ?k4 ?k5 ?k6 ?k7 ?k8 (objH_of (rest := rest) (by k_asm) (fun p hp => led_rest hp) hx hdx hl2 hst2) ?_))
  case k1 => k_asm
  case k2 => k_asm
  case k3 => k_asm
  case k4 => k_asm
  case k5 => k_asm
  case k6 => exact rfl
  case k7 => ktr_room
  case k8 => ktr_units
  rintro r tl h7 tk7 F7 N7 _ rfl
  replace N7 := cb_drop N7 (fun p hp => List.mem_append_left _ hp)
  refine handed_on rfl ?_
  k_steps
  refine Hold.go (in_rd (ds.any Stp.isNon) (News.isList (by k_asm) (by k_mem)) (StAll.rd (hst.mono (news_at (by k_asm) (fun p hp => ?km)))) rd_none (ok_dats 7 ds) rfl (non_mem rfl) (by ktr_units) ?_)
  case km => exact led_rest hp
  k_steps
  refine Hold.go (ne_same ?_)
  k_steps
  refine' Hold.go (ret_match (Ctr.use (branches x dx tx l2 vs2 k2 ds hW) ?k1 ?k2 ?k3 ?k4 ?k5 ?k6 ?k7 ?k8 (objH_of (rest := rest) (by k_asm) (fun p hp => led_rest hp) hx hdx hl2 hst2) ?_))
  case k1 => k_asm
  case k2 => k_asm
  case k3 => k_asm
  case k4 => k_asm
  case k5 => k_asm
  case k6 => exact rfl
  case k7 => ktr_room
  case k8 => ktr_units
  rintro r tl h6 tk6 F6 N6 _ P6
  replace N6 := cb_drop N6 (fun p hp => List.mem_append_left _ hp)
  rcases P6 with ⟨i, ls, hd, hv⟩ | ⟨hno, rfl⟩
  · obtain ⟨d', hd', hS'⟩ := hst2.get hv
    obtain rfl : Stp.set ls = d' := by rw [hd] at hd'; exact Option.some.inj hd'
    rw [filter_one hW (List.mem_of_getElem? hd) rfl] at hss
    cases hss with
    | cons hs0 hs1 =>
    cases hs1
    obtain ⟨b, bs, kb, rfl, hb, hbi⟩ := hS'
    obtain ⟨b2, bs2, kb2, rfl, hb2, hbi2⟩ := hs0
    replace hb : (b, W.listOf (List.toArray bs) kb) ∈ rest := hb
    replace hb2 : (b2, W.listOf (List.toArray bs2) kb2) ∈ rest := hb2
    refine handed_on rfl ?_
    k_steps
    refine Hold.go (truthy_known true (News.isList (by k_asm) (by k_mem)) (by simp) (by simp) ?_)
    intro k9
    k_steps
    refine Hold.go (sub_led (News.isList (by k_asm) (by k_mem)) (i := 0) rfl rfl (by decide) ?_ (by with_unfolding_all rfl))
    k_steps
    refine Hold.go (ne_rd true (rd_list (News.isList (by k_asm) (by k_mem)) (rds_ints hbi)) (rd_list (News.isList (by k_asm) (by k_mem)) (rds_ints hbi2)) (ok_list (ok_ints 8 ls)) (ok_list (ok_ints 8 ls)) ⟨fun _ => rfl, fun _ => rfl⟩ (by ktr_units) ?_)
    k_steps
    refine' Hold.go (ret_match (Ctr.use (has_hardend x dx tx l2 vs2 k2 ds hW _ rfl) ?k1 ?k2 ?k3 ?k4 ?k5 ?k6 ?k7 ?k8 (objH_of (rest := rest) (by k_asm) (fun p hp => led_rest hp) hx hdx hl2 hst2) ?_))
    case k1 => k_asm
    case k2 => k_asm
    case k3 => k_asm
    case k4 => k_asm
    case k5 => k_asm
    case k6 => exact rfl
    case k7 => ktr_room
    case k8 => ktr_units
    rintro r tl h5 tk5 F5 N5 _ rfl
    replace N5 := cb_drop N5 (fun p hp => List.mem_append_left _ hp)
    refine handed_on rfl ?_
    k_steps
    refine Hold.go (ne_same ?_)
    k_steps
    subst e10
    exact law_D2 hG hE l vs k ds hW h0 more tm m (fr_map F5 (fun y => un_kn2 m3 m1 y)) m1 m2 m3 rest c1 c2 c3 c4 N5 d1 lS d2 tt d3 x d4 O hl hst hob' _ kS hS hss0 fun h' tk' m' ps nw F' N' hm => hQ h' tk' m' ps nw F' N' hm
  · rw [filter_none hno] at hss
    cases hss
    refine handed_on rfl ?_
    k_steps
    refine Hold.go (truthy_known false (News.isList (by k_asm) (by k_mem)) (by simp) (by simp) ?_)
    intro k9
    k_steps
    refine' Hold.go (ret_match (Ctr.use (has_hardend x dx tx l2 vs2 k2 ds hW _ rfl) ?k1 ?k2 ?k3 ?k4 ?k5 ?k6 ?k7 ?k8 (objH_of (rest := rest) (by k_asm) (fun p hp => led_rest hp) hx hdx hl2 hst2) ?_))
    case k1 => k_asm
    case k2 => k_asm
    case k3 => k_asm
    case k4 => k_asm
    case k5 => k_asm
    case k6 => exact rfl
    case k7 => ktr_room
    case k8 => ktr_units
    rintro r tl h5 tk5 F5 N5 _ rfl
    replace N5 := cb_drop N5 (fun p hp => List.mem_append_left _ hp)
    refine handed_on rfl ?_
    k_steps
    refine Hold.go (ne_same ?_)
    k_steps
    subst e10
    exact law_D2 hG hE l vs k ds hW h0 more tm m (fr_map F5 (fun y => un_kn2 m3 m1 y)) m1 m2 m3 rest c1 c2 c3 c4 N5 d1 lS d2 tt d3 x d4 O hl hst hob' _ kS hS hss0 fun h' tk' m' ps nw F' N' hm => hQ h' tk' m' ps nw F' N' hm
end
section
theorem topP46 : True := by
  w_top off
  trivial
local macro_rules | `(tactic| walk_at "pad") => `(tactic| fail "pad")
local macro_rules | `(tactic| k_all) => `(tactic| first | exact Off.o0 (by with_reducible assumption) | exact Off.o1 (by with_reducible assumption) | exact Off.o2 (by with_reducible assumption) | exact Off.o3 (by with_reducible assumption) | exact Off.o4 (by with_reducible assumption))
local macro_rules | `(tactic| walk_at "UnrEnd") => `(tactic| refine hold ?_)
theorem hard_count (ds : List Stp) : 0 < (List.filterMap Stp.alone ds ++ List.flatMap Stp.nums (List.filter Stp.isSet ds)).countP (fun n => decide (2147483648 ≤ n)) ↔ ds.any Stp.hard = true := by
  rw [List.countP_pos_iff]
  constructor
  · rintro ⟨n, hn, hp⟩
    rcases List.mem_append.mp hn with hn | hn
    · obtain ⟨d, hd, e⟩ := List.mem_filterMap.mp hn
      refine List.any_eq_true.mpr ⟨d, hd, ?_⟩
      cases d with
      | non => exact nomatch e
      | set l => exact nomatch e
      | num m =>
        have e' : m = n := Option.some.inj e
        subst e'; exact hp
    · obtain ⟨d, hd, e⟩ := List.mem_flatMap.mp hn
      refine List.any_eq_true.mpr ⟨d, (List.mem_filter.mp hd).1, ?_⟩
      cases d with
      | non => exact nomatch e
      | num m => exact nomatch e
      | set l => exact List.any_eq_true.mpr ⟨n, e, hp⟩
  · intro h
    obtain ⟨d, hd, e⟩ := List.any_eq_true.mp h
    cases d with
    | non => exact nomatch e
    | num m => exact ⟨m, List.mem_append_left _ (List.mem_filterMap.mpr ⟨_, hd, rfl⟩), e⟩
    | set l =>
      obtain ⟨n, hn, hp⟩ := List.any_eq_true.mp e
      exact ⟨n, List.mem_append_right _ (List.mem_flatMap.mpr ⟨_, List.mem_filter.mpr ⟨hd, rfl⟩, hn⟩), hp⟩
set_option maxHeartbeats 0 in
theorem law_C2 {w : World} {L fa : Addr} {mean : ExcName → Option Value} {mg mb : Str → Option Value} {h₀ : Heap} {s : Shared} {Q : Flow → Shared → Prop} {E : Value → Shared → Prop} (G : LawG w L fa mean mg mb h₀) (hE : PassesOwn (model PR w) (lawA L fa) (lawEnv L fa) E)
    (l : Addr) (vs : List Value) (k : Nat) (ds : List Stp) (hW : WF ds) (h0 : ds ≠ []) (more : Int) (tm : Tok) (lh : Addr) (m : Str → Option Value) (F : Fr h₀ L s.heap m) (m1 : m (Str.ofString "steps") = some (.ref l)) (m2 : m (Str.ofString "more") = some (.int more tm)) (m3 : m (Str.ofString "hard") = some (.ref lh))
    (rest : List (Addr × Obj)) (c1 c2 c3 c4 : Obj) (N : News h₀ L s.heap (led L c1 c2 c3 c4 (tabObj #[]) rest))
    (d1 : c1.data = .cell none) (lS : Addr) (d2 : c2.data = .cell (some (.ref lS))) (tt : Tok) (d3 : c3.data = .cell (some (.str (text 0 ds) tt))) (x : Addr) (d4 : c4.data = .cell (some (.ref x))) (O : Off L rest)
    (hl : (l, W.listOf (List.toArray vs) k) ∈ rest) (hst : StAll (InL rest) vs ds) (hob : ObjL (InL rest) w (.ref x) ds)
    (ss : List Value) (kS : Nat) (hS : (lS, W.listOf (List.toArray ss) kS) ∈ rest) (hss : StAll (InL rest) ss (ds.filter Stp.isSet)) (hs : List Value) (kh : Nat) (hh : (lh, W.listOf (List.toArray hs) kh) ∈ rest) (hhs : IntsAre hs (ds.filterMap Stp.alone)) (hQ : LawQ h₀ L Q s) :
    wpAny (model PR w) (lawA L fa) (execs (lawBody.drop 7) (lawEnv L fa)) Q E s := by
  have hG := G
  obtain ⟨B, X, T, C, lt0⟩ := G
  have lt : @LT.lt Nat _ 901 L := lt0
  have hvl := hst.length
  have h5 := hW.len
  have hsl := hss.length
  have hfl := List.length_filter_le Stp.isSet ds
  replace F := fr_kn F m3
  refine law_cut2 (rest := lawBody.drop 9) (cs := ⟨_, _ :: _, _, _, _⟩) rfl rfl hE ?_
  intro r9 e9 hE9
  k_steps
  refine Hold.go (for_led [Str.ofString "hard"] (fun i u nx => ∃ lh hs kh rest2, nx = led L c1 c2 c3 c4 (tabObj #[]) rest2 ∧ Off L rest2 ∧ (∀ p ∈ rest, p ∈ rest2) ∧ u (Str.ofString "hard") = some (.ref lh) ∧ (lh, W.listOf (List.toArray hs) kh) ∈ rest2 ∧ IntsAre hs (ds.filterMap Stp.alone ++ ((ds.filter Stp.isSet).take i).flatMap Stp.nums) ∧ hs.length ≤ 5 + 3 * i) (by rfl) (by k_asm) (by k_asm) (led_rest hS) ⟨lh, hs, kh, rest, rfl, O, fun _ h => h, rfl, hh, by simpa using hhs, by have := hhs.length; have := List.length_filterMap_le Stp.alone ds; omega⟩ ?_ ?_)
  · rintro I it i v u nx h tk hv hoff ⟨lh2, hs2, kh2, rest2, rfl, O2, up, hu, hh2, hhs2, hlen⟩ F3 N3
    simp only [fr_known hu, List.contains_nil, Bool.false_eq_true, if_false] at F3
    replace N3 : News h₀ L h _ := N3
    obtain ⟨d, hd, hS1⟩ := hss.get hv
    have hds : d.isSet = true := (List.mem_filter.mp (List.mem_of_getElem? hd)).2
    cases d with
    | non => exact nomatch hds
    | num n => exact nomatch hds
    | set ls =>
      obtain ⟨b, bs, kb, rfl, hb, hbi⟩ := hS1
      have hb' : (b, W.listOf (List.toArray bs) kb) ∈ rest2 := up _ hb
      have hsz1 := hbi.length
      have hsz2 := hhs2.length
      have hil : i < ss.length := (List.getElem?_eq_some_iff.mp hv).1
      have hok := (hW.ok _ (List.mem_filter.mp (List.mem_of_getElem? hd)).1).1
      k_steps
      rename_i D1 ws1 _ hI1 l1 _ F4 N4
      refine Hold.go (led_end (led L c1 c2 c3 c4 (tabObj #[]) ((D1, W.listOf (List.toArray ws1) 0) :: rest2)) F4 N4 (fun p hp => ?_) (fun p hp => ?_) ⟨led_rest (List.mem_cons_of_mem _ (up _ hS)), ⟨D1, ws1, _, _, rfl, O2.push ⟨Nat.ne_of_lt l1.2.1, Nat.ne_of_lt l1.2.2.1, Nat.ne_of_lt l1.2.2.2.1, Nat.ne_of_lt l1.2.2.2.2.1, Nat.ne_of_lt l1.2.2.2.2.2.1⟩, fun p hp => List.mem_cons_of_mem _ (up p hp), rfl, List.mem_cons_self, ?_, ?_⟩, fun z h1 h2 => ?_⟩)
      · rcases List.mem_cons.mp hp with rfl | hp
        · exact List.mem_cons_of_mem _ List.mem_cons_self
        · rcases led_cons hp with rfl | hp
          · exact List.mem_cons_self
          · exact List.mem_cons_of_mem _ (List.mem_cons_of_mem _ hp)
      · rcases led_cons hp with rfl | hp
        · exact fun e => Nat.ne_of_lt l1.1 e.symm
        · exact hoff p hp
      · rw [List.take_add_one, hd]
        simpa [Stp.nums] using hI1
      · have := hI1.length
        rw [List.length_append, ← hsz2, ← hsz1] at this
        omega
      · simp only [if_neg (not_in_one h2), if_neg h1]
  · rintro u nx h tk ⟨lh2, hs2, kh2, rest2, rfl, O2, up, hu, hh2, hhs2, hlen⟩ F3 N3
    simp only [fr_known hu, List.contains_nil, Bool.false_eq_true, if_false] at F3
    replace N3 : News h₀ L h _ := N3
    have hsz2 := hhs2.length
    rw [hsl, List.take_length] at hhs2
    have hhc := hard_count ds
    generalize List.filterMap Stp.alone ds ++ List.flatMap Stp.nums (List.filter Stp.isSet ds) = ns at hhs2 hhc hsz2
    k_steps
    refine Hold.go (LCt.CompSrcT.ledger (by rfl) (by k_asm) (by k_asm) (led_rest hh2) (by rw [PySem.sizeLine_eq, List.size_toArray]; omega) ?_)
    intro g2
    refine comp_invT (fun i ys nw => nw = _ ∧ ys.length = (ns.take i).countP fun n => decide (2147483648 ≤ n)) ⟨rfl, rfl⟩ ?_ ?_
    · intro i v ys nw J oJ Cn oC D' m₂ h tk E' hi' hv hI hC hx F1 N1 off ne
      obtain ⟨rfl, hys⟩ := hI
      obtain ⟨k0, t0, rfl, hk0⟩ := IntsAre.at hhs2 i v (by simpa using hv)
      have hcnt : (ns.take (i + 1)).countP (fun n => decide (2147483648 ≤ n)) = (ns.take i).countP (fun n => decide (2147483648 ≤ n)) + (if 2147483648 ≤ k0 then 1 else 0) := by
        rw [List.take_add_one, hk0, List.countP_append]; simp [List.countP_cons]
      k_steps
      · refine Hold.go (compEnd_same (by assumption) (by assumption) off (Or.inr ⟨_, led_rest hh2, rfl, _, rfl⟩) ⟨rfl, ?_⟩)
        rw [hcnt, if_pos (by omega)]; simp [hys]
      · refine Hold.go (compEnd_same (by assumption) (by assumption) off (Or.inr ⟨_, led_rest hh2, rfl, _, rfl⟩) ⟨rfl, ?_⟩)
        rw [hcnt, if_neg (by omega)]; simp [hys]
    · rintro ys nw ⟨rfl, hys⟩
      have hl7 := hhs2.length
      rw [List.size_toArray, hl7, List.take_length] at hys
      have hcl := List.countP_le_length (p := fun n => decide ((2147483648 : Int) ≤ n)) (l := ns)
      k_steps
      rename_i F4 N4
      have eh : decide ((0 : Int) < (ys.length : Int)) = ds.any Stp.hard := by
        rw [hys]
        cases q : ds.any Stp.hard with
        | true =>
          have := hhc.mpr q
          exact decide_eq_true (by omega)
        | false =>
          have : ¬ 0 < ns.countP fun n => decide ((2147483648 : Int) ≤ n) := fun z => by rw [hhc.mp z] at q; exact nomatch q
          exact decide_eq_false (by omega)
      rw [eh] at F4
      subst e9
      obtain ⟨x', dx, tx, l2, vs2, k2, e, q1, q2, q3, q4⟩ := hob
      exact law_D hG hE l vs k ds hW h0 more tm _ F4 m1 m2 rfl rest2 c1 c2 c3 c4 (cb_drop N4 (fun p hp => List.mem_cons_of_mem _ hp)) d1 lS d2 tt d3 x d4 O2 (up _ hl) (hst.mono fun a o h => up (a, o) h) ⟨x', dx, tx, l2, vs2, k2, e, up _ q1, up _ q2, up _ q3, q4.mono fun a o h => up (a, o) h⟩ ss kS (up _ hS) (hss.mono fun a o h => up (a, o) h) fun h' tk' m' ps nw F' N' hm => hQ h' tk' m' ps nw F' N' hm
end
section
theorem topP47 : True := by
  w_top off
  trivial
local macro_rules | `(tactic| k_all) => `(tactic| first | exact Off.o0 (by with_reducible assumption) | exact Off.o1 (by with_reducible assumption) | exact Off.o2 (by with_reducible assumption) | exact Off.o3 (by with_reducible assumption) | exact Off.o4 (by with_reducible assumption))
set_option maxHeartbeats 0 in
theorem law_C {w : World} {L fa : Addr} {mean : ExcName → Option Value} {mg mb : Str → Option Value} {h₀ : Heap} {s : Shared} {Q : Flow → Shared → Prop} {E : Value → Shared → Prop} (G : LawG w L fa mean mg mb h₀) (hE : PassesOwn (model PR w) (lawA L fa) (lawEnv L fa) E)
    (l : Addr) (vs : List Value) (k : Nat) (ds : List Stp) (hW : WF ds) (h0 : ds ≠ []) (vsc : Value) (more : Int) (tm : Tok) (u : Str → Option Value)
    (F : Fr h₀ L s.heap (fun y => if y = Str.ofString "form" then u y else List.lookup y [(Str.ofString "more", .int more tm), (Str.ofString "steps", .ref l), (Str.ofString "script", vsc)]))
    (rest : List (Addr × Obj)) (c1 c2 c3 c4 : Obj) (N : News h₀ L s.heap (led L c1 c2 c3 c4 (tabObj #[]) rest))
    (d1 : c1.data = .cell none) (d2 : c2.data = .cell none) (tt : Tok) (d3 : c3.data = .cell (some (.str (text 0 ds) tt))) (x : Addr) (d4 : c4.data = .cell (some (.ref x))) (O : Off L rest)
    (hl : (l, W.listOf (List.toArray vs) k) ∈ rest) (hst : StAll (InL rest) vs ds) (hob : ObjL (InL rest) w (.ref x) ds) (hQ : LawQ h₀ L Q s) :
    wpAny (model PR w) (lawA L fa) (execs (lawBody.drop 5) (lawEnv L fa)) Q E s := by
  have hG := G
  obtain ⟨B, X, T, C, lt0⟩ := G
  have lt : @LT.lt Nat _ 901 L := lt0
  have hvl := hst.length
  have h5 := hW.len
  refine law_cut2 (rest := lawBody.drop 7) (cs := ⟨_, _ :: _, _, _, _⟩) rfl rfl hE ?_
  intro r7 e7 hE7
  k_steps
  refine Hold.go (LCt.CompSrcT.ledger (by rfl) (by k_asm) (by k_asm) (led_rest hl) (by rw [PySem.sizeLine_eq, List.size_toArray]; omega) ?_)
  intro g2
  refine comp_invT (fun i ys nw => nw = _ ∧ StAll (InL rest) ys ((ds.take i).filter Stp.isSet)) ⟨rfl, .nil⟩ ?_ ?_
  · intro i v ys nw J oJ Cn oC D' m₂ h tk E' hi' hv hI hC hx F1 N1 off ne
    obtain ⟨rfl, hys⟩ := hI
    obtain ⟨d, hd, hS⟩ := hst.get (show vs[i]? = some v by simpa using hv)
    have hnx : (ds.take (i + 1)).filter Stp.isSet = (ds.take i).filter Stp.isSet ++ (if d.isSet then [d] else []) := by
      rw [List.take_add_one, hd, List.filter_append]; cases d <;> rfl
    cases d with
    | non =>
      obtain rfl : v = Value.none := hS
      k_steps
      refine Hold.go (compEnd_same (by assumption) (by assumption) off (Or.inr ⟨_, led_rest hl, rfl, _, rfl⟩) ⟨rfl, ?_⟩)
      rw [hnx]; simpa [Stp.isSet] using hys
    | num n =>
      obtain ⟨tn, rfl⟩ := hS
      k_steps
      refine Hold.go (compEnd_same (by assumption) (by assumption) off (Or.inr ⟨_, led_rest hl, rfl, _, rfl⟩) ⟨rfl, ?_⟩)
      rw [hnx]; simpa [Stp.isSet] using hys
    | set ls =>
      have hS' := hS
      obtain ⟨b, bs, kb, rfl, hb, hbi⟩ := hS
      have hb' : (b, W.listOf (List.toArray bs) kb) ∈ rest := hb
      k_steps
      refine Hold.go (compEnd_same (by assumption) (by assumption) off (Or.inr ⟨_, led_rest hl, rfl, _, rfl⟩) ⟨rfl, ?_⟩)
      rw [hnx]; exact hys.append (.one hS')
  · rintro ys nw ⟨rfl, hys⟩
    rw [List.size_toArray, hvl, List.take_length] at hys
    k_steps
    rename Obj.data _ = Data.cell (some (Value.ref _)) => d2'
    rename_i D1 _ _ o1 _ o2 F2 N2
    refine Hold.go (LCt.CompSrcT.ledger (by rfl) (by k_asm) (by k_asm) (List.mem_cons_of_mem _ (led_rest hl)) (by rw [PySem.sizeLine_eq, List.size_toArray]; omega) ?_)
    intro g3
    refine comp_invT (fun i ys nw => nw = _ ∧ IntsAre ys ((ds.take i).filterMap Stp.alone)) ⟨rfl, .nil⟩ ?_ ?_
    · intro i v ys2 nw J oJ Cn oC D' m₂ h tk E' hi' hv hI hC hx F1 N1 off ne
      obtain ⟨rfl, hys2⟩ := hI
      obtain ⟨d, hd, hS⟩ := hst.get (show vs[i]? = some v by simpa using hv)
      have hnx : (ds.take (i + 1)).filterMap Stp.alone = (ds.take i).filterMap Stp.alone ++ (match d.alone with | some n => [n] | none => []) := by
        rw [List.take_add_one, hd, List.filterMap_append]; cases d <;> rfl
      cases d with
      | non =>
        obtain rfl : v = Value.none := hS
        k_steps
        refine Hold.go (compEnd_same (by assumption) (by assumption) off (Or.inr ⟨_, List.mem_cons_of_mem _ (led_rest hl), rfl, _, rfl⟩) ⟨rfl, ?_⟩)
        rw [hnx]; simpa [Stp.alone] using hys2
      | num n =>
        obtain ⟨tn, rfl⟩ := hS
        k_steps
        refine Hold.go (compEnd_same (by assumption) (by assumption) off (Or.inr ⟨_, List.mem_cons_of_mem _ (led_rest hl), rfl, _, rfl⟩) ⟨rfl, ?_⟩)
        rw [hnx]; exact IntsAre.append hys2 (.cons _ _ .nil)
      | set ls =>
        obtain ⟨b, bs, kb, rfl, hb, hbi⟩ := hS
        have hb' : (b, W.listOf (List.toArray bs) kb) ∈ rest := hb
        k_steps
        refine Hold.go (compEnd_same (by assumption) (by assumption) off (Or.inr ⟨_, List.mem_cons_of_mem _ (led_rest hl), rfl, _, rfl⟩) ⟨rfl, ?_⟩)
        rw [hnx]; simpa [Stp.alone] using hys2
    · rintro ys2 nw ⟨rfl, hys2⟩
      rw [List.size_toArray, hvl, List.take_length] at hys2
      k_steps
      rename_i D2 _ _ F3 N3 o3
      have O3 : Off L ((D2, LCg.lst ys2) :: (D1, LCg.lst ys) :: rest) := (O.push ⟨o1.1, o1.2.1, o1.2.2.1, o1.2.2.2.1, o1.2.2.2.2.1⟩).push ⟨o3.2.1, o3.2.2.1, o3.2.2.2.1, o3.2.2.2.2.1, o3.2.2.2.2.2.1⟩
      have N4 := cb_drop (news := led L c1 o2 c3 c4 (tabObj #[]) ((D2, LCg.lst ys2) :: (D1, LCg.lst ys) :: rest)) N3 (led_mem (fun p hp => by
        rcases List.mem_cons.mp hp with rfl | hp
        · exact List.mem_cons_self
        · rcases List.mem_cons.mp hp with rfl | hp
          · exact List.mem_cons_of_mem _ List.mem_cons_self
          · exact List.mem_cons_of_mem _ (List.mem_cons_of_mem _ (led_rest hp))) fun p hp => List.mem_cons_of_mem _ (List.mem_cons_of_mem _ (led_nil hp)))
      subst e7
      have up : ∀ a o, (a, o) ∈ rest → (a, o) ∈ (D2, LCg.lst ys2) :: (D1, LCg.lst ys) :: rest := fun a o h => List.mem_cons_of_mem _ (List.mem_cons_of_mem _ h)
      obtain ⟨x', dx, tx, l2, vs2, k2, e, q1, q2, q3, q4⟩ := hob
      exact law_C2 hG hE l vs k ds hW h0 more tm D2 _ F3 rfl rfl rfl _ c1 o2 c3 c4 N4 d1 D1 d2' tt d3 x d4 O3 (up _ _ hl) (hst.mono up) ⟨x', dx, tx, l2, vs2, k2, e, up _ _ q1, up _ _ q2, up _ _ q3, q4.mono up⟩ ys _ (List.mem_cons_of_mem _ List.mem_cons_self) (hys.mono up) ys2 _ List.mem_cons_self hys2 fun h' tk' m' ps nw F' N' hm => hQ h' tk' m' ps nw F' N' hm
end
section
theorem topP48 : True := by
  w_top off
  trivial
local macro_rules | `(tactic| k_all) => `(tactic| first | exact Off.o0 (by with_reducible assumption) | exact Off.o1 (by with_reducible assumption) | exact Off.o2 (by with_reducible assumption) | exact Off.o3 (by with_reducible assumption) | exact Off.o4 (by with_reducible assumption))
local macro_rules | `(tactic| walk_at "exec For Name Call cons nil") => `(tactic| (k_here; (with_reducible show wpAny _ _ (exec (Stmt.For _ (Expr.Call (Expr.Name (Str.ofString "range") _) _ _ _) _ _ _) _) _ _ _); (with_unfolding_all refine' For_invVF (by k_asm) ?k1 ?k2 ?_; (case k1 => exact rfl); (case k2 => exact rfl); k_whole)))
local macro_rules | `(tactic| walk_at "compareOp NotEq ref ref") => `(tactic| refine hold ?_)
local macro_rules | `(tactic| walk_at "compareOp NotEq str str") => `(tactic| refine hold ?_)
theorem led_own {h₀ h : Heap} {L : Addr} {c1 c2 c3 c4 ot : Obj} {rest own : List (Addr × Obj)} (N : News h₀ L h (led L c1 c2 c3 c4 ot rest ++ own)) (hoff : OwnOff own ((led L c1 c2 c3 c4 ot rest).map (·.1))) (O : Off L rest) :
    ∃ rest2, News h₀ L h (led L c1 c2 c3 c4 ot rest2) ∧ Off L rest2 ∧ (∀ p ∈ rest, p ∈ rest2) ∧ ∀ p ∈ own, p ∈ rest2 :=
  led_more N (fun q hq p hp => (OwnOff.ne hoff (List.mem_map_of_mem hq) p hp).symm) O
set_option maxHeartbeats 0 in
theorem law_B {w : World} {L fa : Addr} {mean : ExcName → Option Value} {mg mb : Str → Option Value} {h₀ : Heap} {s : Shared} {Q : Flow → Shared → Prop} {E : Value → Shared → Prop} (G : LawG w L fa mean mg mb h₀) (hE : PassesOwn (model PR w) (lawA L fa) (lawEnv L fa) E)
    (l : Addr) (vs : List Value) (k : Nat) (ds : List Stp) (hW : WF ds) (h0 : ds ≠ []) (vsc : Value) (more : Int) (tm : Tok)
    (F : Fr h₀ L s.heap (fun y => List.lookup y [(Str.ofString "more", .int more tm), (Str.ofString "steps", .ref l), (Str.ofString "script", vsc)]))
    (rest : List (Addr × Obj)) (c1 c2 c3 c4 : Obj) (N : News h₀ L s.heap (led L c1 c2 c3 c4 (tabObj #[]) rest))
    (d1 : c1.data = .cell none) (d2 : c2.data = .cell none) (d3 : c3.data = .cell none) (d4 : c4.data = .cell none) (O : Off L rest)
    (hl : (l, W.listOf (List.toArray vs) k) ∈ rest) (hst : StAll (InL rest) vs ds) (hQ : LawQ h₀ L Q s) :
    wpAny (model PR w) (lawA L fa) (execs (lawBody.drop 3) (lawEnv L fa)) Q E s := by
  have hG := G
  obtain ⟨B, X, T, C, lt0⟩ := G
  have lt : @LT.lt Nat _ 901 L := lt0
  have hvl := hst.length
  have h5 := hW.len
  have htl := text_len 0 hW.ok hW.len
  refine law_cut2 (rest := lawBody.drop 5) (cs := ⟨_, _ :: _, _, _, _⟩) rfl rfl hE ?_
  intro r5 e5 hE5
  k_steps
  refine' Hold.go (ctr_call (Ctr.use (law_text 0 (by decide) _ l vs ds hW.ok hW.len) ?k1 ?k2 ?k3 ?k4 ?k5 ?k6 ?k7 ?k8 ⟨News.isList (by k_asm) (by k_mem), hst.mono (news_at (by k_asm) (fun p hp => ?km))⟩ ?_))
  case k1 => k_asm
  case k2 => k_asm
  case k3 => k_asm
  case k4 => k_asm
  case k5 => k_asm
  case k6 => exact rfl
  case k7 => ktr_room
  case k8 => ktr_units
  case km => simp only [List.mem_cons]; simp [hp]
  intro r tl h9 tk9 F9 N9 _ P9
  obtain ⟨tt, rfl⟩ := StrV.out P9
  replace N9 := cb_drop N9 (fun p hp => List.mem_append_left _ hp)
  k_steps
  rename Obj.data _ = Data.cell (some _) => d3'
  rename IsRange _ _ _ _ _ _ _ _ => hR
  rename_i o3 _ _ _ _ _ _ _ F8 N8 _
  refine Hold.go (range_frame [] (n := 3) (fun i u nx => ∃ c4 rest, nx = led L c1 c2 o3 c4 (tabObj #[]) rest ∧ Off L rest ∧ (l, W.listOf (List.toArray vs) k) ∈ rest ∧ StAll (InL rest) vs ds ∧ (∃ v₀, c4.data = .cell v₀) ∧ (0 < i → ∃ x, c4.data = .cell (some (.ref x)) ∧ ObjL (InL rest) w (.ref x) ds)) (by rfl) hR (by decide) (by decide) F8 N8 ⟨c4, rest, rfl, O, hl, hst, ⟨_, d4⟩, fun h => absurd h (Nat.lt_irrefl 0)⟩ ?_ ?_)
  · clear N8 F8 hR
    clear O hl hst
    rintro i t u nx h tk own hi' hoff ⟨c4, rest, rfl, O, hl, hst, ⟨v₀, d4⟩, _⟩ F3 N3
    simp only [Int.zero_add, List.contains_nil, Bool.false_eq_true, if_false] at F3
    obtain ⟨rest1, N3, O1, i1, i2⟩ := led_own (L := L) N3 hoff O
    have hl1 := i1 _ hl
    have hst1 : StAll (InL rest1) vs ds := hst.mono fun a o h => i1 (a, o) h
    k_steps
    refine' Hold.go (ctr_call (Ctr.use (law_text i hi' _ l vs ds hW.ok hW.len) ?k1 ?k2 ?k3 ?k4 ?k5 ?k6 ?k7 ?k8 ⟨News.isList (by k_asm) (by k_mem), hst1.mono (news_at (by k_asm) (fun p hp => ?km))⟩ ?_))
    case k1 => k_asm
    case k2 => k_asm
    case k3 => k_asm
    case k4 => k_asm
    case k5 => k_asm
    case k6 => exact rfl
    case k7 => ktr_room
    case k8 => ktr_units
    case km => simp only [List.mem_cons]; simp [hp]
    intro r tl h9 tk9 F9 N9 _ P9
    obtain ⟨tt2, rfl⟩ := StrV.out P9
    replace N9 := cb_drop N9 (fun p hp => List.mem_append_left _ hp)
    k_steps
    all_goals (try k_data)
    refine' Hold.go (Ctr.use (from_text i ds h0 hW true (Or.inl rfl) _ _ (Or.inl ⟨rfl, rfl⟩)) ?k1 ?k2 ?k3 ?k4 ?k5 ?k6 ?k7 ?k8 trivial ?_)
    case k1 => k_asm
    case k2 => k_asm
    case k3 => k_asm
    case k4 => k_asm
    case k5 => k_asm
    case k6 => exact rfl
    case k7 => ktr_room
    case k8 => ktr_units
    intro r tl h8 tk8 F8 N8 S8 P8
    obtain ⟨x, dx, tx, l2, vs2, k2, rfl, hx, hdx, hl2, hst2⟩ := P8
    obtain ⟨rest2, N7, O2, j1, j2⟩ := led_more (cb_drop N8 (fun p hp => List.mem_cons_of_mem _ hp)) (fun q hq p hp => S8 q (List.mem_cons_of_mem _ hq) p hp) O1
    have hx2 := j2 _ hx
    have hdx2 := j2 _ hdx
    have hl22 := j2 _ hl2
    have hst22 : StAll (InL rest2) vs2 ds := hst2.mono fun a o h => j2 (a, o) h
    have hl12 := j1 _ hl1
    have hst12 : StAll (InL rest2) vs ds := hst1.mono fun a o h => j1 (a, o) h
    clear N8
    k_steps
    refine' Hold.go (ne_rd true (rd_list (News.isList (by k_asm) (by k_mem)) (StAll.rd (hst22.mono (news_at (by k_asm) (fun p hp => ?km))))) (rd_list (News.isList (by k_asm) (by k_mem)) (StAll.rd (hst12.mono (news_at (by k_asm) (fun p hp => ?km2))))) (ok_list (ok_dats 7 ds)) (ok_list (ok_dats 7 ds)) ⟨fun _ => rfl, fun _ => rfl⟩ (by ktr_units) ?_)
    case km => simp only [List.mem_cons]; simp [hp]
    case km2 => simp only [List.mem_cons]; simp [hp]
    k_steps
    refine' Hold.go (ctr_call (Ctr.use (str_ x dx tx l2 vs2 k2 ds hW) ?k1 ?k2 ?k3 ?k4 ?k5 ?k6 ?k7 ?k8 (objH_of (rest := rest2) (by k_asm) (fun p hp => ?km) hx2 hdx2 hl22 hst22) ?_))
    case k1 => k_asm
    case k2 => k_asm
    case k3 => k_asm
    case k4 => k_asm
    case k5 => k_asm
    case k6 => exact rfl
    case k7 => ktr_room
    case k8 => ktr_units
    case km => simp only [List.mem_cons]; simp [hp]
    intro r tl2 h7 tk7 F7 N7 _ P7
    obtain ⟨ts, rfl⟩ := StrV.out P7
    replace N7 := cb_drop N7 (fun p hp => List.mem_append_left _ hp)
    rw [strText_is h0 hW.ok]
    dsimp only [StrBack]
    k_steps
    refine Hold.go (ne_known (beq_self_eq_true _) ?_)
    k_steps
    have hsub : ∀ p ∈ rest ++ tl, p ∈ rest2 := fun p hp => by
      rcases List.mem_append.mp hp with hp | hp
      · exact j1 p (i1 p hp)
      · exact j2 p hp
    refine Hold.go (turn_end (by assumption) N7 (led L c1 c2 o3 _ (tabObj #[]) (rest ++ tl)) (led_sub hsub fun p hp => j1 p (i2 p hp)) (own_led (c1 := c1) (c2 := c2) (c3 := o3) (c4 := c4) (ot := tabObj #[]) hoff fun p hp q hq => S8 p (List.mem_cons_of_mem _ (led_rest (i2 p hp))) q hq)
      ⟨⟨_, _, rfl, O2.sub hsub, List.mem_append_left _ hl, hst.mono fun a o h => List.mem_append_left _ h, ⟨_, by assumption⟩, fun _ => ⟨x, by assumption, x, dx, tx, l2, vs2, k2, rfl, List.mem_append_right _ hx, List.mem_append_right _ hdx, List.mem_append_right _ hl2, hst2.mono fun a o h => List.mem_append_right _ h⟩⟩, fun z h1 h2 => by rw [if_neg h1]⟩)
  · rintro u nx h tk ⟨c4, rest, rfl, O, hl, hst, _, hx⟩ F3 N3
    obtain ⟨x, d4, hob⟩ := hx (by decide)
    simp only [List.contains_nil, Bool.false_eq_true, if_false] at F3
    show wpAny _ _ (execs r5 _) _ _ _
    subst e5
    exact law_C hG hE l vs k ds hW h0 vsc more tm u F3 rest c1 c2 o3 c4 N3 d1 d2 tt d3' x d4 O hl hst hob fun h' tk' m' ps nw F' N' hm => hQ h' tk' m' ps nw F' N' hm
end
section
theorem topP49 : True := by
  w_top off
  trivial
set_option maxHeartbeats 0 in
theorem law_A {w : World} {L fa : Addr} {mean : ExcName → Option Value} {mg mb : Str → Option Value} {h₀ : Heap} {s : Shared} {Q : Flow → Shared → Prop} {E : Value → Shared → Prop} (G : LawG w L fa mean mg mb h₀) (hE : PassesOwn (model PR w) (lawA L fa) (lawEnv L fa) E)
    (l₀ : Addr) (us : List Value) (ns : List Int) (hI : IntsAre us ns) (hl₀ : h₀.IsList l₀ us.toArray) (h63 : ns.length ≤ 63)
    (F : Fr h₀ L s.heap (fun y => List.lookup y [(Str.ofString "script", .ref l₀)]))
    (c1 c2 c3 c4 : Obj) (N : News h₀ L s.heap (led L c1 c2 c3 c4 (tabObj #[]) []))
    (d1 : c1.data = .cell none) (d2 : c2.data = .cell none) (d3 : c3.data = .cell none) (d4 : c4.data = .cell none) (hQ : LawQ h₀ L Q s) :
    wpAny (model PR w) (lawA L fa) (execs lawBody (lawEnv L fa)) Q E s := by
  refine law_cut3 (rest := lawBody.drop 3) (cs := ⟨_, _ :: _, _, _, _⟩) rfl rfl hE ?_
  intro r3 e3 hE3
  have hul := hI.length
  obtain ⟨B, X, T, C, lt⟩ := G
  k_steps
  rename IntsAre _ (List.take 9 _) => hI9
  refine' Hold.go (ctr_call (Ctr.use (law_steps _ _ _ hI9 (by rw [List.length_take]; exact Nat.min_le_left _ _)) ?k1 ?k2 ?k3 ?k4 ?k5 ?k6 ?k7 ?k8 ?k9 ?_))
  case k1 => k_asm
  case k2 => k_asm
  case k3 => k_asm
  case k4 => k_asm
  case k5 => k_asm
  case k6 => exact rfl
  case k7 => ktr_room
  case k8 => ktr_units
  case k9 => exact News.isList (by k_asm) (by k_mem)
  rintro r tl h9 tk9 F9 N9 S9 ⟨ds, hW, l, vs, k, rfl, hl, hst⟩
  obtain ⟨rest, N8, O, _, i2⟩ := led_more (cb_drop N9 (fun p hp => List.mem_cons_of_mem _ hp)) (fun q hq p hp => S9 q (List.mem_cons_of_mem _ hq) p hp) no_rest
  replace hl := i2 _ hl
  replace hst := hst.mono fun a o h => i2 (a, o) h
  have hvl := hst.length
  have h5 := hW.len
  clear N9 S9 i2
  by_cases h0 : ds = []
  · subst h0
    obtain rfl : vs = [] := List.length_eq_zero_iff.mp hvl
    k_steps
    all_goals
      refine truthy_known false (News.isList (by k_asm) (by k_mem)) (by simp) (by simp) ?_
      intro k9
      k_steps
      all_goals (try k_data)
      refine' Hold.go ?_
      refine' Ctr.use (from_empty (w := w) _) ?k1 ?k2 ?k3 ?k4 ?k5 ?k6 ?k7 ?k8 trivial ?_
      case k1 => k_asm
      case k2 => k_asm
      case k3 => k_asm
      case k4 => k_asm
      case k5 => k_asm
      case k6 => exact rfl
      case k7 => ktr_room
      case k8 => ktr_units
      rintro r tl h9 tk9 F9 N9 S9 rfl
      k_steps
      all_goals (try k_data)
      show Q (.ret (.bool true)) _
      exact hQ _ _ _ _ _ (by assumption) N9 (List.mem_append_left _ (List.mem_cons_of_mem _ led_tab))
  · have hv0 : 1 ≤ vs.length := by
      cases ds with
      | nil => exact absurd rfl h0
      | cons d r => rw [hvl]; simp
    k_steps
    all_goals
      refine truthy_known true (News.isList (by k_asm) (by k_mem)) (by omega) (by simp; omega) ?_
      intro k9
      k_steps
    all_goals
      show wpAny _ _ (execs r3 _) _ _ _
      subst e3
      refine law_B ⟨B, X, T, C, lt⟩ hE l vs k ds hW h0 _ _ _ (fr_st2 (by k_asm)) rest c1 c2 c3 c4 (by k_asm) d1 d2 d3 d4 O hl hst ?_
      exact fun h' tk' m' ps nw F' N' hm => hQ h' tk' m' ps nw F' N' hm
end
section
theorem topP50 : True := by
  w_top off
  trivial
set_option maxHeartbeats 0 in
theorem law_main : PySem.Challenge.rw_ci0004_01.Holds := by
  refine hd ⟨leftO, ?_⟩
  k_go0
  all_goals try k_fold
  rename Below _ _ _ _ => K'
  rename Frag.In _ (ghostOf _ _) => X'
  rename Top topProg _ _ _ _ _ => T'
  rename Fr _ _ _ _ => F'
  rename CodeHd _ _ _ => CH
  rename News _ _ _ _ => N'
  rename IntsAre _ _ => hI
  rename Heap.IsList (ghostOf _ _) _ _ => hL
  rename 901 < _ => l0
  refine law_A (mg := _) (mb := _) ⟨K', X', T', CH, l0⟩ ?_ _ _ _ hI hL ?_ (fr_map F' fun y => ?_) _ _ _ _ N' ?_ ?_ ?_ ?_ ?_
  · passes_own
  · omega
  · rw [look_cons]; rfl
  · assumption
  · assumption
  · assumption
  · assumption
  · intro h' tk' m' ps nw F9 N9 hm
    dsimp only
    refine ⟨?_, ?_⟩
    · wrow_close
    · exact ⟨GrownAt.of N9 hm, trivial⟩
end
end Mine
theorem PySem.Challenge.cw_ci0004_01_holds : PySem.Challenge.rw_ci0004_01.Holds := by
  exact Mine.law_main
