import PyProof.Rows.All
import Wide.All
import OpenK.AllK
import Wide.FinOn
import Lean
import PySem.Challenge.RW_iu0050_01
open PySem PySem.W PyProof.Rows PySem.Calls
set_option Elab.async false
set_option rowWalk.seconds 0
set_option compiler.extract_closed false
set_option linter.all false
set_option hygiene false
namespace Mine

/-- the top's run over the tree of objects -/
noncomputable def topRunT (tb : String → Option Builtin) (p : Program) (w : World) (n₀ : Nat) (ann : Option Value) : Nat → SharedT → Thread → Option SharedT
  | 0, _, _ => none
  | n + 1, s, t => match through t with
    | true => some s
    | false => match stepOk n₀ ann t with
      | false => none
      | true => match stepT (denote tb) p w s t with
        | some (s', t') => topRunT tb p w n₀ ann n s' t'
        | none => none

theorem topRunT_of {tb : String → Option Builtin} {p : Program} {w : World} {n₀ : Nat} {ann : Option Value} :
    ∀ {n : Nat} {s s' : SharedT} {t : Thread}, topRunT tb p w n₀ ann n s t = some s' → topRun tb p w n₀ ann n s.abs t = some s'.abs
  | 0, _, _, _, h => by cases h
  | n + 1, s, s', t, h => by
    unfold topRunT at h
    unfold topRun
    cases he : through t with
    | true => rw [he] at h; cases h; rfl
    | false =>
      rw [he] at h
      cases hk : stepOk n₀ ann t with
      | false => rw [hk] at h; cases h
      | true =>
        rw [hk] at h
        cases hs : stepT (denote tb) p w s t with
        | none => rw [hs] at h; cases h
        | some r => obtain ⟨s₂, t₂⟩ := r; rw [hs] at h; rw [stepT_spec hs]; exact topRunT_of h

noncomputable def bootT (P : Params) : BT := (((((((((((BT.nil.ins 0 (boot_o_0 P)).ins 1 (boot_o_1 P)).ins 2 (boot_o_2 P)).ins 3 (boot_o_3 P)).ins 4 (boot_o_4 P)).ins 5 (boot_o_5 P)).ins 6 (boot_o_6 P)).ins 7 (boot_o_7 P)).ins 8 (boot_o_8 P)).ins 9 (boot_o_9 P)).ins 10 (boot_o_10 P))
noncomputable def bootS (w : World) (os : OsState) : SharedT := ⟨bootT w.params, 11, {}, #[], boot_drawn, boot_toks, os⟩
theorem bootS_abs (w : World) (os : OsState) : (bootS w os).abs = ⟨boot_heap w.params, #[], boot_drawn, boot_toks, os⟩ := by
  unfold SharedT.abs bootS
  congr 1

/-- what the head asks of the top's end, over the tree of objects -/
noncomputable def looksAt {α : Type} (p q : Program) (loose : List Str) (Xt : Shared → Bool) (YT : SharedT → α) (h₀ : Heap) (s : SharedT) :=
  (staticsOk (importedModules p.main.body) h₀ s.abs.heap && namesBound p s.abs.heap && gensDone s.abs && laidKept h₀ s.abs.heap, openSeen q loose (importedModules p.main.body) Xt true s.abs, YT s)

/-- an object of the tree's heap, found in the tree -/
noncomputable def getT (s : SharedT) (a : Nat) : Option Obj := match Nat.blt a s.n with
  | true => match s.tree.get a with
    | some o => alive o
    | none => s.abs.heap.get? a
  | false => s.abs.heap.get? a
theorem getT_eq (s : SharedT) (a : Nat) : getT s a = s.abs.heap.get? a := by
  unfold getT
  cases h : Nat.blt a s.n with
  | false => rfl
  | true =>
    cases g : s.tree.get a with
    | none => rfl
    | some o => exact (abs_get (Nat.lt_of_lt_of_le (Nat.lt_succ_self a) (Nat.le_of_ble_eq_true h)) g).symm

theorem left_of {p q : Program} {loose : List Str} {Xt : Shared → Bool} {α : Type} {Yf : Shared → α} {YT : SharedT → α} {Ya : World → α} {N M m₀ : Nat} {ann : Option Value}
    (open_ : ∀ w : World, (fencedOpening treeTable p w N).map (fun s => (s.heap, s.gens, s.drawn, s.toks)) = some (boot_heap w.params, Array.mk [], boot_drawn, boot_toks))
    (size : ∀ w : World, ((boot_heap w.params).isNs mainGlobals, (boot_heap w.params).objs.size, (boot_heap w.params).nsMap mainGlobals "__annotations__") = (true, m₀, ann))
    (le : Nat.ble M N = true) (hYT : ∀ s, YT s = Yf s.abs)
    (run : ∀ (w : World) (os : OsState), (topRunT treeTable p w m₀ ann M (bootS w os) (topStub p)).map (fun s => looksAt p q loose Xt YT (boot_heap w.params) s) = some (true, openGood q loose, Ya w)) :
    LeftO p q loose Xt Yf Ya N true := fun w => by
  obtain ⟨⟨h, gs, d, k, os⟩, e, e'⟩ := Option.map_eq_some_iff.mp (open_ w)
  obtain ⟨rfl, rfl, rfl, rfl⟩ : h = boot_heap w.params ∧ gs = Array.mk [] ∧ d = boot_drawn ∧ k = boot_toks := by simpa using e'
  obtain ⟨z1, z2, z3⟩ : _ ∧ _ ∧ _ := by simpa only [Prod.mk.injEq] using size w
  obtain ⟨sT, r, l⟩ := Option.map_eq_some_iff.mp (run w os)
  obtain ⟨l1, l2, l3⟩ : _ ∧ _ ∧ _ := by simpa only [looksAt, Prod.mk.injEq] using l
  rw [hYT] at l3
  have r1 := topRun_mono (N - M) _ _ _ _ (topRunT_of r)
  rw [show M + (N - M) = N by have := Nat.le_of_ble_eq_true le; omega, bootS_abs] at r1
  have t : topFrom treeTable p w N ⟨boot_heap w.params, #[], boot_drawn, boot_toks, os⟩ = some sT.abs := by
    unfold topFrom
    dsimp only
    rw [z1, z2, z3, r1]
    show (match staticsOk (importedModules p.main.body) (boot_heap w.params) sT.abs.heap && namesBound p sT.abs.heap && gensDone sT.abs && laidKept (boot_heap w.params) sT.abs.heap with | true => _ | false => _) = _
    rw [l1]
  unfold openEnds
  rw [e]
  show (topFrom treeTable p w N _).map _ = _
  rw [t]
  exact congrArg some (Prod.ext l2 l3)

noncomputable def keepLaw : Program := view PySem.Challenge.pw_iu0050_01 [45]
noncomputable def looseAll : List Str := (PySem.Challenge.pw_iu0050_01.boundNames.filter fun n => n != ("law" : Str) && n != ("__name__" : Str)).eraseDups

end Mine
open Mine
noncomputable def Mine.triv {α : Sort 1} (_ : α) : Bool := true
noncomputable def Mine.saidP (l : OpenLaw) : Bool := l.wellSaid
theorem Mine.lay3 : Mine.triv Mine.saidP = true := by k_qdec
theorem Mine.lawK : PySem.Challenge.rw_iu0050_01.wellSaid = true := (congrFun PySem.W.Fast.te8935794307430482537 PySem.Challenge.rw_iu0050_01).trans (by kernel_rfl)
theorem Mine.lawR (h : PySem.Challenge.rw_iu0050_01.row.Holds) : PySem.Challenge.rw_iu0050_01.Holds := holds_law Mine.lawK fun _ => h
theorem Mine.headR (H : Hook) {d : DefRec} {kwd : List (Str × Expr)} (hdef : defOf keepLaw PySem.Challenge.rw_iu0050_01.row.name = some (d, kwd)) (hp : PySem.Challenge.rw_iu0050_01.row.prog.theDef PySem.Challenge.rw_iu0050_01.row.name = some (d.params, d.body, d.scope)) (hk : kwWritten? d.params.kwonlyargs d.params.kw_defaults = some kwd) (hw : PySem.Challenge.rw_iu0050_01.row.toRowW.promised)
    (h : LeftO PySem.Challenge.rw_iu0050_01.row.prog keepLaw looseAll (fun s => xlAt keepLaw [] s && recOk [] s) H.obs H.val 12000 ∧ WalkO keepLaw looseAll (XL keepLaw []) H.says PySem.Challenge.rw_iu0050_01.row.toRowW d kwd fun f vs => PySem.call f vs) : PySem.Challenge.rw_iu0050_01.row.Holds :=
  holds_open (XP := XL keepLaw []) (YP := H.says) h.1 H.of H.keeps (fun s e => xl_of s (Bool.and_eq_true_iff.mp e).1) XL.keeps hdef hp hk (fun s e => recFacts_of (Bool.and_eq_true_iff.mp e).2) (by rfl) (row_said Mine.lawK) (by decide +kernel) ⟨rfl, rfl, rfl, rfl, rfl, by decide +kernel⟩ hw h.2
local macro_rules | `(tactic| o_head $H:term) => `(tactic| (refine Mine.headR $H rfl rfl rfl ?hw ?hc))
section
local macro_rules | `(tactic| k_qdec) => `(tactic| decide +kernel)
local macro_rules | `(tactic| o_law) => `(tactic| refine Mine.lawR ?_)
set_option maxRecDepth 100000 in
set_option maxHeartbeats 8000000 in
open_top Mine.hd for PySem.Challenge.rw_iu0050_01
end
namespace Mine
set_option maxRecDepth 100000
noncomputable def asK : List Addr := [2, 3, 15, 17, 18, 20, 21, 22, 24, 25, 27, 28, 29, 31, 32, 34, 35, 36, 38, 39, 41, 42, 43, 45, 46, 48, 49, 50, 52, 53, 55, 56, 57, 59, 60, 62, 63, 64, 66, 67, 69, 70, 71, 73, 74, 76, 77, 78, 80, 81, 83, 84, 85, 87, 88, 90, 91, 92, 94, 95, 97, 98, 99, 101, 102, 104, 105, 106, 108, 109, 111, 112, 113, 115, 116, 118, 119, 120, 122, 123, 125, 126, 127, 129, 130, 132, 133, 134, 136, 137, 139, 140, 141, 143, 144, 146, 147, 148, 150, 151, 153, 154, 155, 157, 158, 160, 161, 265, 266, 268, 269, 271, 272, 273, 275, 276, 278, 279, 280, 282, 283, 285, 286, 287, 289, 290, 292, 293, 294, 301, 302, 304, 305, 307, 308, 309, 311, 312, 314, 315, 316, 318, 319, 321, 322, 323, 325, 326, 328, 329, 330, 331, 333, 334, 336, 337, 338, 340, 341, 343, 344, 345, 346, 347, 348, 349, 352, 359, 360, 362, 363, 365, 366, 367, 369, 370, 372, 373, 374, 376, 377, 379, 380, 381, 383, 384, 386, 387, 388, 390, 391, 393, 394, 395, 396, 398, 399, 401, 402, 403, 405, 406, 408, 409, 410, 412, 413, 415, 416, 417, 419, 420, 422, 423, 424, 426, 427, 429, 430, 431, 433, 434, 436, 437, 438, 440, 441, 443, 444, 445, 447, 448, 450, 451, 452, 454, 455, 457, 458, 459, 461, 462, 464, 465, 466, 468, 469, 471, 472, 473, 475, 476, 478, 479, 480, 482, 483, 485, 486, 487, 489, 490, 492, 493, 494, 496, 497, 499, 500, 501, 503, 504, 506, 507, 508, 510, 511, 513, 514, 515, 517, 518, 520, 521, 522, 524, 525, 527, 528, 529, 531, 532, 534, 535, 536, 538, 539, 541, 542, 543, 545, 546, 548, 549, 550, 552, 553, 555, 556, 557, 559, 560, 562, 563, 564, 566, 567, 569, 570, 571, 573, 574, 576, 577, 578, 580, 581, 583, 584, 585, 587, 588, 590, 591, 592, 594, 595, 597, 598, 599, 601, 602, 604, 605, 606, 608, 609, 611, 612, 613, 615, 616, 618, 619, 620, 622, 623, 625, 626, 627, 629, 630, 632, 633, 634, 636, 637, 639, 640, 641, 643, 644, 646, 647, 648, 650, 651, 653, 654, 655, 657, 658, 660, 661, 662, 664, 665, 667, 668, 669, 671, 672, 674, 675, 676, 677, 678, 679, 680, 683, 685, 686, 688, 689, 690, 692, 693, 695, 696, 697, 699, 700, 702, 703, 704, 707, 708, 709, 711, 712, 714, 715, 716, 718, 719, 721, 722, 723, 725, 726, 728, 729, 730, 732, 733, 735, 736, 737, 740, 741]
noncomputable def Xt0 : Shared → Bool := fun s => xlAt keepLaw [] s && recOk [] s
noncomputable def looseP (p : Program) : List Str := (p.boundNames.filter fun n => n != ("law" : Str) && n != ("__name__" : Str)).eraseDups
noncomputable def runP (p : Program) (w : World) (os : OsState) :=
  (topRunT treeTable p w 11 (some (.ref 6)) 6000 (bootS w os) (topStub p)).map (fun s => looksAt p (view p [45]) (looseP p) (fun s => xlAt (view p [45]) [] s && recOk [] s) (fun s => asK.map (getT s)) (boot_heap w.params) s)
noncomputable def goodP (p : Program) := openGood (view p [45]) (looseP p)
theorem lay1 : triv runP = true := by k_qdec
theorem lay2 : triv goodP = true := by k_qdec
noncomputable def goodK (w : World) : List (Option Obj) := (hd.heap_1 w.params).map fun p => some p.2
end Mine
namespace Mine
set_option maxHeartbeats 0
theorem run_ff (w : World) (os : OsState) : PySem.W.Fast.tw10875157124080562977 PySem.Challenge.pw_iu0050_01 ((w.withFollow "comprehension-iter-twice" false).withFollow "special-get-raises" false) os = some (true, PySem.W.Fast.tw219910460743758431 PySem.Challenge.pw_iu0050_01, goodK ((w.withFollow "comprehension-iter-twice" false).withFollow "special-get-raises" false)) := by kernel_rfl
theorem run_ft (w : World) (os : OsState) : PySem.W.Fast.tw10875157124080562977 PySem.Challenge.pw_iu0050_01 ((w.withFollow "comprehension-iter-twice" false).withFollow "special-get-raises" true) os = some (true, PySem.W.Fast.tw219910460743758431 PySem.Challenge.pw_iu0050_01, goodK ((w.withFollow "comprehension-iter-twice" false).withFollow "special-get-raises" true)) := by kernel_rfl
theorem run_tf (w : World) (os : OsState) : PySem.W.Fast.tw10875157124080562977 PySem.Challenge.pw_iu0050_01 ((w.withFollow "comprehension-iter-twice" true).withFollow "special-get-raises" false) os = some (true, PySem.W.Fast.tw219910460743758431 PySem.Challenge.pw_iu0050_01, goodK ((w.withFollow "comprehension-iter-twice" true).withFollow "special-get-raises" false)) := by kernel_rfl
theorem run_tt (w : World) (os : OsState) : PySem.W.Fast.tw10875157124080562977 PySem.Challenge.pw_iu0050_01 ((w.withFollow "comprehension-iter-twice" true).withFollow "special-get-raises" true) os = some (true, PySem.W.Fast.tw219910460743758431 PySem.Challenge.pw_iu0050_01, goodK ((w.withFollow "comprehension-iter-twice" true).withFollow "special-get-raises" true)) := by kernel_rfl

noncomputable def Says (os : OsState) (w : World) : Prop := PySem.W.Fast.tw10875157124080562977 PySem.Challenge.pw_iu0050_01 w os = some (true, PySem.W.Fast.tw219910460743758431 PySem.Challenge.pw_iu0050_01, goodK w)
theorem run_all (w : World) (os : OsState) : runP PySem.Challenge.pw_iu0050_01 w os = some (true, goodP PySem.Challenge.pw_iu0050_01, goodK w) := by
  have h : Says os w := byRow2 "special-get-raises" (P := Says os)
    (fun v => byRow2 "comprehension-iter-twice" (P := fun v => Says os (v.withFollow "special-get-raises" false)) (fun u => run_ff u os) (fun u => run_tf u os) v)
    (fun v => byRow2 "comprehension-iter-twice" (P := fun v => Says os (v.withFollow "special-get-raises" true)) (fun u => run_ft u os) (fun u => run_tt u os) v) w
  have h1 : runP PySem.Challenge.pw_iu0050_01 w os = PySem.W.Fast.tw10875157124080562977 PySem.Challenge.pw_iu0050_01 w os := congrFun (congrFun (congrFun PySem.W.Fast.te10875157124080562977 PySem.Challenge.pw_iu0050_01) w) os
  have h2 : goodP PySem.Challenge.pw_iu0050_01 = PySem.W.Fast.tw219910460743758431 PySem.Challenge.pw_iu0050_01 := congrFun PySem.W.Fast.te219910460743758431 PySem.Challenge.pw_iu0050_01
  rw [h1, h2]
  exact h
theorem boot_mine (w : World) : (importEnds treeTable (opening PySem.Challenge.pw_iu0050_01) w 600 (start (opening PySem.Challenge.pw_iu0050_01)).1 (start (opening PySem.Challenge.pw_iu0050_01)).2).map (fun s => (s.heap, s.gens, s.drawn, s.toks)) = some (boot_heap w.params, Array.mk [], boot_drawn, boot_toks) := by kernel_rfl
theorem fence_mine (s : Shared) : fenceModules? PySem.Challenge.pw_iu0050_01 s = some s := by kernel_rfl
theorem open_mine (w : World) : (fencedOpening treeTable PySem.Challenge.pw_iu0050_01 w 12000).map (fun s => (s.heap, s.gens, s.drawn, s.toks)) = some (boot_heap w.params, Array.mk [], boot_drawn, boot_toks) := by
  obtain ⟨s, hs, hv⟩ := Option.map_eq_some_iff.mp (boot_mine w)
  have m := importEnds_mono 11400 _ _ _ _ hs
  unfold fencedOpening
  rw [show (12000 : Nat) = 600 + 11400 from rfl, m]
  rw [Option.bind_some, fence_mine s]
  exact congrArg some hv
theorem size_mine (w : World) : ((boot_heap w.params).isNs mainGlobals, (boot_heap w.params).objs.size, (boot_heap w.params).nsMap mainGlobals "__annotations__") = (true, 11, some (.ref 6)) := by kernel_rfl
theorem left : LeftO PySem.Challenge.rw_iu0050_01.row.prog keepLaw looseAll (fun s => xlAt keepLaw [] s && recOk [] s) (fun s => asK.map s.heap.get?) goodK 12000 :=
  left_of (M := 6000) (m₀ := 11) (ann := some (.ref 6)) open_mine size_mine (by decide) (fun s => List.map_congr_left fun a _ => getT_eq s a) (fun w os => run_all w os)
theorem head_ends {P : Prop} (h : LeftO PySem.Challenge.rw_iu0050_01.row.prog keepLaw looseAll (fun s => xlAt keepLaw [] s && recOk [] s) (fun s => asK.map s.heap.get?) goodK 12000 ∧ P → PySem.Challenge.rw_iu0050_01.Holds) (p : P) : PySem.Challenge.rw_iu0050_01.Holds := h ⟨left, p⟩
end Mine

local macro_rules | `(tactic| k_qdec) => `(tactic| decide +kernel)
namespace Mine
/-- a call of the text's def at f, from any frame, over any ledger: what comes back and the ledger behind it -/
noncomputable def Con (r : OpenLaw) (K : Params → Frag) (w : World) (mean : ExcName → Option Value) (mg mb : Str → Option Value) (f : Addr) (news : List (Addr × Obj)) (vs : List Value) (k : Nat) (Post : Value → List (Addr × Obj) → Prop) : Prop :=
  ∀ (dp un : Nat) (gd : Option (List Code)) (cn : Str) (cs : Scope) (a : Addr) (ccd : Value) (cl : List (Str × Addr)) (outer : List Env) (A₀ : Around) (base h₀ : Heap) (L : Addr) (m : Str → Option Value) (s : Shared) (Q E : Value → Shared → Prop),
    Below A₀ base outer h₀ → Fr h₀ L s.heap m → (K w.params).In h₀ → News h₀ L s.heap news → Top keepLaw (looseW keepLaw looseAll) mean mg mb h₀ → cs.kind = .function → dp + k < recursionLimit → un + 8 * k < cLine →
    (∀ v news' h' tk', Post v news' → Fr h₀ L h' m → News h₀ L h' news' → Q v { s with heap := h', toks := tk' }) →
    codeAny (model r.row.prog w) (ktrTop dp un gd cn cs L a ccd cl outer) (.call (.ref f) ⟨vs, []⟩) (fun r s' => match r with | .ok (.ret v) => Q v s' | .ok _ => False | .error e => E e s') s
section
variable {r : OpenLaw} {K : Params → Frag} {w : World} {mean : ExcName → Option Value} {mg mb : Str → Option Value} {f : Addr} {news : List (Addr × Obj)} {vs : List Value} {k : Nat} {Post : Value → List (Addr × Obj) → Prop}
theorem Con.use (C : Con r K w mean mg mb f news vs k Post) {dp un : Nat} {gd : Option (List Code)} {cn : Str} {cs : Scope} {a : Addr} {ccd : Value} {cl : List (Str × Addr)} {outer : List Env} {A₀ : Around} {base h₀ : Heap} {L : Addr} {m : Str → Option Value} {s : Shared} {Q E : Value → Shared → Prop}
    (B : Below A₀ base outer h₀) (F : Fr h₀ L s.heap m) (X : (K w.params).In h₀) (N : News h₀ L s.heap news) (T : Top keepLaw (looseW keepLaw looseAll) mean mg mb h₀) (hk : cs.kind = .function) (hd : dp + k < recursionLimit) (hu : un + 8 * k < cLine)
    (R : ∀ v news' h' tk', Post v news' → Fr h₀ L h' m → News h₀ L h' news' → Q v { s with heap := h', toks := tk' }) :
    wpAny (model r.row.prog w) (ktrTop dp un gd cn cs L a ccd cl outer) (call (.ref f) vs) Q E s := wpAny_call (C _ _ _ _ _ _ _ _ _ _ _ _ _ _ _ _ _ B F X N T hk hd hu R)
theorem Con.useC (C : Con r K w mean mg mb f news vs k Post) {dp un : Nat} {gd : Option (List Code)} {cn : Str} {cs : Scope} {a : Addr} {ccd : Value} {cl : List (Str × Addr)} {outer : List Env} {A₀ : Around} {base h₀ : Heap} {L : Addr} {m : Str → Option Value} {s : Shared} {Q E : Value → Shared → Prop}
    (B : Below A₀ base outer h₀) (F : Fr h₀ L s.heap m) (X : (K w.params).In h₀) (N : News h₀ L s.heap news) (T : Top keepLaw (looseW keepLaw looseAll) mean mg mb h₀) (hk : cs.kind = .function) (hd : dp + k < recursionLimit) (hu : un + 8 * k < cLine)
    (R : ∀ v news' h' tk', Post v news' → Fr h₀ L h' m → News h₀ L h' news' → Q v { s with heap := h', toks := tk' }) :
    codeAny (model r.row.prog w) (ktrTop dp un gd cn cs L a ccd cl outer) (.call (.ref f) ⟨vs, []⟩) (fun r s' => match r with | .ok (.ret v) => Q v s' | .ok _ => False | .error e => E e s') s := C _ _ _ _ _ _ _ _ _ _ _ _ _ _ _ _ _ B F X N T hk hd hu R
theorem Con.mono {Post' : Value → List (Addr × Obj) → Prop} (C : Con r K w mean mg mb f news vs k Post) (h : ∀ v n, Post v n → Post' v n) : Con r K w mean mg mb f news vs k Post' := by
  intro dp un gd cn cs a ccd cl outer A₀ base h₀ L m s Q E B F X N T hk hd hu R
  exact C.useC B F X N T hk hd hu fun v n h' tk' p F' N' => R v n h' tk' (h v n p) F' N'
theorem Con.more {k' : Nat} (C : Con r K w mean mg mb f news vs k Post) (h : k ≤ k') : Con r K w mean mg mb f news vs k' Post := by
  intro dp un gd cn cs a ccd cl outer A₀ base h₀ L m s Q E B F X N T hk hd hu R
  exact C.useC B F X N T hk (by omega) (by omega) R
/-- the contract over the ledger in its own order serves any ledger that holds the four objects -/
theorem Con.anyR {e1 e2 e3 : Addr × Obj} {d : Addr} {o : Obj} {g : Obj → List (Addr × Obj)} {P : Value → Obj → Prop}
    (C : ∀ rest, OwnOff rest [e1.1, e2.1, e3.1, d] → (∀ p ∈ news, p.1 ≠ e1.1 → p.1 ≠ e2.1 → p.1 ≠ e3.1 → p.1 ≠ d → p ∈ rest) → Con r K w mean mg mb f (e1 :: e2 :: e3 :: (d, o) :: rest) vs k (fun v news' => ∃ o', P v o' ∧ news' = e1 :: e2 :: e3 :: (d, o') :: rest))
    (h1 : e1 ∈ news) (h2 : e2 ∈ news) (h3 : e3 ∈ news) (U : UpdF d o news g) : Con r K w mean mg mb f news vs k (fun v news' => ∃ o', P v o' ∧ news' = g o') := by
  intro dp un gd cn cs a ccd cl outer A₀ base h₀ L m s Q E B F X N T hk hd hu R
  obtain ⟨pre, post, rfl, hg, ho1, ho2⟩ := U.split
  let rest := (pre ++ (d, o) :: post).filter fun p => decide (p.1 ≠ e1.1 ∧ p.1 ≠ e2.1 ∧ p.1 ≠ e3.1 ∧ p.1 ≠ d)
  have hoff : OwnOff rest [e1.1, e2.1, e3.1, d] := by
    intro p hp b hb
    have hq := of_decide_eq_true (List.mem_filter.mp hp).2
    simp only [List.mem_cons, List.not_mem_nil, or_false] at hb
    rcases hb with rfl | rfl | rfl | rfl
    · exact hq.1
    · exact hq.2.1
    · exact hq.2.2.1
    · exact hq.2.2.2
  have hd0 : (d, o) ∈ pre ++ (d, o) :: post := List.mem_append.mpr (.inr (.head _))
  have N1 : News h₀ L s.heap (e1 :: e2 :: e3 :: (d, o) :: rest) := by
    intro p hp
    simp only [List.mem_cons] at hp
    rcases hp with rfl | rfl | rfl | rfl | hp
    · exact N _ h1
    · exact N _ h2
    · exact N _ h3
    · exact N _ hd0
    · exact N _ (List.mem_filter.mp hp).1
  have hin : ∀ p ∈ pre ++ (d, o) :: post, p.1 ≠ e1.1 → p.1 ≠ e2.1 → p.1 ≠ e3.1 → p.1 ≠ d → p ∈ rest := fun p hp a b c e => List.mem_filter.mpr ⟨hp, decide_eq_true ⟨a, b, c, e⟩⟩
  refine (C rest hoff hin).useC B F X N1 T hk hd hu fun v news' h' tk' hP F' N' => ?_
  obtain ⟨o', hP, rfl⟩ := hP
  refine R v (g o') h' tk' ⟨o', hP, rfl⟩ F' ?_
  rw [hg]
  have same : ∀ {p q : Addr × Obj}, p ∈ pre ++ (d, o) :: post → q ∈ pre ++ (d, o) :: post → p.1 = q.1 → p = q := by
    intro p q hp hq e
    have a := (N p hp).1
    have b := (N q hq).1
    rw [e, b] at a
    exact Prod.ext e (Option.some.inj a).symm
  have old : ∀ p, p ∈ pre ++ (d, o) :: post → p.1 ≠ d → h'.get? p.1 = some p.2 ∧ p.1 ≠ L ∧ h₀.get? p.1 = none := by
    intro p hp hpd
    by_cases c1 : p.1 = e1.1
    · rw [same hp h1 c1]; exact N' _ (.head _)
    by_cases c2 : p.1 = e2.1
    · rw [same hp h2 c2]; exact N' _ (.tail _ (.head _))
    by_cases c3 : p.1 = e3.1
    · rw [same hp h3 c3]; exact N' _ (.tail _ (.tail _ (.head _)))
    · exact N' _ (.tail _ (.tail _ (.tail _ (.tail _ (List.mem_filter.mpr ⟨hp, decide_eq_true ⟨c1, c2, c3, hpd⟩⟩)))))
  intro p hp
  rcases List.mem_append.mp hp with hp | hp
  · exact old p (List.mem_append.mpr (.inl hp)) (ho1 p hp)
  · rcases List.mem_cons.mp hp with rfl | hp
    · exact N' _ (.tail _ (.tail _ (.tail _ (.head _))))
    · exact old p (List.mem_append.mpr (.inr (.tail _ hp))) (ho2 p hp)
theorem Con.any {e1 e2 e3 : Addr × Obj} {d : Addr} {o : Obj} {g : Obj → List (Addr × Obj)} {P : Value → Obj → Prop}
    (C : ∀ rest, OwnOff rest [e1.1, e2.1, e3.1, d] → Con r K w mean mg mb f (e1 :: e2 :: e3 :: (d, o) :: rest) vs k (fun v news' => ∃ o', P v o' ∧ news' = e1 :: e2 :: e3 :: (d, o') :: rest))
    (h1 : e1 ∈ news) (h2 : e2 ∈ news) (h3 : e3 ∈ news) (U : UpdF d o news g) : Con r K w mean mg mb f news vs k (fun v news' => ∃ o', P v o' ∧ news' = g o') := Con.anyR (fun rest ho _ => C rest ho) h1 h2 h3 U
end

/-- StructFile's dict, OctetFile's dict -/
abbrev sDict (P : Params) (ox : Addr) (k1 k2 k3 k4 : Tok) : Obj := dictOf [⟨PyData.keyHash P (Str.ofString "file"), .str (Str.ofString "file") k1, .ref ox⟩, ⟨PyData.keyHash P (Str.ofString "_name"), .str (Str.ofString "_name") k2, .none⟩, ⟨PyData.keyHash P (Str.ofString "onclose"), .str (Str.ofString "onclose") k3, .none⟩, ⟨PyData.keyHash P (Str.ofString "is_closed"), .str (Str.ofString "is_closed") k4, .bool false⟩] 4
abbrev oDict (P : Params) (k1 k2 : Tok) (b : Array UInt8) (tb : Tok) (p : Int) (tp : Tok) : Obj := dictOf [⟨PyData.keyHash P (Str.ofString "octets"), .str (Str.ofString "octets") k1, .bytes b tb⟩, ⟨PyData.keyHash P (Str.ofString "place"), .str (Str.ofString "place") k2, .int p tp⟩] 2
/-- the file's octets are ks, it stands at p -/
noncomputable def OSay (P : Params) (k5 k6 : Tok) (ks : List Int) (p : Nat) (o : Obj) : Prop := ∃ b tb q tp, q = (p : Int) ∧ KBw.bInts b = ks ∧ o = oDict P k5 k6 b tb q tp

theorem in_rep0 (n : Nat) : KBa.In (List.replicate n [(0 : Int)]).flatten := by
  intro k hk
  obtain ⟨l, h1, h2⟩ := List.mem_flatten.mp hk
  rw [(List.mem_replicate.mp h1).2, List.mem_singleton] at h2
  subst h2
  exact ⟨by decide, by decide⟩
open PySem.Builtin in
theorem write_math {ks kb : List Int} {p : Nat} (h : p ≤ ks.length) :
    List.take (min p ks.length) ks ++ (List.replicate ((p : Int) - ((min (min p ks.length) ks.length : Nat) : Int)).toNat [(0 : Int)]).flatten ++ kb ++ List.take (ks.length - clipAt ks.length ((p : Int) + (kb.length : Int))) (List.drop (clipAt ks.length ((p : Int) + (kb.length : Int))) ks) =
      ks.take p ++ kb ++ ks.drop (p + kb.length) := by
  have e1 : min p ks.length = p := Nat.min_eq_left h
  have e2 : ((p : Int) - ((min (min p ks.length) ks.length : Nat) : Int)).toNat = 0 := by omega
  have e3 : ((p : Int) + (kb.length : Int)) = ((p + kb.length : Nat) : Int) := by omega
  rw [e2, e1, e3, clipAt_nat, List.replicate_zero, List.flatten_nil, List.append_nil]
  congr 1
  by_cases c : p + kb.length ≤ ks.length
  · rw [Nat.min_eq_left c, List.take_of_length_le (by rw [List.length_drop]; omega)]
  · rw [Nat.min_eq_right (by omega), List.drop_eq_nil_of_le (Nat.le_refl _), List.drop_eq_nil_of_le (by omega), List.take_nil]
end Mine
namespace Mine
theorem ne_of_allLt {a : Addr} {l : List (Addr × Obj)} (h : AllLt a l) : ∀ p ∈ l, p.1 ≠ a := by
  induction l with
  | nil => intro p hp; cases hp
  | cons x r ih =>
    obtain ⟨h1, h2⟩ := h
    intro p hp
    rcases List.mem_cons.mp hp with hp | hp
    · rw [hp]; exact Nat.ne_of_lt h1
    · exact ih h2 p hp
theorem ne_lt9 {a b : Addr} {l : List (Addr × Obj)} (h : ∀ p ∈ l, p.1 < a) (h2 : @LE.le Nat _ a b) : ∀ p ∈ l, p.1 ≠ b := fun p hp => Nat.ne_of_lt (Nat.lt_of_lt_of_le (h p hp) h2)
theorem allLt_tr {a b : Addr} {l : List (Addr × Obj)} (h : AllLt a l) (h2 : @LE.le Nat _ a b) : AllLt b l := by
  induction l with
  | nil => trivial
  | cons x r ih => exact ⟨Nat.lt_of_lt_of_le h.1 h2, ih h.2⟩
theorem allLt_lt9 {a b : Addr} {l : List (Addr × Obj)} (h : ∀ p ∈ l, p.1 < a) (h2 : @LE.le Nat _ a b) : AllLt b l := allLt_tr (allLt_of h) h2
theorem ne_allLt {a b : Addr} {l : List (Addr × Obj)} (h : AllLt a l) (h2 : @LE.le Nat _ a b) : ∀ p ∈ l, p.1 ≠ b := ne_of_allLt (allLt_tr h h2)
theorem allLt_of9 {a : Addr} {l : List (Addr × Obj)} (h : ∀ p ∈ l, p.1 < a) : AllLt a l := allLt_of h
end Mine
namespace Mine
inductive Del (I : Addr) (it : Obj) : List (Addr × Obj) → List (Addr × Obj) → Prop
  | head {r} : (∀ p ∈ r, p.1 ≠ I) → Del I it ((I, it) :: r) r
  | tail {p r r'} : p.1 ≠ I → Del I it r r' → Del I it (p :: r) (p :: r')
theorem Del.sub {I : Addr} {it : Obj} {l l' : List (Addr × Obj)} (d : Del I it l l') : (∀ p ∈ (I, it) :: l', p ∈ l) ∧ ∀ p ∈ l', p.1 ≠ I := by
  induction d with
  | head h => exact ⟨fun _ hp => hp, h⟩
  | tail h _ ih =>
    refine ⟨fun q hq => ?_, fun q hq => ?_⟩
    · rcases List.mem_cons.mp hq with hq | hq
      · exact .tail _ (ih.1 q (hq ▸ .head _))
      · rcases List.mem_cons.mp hq with hq | hq
        · exact hq ▸ .head _
        · exact .tail _ (ih.1 q (.tail _ hq))
    · rcases List.mem_cons.mp hq with hq | hq
      · rw [hq]; exact h
      · exact ih.2 q hq
theorem unrEnd_del {h₀ : Heap} {L I : Addr} {it : Obj} {rest : (Str → Option Value) → List (Addr × Obj) → Prop} {s₁ : Shared} {h' : Heap} {tk : Nat} {m' : Str → Option Value} {all news' : List (Addr × Obj)} (F : Fr h₀ L h' m') (N : News h₀ L h' all) (d : Del I it all news')
    (r : rest m' news') : UnrEnd h₀ L s₁ I it rest { s₁ with heap := h', toks := tk } := UnrEnd.intro F N news' d.sub.1 d.sub.2 r
end Mine
namespace Mine
theorem intsAre_eq {vs : List Value} {ns ms : List Int} (h : IntsAre vs ns) (e : ns = ms) : IntsAre vs ms := e ▸ h
end Mine
namespace Mine
/-- a halt of the walk: no line takes it -/
noncomputable def Halt (p : Prop) : Prop := p
noncomputable def EMark : Prop := True
theorem halt {p : Prop} (h : Halt p) : p := h
theorem go {p : Prop} (h : p) : Halt p := h
end Mine
namespace Mine
theorem kst_same1 {x : Str} {v v' : Value} {u m₀ : Str → Option Value} {z : Str} (h : z ≠ x) :
    (if z = x then some v' else kstB (fun z => if List.contains [] z = true then u z else m₀ z) [(x, v)] z) = m₀ z := by
  rw [if_neg h]
  show (if z = x then _ else _) = _
  rw [if_neg h]
  rfl
end Mine
namespace Mine
theorem execs_one {prog : Program} {w : World} {A : Around} {st : Stmt} {env : Env} {Q : Flow → Shared → Prop} {E : Value → Shared → Prop} {s : Shared} (h : wpAny (model prog w) A (exec st env) Q E s) : wpAny (model prog w) A (execs [st] env) Q E s :=
  wpAny_execs_cons (wpAny_mono h (fun f _ hq => by cases f <;> first | exact wpAny_execs_nil hq | exact hq) fun _ _ x => x)
end Mine

namespace Mine
set_option maxRecDepth 100000
set_option maxHeartbeats 8000000
section
theorem room9 {a j k c : Nat} (h : a + k < c) (e : Nat.ble j k = true) : a + j < c := Nat.lt_of_le_of_lt (Nat.add_le_add_left (Nat.le_of_ble_eq_true e) a) h
/-- a tuple on the ledger -/
abbrev tupObj (vs : List Value) (n : Nat) : Obj := { cls := .type "tuple", data := .seq vs.toArray n }
/-- the ground of a call of depth k -/
structure At9 (k : Nat) (w : World) (mean : ExcName → Option Value) (mg mb : Str → Option Value) (dp un : Nat) (cs : Scope) (outer : List Env) (A₀ : Around) (base h₀ : Heap) (L : Addr) (m : Str → Option Value) (s : Shared) (news : List (Addr × Obj)) : Prop where
  F : Fr h₀ L s.heap m
  N : News h₀ L s.heap news
  X : (hd.heap_1 w.params).In h₀
  B : Below A₀ base outer h₀
  T : Top keepLaw (looseW keepLaw looseAll) mean mg mb h₀
  hk : cs.kind = .function
  hd : dp + k < recursionLimit
  hu : un + 8 * k < cLine
/-- the file in the ledger -/
structure Fi9 (w : World) (fx dS ox dO : Addr) (k1 k2 k3 k4 k5 k6 tb tp : Tok) (ks : List Int) (p : Nat) (b0 : Array UInt8) (g : Obj → List (Addr × Obj)) (news : List (Addr × Obj)) : Prop where
  m1 : (fx, instObj 678 dS) ∈ news
  m2 : (dS, sDict w.params ox k1 k2 k3 k4) ∈ news
  m3 : (ox, instObj 347 dO) ∈ news
  U : UpdF dO (oDict w.params k5 k6 b0 tb (p : Int) tp) news g
  hb : KBw.bInts b0 = ks
  l1 : @LT.lt Nat _ dO ox
  l2 : @LT.lt Nat _ ox dS
  l3 : @LT.lt Nat _ dS fx
noncomputable def FCon (w : World) (mean : ExcName → Option Value) (mg mb : Str → Option Value) (f : Addr) (fx dS ox dO : Addr) (k1 k2 k3 k4 k5 k6 : Tok) (ks : List Int) (p : Nat) (vs : List Value) (k : Nat) (ks2 : List Int) (p2 : Nat) {τ : Type} (val : τ → Value) (ok : τ → Prop) : Prop :=
  ∀ (o : Obj) (rest : List (Addr × Obj)), @LT.lt Nat _ dO ox → @LT.lt Nat _ ox dS → @LT.lt Nat _ dS fx → OwnOff rest [fx, dS, ox, dO] → OSay w.params k5 k6 ks p o →
    Con PySem.Challenge.rw_iu0050_01 hd.heap_1 w mean mg mb f ((fx, instObj 678 dS) :: (dS, sDict w.params ox k1 k2 k3 k4) :: (ox, instObj 347 dO) :: (dO, o) :: rest) vs k (fun r news' => ∃ o', (OSay w.params k5 k6 ks2 p2 o' ∧ ∃ x, r = val x ∧ ok x) ∧ news' = (fx, instObj 678 dS) :: (dS, sDict w.params ox k1 k2 k3 k4) :: (ox, instObj 347 dO) :: (dO, o') :: rest)
noncomputable def PCon (w : World) (mean : ExcName → Option Value) (mg mb : Str → Option Value) (f : Addr) (vs : List Value) (k : Nat) {τ : Type} (val : τ → Value) (ok : τ → Prop) : Prop :=
  ∀ news, Con PySem.Challenge.rw_iu0050_01 hd.heap_1 w mean mg mb f news vs k (fun r news' => (∃ x, r = val x ∧ ok x) ∧ news' = news)
noncomputable def TCon (w : World) (mean : ExcName → Option Value) (mg mb : Str → Option Value) (f : Addr) (vs : List Value) (k : Nat) (n : Int) : Prop :=
  ∀ news, Con PySem.Challenge.rw_iu0050_01 hd.heap_1 w mean mg mb f news vs k (fun r news' => ∃ a t' n', r = .ref a ∧ AllLt a news ∧ news' = (a, tupObj [.int n t'] n') :: news)
noncomputable def LCon (w : World) (mean : ExcName → Option Value) (mg mb : Str → Option Value) (f : Addr) (vs : List Value) (k : Nat) (form : List Int) : Prop :=
  ∀ news, Con PySem.Challenge.rw_iu0050_01 hd.heap_1 w mean mg mb f news vs k (fun r news' => ∃ l us n', r = .ref l ∧ AllLt l news ∧ IntsAre us form ∧ news' = (l, listOf us.toArray n') :: news)
section
variable {w : World} {mean : ExcName → Option Value} {mg mb : Str → Option Value} {dp un : Nat} {gd : Option (List Code)} {cn : Str} {cs : Scope} {a : Addr} {ccd : Value} {cl : List (Str × Addr)} {outer : List Env} {A₀ : Around} {base h₀ : Heap} {L : Addr} {m : Str → Option Value} {s : Shared} {Q E : Value → Shared → Prop} {news : List (Addr × Obj)} {f : Addr} {vs : List Value} {k : Nat}
theorem At9.use (C : At9 k w mean mg mb dp un cs outer A₀ base h₀ L m s news) {Post : Value → List (Addr × Obj) → Prop} (P : Con PySem.Challenge.rw_iu0050_01 hd.heap_1 w mean mg mb f news vs k Post)
    (R : ∀ v news' h' tk', Post v news' → Fr h₀ L h' m → News h₀ L h' news' → Q v { s with heap := h', toks := tk' }) : wpAny (model PySem.Challenge.rw_iu0050_01.row.prog w) (ktrTop dp un gd cn cs L a ccd cl outer) (call (.ref f) vs) Q E s := P.use C.B C.F C.X C.N C.T C.hk C.hd C.hu R
theorem FCon.use {fx dS ox dO : Addr} {k1 k2 k3 k4 k5 k6 tb tp : Tok} {ks : List Int} {p : Nat} {b0 : Array UInt8} {g : Obj → List (Addr × Obj)} {ks2 : List Int} {p2 : Nat} {τ : Type} {val : τ → Value} {ok : τ → Prop} (P : FCon w mean mg mb f fx dS ox dO k1 k2 k3 k4 k5 k6 ks p vs k ks2 p2 val ok) (C : At9 k w mean mg mb dp un cs outer A₀ base h₀ L m s news) (I : Fi9 w fx dS ox dO k1 k2 k3 k4 k5 k6 tb tp ks p b0 g news)
    (R : ∀ b' tb' tp' x h' tk', KBw.bInts b' = ks2 → ok x → Fr h₀ L h' m → News h₀ L h' (g (oDict w.params k5 k6 b' tb' ((p2 : Nat) : Int) tp')) → Q (val x) { s with heap := h', toks := tk' }) : wpAny (model PySem.Challenge.rw_iu0050_01.row.prog w) (ktrTop dp un gd cn cs L a ccd cl outer) (call (.ref f) vs) Q E s := by
  refine C.use (Con.any (fun rest ho => P _ rest I.l1 I.l2 I.l3 ho ⟨_, _, _, _, rfl, I.hb, rfl⟩) I.m1 I.m2 I.m3 I.U) ?_
  rintro v news' h' tk' ⟨o', ⟨⟨b', tb', q', tp', rfl, hb', rfl⟩, x, rfl, hx⟩, rfl⟩ F' N'
  exact R _ _ _ _ _ _ hb' hx F' N'
theorem FCon.useC {fx dS ox dO : Addr} {k1 k2 k3 k4 k5 k6 tb tp : Tok} {ks : List Int} {p : Nat} {b0 : Array UInt8} {g : Obj → List (Addr × Obj)} {ks2 : List Int} {p2 : Nat} {τ : Type} {val : τ → Value} {ok : τ → Prop} (P : FCon w mean mg mb f fx dS ox dO k1 k2 k3 k4 k5 k6 ks p vs k ks2 p2 val ok) (C : At9 k w mean mg mb dp un cs outer A₀ base h₀ L m s news) (I : Fi9 w fx dS ox dO k1 k2 k3 k4 k5 k6 tb tp ks p b0 g news)
    (R : ∀ b' tb' tp' x h' tk', KBw.bInts b' = ks2 → ok x → Fr h₀ L h' m → News h₀ L h' (g (oDict w.params k5 k6 b' tb' ((p2 : Nat) : Int) tp')) → Q (val x) { s with heap := h', toks := tk' }) : codeAny (model PySem.Challenge.rw_iu0050_01.row.prog w) (ktrTop dp un gd cn cs L a ccd cl outer) (.call (.ref f) ⟨vs, []⟩) (fun r s' => match r with | .ok (.ret v) => Q v s' | .ok _ => False | .error e => E e s') s := by
  refine (Con.any (fun rest ho => P _ rest I.l1 I.l2 I.l3 ho ⟨_, _, _, _, rfl, I.hb, rfl⟩) I.m1 I.m2 I.m3 I.U).useC C.B C.F C.X C.N C.T C.hk C.hd C.hu ?_
  rintro v news' h' tk' ⟨o', ⟨⟨b', tb', q', tp', rfl, hb', rfl⟩, x, rfl, hx⟩, rfl⟩ F' N'
  exact R _ _ _ _ _ _ hb' hx F' N'
theorem PCon.use {τ : Type} {val : τ → Value} {ok : τ → Prop} (P : PCon w mean mg mb f vs k val ok) (C : At9 k w mean mg mb dp un cs outer A₀ base h₀ L m s news)
    (R : ∀ x h' tk', ok x → Fr h₀ L h' m → News h₀ L h' news → Q (val x) { s with heap := h', toks := tk' }) : wpAny (model PySem.Challenge.rw_iu0050_01.row.prog w) (ktrTop dp un gd cn cs L a ccd cl outer) (call (.ref f) vs) Q E s := by
  refine C.use (P _) ?_
  rintro v news' h' tk' ⟨⟨x, rfl, hx⟩, rfl⟩ F' N'
  exact R _ _ _ hx F' N'
theorem TCon.use {n : Int} (P : TCon w mean mg mb f vs k n) (C : At9 k w mean mg mb dp un cs outer A₀ base h₀ L m s news)
    (R : ∀ a t' n' h' tk', AllLt a news → Fr h₀ L h' m → News h₀ L h' ((a, tupObj [.int n t'] n') :: news) → Q (.ref a) { s with heap := h', toks := tk' }) : wpAny (model PySem.Challenge.rw_iu0050_01.row.prog w) (ktrTop dp un gd cn cs L a ccd cl outer) (call (.ref f) vs) Q E s := by
  refine C.use (P _) ?_
  rintro v news' h' tk' ⟨a, t', n', rfl, hl, rfl⟩ F' N'
  exact R _ _ _ _ _ hl F' N'
theorem LCon.use {form : List Int} (P : LCon w mean mg mb f vs k form) (N : Nat) (hN : form.length ≤ N) (C : At9 k w mean mg mb dp un cs outer A₀ base h₀ L m s news)
    (R : ∀ l us n' h' tk', AllLt l news → IntsAre us form → us.length ≤ N → form.length ≤ N → Fr h₀ L h' m → News h₀ L h' ((l, listOf us.toArray n') :: news) → Q (.ref l) { s with heap := h', toks := tk' }) : wpAny (model PySem.Challenge.rw_iu0050_01.row.prog w) (ktrTop dp un gd cn cs L a ccd cl outer) (call (.ref f) vs) Q E s := by
  refine C.use (P _) ?_
  rintro v news' h' tk' ⟨l, us, n', rfl, hl, hv, rfl⟩ F' N'
  exact R _ _ _ _ _ hl hv (Nat.le_trans (Nat.le_of_eq hv.length) hN) hN F' N'
end

end
section
open PySem.Builtin in
theorem and_zero (x : Int) : bitAnd x 0 = 0 := by
  have h := kbt_mask x 0
  simpa using h
open PySem.Builtin in
theorem and_ones (y : Int) : bitAnd y (-1) = y := by
  have key : ∀ n : Nat, ∀ y : Int, y.natAbs ≤ n → bitAnd y (-1) = y := by
    intro n
    induction n with
    | zero =>
      intro y hy
      have : y = 0 := by omega
      subst this
      decide
    | succ n ih =>
      intro y hy
      by_cases h0 : y = 0
      · subst h0; decide
      by_cases h1 : y = -1
      · subst h1; decide
      rw [kbt_halves]
      have e1 : (-1 : Int) / 2 = -1 := by decide
      have e2 : (-1 : Int) % 2 = 1 := by decide
      rw [e1, e2, ih (y / 2) (by omega)]
      split <;> omega
  exact key _ y (Nat.le_refl _)
open PySem.Builtin in
theorem and_high : ∀ (s : Nat) (x m : Int), 0 ≤ x → x < 2 ^ s → bitAnd x (m * 2 ^ s) = 0
  | 0, x, m, h0, h1 => by
    have : x = 0 := by simp at h1; omega
    subst this
    rw [bitAnd_comm]
    exact and_zero _
  | s + 1, x, m, h0, h1 => by
    have e : m * (2 : Int) ^ (s + 1) = 2 * (m * 2 ^ s) := by rw [Int.pow_succ, ← Int.mul_assoc, Int.mul_comm]
    have h2 : x < 2 ^ s * 2 := by rw [← Int.pow_succ]; exact h1
    rw [kbt_halves, e, Int.mul_ediv_cancel_left _ (by decide), and_high s (x / 2) m (by omega) (by omega)]
    have e3 : 2 * (m * 2 ^ s) % 2 = 0 := Int.mul_emod_right _ _
    rw [e3]
    simp
open PySem.Builtin in
theorem or_eq (x y : Int) : bitOr x y = x + y - bitAnd x y := by
  have h := bitXor_and x y
  unfold bitXor at h
  omega
open PySem.Builtin in
theorem or_high {s : Nat} {x m : Int} (h0 : 0 ≤ x) (h1 : x < 2 ^ s) : bitOr x (m * 2 ^ s) = x + m * 2 ^ s := by
  rw [or_eq, and_high s x m h0 h1, Int.sub_zero]
open PySem.Builtin in
theorem xor_ones (x : Int) : bitXor x (-1) = -x - 1 := by
  rw [bitXor_and, and_ones]; omega
open PySem.Builtin in
theorem and_hi7 {k : Int} (_h : 0 ≤ k) : bitAnd k (bitNot 127) = k / 128 * 128 := by
  have e : ∀ y z : Int, bitAnd y (2 * z) = 2 * bitAnd (y / 2) z := by
    intro y z
    rw [kbt_halves, Int.mul_ediv_cancel_left _ (by decide), Int.mul_emod_right]
    simp
  have e0 : bitNot 127 = 2 * (2 * (2 * (2 * (2 * (2 * (2 * (-1))))))) := by decide
  rw [e0, e, e, e, e, e, e, e, and_ones]
  have h2 : (0 : Int) ≤ 2 := by decide
  rw [Int.ediv_ediv_of_nonneg h2, Int.ediv_ediv_of_nonneg h2, Int.ediv_ediv_of_nonneg h2, Int.ediv_ediv_of_nonneg h2, Int.ediv_ediv_of_nonneg h2, Int.ediv_ediv_of_nonneg h2, show (2 : Int) * (2 * (2 * (2 * (2 * (2 * 2))))) = 128 from rfl]
  generalize k / 128 = y
  omega
open PySem.Builtin in
theorem mark7 {k : Int} : bitOr (bitAnd k 127) 128 = k % 128 + 128 := by
  have h := or_high (s := 7) (x := k % 128) (m := 1) (by omega) (by show k % 128 < 128; omega)
  rw [bitAnd_m7]
  exact h

end
section
theorem intsAre_get : ∀ {vs : List Value} {ns : List Int}, vs.length = ns.length → (∀ (j : Nat) (v : Value), vs[j]? = some v → ∃ n t, ns[j]? = some n ∧ v = Value.int n t) → IntsAre vs ns
  | [], [], _, _ => IntsAre.nil
  | [], _ :: _, h, _ => nomatch h
  | _ :: _, [], h, _ => nomatch h
  | v :: vs, n :: ns, h, g => by
    obtain ⟨n', t, e, rfl⟩ := g 0 v rfl
    have e' : n = n' := Option.some.inj e
    subst e'
    exact IntsAre.cons _ _ (intsAre_get (Nat.succ.inj h) fun j v e => g (j + 1) v e)
section
variable {prog : Program} {w : World} {A : Around} {E : Value → Shared → Prop} {s : Shared}
abbrev ByteAt (b : Array UInt8) (i : Nat) (v : Value) : Prop := ∃ c u, b[i]? = some c ∧ v = .int (c.toNat : Int) u
theorem lb_extend {R : Result → Shared → Prop} (hh : A.handled = none) (b : Array UInt8) (t : Tok) (S : Addr) (res : Value) (c₀ : Nat) (hS : s.heap.get? S = some { cls := .type "list", data := .seq #[] c₀ })
    (hR : ∀ h' tk acc' c', (∀ a o, a ≠ S → s.heap.get? a = some o → h'.get? a = some o) → h'.get? S = some { cls := .type "list", dict := none, data := .seq acc' c', slots := #[] } →
      ItemsOf (ByteAt b) acc' b.size → R (.ok (.ret res)) { s with heap := h', toks := tk }) (hn : b.size ≤ sizeLine) :
    wpAny (model prog w) A.in1 (Builtin.List.listExtendWith (.ref S) (.bytes b t) res)
      (fun fin s' => match fin with | .done f => R (.ok f) s' | .again c' => c'.quiet = true ∧ codeAny (model prog w) A c' R s') (fun e s' => R (.error e) s') s := by
  have hSI : S ≠ s.heap.objs.size := Nat.ne_of_lt (Heap.lt_size hS)
  have hSf : S ∉ [s.heap.objs.size] := fun hm => hSI (List.mem_singleton.mp hm)
  unfold Builtin.List.listExtendWith
  refine wpAny_bind (wpAny_typeOf (T := "bytes") (v := .bytes b t) rfl ?_)
  have h1 : Builtin.List.listSameRef (.ref S) (.bytes b t) = false := rfl
  have h2 : (Value.type "bytes" == Value.type "list") = false := by decide
  have h3 : (Value.type "bytes" == Value.type "tuple") = false := by decide
  simp only [h1, h2, h3, Bool.or_false, Bool.false_eq_true, if_false]
  refine wpAny_bind (KBw.pyIter_bytes ?_)
  refine wpAny_bind (wpAny_holding ?_)
  unfold Builtin.List.listLengthHint
  refine wpAny_bind (wpAny_specialOf (T := "bytes") (v := .bytes b t) rfl FB.slot_bytes_len.lookup ?_)
  wp_delta
  refine wpAny_bind (wpAny_isInstance (T := "bytes") (v := .bytes b t) (b := true) rfl (by rw [isSubtype_type]; kernel_rfl) ?_)
  show wpAny _ _ (typeOf (Value.bytes b t) >>= _) _ _ _
  refine wpAny_bind (wpAny_typeOf (T := "bytes") (v := .bytes b t) rfl ?_)
  refine wpAny_pure ?_
  rw [if_neg (by decide)]
  refine wpAny_pure ⟨plainId_quiet F.plain_extend_loop _, codeAny_extend_loopS (KBw.walks (prog := prog) (w := w) (A := A.in1) hh s.heap.objs.size b t).toS hn _ hSf _ b.size 0 _ _ _ rfl (Nat.zero_le _) ⟨_, Heap.get?_push_size _ rfl, rfl, rfl⟩ (Heap.get?_push_of_some _ hS) (ItemsOf.nil _) fun s' acc' c' hm hS' hacc => ?_⟩
  rw [Moved.eq_with hm]
  refine hR s'.heap s'.toks acc' c' (fun a ob hb e => hm.heap a ob (fun hmem => ?_) (Heap.get?_push_of_some _ e)) hS' hacc
  rcases List.mem_cons.mp hmem with e' | hmem
  · exact hb e'
  · exact absurd (Heap.lt_size e) (by rw [List.mem_singleton.mp hmem]; exact Nat.lt_irrefl _)
theorem lb_init {R : Result → Shared → Prop} (hh : A.handled = none) (b : Array UInt8) (t : Tok) (S : Addr) (hS : s.heap.get? S = some { cls := .type "list", data := .seq #[] })
    (hR : ∀ h' tk acc' c', (∀ a o, a ≠ S → s.heap.get? a = some o → h'.get? a = some o) → h'.get? S = some { cls := .type "list", dict := none, data := .seq acc' c', slots := #[] } →
      ItemsOf (ByteAt b) acc' b.size → R (.ok (.ret .none)) { s with heap := h', toks := tk }) (hn : b.size ≤ sizeLine) :
    wpAny (model prog w) A.in1 (Builtin.«list.__init__» ⟨[.ref S, .bytes b t], []⟩)
      (fun fin s' => match fin with | .done f => R (.ok f) s' | .again c' => c'.quiet = true ∧ codeAny (model prog w) A c' R s') (fun e s' => R (.error e) s') s := by
  show wpAny _ _ (do let old ← Builtin.List.listItems (.ref S); Builtin.List.listUpdate (.ref S) (fun _ => #[]); letGo old.toList.reverse; Builtin.List.listExtendWith (.ref S) (.bytes b t) .none) _ _ s
  refine wpAny_bind ?_
  unfold Builtin.List.listItems
  refine wpAny_bind (wpAny_seqItems hS rfl (wpAny_pure ?_))
  show wpAny _ _ (updateSeq S (fun _ => #[]) >>= fun _ => letGo (#[] : Array Value).toList.reverse >>= fun _ => Builtin.List.listExtendWith (.ref S) (.bytes b t) .none) _ _ s
  refine wpAny_bind (wpAny_updateSeq hS rfl ?_)
  have hS₂ := Heap.get?_update_self (Obj.mapSeq (fun _ => (#[] : Array Value))) hS rfl
  have oth : ∀ a o, a ≠ S → s.heap.get? a = some o → (s.heap.update S (Obj.mapSeq (fun _ => (#[] : Array Value)))).get? a = some o :=
    fun a o hb e => (Heap.get?_update_other _ _ (Ne.symm hb)).trans e
  refine wpAny_bind (wpAny_letGo ?_)
  exact lb_extend (hn := hn) hh b t S .none _ hS₂ fun h' tk acc' c' hk hS' hacc => hR h' tk acc' c' (fun a o hb e => hk a o hb (oth a o hb e)) hS' hacc
theorem lb_call {Q : Value → Shared → Prop} {h₀ : Heap} {L : Addr} {m : Str → Option Value} {news : List (Addr × Obj)} {b : Array UInt8} {ks : List Int} {t : Tok} (hh : A.handled = none) (F : Fr h₀ L s.heap m) (N : News h₀ L s.heap news) (hk9 : KBw.bInts b = ks) (hn : ks.length ≤ 16777216)
    (h : ∀ l vs c h' tk, AllLt l news → IntsAre vs ks → Fr h₀ L h' m → News h₀ L h' ((l, listOf vs.toArray c) :: news) → Q (.ref l) { s with heap := h', toks := tk }) :
    wpAny (model prog w) A (call (.type "list") [.bytes b t]) Q E s := by
  subst hk9
  rw [KBw.ints_length] at hn
  refine callType_codes (Q₁ := fun obj s₁ => obj = .ref s.heap.objs.size ∧ s₁ = { s with heap := s.heap.push { cls := .type "list", data := .seq #[] } }) PySem.F.called_list (PySem.F.typeCall_list_1 _) PySem.F.entry_list_init
    (code_list_new _ ⟨rfl, rfl⟩) fun obj s₁ h₁ => ?_
  obtain ⟨rfl, rfl⟩ := h₁
  have hS : (s.heap.push { cls := .type "list", data := .seq #[] }).get? s.heap.objs.size = some { cls := .type "list", data := .seq #[] } := Heap.get?_push_size _ rfl
  refine ⟨⟨_, hS, rfl⟩, PySem.F.args_list_init_2 _ _, lb_init (A := A.in1) (hn := by rw [sizeLine_eq]; exact hn) hh b t _ hS fun h' tk acc' c' hk hS' hacc => ⟨rfl, ?_⟩⟩
  have hk2 : ∀ a o, s.heap.get? a = some o → h'.get? a = some o := fun a o e => hk a o (Nat.ne_of_lt (Heap.lt_size e)) (Heap.get?_push_of_some _ e)
  refine h s.heap.objs.size acc'.toList c' h' tk (allLt_of fun q hq => Heap.lt_size (N q hq).1) ?_ (F.keeps hk2) (news_pushed F N hk2 (by first | (rw [Array.toArray_toList]; exact hS') | simpa using hS') rfl)
  refine intsAre_get (by rw [KBw.ints_length, Array.length_toList]; exact hacc.1) fun j v e => ?_
  obtain ⟨c, u, hc, rfl⟩ := hacc.2 j v (by rw [← Array.getElem?_toList]; exact e)
  exact ⟨_, u, KBw.ints_get hc, rfl⟩
end

end
local macro_rules | `(tactic| walk_at "execs cons") => `(tactic| ((with_reducible refine execs_one ?_); try dsimp only))
local macro_rules | `(tactic| walk_at "and9") => `(tactic| ((iterate 14 (first | done | with_reducible assumption | apply And.right)); done))
local macro_rules | `(tactic| k_ne) => `(tactic| (refine neN ?_; (try dsimp only); first | exact Nat.ne_of_lt (by with_reducible assumption) | exact Nat.ne_of_gt (by with_reducible assumption) | (apply Nat.ne_of_lt; apply And.left; walk_at "and9") | (apply Nat.ne_of_gt; apply And.left; walk_at "and9") | (apply Nat.ne_of_lt; apply And.right; walk_at "and9") | (apply Nat.ne_of_gt; apply And.right; walk_at "and9") | omega))
local macro_rules | `(tactic| k_room) => `(tactic| ((simp only [depth_under_make, depth_under_kw, depth_in1, depth_deeper, depth_caller]); (try dsimp only [ktrTop]); first | exact Nat.lt_of_le_of_lt (Nat.le_add_right _ _) (by with_reducible assumption) | ((try simp only [Nat.add_assoc, Nat.reduceAdd]); exact room9 (by with_reducible assumption) (by rfl)) | omega))
local macro_rules | `(tactic| kba_in) => `(tactic| exact in_rep0 _)
local macro_rules | `(tactic| walk_at "le9") => `(tactic| (first | exact Nat.le_refl _ | exact Nat.le_of_lt (by with_reducible assumption) | (apply Nat.le_of_lt; apply And.left; walk_at "and9") | omega))
local macro_rules | `(tactic| k_all) => `(tactic| (first | exact ne_lt9 (by assumption) (by walk_at "le9") | exact ne_allLt (by assumption) (by walk_at "le9") | exact ne_allLt (And.right (by assumption)) (by walk_at "le9") | exact ne_allLt (And.right (And.right (by assumption))) (by walk_at "le9") | exact ne_allLt (And.right (And.right (And.right (by assumption)))) (by walk_at "le9") | exact ne_allLt (And.right (And.right (And.right (And.right (by assumption))))) (by walk_at "le9") | exact ne_allLt (And.right (And.right (And.right (And.right (And.right (by assumption)))))) (by walk_at "le9") | exact ne_allLt (And.right (And.right (And.right (And.right (And.right (And.right (by assumption))))))) (by walk_at "le9") | exact ne_allLt (And.right (And.right (And.right (And.right (And.right (And.right (And.right (by assumption)))))))) (by walk_at "le9") | exact ne_allLt (And.right (And.right (And.right (And.right (And.right (And.right (And.right (And.right (by assumption))))))))) (by walk_at "le9") | exact ne_allLt (And.right (And.right (And.right (And.right (And.right (And.right (And.right (And.right (And.right (by assumption)))))))))) (by walk_at "le9")))
local macro_rules | `(tactic| walk_at "UnrEnd") => `(tactic| (k_dflt (refine' unrEnd_del ?eF ?eN ?eD ?_; (case eF => k_asm); (case eN => k_asm); (case eD => (repeat (first | exact Del.head (by k_all) | (apply Del.tail; (focus k_ne))))); k_whole)))
local macro_rules | `(tactic| walk_at "callWith ref") => `(tactic| (k_here; k_dflt (first | (refine' callWith_K ?k1 ?k2 ?_; (case k1 => with_reducible assumption); (case k2 => k_is); k_whole) | (refine' callWith_K0 ?k1 ?k2 ?_; (case k1 => exact Frag.In.keeps (by with_reducible assumption) (Fr.keep (by with_reducible assumption))); (case k2 => k_is); k_whole))))
local macro_rules | `(tactic| walk_at "subscriptTail") => `(tactic| (k_here; (with_reducible show wpAny _ _ (subscriptTail _ _ (Value.ref _) (Value.int _ _)) _ _ _); k_dflt (refine' item_tupleT ?k1 ?k2 ?k3 ?k4 ?k5 ?_; (case k1 => exact News.isTup (by k_asm) (by k_mem)); (case k2 => decide); (case k3 => decide); (case k4 => exact rfl); (case k5 => exact rfl))))
theorem off_P3 : True := by w_top off; trivial
section
open PySem.Builtin in
theorem read_math {ks : List Int} {p n : Nat} (h : p + n ≤ ks.length) : List.take (clipAt ks.length ((p : Int) + (n : Int)) - min p ks.length) (List.drop (min p ks.length) ks) = (ks.drop p).take n := by
  have e3 : ((p : Int) + (n : Int)) = ((p + n : Nat) : Int) := (Int.natCast_add p n).symm
  rw [e3, clipAt_nat, Nat.min_eq_left h, Nat.min_eq_left (Nat.le_trans (Nat.le_add_right p n) h), Nat.add_sub_cancel_left]
open PySem.Builtin in
theorem read_clip {len p n : Nat} (h : p + n ≤ len) : clipAt len ((p : Int) + (n : Int)) = p + n := by
  have e3 : ((p : Int) + (n : Int)) = ((p + n : Nat) : Int) := (Int.natCast_add p n).symm
  rw [e3, clipAt_nat, Nat.min_eq_left h]
section
variable {w : World} {mean : ExcName → Option Value} {mg mb : Str → Option Value} {fx dS ox dO : Addr} {k1 k2 k3 k4 k5 k6 : Tok} {ks : List Int} {p : Nat}
theorem c_write {kb : List Int} {b : Array UInt8} {t : Tok} (H : KBw.bInts b = kb ∧ p ≤ ks.length ∧ ks.length + kb.length ≤ 1000000) :
    FCon w mean mg mb 387 fx dS ox dO k1 k2 k3 k4 k5 k6 ks p [.ref fx, .bytes b t] 3 (ks.take p ++ kb ++ ks.drop (p + kb.length)) (p + kb.length) (fun t' : Tok => Value.int (kb.length) t') (fun _ => True) := by
  obtain ⟨hb, h1, h2⟩ := H
  intro o rest l1 l2 l3 ho hO
  have l4 : @LT.lt Nat _ dO dS := Nat.lt_trans l1 l2
  have l5 : @LT.lt Nat _ ox fx := Nat.lt_trans l2 l3
  have l6 : @LT.lt Nat _ dO fx := Nat.lt_trans l4 l3
  k_fill
  obtain ⟨b0, tb, q, tp, rfl, hb0, rfl⟩ := hO
  intro dp un gd cn cs a ccd cl outer A₀ base h₀ L m s Q E B F X N T hk hd hu hret
  k_dflt (refine' code_def ?k1 ?k2 ?k3 ?k4 ?k5 ?kA ?kF ?kK ?k6 ?k7 ?k8 ?k9 ?kB ?_ ?c2 ?c3 ?c4 ?c5; (case kA => exact rfl); (case kF => exact rfl); (case kK => first | exact rfl | assumption); (case k1 => k_asm); (case k2 => k_asm); (case k3 => k_asm); (case k4 => k_asm); (case k5 => k_asm); (case k6 => k_is); (case k7 => k_is); (case k8 => k_room); (case k9 => first | exact BindsTo.of_eq rfl | exact binds_K (by k_in) rfl (by k_is) rfl rfl rfl | fail "k_enter: no rule for these arguments"); (case c5 => decide); (case kB => exact locs rfl); (case c2 => exact rfl); (case c3 => exact rfl); (case c4 => exact rfl); k_whole; intro g' L' h' FG' F' N' B' X' T'; (try dsimp only); (try k_lift B'); (try k_fold))
  k_steps
  all_goals first
    | (exfalso; omega)
    | (refine' hret _ _ _ _ ⟨_, ⟨⟨_, _, _, _, ?_, ?_, rfl⟩, ?_⟩, rfl⟩ (by k_asm) (cb_drop (by k_asm) ?_); rotate_right 1; (focus (intro q hq; repeat (first | exact hq | apply List.mem_cons_of_mem))); (focus (omega)); (focus (exact Eq.trans (by assumption) (write_math h1))); (focus (exact ⟨_, rfl, trivial⟩)))
theorem c_read {n : Nat} {t : Tok} (H : p + n ≤ ks.length ∧ ks.length ≤ 1000000) :
    FCon w mean mg mb 380 fx dS ox dO k1 k2 k3 k4 k5 k6 ks p [.ref fx, .int n t] 3 (ks) (p + n) (fun x : Array UInt8 × Tok => Value.bytes x.1 x.2) (fun x => KBw.bInts x.1 = (ks.drop p).take n) := by
  obtain ⟨h1, h2⟩ := H
  intro o rest l1 l2 l3 ho hO
  have l4 : @LT.lt Nat _ dO dS := Nat.lt_trans l1 l2
  have l5 : @LT.lt Nat _ ox fx := Nat.lt_trans l2 l3
  have l6 : @LT.lt Nat _ dO fx := Nat.lt_trans l4 l3
  k_fill
  obtain ⟨b0, tb, q, tp, rfl, hb0, rfl⟩ := hO
  intro dp un gd cn cs a ccd cl outer A₀ base h₀ L m s Q E B F X N T hk hd hu hret
  k_dflt (refine' code_def ?k1 ?k2 ?k3 ?k4 ?k5 ?kA ?kF ?kK ?k6 ?k7 ?k8 ?k9 ?kB ?_ ?c2 ?c3 ?c4 ?c5; (case kA => exact rfl); (case kF => exact rfl); (case kK => first | exact rfl | assumption); (case k1 => k_asm); (case k2 => k_asm); (case k3 => k_asm); (case k4 => k_asm); (case k5 => k_asm); (case k6 => k_is); (case k7 => k_is); (case k8 => k_room); (case k9 => first | exact BindsTo.of_eq rfl | exact binds_K (by k_in) rfl (by k_is) rfl rfl rfl | fail "k_enter: no rule for these arguments"); (case c5 => decide); (case kB => exact locs rfl); (case c2 => exact rfl); (case c3 => exact rfl); (case c4 => exact rfl); k_whole; intro g' L' h' FG' F' N' B' X' T'; (try dsimp only); (try k_lift B'); (try k_fold))
  k_steps
  all_goals first
    | (exfalso; omega)
    | (refine' hret _ _ _ _ ⟨_, ⟨⟨_, _, _, _, ?_, ?_, rfl⟩, ?_⟩, rfl⟩ (by k_asm) (cb_drop (by k_asm) ?_); rotate_right 1; (focus (intro q hq; repeat (first | exact hq | apply List.mem_cons_of_mem))); (focus (rw [read_clip h1]; omega)); (focus (assumption)); (focus (exact ⟨(_, _), rfl, Eq.trans (by assumption) (read_math h1)⟩)))
theorem c_tell   :
    FCon w mean mg mb 394 fx dS ox dO k1 k2 k3 k4 k5 k6 ks p [.ref fx] 3 (ks) (p) (fun t' : Tok => Value.int (p) t') (fun _ => True) := by
  intro o rest l1 l2 l3 ho hO
  have l4 : @LT.lt Nat _ dO dS := Nat.lt_trans l1 l2
  have l5 : @LT.lt Nat _ ox fx := Nat.lt_trans l2 l3
  have l6 : @LT.lt Nat _ dO fx := Nat.lt_trans l4 l3
  k_fill
  obtain ⟨b0, tb, q, tp, rfl, hb0, rfl⟩ := hO
  intro dp un gd cn cs a ccd cl outer A₀ base h₀ L m s Q E B F X N T hk hd hu hret
  k_dflt (refine' code_def ?k1 ?k2 ?k3 ?k4 ?k5 ?kA ?kF ?kK ?k6 ?k7 ?k8 ?k9 ?kB ?_ ?c2 ?c3 ?c4 ?c5; (case kA => exact rfl); (case kF => exact rfl); (case kK => first | exact rfl | assumption); (case k1 => k_asm); (case k2 => k_asm); (case k3 => k_asm); (case k4 => k_asm); (case k5 => k_asm); (case k6 => k_is); (case k7 => k_is); (case k8 => k_room); (case k9 => first | exact BindsTo.of_eq rfl | exact binds_K (by k_in) rfl (by k_is) rfl rfl rfl | fail "k_enter: no rule for these arguments"); (case c5 => decide); (case kB => exact locs rfl); (case c2 => exact rfl); (case c3 => exact rfl); (case c4 => exact rfl); k_whole; intro g' L' h' FG' F' N' B' X' T'; (try dsimp only); (try k_lift B'); (try k_fold))
  k_steps
  all_goals first
    | (exfalso; omega)
    | (refine' hret _ _ _ _ ⟨_, ⟨⟨_, _, _, _, ?_, ?_, rfl⟩, ?_⟩, rfl⟩ (by k_asm) (cb_drop (by k_asm) ?_); rotate_right 1; (focus (intro q hq; repeat (first | exact hq | apply List.mem_cons_of_mem))); (focus (rfl)); (focus (assumption)); (focus (exact ⟨_, rfl, trivial⟩)))
theorem c_seek {n : Nat} {t : Tok}  :
    FCon w mean mg mb 402 fx dS ox dO k1 k2 k3 k4 k5 k6 ks p [.ref fx, .int n t] 3 (ks) (n) (fun t' : Tok => Value.int (n) t') (fun _ => True) := by
  intro o rest l1 l2 l3 ho hO
  have l4 : @LT.lt Nat _ dO dS := Nat.lt_trans l1 l2
  have l5 : @LT.lt Nat _ ox fx := Nat.lt_trans l2 l3
  have l6 : @LT.lt Nat _ dO fx := Nat.lt_trans l4 l3
  k_fill
  obtain ⟨b0, tb, q, tp, rfl, hb0, rfl⟩ := hO
  intro dp un gd cn cs a ccd cl outer A₀ base h₀ L m s Q E B F X N T hk hd hu hret
  k_dflt (refine' code_def ?k1 ?k2 ?k3 ?k4 ?k5 ?kA ?kF ?kK ?k6 ?k7 ?k8 ?k9 ?kB ?_ ?c2 ?c3 ?c4 ?c5; (case kA => exact rfl); (case kF => exact rfl); (case kK => first | exact rfl | assumption); (case k1 => k_asm); (case k2 => k_asm); (case k3 => k_asm); (case k4 => k_asm); (case k5 => k_asm); (case k6 => k_is); (case k7 => k_is); (case k8 => k_room); (case k9 => first | exact BindsTo.of_eq rfl | exact binds_K (by k_in) rfl (by k_is) rfl rfl rfl | fail "k_enter: no rule for these arguments"); (case c5 => decide); (case kB => exact locs rfl); (case c2 => exact rfl); (case c3 => exact rfl); (case c4 => exact rfl); k_whole; intro g' L' h' FG' F' N' B' X' T'; (try dsimp only); (try k_lift B'); (try k_fold))
  k_steps
  all_goals first
    | (exfalso; omega)
    | (refine' hret _ _ _ _ ⟨_, ⟨⟨_, _, _, _, ?_, ?_, rfl⟩, ?_⟩, rfl⟩ (by k_asm) (cb_drop (by k_asm) ?_); rotate_right 1; (focus (intro q hq; repeat (first | exact hq | apply List.mem_cons_of_mem))); (focus (rfl)); (focus (assumption)); (focus (exact ⟨_, rfl, trivial⟩)))
theorem c_seek1 {n : Nat} {t u : Tok}  :
    FCon w mean mg mb 402 fx dS ox dO k1 k2 k3 k4 k5 k6 ks p [.ref fx, .int n t, .int 1 u] 3 (ks) (n + p) (fun t' : Tok => Value.int ((n + p : Nat)) t') (fun _ => True) := by
  intro o rest l1 l2 l3 ho hO
  have l4 : @LT.lt Nat _ dO dS := Nat.lt_trans l1 l2
  have l5 : @LT.lt Nat _ ox fx := Nat.lt_trans l2 l3
  have l6 : @LT.lt Nat _ dO fx := Nat.lt_trans l4 l3
  k_fill
  obtain ⟨b0, tb, q, tp, rfl, hb0, rfl⟩ := hO
  intro dp un gd cn cs a ccd cl outer A₀ base h₀ L m s Q E B F X N T hk hd hu hret
  k_dflt (refine' code_def ?k1 ?k2 ?k3 ?k4 ?k5 ?kA ?kF ?kK ?k6 ?k7 ?k8 ?k9 ?kB ?_ ?c2 ?c3 ?c4 ?c5; (case kA => exact rfl); (case kF => exact rfl); (case kK => first | exact rfl | assumption); (case k1 => k_asm); (case k2 => k_asm); (case k3 => k_asm); (case k4 => k_asm); (case k5 => k_asm); (case k6 => k_is); (case k7 => k_is); (case k8 => k_room); (case k9 => first | exact BindsTo.of_eq rfl | exact binds_K (by k_in) rfl (by k_is) rfl rfl rfl | fail "k_enter: no rule for these arguments"); (case c5 => decide); (case kB => exact locs rfl); (case c2 => exact rfl); (case c3 => exact rfl); (case c4 => exact rfl); k_whole; intro g' L' h' FG' F' N' B' X' T'; (try dsimp only); (try k_lift B'); (try k_fold))
  k_steps
  all_goals first
    | (exfalso; omega)
    | (refine' hret _ _ _ _ ⟨_, ⟨⟨_, _, _, _, ?_, ?_, rfl⟩, ?_⟩, rfl⟩ (by k_asm) (cb_drop (by k_asm) ?_); rotate_right 1; (focus (intro q hq; repeat (first | exact hq | apply List.mem_cons_of_mem))); (focus (omega)); (focus (assumption)); (focus (exact ⟨_, congrArg (fun z => Value.int z _) (by omega), trivial⟩)))
theorem c_seek2 {t u : Tok} (H : ks.length ≤ 1000000) :
    FCon w mean mg mb 402 fx dS ox dO k1 k2 k3 k4 k5 k6 ks p [.ref fx, .int 0 t, .int 2 u] 3 (ks) (ks.length) (fun t' : Tok => Value.int ((ks.length : Nat)) t') (fun _ => True) := by
  have h2 := H
  intro o rest l1 l2 l3 ho hO
  have l4 : @LT.lt Nat _ dO dS := Nat.lt_trans l1 l2
  have l5 : @LT.lt Nat _ ox fx := Nat.lt_trans l2 l3
  have l6 : @LT.lt Nat _ dO fx := Nat.lt_trans l4 l3
  k_fill
  obtain ⟨b0, tb, q, tp, rfl, hb0, rfl⟩ := hO
  intro dp un gd cn cs a ccd cl outer A₀ base h₀ L m s Q E B F X N T hk hd hu hret
  k_dflt (refine' code_def ?k1 ?k2 ?k3 ?k4 ?k5 ?kA ?kF ?kK ?k6 ?k7 ?k8 ?k9 ?kB ?_ ?c2 ?c3 ?c4 ?c5; (case kA => exact rfl); (case kF => exact rfl); (case kK => first | exact rfl | assumption); (case k1 => k_asm); (case k2 => k_asm); (case k3 => k_asm); (case k4 => k_asm); (case k5 => k_asm); (case k6 => k_is); (case k7 => k_is); (case k8 => k_room); (case k9 => first | exact BindsTo.of_eq rfl | exact binds_K (by k_in) rfl (by k_is) rfl rfl rfl | fail "k_enter: no rule for these arguments"); (case c5 => decide); (case kB => exact locs rfl); (case c2 => exact rfl); (case c3 => exact rfl); (case c4 => exact rfl); k_whole; intro g' L' h' FG' F' N' B' X' T'; (try dsimp only); (try k_lift B'); (try k_fold))
  k_steps
  all_goals first
    | (exfalso; omega)
    | (refine' hret _ _ _ _ ⟨_, ⟨⟨_, _, _, _, ?_, ?_, rfl⟩, ?_⟩, rfl⟩ (by k_asm) (cb_drop (by k_asm) ?_); rotate_right 1; (focus (intro q hq; repeat (first | exact hq | apply List.mem_cons_of_mem))); (focus (omega)); (focus (assumption)); (focus (exact ⟨_, congrArg (fun z => Value.int z _) (by omega), trivial⟩)))
theorem c_readI {z : Int} {t : Tok} (H : 0 ≤ z ∧ p + z.toNat ≤ ks.length ∧ ks.length ≤ 1000000) :
    FCon w mean mg mb 380 fx dS ox dO k1 k2 k3 k4 k5 k6 ks p [.ref fx, .int z t] 3 (ks) (p + z.toNat) (fun x : Array UInt8 × Tok => Value.bytes x.1 x.2) (fun x => KBw.bInts x.1 = (ks.drop p).take z.toNat) := by
  obtain ⟨n, rfl⟩ := Int.eq_ofNat_of_zero_le H.1
  exact c_read H.2
theorem c_seekI {z : Int} {n : Nat} {t : Tok} (e : z = (n : Int)) :
    FCon w mean mg mb 402 fx dS ox dO k1 k2 k3 k4 k5 k6 ks p [.ref fx, .int z t] 3 (ks) (n) (fun t' : Tok => Value.int ((n : Nat)) t') (fun _ => True) := by
  subst e
  exact c_seek
end

end
theorem off_P4 : True := by w_top off; trivial
section
local macro_rules | `(tactic| walk_at "exec Raise some none") => `(tactic| (k_here; exfalso; (try simp only [Int.reduceToNat] at *); omega))
/-- the octets of n in k places, the greatest first -/
noncomputable def lawOct (n : Int) (k : Nat) : List Int := (KTBy.little k (n % 256 ^ k)).reverse
theorem lawOct_length (n : Int) (k : Nat) : (lawOct n k).length = k := by
  unfold lawOct
  rw [List.length_reverse, KTBy.little_length]
section
variable {w : World} {mean : ExcName → Option Value} {mg mb : Str → Option Value}
theorem c_packed1 {n low : Int} {t u v : Tok} (H : low ≤ n ∧ n < low + 256) :
    PCon w mean mg mb 21 [.int n t, .int low u, .int 1 v] 2 (fun x : Array UInt8 × Tok => Value.bytes x.1 x.2) (fun x => KBw.bInts x.1 = lawOct n 1) := by
  obtain ⟨h0, h1⟩ := H
  intro news
  k_fill
  intro dp un gd cn cs a ccd cl outer A₀ base h₀ L m s Q E B F X N T hk hd hu hret
  k_dflt (refine' code_def ?k1 ?k2 ?k3 ?k4 ?k5 ?kA ?kF ?kK ?k6 ?k7 ?k8 ?k9 ?kB ?_ ?c2 ?c3 ?c4 ?c5; (case kA => exact rfl); (case kF => exact rfl); (case kK => first | exact rfl | assumption); (case k1 => k_asm); (case k2 => k_asm); (case k3 => k_asm); (case k4 => k_asm); (case k5 => k_asm); (case k6 => k_is); (case k7 => k_is); (case k8 => k_room); (case k9 => first | exact BindsTo.of_eq rfl | exact binds_K (by k_in) rfl (by k_is) rfl rfl rfl | fail "k_enter: no rule for these arguments"); (case c5 => decide); (case kB => exact locs rfl); (case c2 => exact rfl); (case c3 => exact rfl); (case c4 => exact rfl); k_whole; intro g' L' h' FG' F' N' B' X' T'; (try dsimp only); (try k_lift B'); (try k_fold))
  k_steps
  all_goals (simp only [show Int.toNat 1 = 1 from rfl] at *)
  all_goals first
    | (exfalso; omega)
    | (refine' hret _ _ _ _ ⟨⟨(_, _), rfl, ?_⟩, rfl⟩ (by k_asm) (by k_asm); (refine Eq.trans (by assumption) ?_); (simp only [Int.fmod_eq_emod_of_nonneg _ (by decide : (0 : Int) ≤ 256 ^ 1)]); rfl)
theorem c_packed2 {n low : Int} {t u v : Tok} (H : low ≤ n ∧ n < low + 65536) :
    PCon w mean mg mb 21 [.int n t, .int low u, .int 2 v] 2 (fun x : Array UInt8 × Tok => Value.bytes x.1 x.2) (fun x => KBw.bInts x.1 = lawOct n 2) := by
  obtain ⟨h0, h1⟩ := H
  intro news
  k_fill
  intro dp un gd cn cs a ccd cl outer A₀ base h₀ L m s Q E B F X N T hk hd hu hret
  k_dflt (refine' code_def ?k1 ?k2 ?k3 ?k4 ?k5 ?kA ?kF ?kK ?k6 ?k7 ?k8 ?k9 ?kB ?_ ?c2 ?c3 ?c4 ?c5; (case kA => exact rfl); (case kF => exact rfl); (case kK => first | exact rfl | assumption); (case k1 => k_asm); (case k2 => k_asm); (case k3 => k_asm); (case k4 => k_asm); (case k5 => k_asm); (case k6 => k_is); (case k7 => k_is); (case k8 => k_room); (case k9 => first | exact BindsTo.of_eq rfl | exact binds_K (by k_in) rfl (by k_is) rfl rfl rfl | fail "k_enter: no rule for these arguments"); (case c5 => decide); (case kB => exact locs rfl); (case c2 => exact rfl); (case c3 => exact rfl); (case c4 => exact rfl); k_whole; intro g' L' h' FG' F' N' B' X' T'; (try dsimp only); (try k_lift B'); (try k_fold))
  k_steps
  all_goals (simp only [show Int.toNat 2 = 2 from rfl] at *)
  all_goals first
    | (exfalso; omega)
    | (refine' hret _ _ _ _ ⟨⟨(_, _), rfl, ?_⟩, rfl⟩ (by k_asm) (by k_asm); (refine Eq.trans (by assumption) ?_); (simp only [Int.fmod_eq_emod_of_nonneg _ (by decide : (0 : Int) ≤ 256 ^ 2)]); rfl)
theorem c_packed4 {n low : Int} {t u v : Tok} (H : low ≤ n ∧ n < low + 4294967296) :
    PCon w mean mg mb 21 [.int n t, .int low u, .int 4 v] 2 (fun x : Array UInt8 × Tok => Value.bytes x.1 x.2) (fun x => KBw.bInts x.1 = lawOct n 4) := by
  obtain ⟨h0, h1⟩ := H
  intro news
  k_fill
  intro dp un gd cn cs a ccd cl outer A₀ base h₀ L m s Q E B F X N T hk hd hu hret
  k_dflt (refine' code_def ?k1 ?k2 ?k3 ?k4 ?k5 ?kA ?kF ?kK ?k6 ?k7 ?k8 ?k9 ?kB ?_ ?c2 ?c3 ?c4 ?c5; (case kA => exact rfl); (case kF => exact rfl); (case kK => first | exact rfl | assumption); (case k1 => k_asm); (case k2 => k_asm); (case k3 => k_asm); (case k4 => k_asm); (case k5 => k_asm); (case k6 => k_is); (case k7 => k_is); (case k8 => k_room); (case k9 => first | exact BindsTo.of_eq rfl | exact binds_K (by k_in) rfl (by k_is) rfl rfl rfl | fail "k_enter: no rule for these arguments"); (case c5 => decide); (case kB => exact locs rfl); (case c2 => exact rfl); (case c3 => exact rfl); (case c4 => exact rfl); k_whole; intro g' L' h' FG' F' N' B' X' T'; (try dsimp only); (try k_lift B'); (try k_fold))
  k_steps
  all_goals (simp only [show Int.toNat 4 = 4 from rfl] at *)
  all_goals first
    | (exfalso; omega)
    | (refine' hret _ _ _ _ ⟨⟨(_, _), rfl, ?_⟩, rfl⟩ (by k_asm) (by k_asm); (refine Eq.trans (by assumption) ?_); (simp only [Int.fmod_eq_emod_of_nonneg _ (by decide : (0 : Int) ≤ 256 ^ 4)]); rfl)
theorem c_packed8 {n low : Int} {t u v : Tok} (H : low ≤ n ∧ n < low + 18446744073709551616) :
    PCon w mean mg mb 21 [.int n t, .int low u, .int 8 v] 2 (fun x : Array UInt8 × Tok => Value.bytes x.1 x.2) (fun x => KBw.bInts x.1 = lawOct n 8) := by
  obtain ⟨h0, h1⟩ := H
  intro news
  k_fill
  intro dp un gd cn cs a ccd cl outer A₀ base h₀ L m s Q E B F X N T hk hd hu hret
  k_dflt (refine' code_def ?k1 ?k2 ?k3 ?k4 ?k5 ?kA ?kF ?kK ?k6 ?k7 ?k8 ?k9 ?kB ?_ ?c2 ?c3 ?c4 ?c5; (case kA => exact rfl); (case kF => exact rfl); (case kK => first | exact rfl | assumption); (case k1 => k_asm); (case k2 => k_asm); (case k3 => k_asm); (case k4 => k_asm); (case k5 => k_asm); (case k6 => k_is); (case k7 => k_is); (case k8 => k_room); (case k9 => first | exact BindsTo.of_eq rfl | exact binds_K (by k_in) rfl (by k_is) rfl rfl rfl | fail "k_enter: no rule for these arguments"); (case c5 => decide); (case kB => exact locs rfl); (case c2 => exact rfl); (case c3 => exact rfl); (case c4 => exact rfl); k_whole; intro g' L' h' FG' F' N' B' X' T'; (try dsimp only); (try k_lift B'); (try k_fold))
  k_steps
  all_goals (simp only [show Int.toNat 8 = 8 from rfl] at *)
  all_goals first
    | (exfalso; omega)
    | (refine' hret _ _ _ _ ⟨⟨(_, _), rfl, ?_⟩, rfl⟩ (by k_asm) (by k_asm); (refine Eq.trans (by assumption) ?_); (simp only [Int.fmod_eq_emod_of_nonneg _ (by decide : (0 : Int) ≤ 256 ^ 8)]); rfl)
end

end
theorem off_P5 : True := by w_top off; trivial
section
local macro_rules | `(tactic| walk_at "exec Raise some none") => `(tactic| (k_here; exfalso; omega))
local macro_rules | `(tactic| walk_at "getMethod type:int") => `(tactic| (k_here; (with_reducible refine' KFB.getm ?kfbF ?kfbN ?kfbX ?kfbE ?_); k_dflt ((case kfbF => k_asm); (case kfbN => k_asm); (case kfbX => k_asm); (case kfbE => k_is)); k_whole; intro x' h' F' N' l1; (try k_lt l1); (try k_sweep)))
theorem fold_little : ∀ (k : Nat) (x : Int), 0 ≤ x → x < 256 ^ k → List.foldl (fun (a k : Int) => a * 256 + k) 0 (KTBy.little k x).reverse = x
  | 0, x, h0, h1 => by
    have : x < 1 := by simpa using h1
    show (0 : Int) = x
    omega
  | k + 1, x, h0, h1 => by
    have h2 : x < 256 ^ k * 256 := by rw [← Int.pow_succ]; exact h1
    have h3 : x / 256 < 256 ^ k := Int.ediv_lt_of_lt_mul (by decide) h2
    show List.foldl _ 0 (x % 256 :: KTBy.little k (x / 256)).reverse = x
    rw [List.reverse_cons, List.foldl_append, fold_little k (x / 256) (Int.ediv_nonneg h0 (by decide)) h3]
    show x / 256 * 256 + x % 256 = x
    omega
theorem fold_oct (n : Int) (k : Nat) : List.foldl (fun (a k : Int) => a * 256 + k) 0 (lawOct n k) = n % 256 ^ k :=
  fold_little k _ (Int.emod_nonneg _ (Int.pow_ne_zero (by decide))) (Int.emod_lt_of_pos _ (Int.pow_pos (by decide)))
section
variable {w : World} {mean : ExcName → Option Value} {mg mb : Str → Option Value}
theorem c_unpacked1 {n low : Int} {b : Array UInt8} {t u v : Tok} (H : KBw.bInts b = lawOct n 1 ∧ low ≤ n ∧ n < low + 256 ∧ -256 ≤ low ∧ low ≤ 0) :
    TCon w mean mg mb 28 [.bytes b t, .int low u, .int 1 v] 2 (n) := by
  obtain ⟨hb, h0, h1, h2, h3⟩ := H
  intro news
  k_fill
  have hl : (lawOct n 1).length = 1 := lawOct_length n 1
  intro dp un gd cn cs a ccd cl outer A₀ base h₀ L m s Q E B F X N T hk hd hu hret
  k_dflt (refine' code_def ?k1 ?k2 ?k3 ?k4 ?k5 ?kA ?kF ?kK ?k6 ?k7 ?k8 ?k9 ?kB ?_ ?c2 ?c3 ?c4 ?c5; (case kA => exact rfl); (case kF => exact rfl); (case kK => first | exact rfl | assumption); (case k1 => k_asm); (case k2 => k_asm); (case k3 => k_asm); (case k4 => k_asm); (case k5 => k_asm); (case k6 => k_is); (case k7 => k_is); (case k8 => k_room); (case k9 => first | exact BindsTo.of_eq rfl | exact binds_K (by k_in) rfl (by k_is) rfl rfl rfl | fail "k_enter: no rule for these arguments"); (case c5 => decide); (case kB => exact locs rfl); (case c2 => exact rfl); (case c3 => exact rfl); (case c4 => exact rfl); k_whole; intro g' L' h' FG' F' N' B' X' T'; (try dsimp only); (try k_lift B'); (try k_fold))
  k_steps
  all_goals (try simp only [show Int.toNat 1 = 1 from rfl, fold_oct] at *)
  all_goals first
    | (exfalso; omega)
    | (refine' hret _ _ _ _ ⟨_, _, _, rfl, ?_, congrArg (fun z => (_, tupObj [Value.int z _] _) :: _) ?_⟩ (by k_asm) (cb_drop (by k_asm) ?_); rotate_right 1; (focus (intro q hq; rcases List.mem_cons.mp hq with hq1 | hq; (focus (subst hq1; k_mem)); repeat (first | exact hq | apply List.mem_cons_of_mem))); (focus (first | assumption | exact allLt_lt9 (by assumption) (by omega) | exact allLt_tr (by assumption) (by omega) | exact allLt_tr (And.right (by assumption)) (by omega) | exact allLt_tr (And.right (And.right (by assumption))) (by omega) | exact allLt_tr (And.right (And.right (And.right (by assumption)))) (by omega) | exact allLt_tr (And.right (And.right (And.right (And.right (by assumption))))) (by omega) | exact allLt_tr (And.right (And.right (And.right (And.right (And.right (by assumption)))))) (by omega) | exact allLt_tr (And.right (And.right (And.right (And.right (And.right (And.right (by assumption))))))) (by omega) | exact allLt_tr (And.right (And.right (And.right (And.right (And.right (And.right (And.right (by assumption)))))))) (by omega) | exact allLt_tr (And.right (And.right (And.right (And.right (And.right (And.right (And.right (And.right (by assumption))))))))) (by omega) | exact allLt_tr (And.right (And.right (And.right (And.right (And.right (And.right (And.right (And.right (And.right (by assumption)))))))))) (by omega))); (focus omega))
theorem c_unpacked2 {n low : Int} {b : Array UInt8} {t u v : Tok} (H : KBw.bInts b = lawOct n 2 ∧ low ≤ n ∧ n < low + 65536 ∧ -65536 ≤ low ∧ low ≤ 0) :
    TCon w mean mg mb 28 [.bytes b t, .int low u, .int 2 v] 2 (n) := by
  obtain ⟨hb, h0, h1, h2, h3⟩ := H
  intro news
  k_fill
  have hl : (lawOct n 2).length = 2 := lawOct_length n 2
  intro dp un gd cn cs a ccd cl outer A₀ base h₀ L m s Q E B F X N T hk hd hu hret
  k_dflt (refine' code_def ?k1 ?k2 ?k3 ?k4 ?k5 ?kA ?kF ?kK ?k6 ?k7 ?k8 ?k9 ?kB ?_ ?c2 ?c3 ?c4 ?c5; (case kA => exact rfl); (case kF => exact rfl); (case kK => first | exact rfl | assumption); (case k1 => k_asm); (case k2 => k_asm); (case k3 => k_asm); (case k4 => k_asm); (case k5 => k_asm); (case k6 => k_is); (case k7 => k_is); (case k8 => k_room); (case k9 => first | exact BindsTo.of_eq rfl | exact binds_K (by k_in) rfl (by k_is) rfl rfl rfl | fail "k_enter: no rule for these arguments"); (case c5 => decide); (case kB => exact locs rfl); (case c2 => exact rfl); (case c3 => exact rfl); (case c4 => exact rfl); k_whole; intro g' L' h' FG' F' N' B' X' T'; (try dsimp only); (try k_lift B'); (try k_fold))
  k_steps
  all_goals (try simp only [show Int.toNat 2 = 2 from rfl, fold_oct] at *)
  all_goals first
    | (exfalso; omega)
    | (refine' hret _ _ _ _ ⟨_, _, _, rfl, ?_, congrArg (fun z => (_, tupObj [Value.int z _] _) :: _) ?_⟩ (by k_asm) (cb_drop (by k_asm) ?_); rotate_right 1; (focus (intro q hq; rcases List.mem_cons.mp hq with hq1 | hq; (focus (subst hq1; k_mem)); repeat (first | exact hq | apply List.mem_cons_of_mem))); (focus (first | assumption | exact allLt_lt9 (by assumption) (by omega) | exact allLt_tr (by assumption) (by omega) | exact allLt_tr (And.right (by assumption)) (by omega) | exact allLt_tr (And.right (And.right (by assumption))) (by omega) | exact allLt_tr (And.right (And.right (And.right (by assumption)))) (by omega) | exact allLt_tr (And.right (And.right (And.right (And.right (by assumption))))) (by omega) | exact allLt_tr (And.right (And.right (And.right (And.right (And.right (by assumption)))))) (by omega) | exact allLt_tr (And.right (And.right (And.right (And.right (And.right (And.right (by assumption))))))) (by omega) | exact allLt_tr (And.right (And.right (And.right (And.right (And.right (And.right (And.right (by assumption)))))))) (by omega) | exact allLt_tr (And.right (And.right (And.right (And.right (And.right (And.right (And.right (And.right (by assumption))))))))) (by omega) | exact allLt_tr (And.right (And.right (And.right (And.right (And.right (And.right (And.right (And.right (And.right (by assumption)))))))))) (by omega))); (focus omega))
theorem c_unpacked4 {n low : Int} {b : Array UInt8} {t u v : Tok} (H : KBw.bInts b = lawOct n 4 ∧ low ≤ n ∧ n < low + 4294967296 ∧ -4294967296 ≤ low ∧ low ≤ 0) :
    TCon w mean mg mb 28 [.bytes b t, .int low u, .int 4 v] 2 (n) := by
  obtain ⟨hb, h0, h1, h2, h3⟩ := H
  intro news
  k_fill
  have hl : (lawOct n 4).length = 4 := lawOct_length n 4
  intro dp un gd cn cs a ccd cl outer A₀ base h₀ L m s Q E B F X N T hk hd hu hret
  k_dflt (refine' code_def ?k1 ?k2 ?k3 ?k4 ?k5 ?kA ?kF ?kK ?k6 ?k7 ?k8 ?k9 ?kB ?_ ?c2 ?c3 ?c4 ?c5; (case kA => exact rfl); (case kF => exact rfl); (case kK => first | exact rfl | assumption); (case k1 => k_asm); (case k2 => k_asm); (case k3 => k_asm); (case k4 => k_asm); (case k5 => k_asm); (case k6 => k_is); (case k7 => k_is); (case k8 => k_room); (case k9 => first | exact BindsTo.of_eq rfl | exact binds_K (by k_in) rfl (by k_is) rfl rfl rfl | fail "k_enter: no rule for these arguments"); (case c5 => decide); (case kB => exact locs rfl); (case c2 => exact rfl); (case c3 => exact rfl); (case c4 => exact rfl); k_whole; intro g' L' h' FG' F' N' B' X' T'; (try dsimp only); (try k_lift B'); (try k_fold))
  k_steps
  all_goals (try simp only [show Int.toNat 4 = 4 from rfl, fold_oct] at *)
  all_goals first
    | (exfalso; omega)
    | (refine' hret _ _ _ _ ⟨_, _, _, rfl, ?_, congrArg (fun z => (_, tupObj [Value.int z _] _) :: _) ?_⟩ (by k_asm) (cb_drop (by k_asm) ?_); rotate_right 1; (focus (intro q hq; rcases List.mem_cons.mp hq with hq1 | hq; (focus (subst hq1; k_mem)); repeat (first | exact hq | apply List.mem_cons_of_mem))); (focus (first | assumption | exact allLt_lt9 (by assumption) (by omega) | exact allLt_tr (by assumption) (by omega) | exact allLt_tr (And.right (by assumption)) (by omega) | exact allLt_tr (And.right (And.right (by assumption))) (by omega) | exact allLt_tr (And.right (And.right (And.right (by assumption)))) (by omega) | exact allLt_tr (And.right (And.right (And.right (And.right (by assumption))))) (by omega) | exact allLt_tr (And.right (And.right (And.right (And.right (And.right (by assumption)))))) (by omega) | exact allLt_tr (And.right (And.right (And.right (And.right (And.right (And.right (by assumption))))))) (by omega) | exact allLt_tr (And.right (And.right (And.right (And.right (And.right (And.right (And.right (by assumption)))))))) (by omega) | exact allLt_tr (And.right (And.right (And.right (And.right (And.right (And.right (And.right (And.right (by assumption))))))))) (by omega) | exact allLt_tr (And.right (And.right (And.right (And.right (And.right (And.right (And.right (And.right (And.right (by assumption)))))))))) (by omega))); (focus omega))
theorem c_unpacked8 {n low : Int} {b : Array UInt8} {t u v : Tok} (H : KBw.bInts b = lawOct n 8 ∧ low ≤ n ∧ n < low + 18446744073709551616 ∧ -18446744073709551616 ≤ low ∧ low ≤ 0) :
    TCon w mean mg mb 28 [.bytes b t, .int low u, .int 8 v] 2 (n) := by
  obtain ⟨hb, h0, h1, h2, h3⟩ := H
  intro news
  k_fill
  have hl : (lawOct n 8).length = 8 := lawOct_length n 8
  intro dp un gd cn cs a ccd cl outer A₀ base h₀ L m s Q E B F X N T hk hd hu hret
  k_dflt (refine' code_def ?k1 ?k2 ?k3 ?k4 ?k5 ?kA ?kF ?kK ?k6 ?k7 ?k8 ?k9 ?kB ?_ ?c2 ?c3 ?c4 ?c5; (case kA => exact rfl); (case kF => exact rfl); (case kK => first | exact rfl | assumption); (case k1 => k_asm); (case k2 => k_asm); (case k3 => k_asm); (case k4 => k_asm); (case k5 => k_asm); (case k6 => k_is); (case k7 => k_is); (case k8 => k_room); (case k9 => first | exact BindsTo.of_eq rfl | exact binds_K (by k_in) rfl (by k_is) rfl rfl rfl | fail "k_enter: no rule for these arguments"); (case c5 => decide); (case kB => exact locs rfl); (case c2 => exact rfl); (case c3 => exact rfl); (case c4 => exact rfl); k_whole; intro g' L' h' FG' F' N' B' X' T'; (try dsimp only); (try k_lift B'); (try k_fold))
  k_steps
  all_goals (try simp only [show Int.toNat 8 = 8 from rfl, fold_oct] at *)
  all_goals first
    | (exfalso; omega)
    | (refine' hret _ _ _ _ ⟨_, _, _, rfl, ?_, congrArg (fun z => (_, tupObj [Value.int z _] _) :: _) ?_⟩ (by k_asm) (cb_drop (by k_asm) ?_); rotate_right 1; (focus (intro q hq; rcases List.mem_cons.mp hq with hq1 | hq; (focus (subst hq1; k_mem)); repeat (first | exact hq | apply List.mem_cons_of_mem))); (focus (first | assumption | exact allLt_lt9 (by assumption) (by omega) | exact allLt_tr (by assumption) (by omega) | exact allLt_tr (And.right (by assumption)) (by omega) | exact allLt_tr (And.right (And.right (by assumption))) (by omega) | exact allLt_tr (And.right (And.right (And.right (by assumption)))) (by omega) | exact allLt_tr (And.right (And.right (And.right (And.right (by assumption))))) (by omega) | exact allLt_tr (And.right (And.right (And.right (And.right (And.right (by assumption)))))) (by omega) | exact allLt_tr (And.right (And.right (And.right (And.right (And.right (And.right (by assumption))))))) (by omega) | exact allLt_tr (And.right (And.right (And.right (And.right (And.right (And.right (And.right (by assumption)))))))) (by omega) | exact allLt_tr (And.right (And.right (And.right (And.right (And.right (And.right (And.right (And.right (by assumption))))))))) (by omega) | exact allLt_tr (And.right (And.right (And.right (And.right (And.right (And.right (And.right (And.right (And.right (by assumption)))))))))) (by omega))); (focus omega))
end

end
theorem off_P7 : True := by w_top off; trivial
section
structure OctC where
  l : Addr
  vs : List Value
  xs : List Int
  nn : Nat
  k : Int
  t : Tok
theorem sub_self9 {l : List (Addr × Obj)} : ∀ p ∈ [] ++ (l ++ []), p ∈ l := fun p hp => by
  rw [List.append_nil] at hp; exact hp
theorem ps2 {h₀ : Heap} {L : Addr} {h : Heap} {m : Str → Option Value} (_ : Fr h₀ L h m) {x y : Str} {v w : Value} (h1 : m x = some v) (h2 : m y = some w) : ∀ p ∈ [(x, v), (y, w)], m p.1 = some p.2 := by
  intro p hp
  rcases List.mem_cons.mp hp with rfl | hp
  · exact h1
  · rw [List.mem_singleton.mp hp]; exact h2
theorem news_in {h₀ : Heap} {L : Addr} {h : Heap} {a b c : List (Addr × Obj)} {e : Addr × Obj} (N : News h₀ L h ([] ++ (a ++ (b ++ c)))) (he : e ∈ a ++ b) : News h₀ L h (e :: (a ++ (b ++ c))) := by
  have N' : News h₀ L h (a ++ (b ++ c)) := N
  intro p hp
  rcases List.mem_cons.mp hp with rfl | hp
  · rcases List.mem_append.mp he with h | h
    · exact N' _ (List.mem_append.mpr (.inl h))
    · exact N' _ (List.mem_append.mpr (.inr (List.mem_append.mpr (.inl h))))
  · exact N' p hp
theorem rng_small' : ∀ sz : Nat, sz < 9 → Builtin.Range.small 0 (sz : Int) 1 = true ∧ Builtin.Range.rangeSize 0 (sz : Int) 1 = (sz : Int) := by decide
theorem rng_small {sz : Nat} (h : sz ≤ 8) : Builtin.Range.small 0 (sz : Int) 1 = true ∧ Builtin.Range.rangeSize 0 (sz : Int) 1 = (sz : Int) := rng_small' sz (Nat.lt_succ_of_le h)
theorem allLt_app {D : Addr} {e : Addr × Obj} {a b : List (Addr × Obj)} (h : AllLt D (e :: a ++ b)) : AllLt D a := allLt_of fun p hp => by
  have h2 : AllLt D (a ++ b) := h.2
  clear h
  induction a with
  | nil => cases hp
  | cons x r ih =>
    rcases List.mem_cons.mp hp with rfl | hp
    · exact h2.1
    · exact ih hp h2.2
theorem kd_end1 {σ τ : Type} {x : Str} {cst : List (Addr × Obj)} {ps : σ → List (Str × Value)} {Facts : List (Addr × Obj) → σ → Prop} {stored : List Str} {m₀ : Str → Option Value} {P : τ → σ → Prop} {pre : τ} (c : σ) {D : Addr} {o : Obj} {W tl : List (Addr × Obj)} {h₀ : Heap} {L : Addr} {m' : Str → Option Value} {own : List (Addr × Obj)} {s₁ : Shared} {h' : Heap} {tk : Nat}
    (h0 : KdSep own tl (List.map (fun p : Addr × Obj => p.1) ([] ++ cst))) (F : Fr h₀ L h' m') (N : News h₀ L h' ((D, o) :: W)) (hW : ∀ p ∈ cst ++ (tl ++ own), p ∈ W) (hne : ∀ p ∈ cst ++ (tl ++ own), p.1 ≠ D)
    (hk : ∀ p ∈ ps c, m' p.1 = some p.2) (hr : ∀ z, z ≠ x → (∀ p ∈ ps c, z ≠ p.1) → stored.contains z = false → m' z = m₀ z) (hf : Facts (cst ++ ([(D, o)] ++ tl)) c) (hp : P pre c) :
    InvEndG h₀ L (KdS (fun _ => []) cst ps Facts x stored m₀ P (List.map (fun p : Addr × Obj => p.1) ([] ++ cst)) pre) own s₁ { s₁ with heap := h', toks := tk } := by
  refine kd_end c [(D, o)] h0 F N ?_ ?_ rfl ?_ ?_ hk hr hf hp
  · intro p hp
    rcases List.mem_append.mp (show p ∈ cst ++ ([(D, o)] ++ tl) from hp) with h | h
    · exact .tail _ (hW p (List.mem_append.mpr (.inl h)))
    · rcases List.mem_append.mp h with h | h
      · exact (List.mem_singleton.mp h) ▸ .head _
      · exact .tail _ (hW p (List.mem_append.mpr (.inr (List.mem_append.mpr (.inl h)))))
  · exact fun p hp => .tail _ (hW p (List.mem_append.mpr (.inr (List.mem_append.mpr (.inr hp)))))
  · intro q hq b hb
    rw [List.mem_singleton.mp hq]
    obtain ⟨p, hp, rfl⟩ := List.mem_map.mp hb
    exact hne p (List.mem_append.mpr (.inl hp))
  · intro q hq p hp
    rw [List.mem_singleton.mp hq]
    exact hne p (List.mem_append.mpr (.inr (List.mem_append.mpr (.inr hp))))
theorem little_add (j : Nat) : ∀ N : Int, KTBy.little (j + 1) N = KTBy.little j N ++ [N / 256 ^ j % 256] := by
  intro N
  rw [KTBy.little_eq, KTBy.little_eq, List.range_succ, List.map_append]
  rfl
theorem oct_turn {N k : Int} {j : Nat} (h : k = N / 256 ^ j) : k.fdiv 256 = N / 256 ^ (j + 1) ∧ [k.fmod 256] ++ (KTBy.little j N).reverse = (KTBy.little (j + 1) N).reverse := by
  rw [Int.fdiv_eq_ediv_of_nonneg _ (by decide : (0 : Int) ≤ 256), Int.fmod_eq_emod_of_nonneg _ (by decide : (0 : Int) ≤ 256), little_add, List.reverse_append, h, Int.pow_succ]
  exact ⟨Int.ediv_ediv_of_nonneg (Int.pow_nonneg (by decide)), rfl⟩
section
variable {w : World} {mean : ExcName → Option Value} {mg mb : Str → Option Value}
local macro_rules | `(tactic| walk_at "pyIter ref") => `(tactic| (k_here; refine halt ?_))
theorem c_oct {n : Int} {sz : Nat} {t u : Tok} (hs : sz ≤ 8) :
    LCon w mean mg mb 689 [.int n t, .int sz u] 2 (lawOct n sz) := by
  intro news
  k_fill
  intro dp un gd cn cs a ccd cl outer A₀ base h₀ L m s Q E B F X N T hk hd hu hret
  k_dflt (refine' code_def ?k1 ?k2 ?k3 ?k4 ?k5 ?kA ?kF ?kK ?k6 ?k7 ?k8 ?k9 ?kB ?_ ?c2 ?c3 ?c4 ?c5; (case kA => exact rfl); (case kF => exact rfl); (case kK => first | exact rfl | assumption); (case k1 => k_asm); (case k2 => k_asm); (case k3 => k_asm); (case k4 => k_asm); (case k5 => k_asm); (case k6 => k_is); (case k7 => k_is); (case k8 => k_room); (case k9 => first | exact BindsTo.of_eq rfl | exact binds_K (by k_in) rfl (by k_is) rfl rfl rfl | fail "k_enter: no rule for these arguments"); (case c5 => decide); (case kB => exact locs rfl); (case c2 => exact rfl); (case c3 => exact rfl); (case c4 => exact rfl); k_whole; intro g' L' h' FG' F' N' B' X' T'; (try dsimp only); (try k_lift B'); (try k_fold))
  k_steps
  refine go ?_
  rename IsRange _ _ _ _ _ _ _ _ => hR9
  rename News _ _ _ _ => N9
  rename Fr _ _ _ _ => F9
  have e8 : n.fmod (256 ^ Int.toNat (sz : Int)) = n % 256 ^ sz := by
    rw [Int.toNat_natCast, Int.fmod_eq_emod_of_nonneg _ (Int.pow_nonneg (by decide))]
  refine' kd_range (σ := OctC) (n := sz) (fun _ => []) _ (fun c => [(Str.ofString "octets", .ref c.l), (Str.ofString "number", .int c.k c.t)]) (fun led c => (c.l, listOf c.vs.toArray c.nn) ∈ led ∧ IntsAre c.vs c.xs ∧ AllLt c.l news) [] (fun pre c => c.k = n % 256 ^ sz / 256 ^ pre.length ∧ c.xs = (KTBy.little pre.length (n % 256 ^ sz)).reverse) _ ⟨_, [], [], 0, n.fmod (256 ^ Int.toNat (sz : Int)), _⟩ rfl hR9 ?ys ?yz F9 N9 sub_self9 (fun c => rfl) ?yf (ps2 F9 rfl rfl) ?yp ?yt ?yd
  case ys => exact (rng_small hs).1
  case yz => exact (rng_small hs).2
  case yf => exact ⟨.head _, IntsAre.nil, by first | assumption | exact allLt_of9 (by assumption)⟩
  case yp => exact ⟨by show n.fmod (256 ^ Int.toNat (sz : Int)) = _; rw [e8]; simp, rfl⟩
  case yt =>
    intro c tl pre k t u h tk own hk1 hlen hsep hoff hf hp F1 N1
    obtain ⟨l, vs, xs, nn, k1, t1⟩ := c
    obtain ⟨hp1, hp2⟩ := hp
    obtain ⟨hf1, hf2, hf3⟩ := hf
    dsimp only at hp1 hp2 hf1 hf2 hf3 F1 N1 ⊢
    have N2 := news_in N1 hf1
    clear N1
    simp only [kstB] at F1
    have hz1 : vs.length = xs.length := hf2.length
    have hz2 : xs.length ≤ 20 := by rw [hp2, List.length_reverse, KTBy.little_length]; omega
    k_steps
    (all_goals (try k_data))
    rename (_ < _ ∧ _ < _ ∧ AllLt _ _) => l9
    rename IntsAre _ _ => hI9
    rename Fr _ _ _ _ => F9
    rename News _ _ _ _ => N9
    have ht9 := oct_turn hp1
    refine' kd_end1 (⟨_, _, [k1.fmod 256] ++ xs, 0, k1.fdiv 256, _⟩ : OctC) hsep F9 N9 (fun p hp => .tail _ (.tail _ hp)) (ne_of_allLt l9.2.2) (ps2 F9 rfl rfl) ?_ ⟨List.mem_append.mpr (.inr (.head _)), hI9, allLt_app l9.2.2⟩ ⟨?_, ?_⟩
    · intro z h1 h2 _
      have a : z ≠ Str.ofString "octets" := h2 _ (.head _)
      have b : z ≠ Str.ofString "number" := h2 _ (.tail _ (.head _))
      simp only [if_neg a, if_neg b, if_neg h1]
      rfl
    · rw [List.length_append]
      exact ht9.1
    · rw [List.length_append, hp2]
      exact ht9.2
  case yd =>
    intro c tl u h tk hoff hf hp F1 N1
    obtain ⟨l, vs, xs, nn, k1, t1⟩ := c
    obtain ⟨hp1, hp2⟩ := hp
    obtain ⟨hf1, hf2, hf3⟩ := hf
    dsimp only at hp1 hp2 hf1 hf2 hf3 F1 N1 ⊢
    rw [rangeKs_length] at hp2
    subst hp2
    simp only [kstB] at F1
    k_steps
    (all_goals (try k_data))
    refine' hret _ _ _ _ ⟨_, _, _, rfl, hf3, hf2, rfl⟩ (by k_asm) (cb_drop (by k_asm) ?_)
    rotate_right 1
    intro q hq
    rcases List.mem_cons.mp hq with rfl | hq
    · exact hf1
    · exact List.mem_append.mpr (.inr (List.mem_append.mpr (.inl (.tail _ hq))))
  all_goals (try k_data)
end

end
theorem off_P8 : True := by w_top off; trivial
section
local macro_rules | `(tactic| walk_at "pad9") => `(tactic| skip)
local macro_rules | `(tactic| walk_at "pad9") => `(tactic| skip)
/-- seven bits an octet, all but the last marked -/
noncomputable def seven (n : Nat) : List Int := if h : n < 128 then [(n : Int)] else ((n % 128 + 128 : Nat) : Int) :: seven (n / 128)
termination_by n
decreasing_by omega
theorem seven_small {n : Nat} (h : n < 128) : seven n = [(n : Int)] := by rw [seven, dif_pos h]
theorem seven_big {n : Nat} (h : 128 ≤ n) : seven n = ((n % 128 + 128 : Nat) : Int) :: seven (n / 128) := by rw [seven, dif_neg (by omega)]
structure SevC where
  vs : List Value
  xs : List Int
  k : Int
  t : Tok
  nn : Nat
theorem sv_start (sv : Nat → List Int) (n : Nat) : 0 ≤ (n : Int) ∧ [] ++ sv (n : Int).toNat = sv n := ⟨by omega, by simp⟩
theorem sv_turn {sv : Nat → List Int} {k : Int} {xs ys : List Int} (hb : ∀ n, 128 ≤ n → sv n = ((n % 128 + 128 : Nat) : Int) :: sv (n / 128)) (h0 : 0 ≤ k) (h : 127 < k) (e : xs ++ sv k.toNat = ys) :
    0 ≤ k.fdiv 128 ∧ (xs ++ [k.fmod 128 + 128]) ++ sv (k.fdiv 128).toNat = ys := by
  rw [Int.fdiv_eq_ediv_of_nonneg _ (by decide : (0 : Int) ≤ 128), Int.fmod_eq_emod_of_nonneg _ (by decide : (0 : Int) ≤ 128)]
  refine ⟨by omega, ?_⟩
  rw [hb _ (by omega)] at e
  rw [← e, List.append_assoc]
  have e1 : ((k.toNat % 128 + 128 : Nat) : Int) = k % 128 + 128 := by omega
  have e2 : k.toNat / 128 = (k / 128).toNat := by omega
  rw [e1, e2]
  rfl
section
variable {w : World} {mean : ExcName → Option Value} {mg mb : Str → Option Value}
local macro_rules | `(tactic| walk_at "exec While") => `(tactic| (k_here; refine halt ?_))
theorem c_seven' {sv : Nat → List Int} (hs : ∀ n, n < 128 → sv n = [(n : Int)]) (hb : ∀ n, 128 ≤ n → sv n = ((n % 128 + 128 : Nat) : Int) :: sv (n / 128)) {n : Nat} {t : Tok} (hl : (sv n).length ≤ 20) :
    LCon w mean mg mb 696 [.int n t] 2 (sv n) := by
  intro news
  k_fill
  intro dp un gd cn cs a ccd cl outer A₀ base h₀ L m s Q E B F X N T hk hd hu hret
  k_dflt (refine' code_def ?k1 ?k2 ?k3 ?k4 ?k5 ?kA ?kF ?kK ?k6 ?k7 ?k8 ?k9 ?kB ?_ ?c2 ?c3 ?c4 ?c5; (case kA => exact rfl); (case kF => exact rfl); (case kK => first | exact rfl | assumption); (case k1 => k_asm); (case k2 => k_asm); (case k3 => k_asm); (case k4 => k_asm); (case k5 => k_asm); (case k6 => k_is); (case k7 => k_is); (case k8 => k_room); (case k9 => first | exact BindsTo.of_eq rfl | exact binds_K (by k_in) rfl (by k_is) rfl rfl rfl | fail "k_enter: no rule for these arguments"); (case c5 => decide); (case kB => exact locs rfl); (case c2 => exact rfl); (case c3 => exact rfl); (case c4 => exact rfl); k_whole; intro g' L' h' FG' F' N' B' X' T'; (try dsimp only); (try k_lift B'); (try k_fold))
  k_steps
  refine go ?_
  refine' ksw_while (σ := SevC) (fun c => (_, listOf c.vs.toArray c.nn) :: news) (fun c => [(Str.ofString "number", .int c.k c.t)]) (fun c => IntsAre c.vs c.xs) [] (fun c => 0 ≤ c.k ∧ c.xs ++ sv c.k.toNat = sv n) (fun c => c.k.toNat) ⟨[], [], n, t, 0⟩ ?yF ?yN ?yf ?yk ?yp ?yt
  case yF => k_asm
  case yN => k_asm
  case yf => exact IntsAre.nil
  case yk => intro p hp; rw [List.mem_singleton.mp hp]; rfl
  case yp => exact sv_start sv n
  case yt =>
    intro c u h tk hf hp F1 N1
    obtain ⟨vs, xs, k, t1, nn⟩ := c
    dsimp only at hf hp F1 N1 ⊢
    obtain ⟨hp0, hp1⟩ := hp
    have hz1 : vs.length = xs.length := hf.length
    have hz2 : xs.length + (sv k.toNat).length = (sv n).length := by rw [← hp1, List.length_append]
    have hz3 : xs.length ≤ 20 := by omega
    k_steps
    all_goals (try simp only [List.push_toArray] at *)
    · refine ksw_end (⟨_, xs ++ [k.fmod 128 + 128], k.fdiv 128, _, _⟩ : SevC) (by k_asm) (by k_asm) (fun _ h => h) (IntsAre.append hf (IntsAre.cons _ _ IntsAre.nil)) (fun p hp => by rw [List.mem_singleton.mp hp]; rfl) (fun z h2 _ => kst_same1 (h2 _ (List.mem_singleton_self _))) (sv_turn hb hp0 (by assumption) hp1) ?_
      show (k.fdiv 128).toNat < k.toNat
      rw [Int.fdiv_eq_ediv_of_nonneg _ (by decide : (0 : Int) ≤ 128)]
      omega
    · have e : xs ++ [k] = sv n := by
        rw [← hp1, hs _ (by omega)]
        have e2 : ((k.toNat : Nat) : Int) = k := by omega
        rw [e2]
      refine' hret _ _ _ _ ⟨_, _, _, rfl, ?_, intsAre_eq (by assumption) e, rfl⟩ (by k_asm) (cb_drop (by k_asm) ?_)
      rotate_right 1
      (focus (intro q hq; rcases List.mem_cons.mp hq with hq1 | hq; (focus (subst hq1; k_mem)); repeat (first | exact hq | apply List.mem_cons_of_mem)))
      · (first | assumption | exact allLt_lt9 (by assumption) (by omega) | exact allLt_tr (by assumption) (by omega) | exact allLt_tr (And.right (by assumption)) (by omega) | exact allLt_tr (And.right (And.right (by assumption))) (by omega) | exact allLt_tr (And.right (And.right (And.right (by assumption)))) (by omega) | exact allLt_tr (And.right (And.right (And.right (And.right (by assumption))))) (by omega) | exact allLt_tr (And.right (And.right (And.right (And.right (And.right (by assumption)))))) (by omega) | exact allLt_tr (And.right (And.right (And.right (And.right (And.right (And.right (by assumption))))))) (by omega) | exact allLt_tr (And.right (And.right (And.right (And.right (And.right (And.right (And.right (by assumption)))))))) (by omega) | exact allLt_tr (And.right (And.right (And.right (And.right (And.right (And.right (And.right (And.right (by assumption))))))))) (by omega) | exact allLt_tr (And.right (And.right (And.right (And.right (And.right (And.right (And.right (And.right (And.right (by assumption)))))))))) (by omega))
theorem c_seven {n : Nat} {t : Tok} (hl : (seven n).length ≤ 20) :
    LCon w mean mg mb 696 [.int n t] 2 (seven n) :=
  c_seven' (fun _ h => seven_small h) (fun _ h => seven_big h) hl
end

end
theorem off_P9 : True := by w_top off; trivial
section
local macro_rules | `(tactic| walk_at "exec While") => `(tactic| (k_here; refine halt ?_))
open PySem.Builtin in
theorem var_big {k : Int} (h0 : 0 ≤ k) (h : bitAnd k (bitNot 127) ≠ 0) : 127 < k := by
  rw [and_hi7 h0] at h
  omega
open PySem.Builtin in
theorem var_small {k : Int} (h0 : 0 ≤ k) (h : bitAnd k (bitNot 127) = 0) : k < 128 := by
  rw [and_hi7 h0] at h
  omega
section
variable {w : World} {mean : ExcName → Option Value} {mg mb : Str → Option Value}
theorem c_varint0' {sv : Nat → List Int} (hs : ∀ n, n < 128 → sv n = [(n : Int)]) (hb : ∀ n, 128 ≤ n → sv n = ((n % 128 + 128 : Nat) : Int) :: sv (n / 128)) {n : Nat} {t : Tok} (hi : KBa.In (sv n)) (hl : (sv n).length ≤ 20) (hn : n < 4722366482869645213696) :
    PCon w mean mg mb 161 [.int n t] 2 (fun x : Array UInt8 × Tok => Value.bytes x.1 x.2) (fun x => KBw.bInts x.1 = sv n) := by
  intro news
  k_fill
  intro dp un gd cn cs a ccd cl outer A₀ base h₀ L m s Q E B F X N T hk hd hu hret
  k_dflt (refine' code_def ?k1 ?k2 ?k3 ?k4 ?k5 ?kA ?kF ?kK ?k6 ?k7 ?k8 ?k9 ?kB ?_ ?c2 ?c3 ?c4 ?c5; (case kA => exact rfl); (case kF => exact rfl); (case kK => first | exact rfl | assumption); (case k1 => k_asm); (case k2 => k_asm); (case k3 => k_asm); (case k4 => k_asm); (case k5 => k_asm); (case k6 => k_is); (case k7 => k_is); (case k8 => k_room); (case k9 => first | exact BindsTo.of_eq rfl | exact binds_K (by k_in) rfl (by k_is) rfl rfl rfl | fail "k_enter: no rule for these arguments"); (case c5 => decide); (case kB => exact locs rfl); (case c2 => exact rfl); (case c3 => exact rfl); (case c4 => exact rfl); k_whole; intro g' L' h' FG' F' N' B' X' T'; (try dsimp only); (try k_lift B'); (try k_fold))
  k_steps
  refine go ?_
  refine' ksw_while (σ := SevC) (fun c => (_, listOf c.vs.toArray c.nn) :: news) (fun c => [(Str.ofString "i", .int c.k c.t)]) (fun c => IntsAre c.vs c.xs) [] (fun c => 0 ≤ c.k ∧ c.k < 4722366482869645213696 ∧ c.xs ++ sv c.k.toNat = sv n) (fun c => c.k.toNat) ⟨[], [], n, t, 0⟩ ?yF ?yN ?yf ?yk ?yp ?yt
  case yF => k_asm
  case yN => k_asm
  case yf => exact IntsAre.nil
  case yk => intro p hp; rw [List.mem_singleton.mp hp]; rfl
  case yp => exact ⟨(sv_start sv n).1, by show (n : Int) < _; omega, (sv_start sv n).2⟩
  case yt =>
    intro c u h tk hf hp F1 N1
    obtain ⟨vs, xs, k, t1, nn⟩ := c
    dsimp only at hf hp F1 N1 ⊢
    obtain ⟨hp0, hp2, hp1⟩ := hp
    have hz1 : vs.length = xs.length := hf.length
    have hz2 : xs.length + (sv k.toNat).length = (sv n).length := by rw [← hp1, List.length_append]
    have hz3 : xs.length ≤ 20 := by omega
    k_steps
    all_goals (try simp only [List.push_toArray] at *)
    · refine ksw_end (⟨_, xs ++ [k.fmod 128 + 128], k.fdiv 128, _, _⟩ : SevC) (by k_asm) (by k_asm) (fun _ h => h) (IntsAre.append hf ?_) (fun p hp => by rw [List.mem_singleton.mp hp]; rfl) (fun z h2 _ => kst_same1 (h2 _ (List.mem_singleton_self _))) ⟨?_, ?_, ?_⟩ ?_
      · rw [mark7, Int.fmod_eq_emod_of_nonneg _ (by decide : (0 : Int) ≤ 128)]
        exact IntsAre.cons _ _ IntsAre.nil
      · exact (sv_turn hb hp0 (var_big hp0 (by assumption)) hp1).1
      · show k.fdiv 128 < _
        rw [Int.fdiv_eq_ediv_of_nonneg _ (by decide : (0 : Int) ≤ 128)]
        omega
      · exact (sv_turn hb hp0 (var_big hp0 (by assumption)) hp1).2
      · have hk9 := var_big hp0 (by assumption)
        show (k.fdiv 128).toNat < k.toNat
        rw [Int.fdiv_eq_ediv_of_nonneg _ (by decide : (0 : Int) ≤ 128)]
        omega
    · have hk9 := var_small hp0 (by assumption)
      have e : xs ++ [k] = sv n := by
        rw [← hp1, hs _ (by omega)]
        have e2 : ((k.toNat : Nat) : Int) = k := by omega
        rw [e2]
      have hI : KBa.In (xs ++ [k]) := e ▸ hi
      k_steps
      refine' hret _ _ _ _ ⟨⟨(_, _), rfl, Eq.trans (KBa.ints_make hI) e⟩, rfl⟩ (by k_asm) (cb_drop (by k_asm) ?_)
      (focus (intro q hq; repeat (first | exact hq | apply List.mem_cons_of_mem)))
theorem seven_in : ∀ n, KBa.In (seven n) := by
  intro n
  induction n using Nat.strongRecOn with
  | _ n ih =>
    by_cases h : n < 128
    · rw [seven_small h]
      intro x hx
      rw [List.mem_singleton.mp hx]
      omega
    · rw [seven_big (by omega)]
      intro x hx
      rcases List.mem_cons.mp hx with hx | hx
      · rw [hx]; omega
      · exact ih _ (by omega) x hx
theorem seven_len : ∀ k n, n < 128 ^ (k + 1) → (seven n).length ≤ k + 1 := by
  intro k
  induction k with
  | zero => intro n h; rw [seven_small (by simpa using h)]; exact Nat.le_refl _
  | succ k ih =>
    intro n h
    by_cases c : n < 128
    · rw [seven_small c]; simp
    · rw [seven_big (by omega), List.length_cons]
      have := ih (n / 128) (Nat.div_lt_of_lt_mul (by rw [Nat.pow_succ, Nat.mul_comm] at h; exact h))
      omega
theorem seven_len12 {n : Nat} (h : n < 4722366482869645213696) : (seven n).length ≤ 11 := seven_len 10 n (Nat.lt_of_lt_of_le h (by decide))
theorem c_varint0 {n : Nat} {t : Tok} (hn : n < 4722366482869645213696) :
    PCon w mean mg mb 161 [.int n t] 2 (fun x : Array UInt8 × Tok => Value.bytes x.1 x.2) (fun x => KBw.bInts x.1 = seven n) :=
  c_varint0' (fun _ h => seven_small h) (fun _ h => seven_big h) (seven_in n) (Nat.le_trans (seven_len12 hn) (by decide)) hn
end

end
local macro_rules | `(tactic| walk_at "call ref") => `(tactic| (k_here; (fail_if_success (rename EMark => y9)); refine halt ?_))
theorem off_P10 : True := by w_top off; trivial
section
local macro_rules | `(tactic| walk_at "pad9") => `(tactic| skip)
noncomputable def cacheL : List Value := [.bytes #[0] 362, .bytes #[1] 371, .bytes #[2] 380, .bytes #[3] 389, .bytes #[4] 398, .bytes #[5] 407, .bytes #[6] 416, .bytes #[7] 425, .bytes #[8] 434, .bytes #[9] 443, .bytes #[10] 452, .bytes #[11] 461, .bytes #[12] 470, .bytes #[13] 479, .bytes #[14] 488, .bytes #[15] 497]
theorem cacheL_eq : cacheL = (List.range 16).map (fun i => Value.bytes #[UInt8.ofNat i] (362 + 9 * i)) := rfl
theorem cache_ok {n : Nat} (h : n < 16) : ∃ b t', cacheL[n]? = some (.bytes b t') ∧ KBw.bInts b = seven n := by
  rw [seven_small (Nat.lt_trans h (by decide)), cacheL_eq, List.getElem?_map, List.getElem?_range h]
  refine ⟨_, _, rfl, ?_⟩
  show [((UInt8.ofNat n).toNat : Int)] = [(n : Int)]
  rw [UInt8.toNat_ofNat', Nat.mod_eq_of_lt (Nat.lt_trans h (by decide))]
section
variable {w : World} {mean : ExcName → Option Value} {mg mb : Str → Option Value}
theorem c_varint {n : Nat} {t : Tok} (hn : n < 4722366482869645213696) :
    PCon w mean mg mb 272 [.int n t] 4 (fun x : Array UInt8 × Tok => Value.bytes x.1 x.2) (fun x => KBw.bInts x.1 = seven n) := by
  intro news
  k_fill
  intro dp un gd cn cs a ccd cl outer A₀ base h₀ L m s Q E B F X N T hk hd hu hret
  k_dflt (refine' code_def ?k1 ?k2 ?k3 ?k4 ?k5 ?kA ?kF ?kK ?k6 ?k7 ?k8 ?k9 ?kB ?_ ?c2 ?c3 ?c4 ?c5; (case kA => exact rfl); (case kF => exact rfl); (case kK => first | exact rfl | assumption); (case k1 => k_asm); (case k2 => k_asm); (case k3 => k_asm); (case k4 => k_asm); (case k5 => k_asm); (case k6 => k_is); (case k7 => k_is); (case k8 => k_room); (case k9 => first | exact BindsTo.of_eq rfl | exact binds_K (by k_in) rfl (by k_is) rfl rfl rfl | fail "k_enter: no rule for these arguments"); (case c5 => decide); (case kB => exact locs rfl); (case c2 => exact rfl); (case c3 => exact rfl); (case c4 => exact rfl); k_whole; intro g' L' h' FG' F' N' B' X' T'; (try dsimp only); (try k_lift B'); (try k_fold))
  k_steps
  repeat' (refine go ?_; (first | (k_dflt (first | (refine' PCon.use (c_varint0 ?uH) ?uA ?_)); k_dflt (case uA => exact ⟨by k_asm, by k_asm, by k_asm, by k_asm, by k_asm, (by first | exact rfl | assumption), (by first | exact Nat.le_of_ble_eq_true rfl | ((try simp only [depth_under_make, depth_under_kw, depth_in1, depth_deeper, depth_caller]); (try dsimp only [ktrTop]); first | ((try simp only [Nat.add_assoc, Nat.reduceAdd, Nat.reduceMul]); exact room9 (by assumption) (by rfl)) | omega)), (by first | exact Nat.le_of_ble_eq_true rfl | ((try simp only [units_in1, units_deeper, Around.mark_units, units_caller]); (try dsimp only [ktrTop]); first | ((try simp only [Nat.add_assoc, Nat.reduceAdd, Nat.reduceMul]); exact room9 (by assumption) (by rfl)) | omega))⟩); k_dflt (try (case uM => k_mem)); k_dflt (try (case uI => (refine' ⟨by k_mem, by k_mem, by k_mem, by k_updF, by assumption, by first | assumption | omega, by first | assumption | omega, by first | assumption | omega⟩))); k_dflt (try (case uH2 => (rw [lawOct_length]; omega))); k_dflt (try (case uH => ((repeat' (with_reducible apply And.intro)) <;> (first | with_reducible assumption | exact Nat.le_of_ble_eq_true rfl | assumption | exact Eq.trans (by assumption) (by assumption) | exact of_decide_eq_true rfl | omega | ((simp only [List.length_append, List.length_take, List.length_drop, List.length_cons, List.length_nil, List.length_reverse, lawOct_length]); omega))))); intros; (rename News _ _ _ _ => N9); (try dsimp only at N9); (try (rename AllLt _ _ => l9; simp only [AllLt] at l9)); (try k_fold))); k_steps; (all_goals (try k_data)))
  · obtain ⟨b, t', hx, hb⟩ := cache_ok (n := n) (by omega)
    k_dflt (refine' topTup_K (l := cacheL) (dd := none) (sl := #[]) (n := 0) (j := n) (v := .bytes b t') (by k_asm) (by k_asm) ?_ (by omega) (by omega) ?_ hx ?_)
    rotate_right 1
    · k_steps
      repeat' (refine go ?_; (first | (k_dflt (first | (refine' PCon.use (c_varint0 ?uH) ?uA ?_)); k_dflt (case uA => exact ⟨by k_asm, by k_asm, by k_asm, by k_asm, by k_asm, (by first | exact rfl | assumption), (by first | exact Nat.le_of_ble_eq_true rfl | ((try simp only [depth_under_make, depth_under_kw, depth_in1, depth_deeper, depth_caller]); (try dsimp only [ktrTop]); first | ((try simp only [Nat.add_assoc, Nat.reduceAdd, Nat.reduceMul]); exact room9 (by assumption) (by rfl)) | omega)), (by first | exact Nat.le_of_ble_eq_true rfl | ((try simp only [units_in1, units_deeper, Around.mark_units, units_caller]); (try dsimp only [ktrTop]); first | ((try simp only [Nat.add_assoc, Nat.reduceAdd, Nat.reduceMul]); exact room9 (by assumption) (by rfl)) | omega))⟩); k_dflt (try (case uM => k_mem)); k_dflt (try (case uI => (refine' ⟨by k_mem, by k_mem, by k_mem, by k_updF, by assumption, by first | assumption | omega, by first | assumption | omega, by first | assumption | omega⟩))); k_dflt (try (case uH2 => (rw [lawOct_length]; omega))); k_dflt (try (case uH => ((repeat' (with_reducible apply And.intro)) <;> (first | with_reducible assumption | exact Nat.le_of_ble_eq_true rfl | assumption | exact Eq.trans (by assumption) (by assumption) | exact of_decide_eq_true rfl | omega | ((simp only [List.length_append, List.length_take, List.length_drop, List.length_cons, List.length_nil, List.length_reverse, lawOct_length]); omega))))); intros; (rename News _ _ _ _ => N9); (try dsimp only at N9); (try (rename AllLt _ _ => l9; simp only [AllLt] at l9)); (try k_fold))); k_steps; (all_goals (try k_data)))
      refine' hret _ _ _ _ ⟨⟨(_, _), rfl, by assumption⟩, rfl⟩ (by k_asm) (cb_drop (by k_asm) ?_); (focus (intro q hq; repeat (first | exact hq | apply List.mem_cons_of_mem)))
    · k_dflt k_is
    · have h9 : n < 16 := by omega
      have h8 : ¬ ((n : Int) < 0) := by omega
      simp [seqIndex?, cacheL, h8]
      omega
  · refine' hret _ _ _ _ ⟨⟨(_, _), rfl, by assumption⟩, rfl⟩ (by k_asm) (cb_drop (by k_asm) ?_); (focus (intro q hq; repeat (first | exact hq | apply List.mem_cons_of_mem)))
theorem c_varintI {n : Nat} {x : Int} {t : Tok} (e : x = n) (hn : n < 4722366482869645213696) :
    PCon w mean mg mb 272 [.int x t] 4 (fun x : Array UInt8 × Tok => Value.bytes x.1 x.2) (fun x => KBw.bInts x.1 = seven n) := by
  subst e
  exact c_varint hn
end
theorem shl_ok {a n : Int} (h : a.natAbs < 1267650600228229401496703205376) (hn : n ≤ 1000) : (Builtin.Int.intBits a : Int) + n ≤ 2 ^ 27 := by
  have h1 : Builtin.Int.intBits a ≤ 100 := intBits_le_iff.mpr h
  omega
section
variable {w : World} {mean : ExcName → Option Value} {mg mb : Str → Option Value}
local macro_rules | `(tactic| walk_at "binaryOp LShift int int") => `(tactic| (k_here; (with_reducible refine lshift_int (by decide) (shl_ok (by omega) (by omega)) ?_)))
theorem c_svarint {i : Int} {t : Tok} (H : -1000000000000000000000 ≤ i ∧ i ≤ 1000000000000000000000) :
    PCon w mean mg mb 279 [.int i t] 6 (fun x : Array UInt8 × Tok => Value.bytes x.1 x.2) (fun x => KBw.bInts x.1 = seven (if 0 ≤ i then 2 * i else -2 * i - 1).toNat) := by
  obtain ⟨h0, h1⟩ := H
  intro news
  k_fill
  intro dp un gd cn cs a ccd cl outer A₀ base h₀ L m s Q E B F X N T hk hd hu hret
  k_dflt (refine' code_def ?k1 ?k2 ?k3 ?k4 ?k5 ?kA ?kF ?kK ?k6 ?k7 ?k8 ?k9 ?kB ?_ ?c2 ?c3 ?c4 ?c5; (case kA => exact rfl); (case kF => exact rfl); (case kK => first | exact rfl | assumption); (case k1 => k_asm); (case k2 => k_asm); (case k3 => k_asm); (case k4 => k_asm); (case k5 => k_asm); (case k6 => k_is); (case k7 => k_is); (case k8 => k_room); (case k9 => first | exact BindsTo.of_eq rfl | exact binds_K (by k_in) rfl (by k_is) rfl rfl rfl | fail "k_enter: no rule for these arguments"); (case c5 => decide); (case kB => exact locs rfl); (case c2 => exact rfl); (case c3 => exact rfl); (case c4 => exact rfl); k_whole; intro g' L' h' FG' F' N' B' X' T'; (try dsimp only); (try k_lift B'); (try k_fold))
  k_steps
  repeat' (refine go ?_; (first | (k_dflt (first | (refine' PCon.use (c_varint0 ?uH) ?uA ?_)); k_dflt (case uA => exact ⟨by k_asm, by k_asm, by k_asm, by k_asm, by k_asm, (by first | exact rfl | assumption), (by first | exact Nat.le_of_ble_eq_true rfl | ((try simp only [depth_under_make, depth_under_kw, depth_in1, depth_deeper, depth_caller]); (try dsimp only [ktrTop]); first | ((try simp only [Nat.add_assoc, Nat.reduceAdd, Nat.reduceMul]); exact room9 (by assumption) (by rfl)) | omega)), (by first | exact Nat.le_of_ble_eq_true rfl | ((try simp only [units_in1, units_deeper, Around.mark_units, units_caller]); (try dsimp only [ktrTop]); first | ((try simp only [Nat.add_assoc, Nat.reduceAdd, Nat.reduceMul]); exact room9 (by assumption) (by rfl)) | omega))⟩); k_dflt (try (case uM => k_mem)); k_dflt (try (case uI => (refine' ⟨by k_mem, by k_mem, by k_mem, by k_updF, by assumption, by first | assumption | omega, by first | assumption | omega, by first | assumption | omega⟩))); k_dflt (try (case uH2 => (rw [lawOct_length]; omega))); k_dflt (try (case uH => ((repeat' (with_reducible apply And.intro)) <;> (first | with_reducible assumption | exact Nat.le_of_ble_eq_true rfl | assumption | exact Eq.trans (by assumption) (by assumption) | exact of_decide_eq_true rfl | omega | ((simp only [List.length_append, List.length_take, List.length_drop, List.length_cons, List.length_nil, List.length_reverse, lawOct_length]); omega))))); intros; (rename News _ _ _ _ => N9); (try dsimp only at N9); (try (rename AllLt _ _ => l9; simp only [AllLt] at l9)); (try k_fold))); k_steps; (all_goals (try k_data)))
  all_goals refine go ?_
  · have e : i * 2 ^ Int.toNat 1 = (((if 0 ≤ i then 2 * i else -2 * i - 1).toNat : Nat) : Int) := by
      rw [if_pos (by assumption), show Int.toNat 1 = 1 from rfl]; omega
    refine' PCon.use (c_varintI e ?uH) ?uA ?_
    (k_dflt (case uA => exact ⟨by k_asm, by k_asm, by k_asm, by k_asm, by k_asm, (by first | exact rfl | assumption), (by first | exact Nat.le_of_ble_eq_true rfl | ((try simp only [depth_under_make, depth_under_kw, depth_in1, depth_deeper, depth_caller]); (try dsimp only [ktrTop]); first | ((try simp only [Nat.add_assoc, Nat.reduceAdd, Nat.reduceMul]); exact room9 (by assumption) (by rfl)) | omega)), (by first | exact Nat.le_of_ble_eq_true rfl | ((try simp only [units_in1, units_deeper, Around.mark_units, units_caller]); (try dsimp only [ktrTop]); first | ((try simp only [Nat.add_assoc, Nat.reduceAdd, Nat.reduceMul]); exact room9 (by assumption) (by rfl)) | omega))⟩); k_dflt (try (case uM => k_mem)); k_dflt (try (case uI => (refine' ⟨by k_mem, by k_mem, by k_mem, by k_updF, by assumption, by first | assumption | omega, by first | assumption | omega, by first | assumption | omega⟩))); k_dflt (try (case uH2 => (rw [lawOct_length]; omega))); k_dflt (try (case uH => ((repeat' (with_reducible apply And.intro)) <;> (first | with_reducible assumption | exact Nat.le_of_ble_eq_true rfl | assumption | exact Eq.trans (by assumption) (by assumption) | exact of_decide_eq_true rfl | omega | ((simp only [List.length_append, List.length_take, List.length_drop, List.length_cons, List.length_nil, List.length_reverse, lawOct_length]); omega))))); intros; (rename News _ _ _ _ => N9); (try dsimp only at N9); (try (rename AllLt _ _ => l9; simp only [AllLt] at l9)); (try k_fold))
    k_steps
    repeat' (refine go ?_; (first | (k_dflt (first | (refine' PCon.use (c_varint0 ?uH) ?uA ?_)); k_dflt (case uA => exact ⟨by k_asm, by k_asm, by k_asm, by k_asm, by k_asm, (by first | exact rfl | assumption), (by first | exact Nat.le_of_ble_eq_true rfl | ((try simp only [depth_under_make, depth_under_kw, depth_in1, depth_deeper, depth_caller]); (try dsimp only [ktrTop]); first | ((try simp only [Nat.add_assoc, Nat.reduceAdd, Nat.reduceMul]); exact room9 (by assumption) (by rfl)) | omega)), (by first | exact Nat.le_of_ble_eq_true rfl | ((try simp only [units_in1, units_deeper, Around.mark_units, units_caller]); (try dsimp only [ktrTop]); first | ((try simp only [Nat.add_assoc, Nat.reduceAdd, Nat.reduceMul]); exact room9 (by assumption) (by rfl)) | omega))⟩); k_dflt (try (case uM => k_mem)); k_dflt (try (case uI => (refine' ⟨by k_mem, by k_mem, by k_mem, by k_updF, by assumption, by first | assumption | omega, by first | assumption | omega, by first | assumption | omega⟩))); k_dflt (try (case uH2 => (rw [lawOct_length]; omega))); k_dflt (try (case uH => ((repeat' (with_reducible apply And.intro)) <;> (first | with_reducible assumption | exact Nat.le_of_ble_eq_true rfl | assumption | exact Eq.trans (by assumption) (by assumption) | exact of_decide_eq_true rfl | omega | ((simp only [List.length_append, List.length_take, List.length_drop, List.length_cons, List.length_nil, List.length_reverse, lawOct_length]); omega))))); intros; (rename News _ _ _ _ => N9); (try dsimp only at N9); (try (rename AllLt _ _ => l9; simp only [AllLt] at l9)); (try k_fold))); k_steps; (all_goals (try k_data)))
    refine' hret _ _ _ _ ⟨⟨(_, _), rfl, by assumption⟩, rfl⟩ (by k_asm) (cb_drop (by k_asm) ?_); (focus (intro q hq; repeat (first | exact hq | apply List.mem_cons_of_mem)))
  · have e : Builtin.bitXor (i * 2 ^ Int.toNat 1) (Builtin.bitNot 0) = (((if 0 ≤ i then 2 * i else -2 * i - 1).toNat : Nat) : Int) := by
      rw [if_neg (by assumption), show Int.toNat 1 = 1 from rfl, show Builtin.bitNot 0 = -1 from rfl, xor_ones]; omega
    refine' PCon.use (c_varintI e ?uH) ?uA ?_
    (k_dflt (case uA => exact ⟨by k_asm, by k_asm, by k_asm, by k_asm, by k_asm, (by first | exact rfl | assumption), (by first | exact Nat.le_of_ble_eq_true rfl | ((try simp only [depth_under_make, depth_under_kw, depth_in1, depth_deeper, depth_caller]); (try dsimp only [ktrTop]); first | ((try simp only [Nat.add_assoc, Nat.reduceAdd, Nat.reduceMul]); exact room9 (by assumption) (by rfl)) | omega)), (by first | exact Nat.le_of_ble_eq_true rfl | ((try simp only [units_in1, units_deeper, Around.mark_units, units_caller]); (try dsimp only [ktrTop]); first | ((try simp only [Nat.add_assoc, Nat.reduceAdd, Nat.reduceMul]); exact room9 (by assumption) (by rfl)) | omega))⟩); k_dflt (try (case uM => k_mem)); k_dflt (try (case uI => (refine' ⟨by k_mem, by k_mem, by k_mem, by k_updF, by assumption, by first | assumption | omega, by first | assumption | omega, by first | assumption | omega⟩))); k_dflt (try (case uH2 => (rw [lawOct_length]; omega))); k_dflt (try (case uH => ((repeat' (with_reducible apply And.intro)) <;> (first | with_reducible assumption | exact Nat.le_of_ble_eq_true rfl | assumption | exact Eq.trans (by assumption) (by assumption) | exact of_decide_eq_true rfl | omega | ((simp only [List.length_append, List.length_take, List.length_drop, List.length_cons, List.length_nil, List.length_reverse, lawOct_length]); omega))))); intros; (rename News _ _ _ _ => N9); (try dsimp only at N9); (try (rename AllLt _ _ => l9; simp only [AllLt] at l9)); (try k_fold))
    k_steps
    repeat' (refine go ?_; (first | (k_dflt (first | (refine' PCon.use (c_varint0 ?uH) ?uA ?_)); k_dflt (case uA => exact ⟨by k_asm, by k_asm, by k_asm, by k_asm, by k_asm, (by first | exact rfl | assumption), (by first | exact Nat.le_of_ble_eq_true rfl | ((try simp only [depth_under_make, depth_under_kw, depth_in1, depth_deeper, depth_caller]); (try dsimp only [ktrTop]); first | ((try simp only [Nat.add_assoc, Nat.reduceAdd, Nat.reduceMul]); exact room9 (by assumption) (by rfl)) | omega)), (by first | exact Nat.le_of_ble_eq_true rfl | ((try simp only [units_in1, units_deeper, Around.mark_units, units_caller]); (try dsimp only [ktrTop]); first | ((try simp only [Nat.add_assoc, Nat.reduceAdd, Nat.reduceMul]); exact room9 (by assumption) (by rfl)) | omega))⟩); k_dflt (try (case uM => k_mem)); k_dflt (try (case uI => (refine' ⟨by k_mem, by k_mem, by k_mem, by k_updF, by assumption, by first | assumption | omega, by first | assumption | omega, by first | assumption | omega⟩))); k_dflt (try (case uH2 => (rw [lawOct_length]; omega))); k_dflt (try (case uH => ((repeat' (with_reducible apply And.intro)) <;> (first | with_reducible assumption | exact Nat.le_of_ble_eq_true rfl | assumption | exact Eq.trans (by assumption) (by assumption) | exact of_decide_eq_true rfl | omega | ((simp only [List.length_append, List.length_take, List.length_drop, List.length_cons, List.length_nil, List.length_reverse, lawOct_length]); omega))))); intros; (rename News _ _ _ _ => N9); (try dsimp only at N9); (try (rename AllLt _ _ => l9; simp only [AllLt] at l9)); (try k_fold))); k_steps; (all_goals (try k_data)))
    refine' hret _ _ _ _ ⟨⟨(_, _), rfl, by assumption⟩, rfl⟩ (by k_asm) (cb_drop (by k_asm) ?_); (focus (intro q hq; repeat (first | exact hq | apply List.mem_cons_of_mem)))
end

end
theorem off_P11 : True := by w_top off; trivial
section
theorem ord_bytes {prog : Program} {w : World} {A : Around} {E : Value → Shared → Prop} {s : Shared} {b : Array UInt8} {t : Tok} {z : Int} {Q : Value → Shared → Prop} (hb : KBw.bInts b = [z]) (h : Q (.int z s.toks) { s with toks := s.toks + 1 }) :
    wpAny (model prog w) A (call (.builtin "ord") [.bytes b t]) Q E s := by
  obtain ⟨l⟩ := b
  cases l with
  | nil => cases hb
  | cons c r =>
    cases r with
    | cons d r => cases hb
    | nil =>
      have e : ((c.toNat : Nat) : Int) = z := List.head_eq_of_cons_eq hb
      subst e
      exact call_function_meets F.kind_ord F.plain_ord F.entry_ord (F.args_ord1 _) (show Gives (Builtin.«ord» ⟨[.bytes ⟨[c]⟩ t], []⟩) (.int c.toNat) from .of_eq rfl).meets h
open PySem.Builtin in
theorem and_bit7 (x : Int) : bitAnd x 128 = (x / 128 % 2) * 128 := kbt_bit x 7
/-- the first octet of m's seven-bit form -/
noncomputable def hd7 (m : Nat) : Int := if m < 128 then (m : Int) else ((m % 128 + 128 : Nat) : Int)
theorem hd7_and (m : Nat) : Builtin.bitAnd (hd7 m) 127 = ((m % 128 : Nat) : Int) := by
  rw [bitAnd_m7]
  unfold hd7
  split <;> omega
theorem hd7_bit (m : Nat) : Builtin.bitAnd (hd7 m) 128 ≠ 0 ↔ 128 ≤ m := by
  rw [and_bit7]
  unfold hd7
  split <;> omega
theorem hd7_sv {sv : Nat → List Int} (hs : ∀ n, n < 128 → sv n = [(n : Int)]) (hb : ∀ n, 128 ≤ n → sv n = ((n % 128 + 128 : Nat) : Int) :: sv (n / 128)) (m : Nat) : ∃ r, sv m = hd7 m :: r ∧ (128 ≤ m → r = sv (m / 128)) ∧ (m < 128 → r = []) := by
  unfold hd7
  by_cases h : m < 128
  · exact ⟨[], by rw [hs m h, if_pos h], fun h' => absurd h (by omega), fun _ => rfl⟩
  · exact ⟨_, by rw [hb m (by omega), if_neg h], fun _ => rfl, fun h' => absurd h' h⟩
theorem take_one_of {ks r : List Int} {x : Int} {n : Nat} (h : ks.take n = x :: r) : ks.take 1 = [x] ∧ (ks.drop 1).take (n - 1) = r := by
  cases ks with
  | nil => simp at h
  | cons y ks =>
    cases n with
    | zero => simp at h
    | succ n =>
      simp only [List.take_succ_cons, List.cons.injEq] at h
      obtain ⟨rfl, rfl⟩ := h
      exact ⟨rfl, rfl⟩
open PySem.Builtin in
theorem rv_math {m low j : Nat} (hlow : low < 2 ^ (7 * j)) :
    bitOr ((low + m % 128 * 2 ^ (7 * j) : Nat) : Int) (bitAnd (hd7 (m / 128)) 127 * 2 ^ (7 * j + 7)) = (((low + m % 128 * 2 ^ (7 * j)) + m / 128 % 128 * 2 ^ (7 * (j + 1)) : Nat) : Int) ∧ low + m % 128 * 2 ^ (7 * j) < 2 ^ (7 * (j + 1)) := by
  have e1 : (2 : Nat) ^ (7 * (j + 1)) = 128 * 2 ^ (7 * j) := by rw [Nat.mul_add, Nat.pow_add, Nat.mul_comm]
  have h1 : low + m % 128 * 2 ^ (7 * j) < 2 ^ (7 * (j + 1)) := by
    rw [e1]
    have a : m % 128 ≤ 127 := by omega
    have b : m % 128 * 2 ^ (7 * j) ≤ 127 * 2 ^ (7 * j) := Nat.mul_le_mul_right _ a
    omega
  refine ⟨?_, h1⟩
  rw [hd7_and, or_high (Int.natCast_nonneg _)]
  · have e2 : 7 * j + 7 = 7 * (j + 1) := by omega
    rw [e2]
    push_cast
    rfl
  · have e2 : 7 * j + 7 = 7 * (j + 1) := by omega
    rw [e2]
    exact_mod_cast h1
theorem rv_all {m low j n : Nat} (h : n = low + m * 2 ^ (7 * j)) : n = (low + m % 128 * 2 ^ (7 * j)) + m / 128 * 2 ^ (7 * (j + 1)) := by
  have e1 : (2 : Nat) ^ (7 * (j + 1)) = 128 * 2 ^ (7 * j) := by rw [Nat.mul_add, Nat.pow_add, Nat.mul_comm]
  rw [e1, ← Nat.mul_assoc]
  generalize 2 ^ (7 * j) = X at h ⊢
  have e : m = m / 128 * 128 + m % 128 := by omega
  have e2 : m * X = (m / 128 * 128) * X + m % 128 * X := by rw [← Nat.add_mul, ← e]
  omega
theorem rv_left {pc a r t : Nat} (h1 : 1 ≤ pc) (h : pc - 1 + a = t) (e : a = r + 1) : pc + 1 - 1 + r = t := by omega
theorem rv_left2 {j a r t : Nat} (h : j + a = t) (e : a = r + 1) : j + 1 + r = t := by omega
theorem rv_in {pc a r r' t K : Nat} (h1 : 1 ≤ pc) (h : pc - 1 + a = t) (e : a = r + 1) (e' : r = r' + 1) (h2 : t ≤ K) : pc + 1 ≤ K := by omega
theorem kst_same3 {x1 x2 x3 : Str} {v1 v2 v3 w1 w2 w3 : Value} {u m₀ : Str → Option Value} {z : Str} (n1 : z ≠ x1) (n2 : z ≠ x2) (n3 : z ≠ x3) :
    (if z = x3 then some w3 else if z = x2 then some w2 else if z = x1 then some w1 else kstB (fun z => if List.contains [] z = true then u z else m₀ z) [(x1, v1), (x2, v2), (x3, v3)] z) = m₀ z := by
  rw [if_neg n3, if_neg n2, if_neg n1]
  show (if z = x1 then _ else if z = x2 then _ else if z = x3 then _ else _) = _
  rw [if_neg n1, if_neg n2, if_neg n3]
  rfl
structure RvC where
  o : Array UInt8
  to : Tok
  p : Nat
  tp : Tok
  i : Int
  t1 : Tok
  b : Int
  t2 : Tok
  sh : Int
  t3 : Tok
  m : Nat
  low : Nat
  j : Nat
/-- what holds ahead of each turn of read_varint -/
structure RvP (sv : Nat → List Int) (ks : List Int) (n p : Nat) (c : RvC) : Prop where
  low : c.low < 2 ^ (7 * c.j)
  all : n = c.low + c.m * 2 ^ (7 * c.j)
  at1 : 1 ≤ c.p
  here : (ks.drop (c.p - 1)).take (sv c.m).length = sv c.m
  left : c.p - 1 + (sv c.m).length = p + (sv n).length
  j : c.j + (sv c.m).length = (sv n).length
  i : c.i = ((c.low + c.m % 128 * 2 ^ (7 * c.j) : Nat) : Int)
  b : c.b = hd7 c.m
  sh : c.sh = ((7 * c.j + 7 : Nat) : Int)
section
variable {w : World} {mean : ExcName → Option Value} {mg mb : Str → Option Value} {fx dS ox dO : Addr} {k1 k2 k3 k4 k5 k6 : Tok} {ks kb : List Int} {p : Nat}
local macro_rules | `(tactic| walk_at "exec While") => `(tactic| (k_here; refine halt ?_))
local macro_rules | `(tactic| walk_at "call builtin:ord") => `(tactic| (k_here; refine halt ?_))
local macro_rules | `(tactic| walk_at "binaryOp LShift int int") => `(tactic| (k_here; (with_reducible refine lshift_int ?_ (shl_ok ?_ ?_) ?_); (focus omega); (focus omega); (focus omega)))
local macro_rules | `(tactic| k_mem) => `(tactic| ((with_reducible show (_, methodObj _ _) ∈ _); (repeat (apply List.mem_cons_of_mem)); assumption))
theorem c_readvar' {sv : Nat → List Int} (hs : ∀ n, n < 128 → sv n = [(n : Int)]) (hb : ∀ n, 128 ≤ n → sv n = ((n % 128 + 128 : Nat) : Int) :: sv (n / 128)) {n : Nat} {q : Addr} {o : Obj} {rest : List (Addr × Obj)} (l1 : @LT.lt Nat _ dO ox) (l2 : @LT.lt Nat _ ox dS) (l3 : @LT.lt Nat _ dS fx) (ho : OwnOff rest [fx, dS, ox, dO]) (hO : OSay w.params k5 k6 ks p o)
    (hq : (q, methodObj (.ref 380) (.ref fx)) ∈ rest) (h1 : (ks.drop p).take (sv n).length = sv n) (hl : (sv n).length ≤ 11) (h2 : p + (sv n).length ≤ ks.length) (h3 : ks.length ≤ 1000000) :
    Con PySem.Challenge.rw_iu0050_01 hd.heap_1 w mean mg mb 293 ((fx, instObj 678 dS) :: (dS, sDict w.params ox k1 k2 k3 k4) :: (ox, instObj 347 dO) :: (dO, o) :: rest) [.ref q] 5
      (fun r news' => ∃ o', (OSay w.params k5 k6 ks (p + (sv n).length) o' ∧ ∃ x : Tok, r = .int n x ∧ True) ∧ news' = (fx, instObj 678 dS) :: (dS, sDict w.params ox k1 k2 k3 k4) :: (ox, instObj 347 dO) :: (dO, o') :: rest) := by
  k_fill
  obtain ⟨b0, tb, q0, tp, rfl, hb0, rfl⟩ := hO
  obtain ⟨r0, hr0, hr1, hr2⟩ := hd7_sv hs hb n
  have hlen : 1 ≤ (sv n).length := by rw [hr0]; simp
  intro dp un gd cn cs a ccd cl outer A₀ base h₀ L m s Q E B F X N T hk hd hu hret
  k_dflt (refine' code_def ?k1 ?k2 ?k3 ?k4 ?k5 ?kA ?kF ?kK ?k6 ?k7 ?k8 ?k9 ?kB ?_ ?c2 ?c3 ?c4 ?c5; (case kA => exact rfl); (case kF => exact rfl); (case kK => first | exact rfl | assumption); (case k1 => k_asm); (case k2 => k_asm); (case k3 => k_asm); (case k4 => k_asm); (case k5 => k_asm); (case k6 => k_is); (case k7 => k_is); (case k8 => k_room); (case k9 => first | exact BindsTo.of_eq rfl | exact binds_K (by k_in) rfl (by k_is) rfl rfl rfl | fail "k_enter: no rule for these arguments"); (case c5 => decide); (case kB => exact locs rfl); (case c2 => exact rfl); (case c3 => exact rfl); (case c4 => exact rfl); k_whole; intro g' L' h' FG' F' N' B' X' T'; (try dsimp only); (try k_lift B'); (try k_fold))
  k_steps
  repeat' (refine go ?_; (first | (k_dflt (first | (refine' call_meth (f := .ref 380) (by k_asm) (by k_mem) ?_; (try dsimp only [List.nil_append, List.cons_append]); refine' FCon.useC (c_readI ?uH) ?uA ?uI ?_)); k_dflt (case uA => exact ⟨by k_asm, by k_asm, by k_asm, by k_asm, by k_asm, (by first | exact rfl | assumption), (by first | exact Nat.le_of_ble_eq_true rfl | ((try simp only [depth_under_make, depth_under_kw, depth_in1, depth_deeper, depth_caller]); (try dsimp only [ktrTop]); first | ((try simp only [Nat.add_assoc, Nat.reduceAdd, Nat.reduceMul]); exact room9 (by assumption) (by rfl)) | omega)), (by first | exact Nat.le_of_ble_eq_true rfl | ((try simp only [units_in1, units_deeper, Around.mark_units, units_caller]); (try dsimp only [ktrTop]); first | ((try simp only [Nat.add_assoc, Nat.reduceAdd, Nat.reduceMul]); exact room9 (by assumption) (by rfl)) | omega))⟩); k_dflt (try (case uM => k_mem)); k_dflt (try (case uI => (refine' ⟨by k_mem, by k_mem, by k_mem, by k_updF, by assumption, by first | assumption | omega, by first | assumption | omega, by first | assumption | omega⟩))); k_dflt (try (case uH2 => (rw [lawOct_length]; omega))); k_dflt (try (case uH => ((repeat' (with_reducible apply And.intro)) <;> (first | with_reducible assumption | exact Nat.le_of_ble_eq_true rfl | assumption | exact Eq.trans (by assumption) (by assumption) | exact of_decide_eq_true rfl | omega | ((simp only [List.length_append, List.length_take, List.length_drop, List.length_cons, List.length_nil, List.length_reverse, lawOct_length]); omega))))); intros; (rename News _ _ _ _ => N9); (try dsimp only at N9); (try (rename AllLt _ _ => l9; simp only [AllLt] at l9)); (try k_fold))); k_steps; (all_goals (try k_data)))
  (all_goals (try k_data))
  refine go ?_
  have hz : (ks.drop p).take 1 = [hd7 n] := (take_one_of (h1.trans hr0)).1
  refine ord_bytes (Eq.trans (by assumption) hz) ?_
  k_steps
  repeat' (refine go ?_; (first | (k_dflt (first | (refine' call_meth (f := .ref 380) (by k_asm) (by k_mem) ?_; (try dsimp only [List.nil_append, List.cons_append]); refine' FCon.useC (c_readI ?uH) ?uA ?uI ?_)); k_dflt (case uA => exact ⟨by k_asm, by k_asm, by k_asm, by k_asm, by k_asm, (by first | exact rfl | assumption), (by first | exact Nat.le_of_ble_eq_true rfl | ((try simp only [depth_under_make, depth_under_kw, depth_in1, depth_deeper, depth_caller]); (try dsimp only [ktrTop]); first | ((try simp only [Nat.add_assoc, Nat.reduceAdd, Nat.reduceMul]); exact room9 (by assumption) (by rfl)) | omega)), (by first | exact Nat.le_of_ble_eq_true rfl | ((try simp only [units_in1, units_deeper, Around.mark_units, units_caller]); (try dsimp only [ktrTop]); first | ((try simp only [Nat.add_assoc, Nat.reduceAdd, Nat.reduceMul]); exact room9 (by assumption) (by rfl)) | omega))⟩); k_dflt (try (case uM => k_mem)); k_dflt (try (case uI => (refine' ⟨by k_mem, by k_mem, by k_mem, by k_updF, by assumption, by first | assumption | omega, by first | assumption | omega, by first | assumption | omega⟩))); k_dflt (try (case uH2 => (rw [lawOct_length]; omega))); k_dflt (try (case uH => ((repeat' (with_reducible apply And.intro)) <;> (first | with_reducible assumption | exact Nat.le_of_ble_eq_true rfl | assumption | exact Eq.trans (by assumption) (by assumption) | exact of_decide_eq_true rfl | omega | ((simp only [List.length_append, List.length_take, List.length_drop, List.length_cons, List.length_nil, List.length_reverse, lawOct_length]); omega))))); intros; (rename News _ _ _ _ => N9); (try dsimp only at N9); (try (rename AllLt _ _ => l9; simp only [AllLt] at l9)); (try k_fold))); k_steps; (all_goals (try k_data)))
  (all_goals (try k_data))
  refine go ?_
  have hn128 : n % 128 < 128 := Nat.mod_lt _ (by decide)
  refine' ksw_while (σ := RvC) (fun c => (fx, instObj 678 dS) :: (dS, sDict w.params ox k1 k2 k3 k4) :: (ox, instObj 347 dO) :: (dO, oDict w.params k5 k6 c.o c.to (c.p : Int) c.tp) :: rest) (fun c => [(Str.ofString "b", .int c.b c.t2), (Str.ofString "i", .int c.i c.t1), (Str.ofString "shift", .int c.sh c.t3)]) (fun c => KBw.bInts c.o = ks) [] (RvP sv ks n p) (fun c => c.m) ⟨_, _, p + 1, _, Builtin.bitAnd (hd7 n) 127, _, hd7 n, _, 7, _, n, 0, 0⟩ ?yF ?yN ?yf ?yk ?yp ?yt
  case yF => k_asm
  case yN => k_asm
  case yf => assumption
  case yk =>
    intro x hx
    simp only [List.mem_cons, List.not_mem_nil, or_false] at hx
    rcases hx with rfl | rfl | rfl <;> rfl
  case yp =>
    refine ⟨by show 0 < 2 ^ (7 * 0); decide, by show n = 0 + n * 2 ^ (7 * 0); simp, Nat.le_add_left 1 p, h1, by show p + 1 - 1 + (sv n).length = p + (sv n).length; rw [Nat.add_sub_cancel], Nat.zero_add _, ?_, rfl, rfl⟩
    show Builtin.bitAnd (hd7 n) 127 = ((0 + n % 128 * 2 ^ (7 * 0) : Nat) : Int)
    rw [hd7_and]; simp
  case yt =>
    intro c u h tk hf hp F1 N1
    obtain ⟨o, to, pc, tpc, i, t1, b, t2, sh, t3, m9, low, j⟩ := c
    obtain ⟨hlow, hall, hat1, hhere, hleft, hj, e1, e2, e3⟩ := hp
    dsimp only at hf hlow hall hat1 hhere hleft hj e1 e2 e3 F1 N1 ⊢
    subst e1
    subst e2
    subst e3
    obtain ⟨r1, hq1, hq2, hq3⟩ := hd7_sv hs hb m9
    have hl1 : (sv m9).length = r1.length + 1 := by rw [hq1, List.length_cons]
    by_cases hm : 128 ≤ m9
    · have hbit : Builtin.bitAnd (hd7 m9) 128 ≠ 0 := (hd7_bit m9).mpr hm
      obtain ⟨r2, hw1, hw2, hw3⟩ := hd7_sv hs hb (m9 / 128)
      have hr1 := hq2 hm
      clear hq2 hq3 hw2 hw3
      have hl2 : r1.length = r2.length + 1 := by rw [hr1, hw1, List.length_cons]
      have hpc : pc + 1 ≤ ks.length := rv_in hat1 hleft hl1 hl2 h2
      have h3 := (take_one_of (hhere.trans hq1)).2
      rw [List.drop_drop, hl1, Nat.add_sub_cancel, show pc - 1 + 1 = pc from Nat.sub_add_cancel hat1, hr1] at h3
      have hz2 : (ks.drop pc).take 1 = [hd7 (m9 / 128)] := (take_one_of (h3.trans hw1)).1
      have h127 : Builtin.bitAnd (hd7 (m9 / 128)) 127 = ((m9 / 128 % 128 : Nat) : Int) := hd7_and _
      have h128 : m9 / 128 % 128 < 128 := Nat.mod_lt _ (by decide)
      k_steps
      repeat' (refine go ?_; (first | (k_dflt (first | (refine' call_meth (f := .ref 380) (by k_asm) (by k_mem) ?_; (try dsimp only [List.nil_append, List.cons_append]); refine' FCon.useC (c_readI ?uH) ?uA ?uI ?_)); k_dflt (case uA => exact ⟨by k_asm, by k_asm, by k_asm, by k_asm, by k_asm, (by first | exact rfl | assumption), (by first | exact Nat.le_of_ble_eq_true rfl | ((try simp only [depth_under_make, depth_under_kw, depth_in1, depth_deeper, depth_caller]); (try dsimp only [ktrTop]); first | ((try simp only [Nat.add_assoc, Nat.reduceAdd, Nat.reduceMul]); exact room9 (by assumption) (by rfl)) | omega)), (by first | exact Nat.le_of_ble_eq_true rfl | ((try simp only [units_in1, units_deeper, Around.mark_units, units_caller]); (try dsimp only [ktrTop]); first | ((try simp only [Nat.add_assoc, Nat.reduceAdd, Nat.reduceMul]); exact room9 (by assumption) (by rfl)) | omega))⟩); k_dflt (try (case uM => k_mem)); k_dflt (try (case uI => (refine' ⟨by k_mem, by k_mem, by k_mem, by k_updF, by assumption, by first | assumption | omega, by first | assumption | omega, by first | assumption | omega⟩))); k_dflt (try (case uH2 => (rw [lawOct_length]; omega))); k_dflt (try (case uH => ((repeat' (with_reducible apply And.intro)) <;> (first | with_reducible assumption | exact Nat.le_of_ble_eq_true rfl | assumption | exact Eq.trans (by assumption) (by assumption) | exact of_decide_eq_true rfl | omega | ((simp only [List.length_append, List.length_take, List.length_drop, List.length_cons, List.length_nil, List.length_reverse, lawOct_length]); omega))))); intros; (rename News _ _ _ _ => N9); (try dsimp only at N9); (try (rename AllLt _ _ => l9; simp only [AllLt] at l9)); (try k_fold))); k_steps; (all_goals (try k_data)))
      (all_goals (try k_data))
      all_goals first
        | (exfalso; omega)
        | refine go ?_
      refine ord_bytes (Eq.trans (by assumption) hz2) ?_
      k_steps
      repeat' (refine go ?_; (first | (k_dflt (first | (refine' call_meth (f := .ref 380) (by k_asm) (by k_mem) ?_; (try dsimp only [List.nil_append, List.cons_append]); refine' FCon.useC (c_readI ?uH) ?uA ?uI ?_)); k_dflt (case uA => exact ⟨by k_asm, by k_asm, by k_asm, by k_asm, by k_asm, (by first | exact rfl | assumption), (by first | exact Nat.le_of_ble_eq_true rfl | ((try simp only [depth_under_make, depth_under_kw, depth_in1, depth_deeper, depth_caller]); (try dsimp only [ktrTop]); first | ((try simp only [Nat.add_assoc, Nat.reduceAdd, Nat.reduceMul]); exact room9 (by assumption) (by rfl)) | omega)), (by first | exact Nat.le_of_ble_eq_true rfl | ((try simp only [units_in1, units_deeper, Around.mark_units, units_caller]); (try dsimp only [ktrTop]); first | ((try simp only [Nat.add_assoc, Nat.reduceAdd, Nat.reduceMul]); exact room9 (by assumption) (by rfl)) | omega))⟩); k_dflt (try (case uM => k_mem)); k_dflt (try (case uI => (refine' ⟨by k_mem, by k_mem, by k_mem, by k_updF, by assumption, by first | assumption | omega, by first | assumption | omega, by first | assumption | omega⟩))); k_dflt (try (case uH2 => (rw [lawOct_length]; omega))); k_dflt (try (case uH => ((repeat' (with_reducible apply And.intro)) <;> (first | with_reducible assumption | exact Nat.le_of_ble_eq_true rfl | assumption | exact Eq.trans (by assumption) (by assumption) | exact of_decide_eq_true rfl | omega | ((simp only [List.length_append, List.length_take, List.length_drop, List.length_cons, List.length_nil, List.length_reverse, lawOct_length]); omega))))); intros; (rename News _ _ _ _ => N9); (try dsimp only at N9); (try (rename AllLt _ _ => l9; simp only [AllLt] at l9)); (try k_fold))); k_steps; (all_goals (try k_data)))
      (all_goals (try k_data))
      have hM := rv_math (m := m9) hlow
      refine' ksw_end (⟨_, _, pc + 1, _, Builtin.bitOr ((low + m9 % 128 * 2 ^ (7 * j) : Nat) : Int) (Builtin.bitAnd (hd7 (m9 / 128)) 127 * 2 ^ Int.toNat ((7 * j + 7 : Nat) : Int)), _, hd7 (m9 / 128), _, ((7 * j + 7 : Nat) : Int) + 7, _, m9 / 128, low + m9 % 128 * 2 ^ (7 * j), j + 1⟩ : RvC) (by k_asm) (by k_asm) (fun _ h => h) (by assumption) ?zk ?zr ⟨hM.2, rv_all hall, Nat.le_add_left 1 pc, ?z1, ?z2, ?z3, ?z4, rfl, ?z5⟩ (Nat.div_lt_self (Nat.lt_of_lt_of_le (by decide) hm) (by decide))
      case zk =>
        intro x hx
        simp only [List.mem_cons, List.not_mem_nil, or_false] at hx
        rcases hx with rfl | rfl | rfl <;> rfl
      case zr =>
        intro z h9 _
        have n1 := h9 _ (.head _)
        have n2 := h9 _ (.tail _ (.head _))
        have n3 := h9 _ (.tail _ (.tail _ (.head _)))
        exact kst_same3 n1 n2 n3
      case z1 =>
        show (ks.drop (pc + 1 - 1)).take (sv (m9 / 128)).length = sv (m9 / 128)
        rw [Nat.add_sub_cancel, ← hr1]
        rw [← hr1] at h3
        exact h3
      case z2 =>
        show pc + 1 - 1 + (sv (m9 / 128)).length = p + (sv n).length
        rw [← hr1]; exact rv_left hat1 hleft hl1
      case z3 =>
        show j + 1 + (sv (m9 / 128)).length = (sv n).length
        rw [← hr1]; exact rv_left2 hj hl1
      case z4 =>
        show Builtin.bitOr _ (_ * 2 ^ Int.toNat ((7 * j + 7 : Nat) : Int)) = _
        rw [Int.toNat_natCast]
        exact hM.1
      case z5 =>
        show ((7 * j + 7 : Nat) : Int) + 7 = ((7 * (j + 1) + 7 : Nat) : Int)
        omega
    · have hbit : Builtin.bitAnd (hd7 m9) 128 = 0 := by
        by_cases h9 : Builtin.bitAnd (hd7 m9) 128 = 0
        · exact h9
        · exact absurd ((hd7_bit m9).mp h9) hm
      have hr1 := hq3 (Nat.lt_of_not_le hm)
      clear hq2 hq3
      k_steps
      repeat' (refine go ?_; (first | (k_dflt (first | (refine' call_meth (f := .ref 380) (by k_asm) (by k_mem) ?_; (try dsimp only [List.nil_append, List.cons_append]); refine' FCon.useC (c_readI ?uH) ?uA ?uI ?_)); k_dflt (case uA => exact ⟨by k_asm, by k_asm, by k_asm, by k_asm, by k_asm, (by first | exact rfl | assumption), (by first | exact Nat.le_of_ble_eq_true rfl | ((try simp only [depth_under_make, depth_under_kw, depth_in1, depth_deeper, depth_caller]); (try dsimp only [ktrTop]); first | ((try simp only [Nat.add_assoc, Nat.reduceAdd, Nat.reduceMul]); exact room9 (by assumption) (by rfl)) | omega)), (by first | exact Nat.le_of_ble_eq_true rfl | ((try simp only [units_in1, units_deeper, Around.mark_units, units_caller]); (try dsimp only [ktrTop]); first | ((try simp only [Nat.add_assoc, Nat.reduceAdd, Nat.reduceMul]); exact room9 (by assumption) (by rfl)) | omega))⟩); k_dflt (try (case uM => k_mem)); k_dflt (try (case uI => (refine' ⟨by k_mem, by k_mem, by k_mem, by k_updF, by assumption, by first | assumption | omega, by first | assumption | omega, by first | assumption | omega⟩))); k_dflt (try (case uH2 => (rw [lawOct_length]; omega))); k_dflt (try (case uH => ((repeat' (with_reducible apply And.intro)) <;> (first | with_reducible assumption | exact Nat.le_of_ble_eq_true rfl | assumption | exact Eq.trans (by assumption) (by assumption) | exact of_decide_eq_true rfl | omega | ((simp only [List.length_append, List.length_take, List.length_drop, List.length_cons, List.length_nil, List.length_reverse, lawOct_length]); omega))))); intros; (rename News _ _ _ _ => N9); (try dsimp only at N9); (try (rename AllLt _ _ => l9; simp only [AllLt] at l9)); (try k_fold))); k_steps; (all_goals (try k_data)))
      (all_goals (try k_data))
      · exact absurd hbit (by assumption)
      have hl3 : (sv m9).length = 1 := by rw [hl1, hr1]; rfl
      have hval : low + m9 % 128 * 2 ^ (7 * j) = n := by rw [hall, Nat.mod_eq_of_lt (by omega)]
      have hpl : ((pc : Nat) : Int) = ((p + (sv n).length : Nat) : Int) := by omega
      refine' hret _ _ _ _ ⟨_, ⟨⟨_, _, _, _, hpl, hf, rfl⟩, t1, by rw [hval], trivial⟩, rfl⟩ (by k_asm) (cb_drop (by k_asm) ?_)
      rotate_right 1
      (focus (intro q hq; repeat (first | exact hq | apply List.mem_cons_of_mem)))
end
theorem off_of_cls {h : Heap} {a b : Addr} {x y : Obj} (ha : h.get? a = some x) (hb : h.get? b = some y) (hc : x.cls ≠ y.cls) : a ≠ b := fun e => by
  subst e
  rw [ha] at hb
  exact hc (congrArg Obj.cls (Option.some.inj hb))
theorem use_readvar {w : World} {mean : ExcName → Option Value} {mg mb : Str → Option Value} {dp un : Nat} {gd : Option (List Code)} {cn : Str} {cs : Scope} {a : Addr} {ccd : Value} {cl : List (Str × Addr)} {outer : List Env} {A₀ : Around} {base h₀ : Heap} {L : Addr} {m : Str → Option Value} {s : Shared} {Q E : Value → Shared → Prop} {news : List (Addr × Obj)} {fx dS ox dO : Addr} {k1 k2 k3 k4 k5 k6 tb tp : Tok} {ks : List Int} {p : Nat} {b0 : Array UInt8} {g : Obj → List (Addr × Obj)} {q : Addr} {n : Nat} (hq : (q, methodObj (.ref 380) (.ref fx)) ∈ news) (H : (ks.drop p).take (seven n).length = seven n ∧ n < 4722366482869645213696 ∧ p + (seven n).length ≤ ks.length ∧ ks.length ≤ 1000000)
    (C : At9 5 w mean mg mb dp un cs outer A₀ base h₀ L m s news) (I : Fi9 w fx dS ox dO k1 k2 k3 k4 k5 k6 tb tp ks p b0 g news)
    (R : ∀ b' tb' tp' x h' tk', KBw.bInts b' = ks → True → Fr h₀ L h' m → News h₀ L h' (g (oDict w.params k5 k6 b' tb' ((p + (seven n).length : Nat) : Int) tp')) → Q (.int n x) { s with heap := h', toks := tk' }) : wpAny (model PySem.Challenge.rw_iu0050_01.row.prog w) (ktrTop dp un gd cn cs L a ccd cl outer) (call (.ref 293) [.ref q]) Q E s := by
  obtain ⟨pre, post, e9, _, _, _⟩ := I.U.split
  have m4 : (dO, oDict w.params k5 k6 b0 tb (p : Int) tp) ∈ news := by rw [e9]; exact List.mem_append.mpr (.inr (.head _))
  have hne : Value.type "method" ≠ Value.type "dict" := fun h => by
    injection h with h
    exact absurd h (by decide)
  refine C.use (Con.anyR (fun _ ho hin => c_readvar' (sv := seven) (fun _ h => seven_small h) (fun _ h => seven_big h) I.l1 I.l2 I.l3 ho ⟨_, _, _, _, rfl, I.hb, rfl⟩ (hin _ hq (off_of_cls (C.N _ hq).1 (C.N _ I.m1).1 (fun h => nomatch h)) (off_of_cls (C.N _ hq).1 (C.N _ I.m2).1 hne) (off_of_cls (C.N _ hq).1 (C.N _ I.m3).1 (fun h => nomatch h)) (off_of_cls (C.N _ hq).1 (C.N _ m4).1 hne)) H.1 (seven_len12 H.2.1) H.2.2.1 H.2.2.2) I.m1 I.m2 I.m3 I.U) ?_
  rintro v news' h' tk' ⟨o', ⟨⟨b', tb', q', tp', rfl, hb', rfl⟩, x, rfl, _⟩, rfl⟩ F' N'
  exact R _ _ _ _ _ _ hb' trivial F' N'

end
section
open PySem.Builtin PyProof.V in
theorem meets_rev (b : Array UInt8) (t : Tok) (a : Addr) (u : Tok) :
    Meets («bytes.__getitem__» ⟨[.bytes b t, .ref a], []⟩) (fun _ R s => s.heap.IsSliceOf a .none .none (.int (-1) u) ∧ b.size ≤ sizeLine ∧ ∀ t' k, R (.ok (.ret (.bytes b.toList.reverse.toArray t'))) { s with toks := k }) := by
  refine .of_wp fun prog w A R s hS => ?_
  obtain ⟨⟨o, ho, hc, hd⟩, hsz, h⟩ := hS
  have hT : s.TypeIs (.ref a) "slice" := ⟨o, ho, hc⟩
  show wpAny _ _ (Bytes.payload (.bytes b t) >>= fun r => _) _ _ s
  refine wpAny_bind (wpAny_of_eq (a := b) rfl ?_)
  show wpAny _ _ (Bytes.subscript? (.ref a) >>= fun r => _) _ _ s
  refine wpAny_bind ?_
  unfold Bytes.subscript?
  refine wpAny_bind (wpAny_specialOf hT slice_no_index (wpAny_pure ?_))
  refine wpAny_bind (wpAny_typeOf hT ?_)
  show wpAny _ _ (Bytes.sliceParts (.ref a) >>= fun r => _) _ _ s
  refine wpAny_bind ?_
  unfold Bytes.sliceParts
  refine wpAny_bind (wpAny_field (x := .int (-1) u) ho hd rfl ?_)
  kby_int
  refine wpAny_ite (KBy.ite_no (show ¬ ((rawInt (-1) == rawInt 0) = true) by decide) ?_)
  refine wpAny_bind (wpAny_field (x := .none) ho hd rfl ?_)
  kby_none
  refine wpAny_bind (wpAny_field (x := .none) ho hd rfl ?_)
  kby_none
  refine wpAny_pure ?_
  have go : wpAny (model prog w) A.in1 (sliceIndices (rawPart none) (rawPart none) (rawPart (some (-1))) b.size) (fun r s' => r = ((b.size : Int) - 1, -1, -1) ∧ s' = s) (fun _ _ => False) s :=
    wpAny_of_eq (sliceIndices_raw none none (some (-1)) b.size (by decide)) ⟨krv_bounds _, rfl⟩
  refine wpAny_bind (wpAny_mono go (fun r s' hr => ?_) fun _ _ e => e.elim)
  obtain ⟨hr1, hr2⟩ := hr
  subst hr1 hr2
  have e : Bytes.sliced b ((b.size : Int) - 1) (-1) (-1) = b.toList.reverse.toArray := by
    unfold Bytes.sliced
    rw [krv_sliceRange, krv_range, List.filterMap_reverse, krv_all]
  refine wpAny_ite (KBy.ite_no (by simp) ?_)
  refine wpAny_bind (wpAny_mkBytes (wpAny_pure ⟨_, rfl, ?_⟩) ?_)
  · have h9 := fun k1 k2 => h k1 k2
    simp only [← e] at h9
    exact h9 _ _
  · show (Bytes.sliced b ((b.size : Int) - 1) (-1) (-1)).size ≤ sizeLine
    rw [e]
    simpa using hsz
theorem rev_K {prog : Program} {w : World} {A : Around} {E : Value → Shared → Prop} {s : Shared} {value slice : PySem.Expr} {b : Array UInt8} {t u : Tok} {h₀ : Heap} {L : Addr} {m : PySem.Str → Option Value} {news : List (Addr × Obj)} {Q : Value → Shared → Prop} {ks : List Int}
    (hF : Fr h₀ L s.heap m) (hN : News h₀ L s.heap news) (hk : KBw.bInts b = ks) (hz : ks.length ≤ 16777216)
    (h : ∀ b' h' t' k, Fr h₀ L h' m → News h₀ L h' news → KBw.bInts b' = ks.reverse → Q (.bytes b' t') { s with heap := h', toks := k })
    (hs : subscripted slice false (.bytes b t) (.ref s.heap.objs.size) = operate [.ref s.heap.objs.size, .bytes b t] (getItem (.bytes b t) (.ref s.heap.objs.size)) := by with_unfolding_all rfl)
    (ht : ∀ r, letTemporaryGo value (.bytes b t) r = pure () := by intro _; with_unfolding_all rfl) :
    wpAny (model prog w) A (subscriptTail value slice (.bytes b t) (.ref s.heap.objs.size)) Q E { s with heap := s.heap.push { cls := .type "slice", data := .fields #[.none, .none, .int (-1) u] } } :=
  tail_of_ItemOn ⟨"bytes", _, FB.slot_bytes_getitem.lookup, typeIs_bytes _ _ _, getItem_meets (typeIs_bytes _ _ _) (by decide) FB.slot_bytes_getitem FB.entry_bytes_getitem (FB.args_bytes_getitem_2 _ _) (meets_rev b t _ u)
    ⟨Heap.IsSliceOf.new _ _ _ _, by rw [← KBw.ints_length b, hk, sizeLine_eq]; exact hz, fun t' k => h _ _ _ _ (hF.push _) (News.pushKeep hN _) (by subst hk; show List.map _ b.toList.reverse = (List.map _ b.toList).reverse; rw [List.map_reverse])⟩⟩ hs ht

end
theorem off_P12 : True := by w_top off; trivial
section
local macro_rules | `(tactic| walk_at "subscriptTail") => `(tactic| (k_here; (with_reducible show wpAny _ _ (subscriptTail _ (PySem.Expr.Slice none none (some _) _) (Value.bytes _ _) (Value.ref _)) _ _ _); k_dflt (refine' rev_K (s := ⟨_, _, _, _, _⟩) ?eF ?eN ?eK ?eZ ?_; (case eF => k_asm); (case eN => k_asm); (case eK => assumption); (case eZ => (first | kba_size | (simp only [List.length_reverse, List.length_take, List.length_drop, lawOct_length]; omega)))); intros; (rename News _ _ _ _ => N9); (try k_fold)))
theorem add_le9 {a b : Nat} (h : a ≤ 900000) (h' : b ≤ 11) : a + b ≤ 1000000 := Nat.le_trans (Nat.add_le_add h h') (by decide)
section
variable {w : World} {mean : ExcName → Option Value} {mg mb : Str → Option Value} {fx dS ox dO : Addr} {k1 k2 k3 k4 k5 k6 : Tok} {ks : List Int} {p : Nat}
theorem c_get {zi : Int} {z n : Nat} {t u : Tok} (e : zi = (z : Int)) (H : z + n ≤ ks.length ∧ ks.length ≤ 1000000) :
    FCon w mean mg mb 626 fx dS ox dO k1 k2 k3 k4 k5 k6 ks p [.ref fx, .int zi t, .int n u] 6 (ks) (z + n) (fun x : Array UInt8 × Tok => Value.bytes x.1 x.2) (fun x => KBw.bInts x.1 = (ks.drop z).take n) := by
  subst e
  obtain ⟨h1, h2⟩ := H
  intro o rest l1 l2 l3 ho hO
  have l4 : @LT.lt Nat _ dO dS := Nat.lt_trans l1 l2
  have l5 : @LT.lt Nat _ ox fx := Nat.lt_trans l2 l3
  have l6 : @LT.lt Nat _ dO fx := Nat.lt_trans l4 l3
  k_fill
  obtain ⟨b0, tb, q, tp, rfl, hb0, rfl⟩ := hO
  intro dp un gd cn cs a ccd cl outer A₀ base h₀ L m s Q E B F X N T hk hd hu hret
  k_dflt (refine' code_def ?k1 ?k2 ?k3 ?k4 ?k5 ?kA ?kF ?kK ?k6 ?k7 ?k8 ?k9 ?kB ?_ ?c2 ?c3 ?c4 ?c5; (case kA => exact rfl); (case kF => exact rfl); (case kK => first | exact rfl | assumption); (case k1 => k_asm); (case k2 => k_asm); (case k3 => k_asm); (case k4 => k_asm); (case k5 => k_asm); (case k6 => k_is); (case k7 => k_is); (case k8 => k_room); (case k9 => first | exact BindsTo.of_eq rfl | exact binds_K (by k_in) rfl (by k_is) rfl rfl rfl | fail "k_enter: no rule for these arguments"); (case c5 => decide); (case kB => exact locs rfl); (case c2 => exact rfl); (case c3 => exact rfl); (case c4 => exact rfl); k_whole; intro g' L' h' FG' F' N' B' X' T'; (try dsimp only); (try k_lift B'); (try k_fold))
  k_steps
  repeat' (refine go ?_; (first | (k_dflt (first | (refine' TCon.use (c_unpacked8 ?uH) ?uA ?_) | (refine' TCon.use (c_unpacked4 ?uH) ?uA ?_) | (refine' TCon.use (c_unpacked2 ?uH) ?uA ?_) | (refine' TCon.use (c_unpacked1 ?uH) ?uA ?_) | (refine' PCon.use (c_packed8 ?uH) ?uA ?_) | (refine' PCon.use (c_packed4 ?uH) ?uA ?_) | (refine' PCon.use (c_packed2 ?uH) ?uA ?_) | (refine' PCon.use (c_packed1 ?uH) ?uA ?_) | (refine' FCon.use (c_seek2 ?uH) ?uA ?uI ?_) | (refine' FCon.use (c_seek1) ?uA ?uI ?_) | (refine' FCon.use (c_seek) ?uA ?uI ?_) | (refine' FCon.use (c_tell) ?uA ?uI ?_) | (refine' FCon.use (c_read ?uH) ?uA ?uI ?_) | (refine' FCon.use (c_write ?uH) ?uA ?uI ?_) | (refine' FCon.use (c_readI ?uH) ?uA ?uI ?_)); k_dflt (case uA => exact ⟨by k_asm, by k_asm, by k_asm, by k_asm, by k_asm, (by first | exact rfl | assumption), (by first | exact Nat.le_of_ble_eq_true rfl | ((try simp only [depth_under_make, depth_under_kw, depth_in1, depth_deeper, depth_caller]); (try dsimp only [ktrTop]); first | ((try simp only [Nat.add_assoc, Nat.reduceAdd, Nat.reduceMul]); exact room9 (by assumption) (by rfl)) | omega)), (by first | exact Nat.le_of_ble_eq_true rfl | ((try simp only [units_in1, units_deeper, Around.mark_units, units_caller]); (try dsimp only [ktrTop]); first | ((try simp only [Nat.add_assoc, Nat.reduceAdd, Nat.reduceMul]); exact room9 (by assumption) (by rfl)) | omega))⟩); k_dflt (try (case uM => k_mem)); k_dflt (try (case uI => (refine' ⟨by k_mem, by k_mem, by k_mem, by k_updF, by assumption, by first | assumption | omega, by first | assumption | omega, by first | assumption | omega⟩))); k_dflt (try (case uH2 => (rw [lawOct_length]; omega))); k_dflt (try (case uH => ((repeat' (with_reducible apply And.intro)) <;> (first | with_reducible assumption | exact Nat.le_of_ble_eq_true rfl | assumption | exact Eq.trans (by assumption) (by assumption) | exact of_decide_eq_true rfl | omega | ((simp only [List.length_append, List.length_take, List.length_drop, List.length_cons, List.length_nil, List.length_reverse, lawOct_length]); omega))))); intros; (rename News _ _ _ _ => N9); (try dsimp only at N9); (try (rename AllLt _ _ => l9; simp only [AllLt] at l9)); (try k_fold))); k_steps; (all_goals (try k_data)))
  (all_goals (try k_data))
  refine' hret _ _ _ _ ⟨_, ⟨⟨_, _, _, _, ?_, ?_, rfl⟩, (_, _), rfl, by assumption⟩, rfl⟩ (by k_asm) (cb_drop (by k_asm) ?_)
  rotate_right 1
  (focus (intro q hq; repeat (first | exact hq | apply List.mem_cons_of_mem)))
  · rfl
  · assumption
theorem c_getI {zi nI : Int} {z : Nat} {t u : Tok} (e : zi = (z : Int)) (H : 0 ≤ nI ∧ z + nI.toNat ≤ ks.length ∧ ks.length ≤ 1000000) :
    FCon w mean mg mb 626 fx dS ox dO k1 k2 k3 k4 k5 k6 ks p [.ref fx, .int zi t, .int nI u] 6 (ks) (z + nI.toNat) (fun x : Array UInt8 × Tok => Value.bytes x.1 x.2) (fun x => KBw.bInts x.1 = (ks.drop z).take nI.toNat) := by
  obtain ⟨n, rfl⟩ := Int.eq_ofNat_of_zero_le H.1
  exact c_get e H.2
end
section
variable {w : World} {mean : ExcName → Option Value} {mg mb : Str → Option Value}
theorem c_pk35 {n : Int} {t : Tok} (H : 0 ≤ n ∧ n < 256) :
    PCon w mean mg mb 35 [.int n t] 3 (fun x : Array UInt8 × Tok => Value.bytes x.1 x.2) (fun x => KBw.bInts x.1 = lawOct n 1) := by
  obtain ⟨h0, h1⟩ := H
  intro news
  k_fill
  intro dp un gd cn cs a ccd cl outer A₀ base h₀ L m s Q E B F X N T hk hd hu hret
  k_dflt (refine' code_def ?k1 ?k2 ?k3 ?k4 ?k5 ?kA ?kF ?kK ?k6 ?k7 ?k8 ?k9 ?kB ?_ ?c2 ?c3 ?c4 ?c5; (case kA => exact rfl); (case kF => exact rfl); (case kK => first | exact rfl | assumption); (case k1 => k_asm); (case k2 => k_asm); (case k3 => k_asm); (case k4 => k_asm); (case k5 => k_asm); (case k6 => k_is); (case k7 => k_is); (case k8 => k_room); (case k9 => first | exact BindsTo.of_eq rfl | exact binds_K (by k_in) rfl (by k_is) rfl rfl rfl | fail "k_enter: no rule for these arguments"); (case c5 => decide); (case kB => exact locs rfl); (case c2 => exact rfl); (case c3 => exact rfl); (case c4 => exact rfl); k_whole; intro g' L' h' FG' F' N' B' X' T'; (try dsimp only); (try k_lift B'); (try k_fold))
  k_steps
  repeat' (refine go ?_; (first | (k_dflt (first | (refine' PCon.use (c_packed1 ?uH) ?uA ?_)); k_dflt (case uA => exact ⟨by k_asm, by k_asm, by k_asm, by k_asm, by k_asm, (by first | exact rfl | assumption), (by first | exact Nat.le_of_ble_eq_true rfl | ((try simp only [depth_under_make, depth_under_kw, depth_in1, depth_deeper, depth_caller]); (try dsimp only [ktrTop]); first | ((try simp only [Nat.add_assoc, Nat.reduceAdd, Nat.reduceMul]); exact room9 (by assumption) (by rfl)) | omega)), (by first | exact Nat.le_of_ble_eq_true rfl | ((try simp only [units_in1, units_deeper, Around.mark_units, units_caller]); (try dsimp only [ktrTop]); first | ((try simp only [Nat.add_assoc, Nat.reduceAdd, Nat.reduceMul]); exact room9 (by assumption) (by rfl)) | omega))⟩); k_dflt (try (case uM => k_mem)); k_dflt (try (case uI => (refine' ⟨by k_mem, by k_mem, by k_mem, by k_updF, by assumption, by first | assumption | omega, by first | assumption | omega, by first | assumption | omega⟩))); k_dflt (try (case uH2 => (rw [lawOct_length]; omega))); k_dflt (try (case uH => ((repeat' (with_reducible apply And.intro)) <;> (first | with_reducible assumption | exact Nat.le_of_ble_eq_true rfl | assumption | exact Eq.trans (by assumption) (by assumption) | exact of_decide_eq_true rfl | omega | ((simp only [List.length_append, List.length_take, List.length_drop, List.length_cons, List.length_nil, List.length_reverse, lawOct_length]); omega))))); intros; (rename News _ _ _ _ => N9); (try dsimp only at N9); (try (rename AllLt _ _ => l9; simp only [AllLt] at l9)); (try k_fold))); k_steps; (all_goals (try k_data)))
  (all_goals (try k_data))
  refine' hret _ _ _ _ ⟨⟨(_, _), rfl, by assumption⟩, rfl⟩ (by k_asm) (cb_drop (by k_asm) (fun q hq => hq))
theorem c_pk42 {n : Int} {t : Tok} (H : -128 ≤ n ∧ n < 128) :
    PCon w mean mg mb 42 [.int n t] 3 (fun x : Array UInt8 × Tok => Value.bytes x.1 x.2) (fun x => KBw.bInts x.1 = lawOct n 1) := by
  obtain ⟨h0, h1⟩ := H
  intro news
  k_fill
  intro dp un gd cn cs a ccd cl outer A₀ base h₀ L m s Q E B F X N T hk hd hu hret
  k_dflt (refine' code_def ?k1 ?k2 ?k3 ?k4 ?k5 ?kA ?kF ?kK ?k6 ?k7 ?k8 ?k9 ?kB ?_ ?c2 ?c3 ?c4 ?c5; (case kA => exact rfl); (case kF => exact rfl); (case kK => first | exact rfl | assumption); (case k1 => k_asm); (case k2 => k_asm); (case k3 => k_asm); (case k4 => k_asm); (case k5 => k_asm); (case k6 => k_is); (case k7 => k_is); (case k8 => k_room); (case k9 => first | exact BindsTo.of_eq rfl | exact binds_K (by k_in) rfl (by k_is) rfl rfl rfl | fail "k_enter: no rule for these arguments"); (case c5 => decide); (case kB => exact locs rfl); (case c2 => exact rfl); (case c3 => exact rfl); (case c4 => exact rfl); k_whole; intro g' L' h' FG' F' N' B' X' T'; (try dsimp only); (try k_lift B'); (try k_fold))
  k_steps
  repeat' (refine go ?_; (first | (k_dflt (first | (refine' PCon.use (c_packed1 ?uH) ?uA ?_)); k_dflt (case uA => exact ⟨by k_asm, by k_asm, by k_asm, by k_asm, by k_asm, (by first | exact rfl | assumption), (by first | exact Nat.le_of_ble_eq_true rfl | ((try simp only [depth_under_make, depth_under_kw, depth_in1, depth_deeper, depth_caller]); (try dsimp only [ktrTop]); first | ((try simp only [Nat.add_assoc, Nat.reduceAdd, Nat.reduceMul]); exact room9 (by assumption) (by rfl)) | omega)), (by first | exact Nat.le_of_ble_eq_true rfl | ((try simp only [units_in1, units_deeper, Around.mark_units, units_caller]); (try dsimp only [ktrTop]); first | ((try simp only [Nat.add_assoc, Nat.reduceAdd, Nat.reduceMul]); exact room9 (by assumption) (by rfl)) | omega))⟩); k_dflt (try (case uM => k_mem)); k_dflt (try (case uI => (refine' ⟨by k_mem, by k_mem, by k_mem, by k_updF, by assumption, by first | assumption | omega, by first | assumption | omega, by first | assumption | omega⟩))); k_dflt (try (case uH2 => (rw [lawOct_length]; omega))); k_dflt (try (case uH => ((repeat' (with_reducible apply And.intro)) <;> (first | with_reducible assumption | exact Nat.le_of_ble_eq_true rfl | assumption | exact Eq.trans (by assumption) (by assumption) | exact of_decide_eq_true rfl | omega | ((simp only [List.length_append, List.length_take, List.length_drop, List.length_cons, List.length_nil, List.length_reverse, lawOct_length]); omega))))); intros; (rename News _ _ _ _ => N9); (try dsimp only at N9); (try (rename AllLt _ _ => l9; simp only [AllLt] at l9)); (try k_fold))); k_steps; (all_goals (try k_data)))
  (all_goals (try k_data))
  refine' hret _ _ _ _ ⟨⟨(_, _), rfl, by assumption⟩, rfl⟩ (by k_asm) (cb_drop (by k_asm) (fun q hq => hq))
theorem c_pk49 {n : Int} {t : Tok} (H : 0 ≤ n ∧ n < 65536) :
    PCon w mean mg mb 49 [.int n t] 3 (fun x : Array UInt8 × Tok => Value.bytes x.1 x.2) (fun x => KBw.bInts x.1 = lawOct n 2) := by
  obtain ⟨h0, h1⟩ := H
  intro news
  k_fill
  intro dp un gd cn cs a ccd cl outer A₀ base h₀ L m s Q E B F X N T hk hd hu hret
  k_dflt (refine' code_def ?k1 ?k2 ?k3 ?k4 ?k5 ?kA ?kF ?kK ?k6 ?k7 ?k8 ?k9 ?kB ?_ ?c2 ?c3 ?c4 ?c5; (case kA => exact rfl); (case kF => exact rfl); (case kK => first | exact rfl | assumption); (case k1 => k_asm); (case k2 => k_asm); (case k3 => k_asm); (case k4 => k_asm); (case k5 => k_asm); (case k6 => k_is); (case k7 => k_is); (case k8 => k_room); (case k9 => first | exact BindsTo.of_eq rfl | exact binds_K (by k_in) rfl (by k_is) rfl rfl rfl | fail "k_enter: no rule for these arguments"); (case c5 => decide); (case kB => exact locs rfl); (case c2 => exact rfl); (case c3 => exact rfl); (case c4 => exact rfl); k_whole; intro g' L' h' FG' F' N' B' X' T'; (try dsimp only); (try k_lift B'); (try k_fold))
  k_steps
  repeat' (refine go ?_; (first | (k_dflt (first | (refine' PCon.use (c_packed2 ?uH) ?uA ?_)); k_dflt (case uA => exact ⟨by k_asm, by k_asm, by k_asm, by k_asm, by k_asm, (by first | exact rfl | assumption), (by first | exact Nat.le_of_ble_eq_true rfl | ((try simp only [depth_under_make, depth_under_kw, depth_in1, depth_deeper, depth_caller]); (try dsimp only [ktrTop]); first | ((try simp only [Nat.add_assoc, Nat.reduceAdd, Nat.reduceMul]); exact room9 (by assumption) (by rfl)) | omega)), (by first | exact Nat.le_of_ble_eq_true rfl | ((try simp only [units_in1, units_deeper, Around.mark_units, units_caller]); (try dsimp only [ktrTop]); first | ((try simp only [Nat.add_assoc, Nat.reduceAdd, Nat.reduceMul]); exact room9 (by assumption) (by rfl)) | omega))⟩); k_dflt (try (case uM => k_mem)); k_dflt (try (case uI => (refine' ⟨by k_mem, by k_mem, by k_mem, by k_updF, by assumption, by first | assumption | omega, by first | assumption | omega, by first | assumption | omega⟩))); k_dflt (try (case uH2 => (rw [lawOct_length]; omega))); k_dflt (try (case uH => ((repeat' (with_reducible apply And.intro)) <;> (first | with_reducible assumption | exact Nat.le_of_ble_eq_true rfl | assumption | exact Eq.trans (by assumption) (by assumption) | exact of_decide_eq_true rfl | omega | ((simp only [List.length_append, List.length_take, List.length_drop, List.length_cons, List.length_nil, List.length_reverse, lawOct_length]); omega))))); intros; (rename News _ _ _ _ => N9); (try dsimp only at N9); (try (rename AllLt _ _ => l9; simp only [AllLt] at l9)); (try k_fold))); k_steps; (all_goals (try k_data)))
  (all_goals (try k_data))
  refine' hret _ _ _ _ ⟨⟨(_, _), rfl, by assumption⟩, rfl⟩ (by k_asm) (cb_drop (by k_asm) (fun q hq => hq))
theorem c_pk56 {n : Int} {t : Tok} (H : -2147483648 ≤ n ∧ n < 2147483648) :
    PCon w mean mg mb 56 [.int n t] 3 (fun x : Array UInt8 × Tok => Value.bytes x.1 x.2) (fun x => KBw.bInts x.1 = lawOct n 4) := by
  obtain ⟨h0, h1⟩ := H
  intro news
  k_fill
  intro dp un gd cn cs a ccd cl outer A₀ base h₀ L m s Q E B F X N T hk hd hu hret
  k_dflt (refine' code_def ?k1 ?k2 ?k3 ?k4 ?k5 ?kA ?kF ?kK ?k6 ?k7 ?k8 ?k9 ?kB ?_ ?c2 ?c3 ?c4 ?c5; (case kA => exact rfl); (case kF => exact rfl); (case kK => first | exact rfl | assumption); (case k1 => k_asm); (case k2 => k_asm); (case k3 => k_asm); (case k4 => k_asm); (case k5 => k_asm); (case k6 => k_is); (case k7 => k_is); (case k8 => k_room); (case k9 => first | exact BindsTo.of_eq rfl | exact binds_K (by k_in) rfl (by k_is) rfl rfl rfl | fail "k_enter: no rule for these arguments"); (case c5 => decide); (case kB => exact locs rfl); (case c2 => exact rfl); (case c3 => exact rfl); (case c4 => exact rfl); k_whole; intro g' L' h' FG' F' N' B' X' T'; (try dsimp only); (try k_lift B'); (try k_fold))
  k_steps
  repeat' (refine go ?_; (first | (k_dflt (first | (refine' PCon.use (c_packed4 ?uH) ?uA ?_)); k_dflt (case uA => exact ⟨by k_asm, by k_asm, by k_asm, by k_asm, by k_asm, (by first | exact rfl | assumption), (by first | exact Nat.le_of_ble_eq_true rfl | ((try simp only [depth_under_make, depth_under_kw, depth_in1, depth_deeper, depth_caller]); (try dsimp only [ktrTop]); first | ((try simp only [Nat.add_assoc, Nat.reduceAdd, Nat.reduceMul]); exact room9 (by assumption) (by rfl)) | omega)), (by first | exact Nat.le_of_ble_eq_true rfl | ((try simp only [units_in1, units_deeper, Around.mark_units, units_caller]); (try dsimp only [ktrTop]); first | ((try simp only [Nat.add_assoc, Nat.reduceAdd, Nat.reduceMul]); exact room9 (by assumption) (by rfl)) | omega))⟩); k_dflt (try (case uM => k_mem)); k_dflt (try (case uI => (refine' ⟨by k_mem, by k_mem, by k_mem, by k_updF, by assumption, by first | assumption | omega, by first | assumption | omega, by first | assumption | omega⟩))); k_dflt (try (case uH2 => (rw [lawOct_length]; omega))); k_dflt (try (case uH => ((repeat' (with_reducible apply And.intro)) <;> (first | with_reducible assumption | exact Nat.le_of_ble_eq_true rfl | assumption | exact Eq.trans (by assumption) (by assumption) | exact of_decide_eq_true rfl | omega | ((simp only [List.length_append, List.length_take, List.length_drop, List.length_cons, List.length_nil, List.length_reverse, lawOct_length]); omega))))); intros; (rename News _ _ _ _ => N9); (try dsimp only at N9); (try (rename AllLt _ _ => l9; simp only [AllLt] at l9)); (try k_fold))); k_steps; (all_goals (try k_data)))
  (all_goals (try k_data))
  refine' hret _ _ _ _ ⟨⟨(_, _), rfl, by assumption⟩, rfl⟩ (by k_asm) (cb_drop (by k_asm) (fun q hq => hq))
theorem c_pk63 {n : Int} {t : Tok} (H : 0 ≤ n ∧ n < 4294967296) :
    PCon w mean mg mb 63 [.int n t] 3 (fun x : Array UInt8 × Tok => Value.bytes x.1 x.2) (fun x => KBw.bInts x.1 = lawOct n 4) := by
  obtain ⟨h0, h1⟩ := H
  intro news
  k_fill
  intro dp un gd cn cs a ccd cl outer A₀ base h₀ L m s Q E B F X N T hk hd hu hret
  k_dflt (refine' code_def ?k1 ?k2 ?k3 ?k4 ?k5 ?kA ?kF ?kK ?k6 ?k7 ?k8 ?k9 ?kB ?_ ?c2 ?c3 ?c4 ?c5; (case kA => exact rfl); (case kF => exact rfl); (case kK => first | exact rfl | assumption); (case k1 => k_asm); (case k2 => k_asm); (case k3 => k_asm); (case k4 => k_asm); (case k5 => k_asm); (case k6 => k_is); (case k7 => k_is); (case k8 => k_room); (case k9 => first | exact BindsTo.of_eq rfl | exact binds_K (by k_in) rfl (by k_is) rfl rfl rfl | fail "k_enter: no rule for these arguments"); (case c5 => decide); (case kB => exact locs rfl); (case c2 => exact rfl); (case c3 => exact rfl); (case c4 => exact rfl); k_whole; intro g' L' h' FG' F' N' B' X' T'; (try dsimp only); (try k_lift B'); (try k_fold))
  k_steps
  repeat' (refine go ?_; (first | (k_dflt (first | (refine' PCon.use (c_packed4 ?uH) ?uA ?_)); k_dflt (case uA => exact ⟨by k_asm, by k_asm, by k_asm, by k_asm, by k_asm, (by first | exact rfl | assumption), (by first | exact Nat.le_of_ble_eq_true rfl | ((try simp only [depth_under_make, depth_under_kw, depth_in1, depth_deeper, depth_caller]); (try dsimp only [ktrTop]); first | ((try simp only [Nat.add_assoc, Nat.reduceAdd, Nat.reduceMul]); exact room9 (by assumption) (by rfl)) | omega)), (by first | exact Nat.le_of_ble_eq_true rfl | ((try simp only [units_in1, units_deeper, Around.mark_units, units_caller]); (try dsimp only [ktrTop]); first | ((try simp only [Nat.add_assoc, Nat.reduceAdd, Nat.reduceMul]); exact room9 (by assumption) (by rfl)) | omega))⟩); k_dflt (try (case uM => k_mem)); k_dflt (try (case uI => (refine' ⟨by k_mem, by k_mem, by k_mem, by k_updF, by assumption, by first | assumption | omega, by first | assumption | omega, by first | assumption | omega⟩))); k_dflt (try (case uH2 => (rw [lawOct_length]; omega))); k_dflt (try (case uH => ((repeat' (with_reducible apply And.intro)) <;> (first | with_reducible assumption | exact Nat.le_of_ble_eq_true rfl | assumption | exact Eq.trans (by assumption) (by assumption) | exact of_decide_eq_true rfl | omega | ((simp only [List.length_append, List.length_take, List.length_drop, List.length_cons, List.length_nil, List.length_reverse, lawOct_length]); omega))))); intros; (rename News _ _ _ _ => N9); (try dsimp only at N9); (try (rename AllLt _ _ => l9; simp only [AllLt] at l9)); (try k_fold))); k_steps; (all_goals (try k_data)))
  (all_goals (try k_data))
  refine' hret _ _ _ _ ⟨⟨(_, _), rfl, by assumption⟩, rfl⟩ (by k_asm) (cb_drop (by k_asm) (fun q hq => hq))
theorem c_pk70 {n : Int} {t : Tok} (H : -9223372036854775808 ≤ n ∧ n < 9223372036854775808) :
    PCon w mean mg mb 70 [.int n t] 3 (fun x : Array UInt8 × Tok => Value.bytes x.1 x.2) (fun x => KBw.bInts x.1 = lawOct n 8) := by
  obtain ⟨h0, h1⟩ := H
  intro news
  k_fill
  intro dp un gd cn cs a ccd cl outer A₀ base h₀ L m s Q E B F X N T hk hd hu hret
  k_dflt (refine' code_def ?k1 ?k2 ?k3 ?k4 ?k5 ?kA ?kF ?kK ?k6 ?k7 ?k8 ?k9 ?kB ?_ ?c2 ?c3 ?c4 ?c5; (case kA => exact rfl); (case kF => exact rfl); (case kK => first | exact rfl | assumption); (case k1 => k_asm); (case k2 => k_asm); (case k3 => k_asm); (case k4 => k_asm); (case k5 => k_asm); (case k6 => k_is); (case k7 => k_is); (case k8 => k_room); (case k9 => first | exact BindsTo.of_eq rfl | exact binds_K (by k_in) rfl (by k_is) rfl rfl rfl | fail "k_enter: no rule for these arguments"); (case c5 => decide); (case kB => exact locs rfl); (case c2 => exact rfl); (case c3 => exact rfl); (case c4 => exact rfl); k_whole; intro g' L' h' FG' F' N' B' X' T'; (try dsimp only); (try k_lift B'); (try k_fold))
  k_steps
  repeat' (refine go ?_; (first | (k_dflt (first | (refine' PCon.use (c_packed8 ?uH) ?uA ?_)); k_dflt (case uA => exact ⟨by k_asm, by k_asm, by k_asm, by k_asm, by k_asm, (by first | exact rfl | assumption), (by first | exact Nat.le_of_ble_eq_true rfl | ((try simp only [depth_under_make, depth_under_kw, depth_in1, depth_deeper, depth_caller]); (try dsimp only [ktrTop]); first | ((try simp only [Nat.add_assoc, Nat.reduceAdd, Nat.reduceMul]); exact room9 (by assumption) (by rfl)) | omega)), (by first | exact Nat.le_of_ble_eq_true rfl | ((try simp only [units_in1, units_deeper, Around.mark_units, units_caller]); (try dsimp only [ktrTop]); first | ((try simp only [Nat.add_assoc, Nat.reduceAdd, Nat.reduceMul]); exact room9 (by assumption) (by rfl)) | omega))⟩); k_dflt (try (case uM => k_mem)); k_dflt (try (case uI => (refine' ⟨by k_mem, by k_mem, by k_mem, by k_updF, by assumption, by first | assumption | omega, by first | assumption | omega, by first | assumption | omega⟩))); k_dflt (try (case uH2 => (rw [lawOct_length]; omega))); k_dflt (try (case uH => ((repeat' (with_reducible apply And.intro)) <;> (first | with_reducible assumption | exact Nat.le_of_ble_eq_true rfl | assumption | exact Eq.trans (by assumption) (by assumption) | exact of_decide_eq_true rfl | omega | ((simp only [List.length_append, List.length_take, List.length_drop, List.length_cons, List.length_nil, List.length_reverse, lawOct_length]); omega))))); intros; (rename News _ _ _ _ => N9); (try dsimp only at N9); (try (rename AllLt _ _ => l9; simp only [AllLt] at l9)); (try k_fold))); k_steps; (all_goals (try k_data)))
  (all_goals (try k_data))
  refine' hret _ _ _ _ ⟨⟨(_, _), rfl, by assumption⟩, rfl⟩ (by k_asm) (cb_drop (by k_asm) (fun q hq => hq))
theorem c_pk77 {n : Int} {t : Tok} (H : 0 ≤ n ∧ n < 18446744073709551616) :
    PCon w mean mg mb 77 [.int n t] 3 (fun x : Array UInt8 × Tok => Value.bytes x.1 x.2) (fun x => KBw.bInts x.1 = lawOct n 8) := by
  obtain ⟨h0, h1⟩ := H
  intro news
  k_fill
  intro dp un gd cn cs a ccd cl outer A₀ base h₀ L m s Q E B F X N T hk hd hu hret
  k_dflt (refine' code_def ?k1 ?k2 ?k3 ?k4 ?k5 ?kA ?kF ?kK ?k6 ?k7 ?k8 ?k9 ?kB ?_ ?c2 ?c3 ?c4 ?c5; (case kA => exact rfl); (case kF => exact rfl); (case kK => first | exact rfl | assumption); (case k1 => k_asm); (case k2 => k_asm); (case k3 => k_asm); (case k4 => k_asm); (case k5 => k_asm); (case k6 => k_is); (case k7 => k_is); (case k8 => k_room); (case k9 => first | exact BindsTo.of_eq rfl | exact binds_K (by k_in) rfl (by k_is) rfl rfl rfl | fail "k_enter: no rule for these arguments"); (case c5 => decide); (case kB => exact locs rfl); (case c2 => exact rfl); (case c3 => exact rfl); (case c4 => exact rfl); k_whole; intro g' L' h' FG' F' N' B' X' T'; (try dsimp only); (try k_lift B'); (try k_fold))
  k_steps
  repeat' (refine go ?_; (first | (k_dflt (first | (refine' PCon.use (c_packed8 ?uH) ?uA ?_)); k_dflt (case uA => exact ⟨by k_asm, by k_asm, by k_asm, by k_asm, by k_asm, (by first | exact rfl | assumption), (by first | exact Nat.le_of_ble_eq_true rfl | ((try simp only [depth_under_make, depth_under_kw, depth_in1, depth_deeper, depth_caller]); (try dsimp only [ktrTop]); first | ((try simp only [Nat.add_assoc, Nat.reduceAdd, Nat.reduceMul]); exact room9 (by assumption) (by rfl)) | omega)), (by first | exact Nat.le_of_ble_eq_true rfl | ((try simp only [units_in1, units_deeper, Around.mark_units, units_caller]); (try dsimp only [ktrTop]); first | ((try simp only [Nat.add_assoc, Nat.reduceAdd, Nat.reduceMul]); exact room9 (by assumption) (by rfl)) | omega))⟩); k_dflt (try (case uM => k_mem)); k_dflt (try (case uI => (refine' ⟨by k_mem, by k_mem, by k_mem, by k_updF, by assumption, by first | assumption | omega, by first | assumption | omega, by first | assumption | omega⟩))); k_dflt (try (case uH2 => (rw [lawOct_length]; omega))); k_dflt (try (case uH => ((repeat' (with_reducible apply And.intro)) <;> (first | with_reducible assumption | exact Nat.le_of_ble_eq_true rfl | assumption | exact Eq.trans (by assumption) (by assumption) | exact of_decide_eq_true rfl | omega | ((simp only [List.length_append, List.length_take, List.length_drop, List.length_cons, List.length_nil, List.length_reverse, lawOct_length]); omega))))); intros; (rename News _ _ _ _ => N9); (try dsimp only at N9); (try (rename AllLt _ _ => l9; simp only [AllLt] at l9)); (try k_fold))); k_steps; (all_goals (try k_data)))
  (all_goals (try k_data))
  refine' hret _ _ _ _ ⟨⟨(_, _), rfl, by assumption⟩, rfl⟩ (by k_asm) (cb_drop (by k_asm) (fun q hq => hq))
theorem c_pk84 {n : Int} {t : Tok} (H : 0 ≤ n ∧ n < 65536) :
    PCon w mean mg mb 84 [.int n t] 3 (fun x : Array UInt8 × Tok => Value.bytes x.1 x.2) (fun x => KBw.bInts x.1 = (lawOct n 2).reverse) := by
  obtain ⟨h0, h1⟩ := H
  intro news
  k_fill
  intro dp un gd cn cs a ccd cl outer A₀ base h₀ L m s Q E B F X N T hk hd hu hret
  k_dflt (refine' code_def ?k1 ?k2 ?k3 ?k4 ?k5 ?kA ?kF ?kK ?k6 ?k7 ?k8 ?k9 ?kB ?_ ?c2 ?c3 ?c4 ?c5; (case kA => exact rfl); (case kF => exact rfl); (case kK => first | exact rfl | assumption); (case k1 => k_asm); (case k2 => k_asm); (case k3 => k_asm); (case k4 => k_asm); (case k5 => k_asm); (case k6 => k_is); (case k7 => k_is); (case k8 => k_room); (case k9 => first | exact BindsTo.of_eq rfl | exact binds_K (by k_in) rfl (by k_is) rfl rfl rfl | fail "k_enter: no rule for these arguments"); (case c5 => decide); (case kB => exact locs rfl); (case c2 => exact rfl); (case c3 => exact rfl); (case c4 => exact rfl); k_whole; intro g' L' h' FG' F' N' B' X' T'; (try dsimp only); (try k_lift B'); (try k_fold))
  k_steps
  repeat' (refine go ?_; (first | (k_dflt (first | (refine' PCon.use (c_packed2 ?uH) ?uA ?_)); k_dflt (case uA => exact ⟨by k_asm, by k_asm, by k_asm, by k_asm, by k_asm, (by first | exact rfl | assumption), (by first | exact Nat.le_of_ble_eq_true rfl | ((try simp only [depth_under_make, depth_under_kw, depth_in1, depth_deeper, depth_caller]); (try dsimp only [ktrTop]); first | ((try simp only [Nat.add_assoc, Nat.reduceAdd, Nat.reduceMul]); exact room9 (by assumption) (by rfl)) | omega)), (by first | exact Nat.le_of_ble_eq_true rfl | ((try simp only [units_in1, units_deeper, Around.mark_units, units_caller]); (try dsimp only [ktrTop]); first | ((try simp only [Nat.add_assoc, Nat.reduceAdd, Nat.reduceMul]); exact room9 (by assumption) (by rfl)) | omega))⟩); k_dflt (try (case uM => k_mem)); k_dflt (try (case uI => (refine' ⟨by k_mem, by k_mem, by k_mem, by k_updF, by assumption, by first | assumption | omega, by first | assumption | omega, by first | assumption | omega⟩))); k_dflt (try (case uH2 => (rw [lawOct_length]; omega))); k_dflt (try (case uH => ((repeat' (with_reducible apply And.intro)) <;> (first | with_reducible assumption | exact Nat.le_of_ble_eq_true rfl | assumption | exact Eq.trans (by assumption) (by assumption) | exact of_decide_eq_true rfl | omega | ((simp only [List.length_append, List.length_take, List.length_drop, List.length_cons, List.length_nil, List.length_reverse, lawOct_length]); omega))))); intros; (rename News _ _ _ _ => N9); (try dsimp only at N9); (try (rename AllLt _ _ => l9; simp only [AllLt] at l9)); (try k_fold))); k_steps; (all_goals (try k_data)))
  (all_goals (try k_data))
  refine' hret _ _ _ _ ⟨⟨(_, _), rfl, by assumption⟩, rfl⟩ (by k_asm) (cb_drop (by k_asm) (fun q hq => hq))
theorem c_pk91 {n : Int} {t : Tok} (H : 0 ≤ n ∧ n < 4294967296) :
    PCon w mean mg mb 91 [.int n t] 3 (fun x : Array UInt8 × Tok => Value.bytes x.1 x.2) (fun x => KBw.bInts x.1 = (lawOct n 4).reverse) := by
  obtain ⟨h0, h1⟩ := H
  intro news
  k_fill
  intro dp un gd cn cs a ccd cl outer A₀ base h₀ L m s Q E B F X N T hk hd hu hret
  k_dflt (refine' code_def ?k1 ?k2 ?k3 ?k4 ?k5 ?kA ?kF ?kK ?k6 ?k7 ?k8 ?k9 ?kB ?_ ?c2 ?c3 ?c4 ?c5; (case kA => exact rfl); (case kF => exact rfl); (case kK => first | exact rfl | assumption); (case k1 => k_asm); (case k2 => k_asm); (case k3 => k_asm); (case k4 => k_asm); (case k5 => k_asm); (case k6 => k_is); (case k7 => k_is); (case k8 => k_room); (case k9 => first | exact BindsTo.of_eq rfl | exact binds_K (by k_in) rfl (by k_is) rfl rfl rfl | fail "k_enter: no rule for these arguments"); (case c5 => decide); (case kB => exact locs rfl); (case c2 => exact rfl); (case c3 => exact rfl); (case c4 => exact rfl); k_whole; intro g' L' h' FG' F' N' B' X' T'; (try dsimp only); (try k_lift B'); (try k_fold))
  k_steps
  repeat' (refine go ?_; (first | (k_dflt (first | (refine' PCon.use (c_packed4 ?uH) ?uA ?_)); k_dflt (case uA => exact ⟨by k_asm, by k_asm, by k_asm, by k_asm, by k_asm, (by first | exact rfl | assumption), (by first | exact Nat.le_of_ble_eq_true rfl | ((try simp only [depth_under_make, depth_under_kw, depth_in1, depth_deeper, depth_caller]); (try dsimp only [ktrTop]); first | ((try simp only [Nat.add_assoc, Nat.reduceAdd, Nat.reduceMul]); exact room9 (by assumption) (by rfl)) | omega)), (by first | exact Nat.le_of_ble_eq_true rfl | ((try simp only [units_in1, units_deeper, Around.mark_units, units_caller]); (try dsimp only [ktrTop]); first | ((try simp only [Nat.add_assoc, Nat.reduceAdd, Nat.reduceMul]); exact room9 (by assumption) (by rfl)) | omega))⟩); k_dflt (try (case uM => k_mem)); k_dflt (try (case uI => (refine' ⟨by k_mem, by k_mem, by k_mem, by k_updF, by assumption, by first | assumption | omega, by first | assumption | omega, by first | assumption | omega⟩))); k_dflt (try (case uH2 => (rw [lawOct_length]; omega))); k_dflt (try (case uH => ((repeat' (with_reducible apply And.intro)) <;> (first | with_reducible assumption | exact Nat.le_of_ble_eq_true rfl | assumption | exact Eq.trans (by assumption) (by assumption) | exact of_decide_eq_true rfl | omega | ((simp only [List.length_append, List.length_take, List.length_drop, List.length_cons, List.length_nil, List.length_reverse, lawOct_length]); omega))))); intros; (rename News _ _ _ _ => N9); (try dsimp only at N9); (try (rename AllLt _ _ => l9; simp only [AllLt] at l9)); (try k_fold))); k_steps; (all_goals (try k_data)))
  (all_goals (try k_data))
  refine' hret _ _ _ _ ⟨⟨(_, _), rfl, by assumption⟩, rfl⟩ (by k_asm) (cb_drop (by k_asm) (fun q hq => hq))
theorem c_unp98 {n : Int} {b : Array UInt8} {t : Tok} (H : KBw.bInts b = lawOct n 1 ∧ 0 ≤ n ∧ n < 256) :
    TCon w mean mg mb 98 [.bytes b t] 3 (n) := by
  obtain ⟨hb, h0, h1⟩ := H
  intro news
  k_fill
  intro dp un gd cn cs a ccd cl outer A₀ base h₀ L m s Q E B F X N T hk hd hu hret
  k_dflt (refine' code_def ?k1 ?k2 ?k3 ?k4 ?k5 ?kA ?kF ?kK ?k6 ?k7 ?k8 ?k9 ?kB ?_ ?c2 ?c3 ?c4 ?c5; (case kA => exact rfl); (case kF => exact rfl); (case kK => first | exact rfl | assumption); (case k1 => k_asm); (case k2 => k_asm); (case k3 => k_asm); (case k4 => k_asm); (case k5 => k_asm); (case k6 => k_is); (case k7 => k_is); (case k8 => k_room); (case k9 => first | exact BindsTo.of_eq rfl | exact binds_K (by k_in) rfl (by k_is) rfl rfl rfl | fail "k_enter: no rule for these arguments"); (case c5 => decide); (case kB => exact locs rfl); (case c2 => exact rfl); (case c3 => exact rfl); (case c4 => exact rfl); k_whole; intro g' L' h' FG' F' N' B' X' T'; (try dsimp only); (try k_lift B'); (try k_fold))
  k_steps
  repeat' (refine go ?_; (first | (k_dflt (first | (refine' TCon.use (c_unpacked1 ?uH) ?uA ?_)); k_dflt (case uA => exact ⟨by k_asm, by k_asm, by k_asm, by k_asm, by k_asm, (by first | exact rfl | assumption), (by first | exact Nat.le_of_ble_eq_true rfl | ((try simp only [depth_under_make, depth_under_kw, depth_in1, depth_deeper, depth_caller]); (try dsimp only [ktrTop]); first | ((try simp only [Nat.add_assoc, Nat.reduceAdd, Nat.reduceMul]); exact room9 (by assumption) (by rfl)) | omega)), (by first | exact Nat.le_of_ble_eq_true rfl | ((try simp only [units_in1, units_deeper, Around.mark_units, units_caller]); (try dsimp only [ktrTop]); first | ((try simp only [Nat.add_assoc, Nat.reduceAdd, Nat.reduceMul]); exact room9 (by assumption) (by rfl)) | omega))⟩); k_dflt (try (case uM => k_mem)); k_dflt (try (case uI => (refine' ⟨by k_mem, by k_mem, by k_mem, by k_updF, by assumption, by first | assumption | omega, by first | assumption | omega, by first | assumption | omega⟩))); k_dflt (try (case uH2 => (rw [lawOct_length]; omega))); k_dflt (try (case uH => ((repeat' (with_reducible apply And.intro)) <;> (first | with_reducible assumption | exact Nat.le_of_ble_eq_true rfl | assumption | exact Eq.trans (by assumption) (by assumption) | exact of_decide_eq_true rfl | omega | ((simp only [List.length_append, List.length_take, List.length_drop, List.length_cons, List.length_nil, List.length_reverse, lawOct_length]); omega))))); intros; (rename News _ _ _ _ => N9); (try dsimp only at N9); (try (rename AllLt _ _ => l9; simp only [AllLt] at l9)); (try k_fold))); k_steps; (all_goals (try k_data)))
  (all_goals (try k_data))
  refine' hret _ _ _ _ ⟨_, _, _, rfl, by assumption, rfl⟩ (by k_asm) (cb_drop (by k_asm) (fun q hq => hq))
theorem c_unp105 {n : Int} {b : Array UInt8} {t : Tok} (H : KBw.bInts b = lawOct n 1 ∧ -128 ≤ n ∧ n < 128) :
    TCon w mean mg mb 105 [.bytes b t] 3 (n) := by
  obtain ⟨hb, h0, h1⟩ := H
  intro news
  k_fill
  intro dp un gd cn cs a ccd cl outer A₀ base h₀ L m s Q E B F X N T hk hd hu hret
  k_dflt (refine' code_def ?k1 ?k2 ?k3 ?k4 ?k5 ?kA ?kF ?kK ?k6 ?k7 ?k8 ?k9 ?kB ?_ ?c2 ?c3 ?c4 ?c5; (case kA => exact rfl); (case kF => exact rfl); (case kK => first | exact rfl | assumption); (case k1 => k_asm); (case k2 => k_asm); (case k3 => k_asm); (case k4 => k_asm); (case k5 => k_asm); (case k6 => k_is); (case k7 => k_is); (case k8 => k_room); (case k9 => first | exact BindsTo.of_eq rfl | exact binds_K (by k_in) rfl (by k_is) rfl rfl rfl | fail "k_enter: no rule for these arguments"); (case c5 => decide); (case kB => exact locs rfl); (case c2 => exact rfl); (case c3 => exact rfl); (case c4 => exact rfl); k_whole; intro g' L' h' FG' F' N' B' X' T'; (try dsimp only); (try k_lift B'); (try k_fold))
  k_steps
  repeat' (refine go ?_; (first | (k_dflt (first | (refine' TCon.use (c_unpacked1 ?uH) ?uA ?_)); k_dflt (case uA => exact ⟨by k_asm, by k_asm, by k_asm, by k_asm, by k_asm, (by first | exact rfl | assumption), (by first | exact Nat.le_of_ble_eq_true rfl | ((try simp only [depth_under_make, depth_under_kw, depth_in1, depth_deeper, depth_caller]); (try dsimp only [ktrTop]); first | ((try simp only [Nat.add_assoc, Nat.reduceAdd, Nat.reduceMul]); exact room9 (by assumption) (by rfl)) | omega)), (by first | exact Nat.le_of_ble_eq_true rfl | ((try simp only [units_in1, units_deeper, Around.mark_units, units_caller]); (try dsimp only [ktrTop]); first | ((try simp only [Nat.add_assoc, Nat.reduceAdd, Nat.reduceMul]); exact room9 (by assumption) (by rfl)) | omega))⟩); k_dflt (try (case uM => k_mem)); k_dflt (try (case uI => (refine' ⟨by k_mem, by k_mem, by k_mem, by k_updF, by assumption, by first | assumption | omega, by first | assumption | omega, by first | assumption | omega⟩))); k_dflt (try (case uH2 => (rw [lawOct_length]; omega))); k_dflt (try (case uH => ((repeat' (with_reducible apply And.intro)) <;> (first | with_reducible assumption | exact Nat.le_of_ble_eq_true rfl | assumption | exact Eq.trans (by assumption) (by assumption) | exact of_decide_eq_true rfl | omega | ((simp only [List.length_append, List.length_take, List.length_drop, List.length_cons, List.length_nil, List.length_reverse, lawOct_length]); omega))))); intros; (rename News _ _ _ _ => N9); (try dsimp only at N9); (try (rename AllLt _ _ => l9; simp only [AllLt] at l9)); (try k_fold))); k_steps; (all_goals (try k_data)))
  (all_goals (try k_data))
  refine' hret _ _ _ _ ⟨_, _, _, rfl, by assumption, rfl⟩ (by k_asm) (cb_drop (by k_asm) (fun q hq => hq))
theorem c_unp112 {n : Int} {b : Array UInt8} {t : Tok} (H : KBw.bInts b = lawOct n 2 ∧ 0 ≤ n ∧ n < 65536) :
    TCon w mean mg mb 112 [.bytes b t] 3 (n) := by
  obtain ⟨hb, h0, h1⟩ := H
  intro news
  k_fill
  intro dp un gd cn cs a ccd cl outer A₀ base h₀ L m s Q E B F X N T hk hd hu hret
  k_dflt (refine' code_def ?k1 ?k2 ?k3 ?k4 ?k5 ?kA ?kF ?kK ?k6 ?k7 ?k8 ?k9 ?kB ?_ ?c2 ?c3 ?c4 ?c5; (case kA => exact rfl); (case kF => exact rfl); (case kK => first | exact rfl | assumption); (case k1 => k_asm); (case k2 => k_asm); (case k3 => k_asm); (case k4 => k_asm); (case k5 => k_asm); (case k6 => k_is); (case k7 => k_is); (case k8 => k_room); (case k9 => first | exact BindsTo.of_eq rfl | exact binds_K (by k_in) rfl (by k_is) rfl rfl rfl | fail "k_enter: no rule for these arguments"); (case c5 => decide); (case kB => exact locs rfl); (case c2 => exact rfl); (case c3 => exact rfl); (case c4 => exact rfl); k_whole; intro g' L' h' FG' F' N' B' X' T'; (try dsimp only); (try k_lift B'); (try k_fold))
  k_steps
  repeat' (refine go ?_; (first | (k_dflt (first | (refine' TCon.use (c_unpacked2 ?uH) ?uA ?_)); k_dflt (case uA => exact ⟨by k_asm, by k_asm, by k_asm, by k_asm, by k_asm, (by first | exact rfl | assumption), (by first | exact Nat.le_of_ble_eq_true rfl | ((try simp only [depth_under_make, depth_under_kw, depth_in1, depth_deeper, depth_caller]); (try dsimp only [ktrTop]); first | ((try simp only [Nat.add_assoc, Nat.reduceAdd, Nat.reduceMul]); exact room9 (by assumption) (by rfl)) | omega)), (by first | exact Nat.le_of_ble_eq_true rfl | ((try simp only [units_in1, units_deeper, Around.mark_units, units_caller]); (try dsimp only [ktrTop]); first | ((try simp only [Nat.add_assoc, Nat.reduceAdd, Nat.reduceMul]); exact room9 (by assumption) (by rfl)) | omega))⟩); k_dflt (try (case uM => k_mem)); k_dflt (try (case uI => (refine' ⟨by k_mem, by k_mem, by k_mem, by k_updF, by assumption, by first | assumption | omega, by first | assumption | omega, by first | assumption | omega⟩))); k_dflt (try (case uH2 => (rw [lawOct_length]; omega))); k_dflt (try (case uH => ((repeat' (with_reducible apply And.intro)) <;> (first | with_reducible assumption | exact Nat.le_of_ble_eq_true rfl | assumption | exact Eq.trans (by assumption) (by assumption) | exact of_decide_eq_true rfl | omega | ((simp only [List.length_append, List.length_take, List.length_drop, List.length_cons, List.length_nil, List.length_reverse, lawOct_length]); omega))))); intros; (rename News _ _ _ _ => N9); (try dsimp only at N9); (try (rename AllLt _ _ => l9; simp only [AllLt] at l9)); (try k_fold))); k_steps; (all_goals (try k_data)))
  (all_goals (try k_data))
  refine' hret _ _ _ _ ⟨_, _, _, rfl, by assumption, rfl⟩ (by k_asm) (cb_drop (by k_asm) (fun q hq => hq))
theorem c_unp119 {n : Int} {b : Array UInt8} {t : Tok} (H : KBw.bInts b = lawOct n 4 ∧ -2147483648 ≤ n ∧ n < 2147483648) :
    TCon w mean mg mb 119 [.bytes b t] 3 (n) := by
  obtain ⟨hb, h0, h1⟩ := H
  intro news
  k_fill
  intro dp un gd cn cs a ccd cl outer A₀ base h₀ L m s Q E B F X N T hk hd hu hret
  k_dflt (refine' code_def ?k1 ?k2 ?k3 ?k4 ?k5 ?kA ?kF ?kK ?k6 ?k7 ?k8 ?k9 ?kB ?_ ?c2 ?c3 ?c4 ?c5; (case kA => exact rfl); (case kF => exact rfl); (case kK => first | exact rfl | assumption); (case k1 => k_asm); (case k2 => k_asm); (case k3 => k_asm); (case k4 => k_asm); (case k5 => k_asm); (case k6 => k_is); (case k7 => k_is); (case k8 => k_room); (case k9 => first | exact BindsTo.of_eq rfl | exact binds_K (by k_in) rfl (by k_is) rfl rfl rfl | fail "k_enter: no rule for these arguments"); (case c5 => decide); (case kB => exact locs rfl); (case c2 => exact rfl); (case c3 => exact rfl); (case c4 => exact rfl); k_whole; intro g' L' h' FG' F' N' B' X' T'; (try dsimp only); (try k_lift B'); (try k_fold))
  k_steps
  repeat' (refine go ?_; (first | (k_dflt (first | (refine' TCon.use (c_unpacked4 ?uH) ?uA ?_)); k_dflt (case uA => exact ⟨by k_asm, by k_asm, by k_asm, by k_asm, by k_asm, (by first | exact rfl | assumption), (by first | exact Nat.le_of_ble_eq_true rfl | ((try simp only [depth_under_make, depth_under_kw, depth_in1, depth_deeper, depth_caller]); (try dsimp only [ktrTop]); first | ((try simp only [Nat.add_assoc, Nat.reduceAdd, Nat.reduceMul]); exact room9 (by assumption) (by rfl)) | omega)), (by first | exact Nat.le_of_ble_eq_true rfl | ((try simp only [units_in1, units_deeper, Around.mark_units, units_caller]); (try dsimp only [ktrTop]); first | ((try simp only [Nat.add_assoc, Nat.reduceAdd, Nat.reduceMul]); exact room9 (by assumption) (by rfl)) | omega))⟩); k_dflt (try (case uM => k_mem)); k_dflt (try (case uI => (refine' ⟨by k_mem, by k_mem, by k_mem, by k_updF, by assumption, by first | assumption | omega, by first | assumption | omega, by first | assumption | omega⟩))); k_dflt (try (case uH2 => (rw [lawOct_length]; omega))); k_dflt (try (case uH => ((repeat' (with_reducible apply And.intro)) <;> (first | with_reducible assumption | exact Nat.le_of_ble_eq_true rfl | assumption | exact Eq.trans (by assumption) (by assumption) | exact of_decide_eq_true rfl | omega | ((simp only [List.length_append, List.length_take, List.length_drop, List.length_cons, List.length_nil, List.length_reverse, lawOct_length]); omega))))); intros; (rename News _ _ _ _ => N9); (try dsimp only at N9); (try (rename AllLt _ _ => l9; simp only [AllLt] at l9)); (try k_fold))); k_steps; (all_goals (try k_data)))
  (all_goals (try k_data))
  refine' hret _ _ _ _ ⟨_, _, _, rfl, by assumption, rfl⟩ (by k_asm) (cb_drop (by k_asm) (fun q hq => hq))
theorem c_unp126 {n : Int} {b : Array UInt8} {t : Tok} (H : KBw.bInts b = lawOct n 4 ∧ 0 ≤ n ∧ n < 4294967296) :
    TCon w mean mg mb 126 [.bytes b t] 3 (n) := by
  obtain ⟨hb, h0, h1⟩ := H
  intro news
  k_fill
  intro dp un gd cn cs a ccd cl outer A₀ base h₀ L m s Q E B F X N T hk hd hu hret
  k_dflt (refine' code_def ?k1 ?k2 ?k3 ?k4 ?k5 ?kA ?kF ?kK ?k6 ?k7 ?k8 ?k9 ?kB ?_ ?c2 ?c3 ?c4 ?c5; (case kA => exact rfl); (case kF => exact rfl); (case kK => first | exact rfl | assumption); (case k1 => k_asm); (case k2 => k_asm); (case k3 => k_asm); (case k4 => k_asm); (case k5 => k_asm); (case k6 => k_is); (case k7 => k_is); (case k8 => k_room); (case k9 => first | exact BindsTo.of_eq rfl | exact binds_K (by k_in) rfl (by k_is) rfl rfl rfl | fail "k_enter: no rule for these arguments"); (case c5 => decide); (case kB => exact locs rfl); (case c2 => exact rfl); (case c3 => exact rfl); (case c4 => exact rfl); k_whole; intro g' L' h' FG' F' N' B' X' T'; (try dsimp only); (try k_lift B'); (try k_fold))
  k_steps
  repeat' (refine go ?_; (first | (k_dflt (first | (refine' TCon.use (c_unpacked4 ?uH) ?uA ?_)); k_dflt (case uA => exact ⟨by k_asm, by k_asm, by k_asm, by k_asm, by k_asm, (by first | exact rfl | assumption), (by first | exact Nat.le_of_ble_eq_true rfl | ((try simp only [depth_under_make, depth_under_kw, depth_in1, depth_deeper, depth_caller]); (try dsimp only [ktrTop]); first | ((try simp only [Nat.add_assoc, Nat.reduceAdd, Nat.reduceMul]); exact room9 (by assumption) (by rfl)) | omega)), (by first | exact Nat.le_of_ble_eq_true rfl | ((try simp only [units_in1, units_deeper, Around.mark_units, units_caller]); (try dsimp only [ktrTop]); first | ((try simp only [Nat.add_assoc, Nat.reduceAdd, Nat.reduceMul]); exact room9 (by assumption) (by rfl)) | omega))⟩); k_dflt (try (case uM => k_mem)); k_dflt (try (case uI => (refine' ⟨by k_mem, by k_mem, by k_mem, by k_updF, by assumption, by first | assumption | omega, by first | assumption | omega, by first | assumption | omega⟩))); k_dflt (try (case uH2 => (rw [lawOct_length]; omega))); k_dflt (try (case uH => ((repeat' (with_reducible apply And.intro)) <;> (first | with_reducible assumption | exact Nat.le_of_ble_eq_true rfl | assumption | exact Eq.trans (by assumption) (by assumption) | exact of_decide_eq_true rfl | omega | ((simp only [List.length_append, List.length_take, List.length_drop, List.length_cons, List.length_nil, List.length_reverse, lawOct_length]); omega))))); intros; (rename News _ _ _ _ => N9); (try dsimp only at N9); (try (rename AllLt _ _ => l9; simp only [AllLt] at l9)); (try k_fold))); k_steps; (all_goals (try k_data)))
  (all_goals (try k_data))
  refine' hret _ _ _ _ ⟨_, _, _, rfl, by assumption, rfl⟩ (by k_asm) (cb_drop (by k_asm) (fun q hq => hq))
theorem c_unp133 {n : Int} {b : Array UInt8} {t : Tok} (H : KBw.bInts b = lawOct n 8 ∧ -9223372036854775808 ≤ n ∧ n < 9223372036854775808) :
    TCon w mean mg mb 133 [.bytes b t] 3 (n) := by
  obtain ⟨hb, h0, h1⟩ := H
  intro news
  k_fill
  intro dp un gd cn cs a ccd cl outer A₀ base h₀ L m s Q E B F X N T hk hd hu hret
  k_dflt (refine' code_def ?k1 ?k2 ?k3 ?k4 ?k5 ?kA ?kF ?kK ?k6 ?k7 ?k8 ?k9 ?kB ?_ ?c2 ?c3 ?c4 ?c5; (case kA => exact rfl); (case kF => exact rfl); (case kK => first | exact rfl | assumption); (case k1 => k_asm); (case k2 => k_asm); (case k3 => k_asm); (case k4 => k_asm); (case k5 => k_asm); (case k6 => k_is); (case k7 => k_is); (case k8 => k_room); (case k9 => first | exact BindsTo.of_eq rfl | exact binds_K (by k_in) rfl (by k_is) rfl rfl rfl | fail "k_enter: no rule for these arguments"); (case c5 => decide); (case kB => exact locs rfl); (case c2 => exact rfl); (case c3 => exact rfl); (case c4 => exact rfl); k_whole; intro g' L' h' FG' F' N' B' X' T'; (try dsimp only); (try k_lift B'); (try k_fold))
  k_steps
  repeat' (refine go ?_; (first | (k_dflt (first | (refine' TCon.use (c_unpacked8 ?uH) ?uA ?_)); k_dflt (case uA => exact ⟨by k_asm, by k_asm, by k_asm, by k_asm, by k_asm, (by first | exact rfl | assumption), (by first | exact Nat.le_of_ble_eq_true rfl | ((try simp only [depth_under_make, depth_under_kw, depth_in1, depth_deeper, depth_caller]); (try dsimp only [ktrTop]); first | ((try simp only [Nat.add_assoc, Nat.reduceAdd, Nat.reduceMul]); exact room9 (by assumption) (by rfl)) | omega)), (by first | exact Nat.le_of_ble_eq_true rfl | ((try simp only [units_in1, units_deeper, Around.mark_units, units_caller]); (try dsimp only [ktrTop]); first | ((try simp only [Nat.add_assoc, Nat.reduceAdd, Nat.reduceMul]); exact room9 (by assumption) (by rfl)) | omega))⟩); k_dflt (try (case uM => k_mem)); k_dflt (try (case uI => (refine' ⟨by k_mem, by k_mem, by k_mem, by k_updF, by assumption, by first | assumption | omega, by first | assumption | omega, by first | assumption | omega⟩))); k_dflt (try (case uH2 => (rw [lawOct_length]; omega))); k_dflt (try (case uH => ((repeat' (with_reducible apply And.intro)) <;> (first | with_reducible assumption | exact Nat.le_of_ble_eq_true rfl | assumption | exact Eq.trans (by assumption) (by assumption) | exact of_decide_eq_true rfl | omega | ((simp only [List.length_append, List.length_take, List.length_drop, List.length_cons, List.length_nil, List.length_reverse, lawOct_length]); omega))))); intros; (rename News _ _ _ _ => N9); (try dsimp only at N9); (try (rename AllLt _ _ => l9; simp only [AllLt] at l9)); (try k_fold))); k_steps; (all_goals (try k_data)))
  (all_goals (try k_data))
  refine' hret _ _ _ _ ⟨_, _, _, rfl, by assumption, rfl⟩ (by k_asm) (cb_drop (by k_asm) (fun q hq => hq))
theorem c_unp140 {n : Int} {b : Array UInt8} {t : Tok} (H : KBw.bInts b = lawOct n 8 ∧ 0 ≤ n ∧ n < 18446744073709551616) :
    TCon w mean mg mb 140 [.bytes b t] 3 (n) := by
  obtain ⟨hb, h0, h1⟩ := H
  intro news
  k_fill
  intro dp un gd cn cs a ccd cl outer A₀ base h₀ L m s Q E B F X N T hk hd hu hret
  k_dflt (refine' code_def ?k1 ?k2 ?k3 ?k4 ?k5 ?kA ?kF ?kK ?k6 ?k7 ?k8 ?k9 ?kB ?_ ?c2 ?c3 ?c4 ?c5; (case kA => exact rfl); (case kF => exact rfl); (case kK => first | exact rfl | assumption); (case k1 => k_asm); (case k2 => k_asm); (case k3 => k_asm); (case k4 => k_asm); (case k5 => k_asm); (case k6 => k_is); (case k7 => k_is); (case k8 => k_room); (case k9 => first | exact BindsTo.of_eq rfl | exact binds_K (by k_in) rfl (by k_is) rfl rfl rfl | fail "k_enter: no rule for these arguments"); (case c5 => decide); (case kB => exact locs rfl); (case c2 => exact rfl); (case c3 => exact rfl); (case c4 => exact rfl); k_whole; intro g' L' h' FG' F' N' B' X' T'; (try dsimp only); (try k_lift B'); (try k_fold))
  k_steps
  repeat' (refine go ?_; (first | (k_dflt (first | (refine' TCon.use (c_unpacked8 ?uH) ?uA ?_)); k_dflt (case uA => exact ⟨by k_asm, by k_asm, by k_asm, by k_asm, by k_asm, (by first | exact rfl | assumption), (by first | exact Nat.le_of_ble_eq_true rfl | ((try simp only [depth_under_make, depth_under_kw, depth_in1, depth_deeper, depth_caller]); (try dsimp only [ktrTop]); first | ((try simp only [Nat.add_assoc, Nat.reduceAdd, Nat.reduceMul]); exact room9 (by assumption) (by rfl)) | omega)), (by first | exact Nat.le_of_ble_eq_true rfl | ((try simp only [units_in1, units_deeper, Around.mark_units, units_caller]); (try dsimp only [ktrTop]); first | ((try simp only [Nat.add_assoc, Nat.reduceAdd, Nat.reduceMul]); exact room9 (by assumption) (by rfl)) | omega))⟩); k_dflt (try (case uM => k_mem)); k_dflt (try (case uI => (refine' ⟨by k_mem, by k_mem, by k_mem, by k_updF, by assumption, by first | assumption | omega, by first | assumption | omega, by first | assumption | omega⟩))); k_dflt (try (case uH2 => (rw [lawOct_length]; omega))); k_dflt (try (case uH => ((repeat' (with_reducible apply And.intro)) <;> (first | with_reducible assumption | exact Nat.le_of_ble_eq_true rfl | assumption | exact Eq.trans (by assumption) (by assumption) | exact of_decide_eq_true rfl | omega | ((simp only [List.length_append, List.length_take, List.length_drop, List.length_cons, List.length_nil, List.length_reverse, lawOct_length]); omega))))); intros; (rename News _ _ _ _ => N9); (try dsimp only at N9); (try (rename AllLt _ _ => l9; simp only [AllLt] at l9)); (try k_fold))); k_steps; (all_goals (try k_data)))
  (all_goals (try k_data))
  refine' hret _ _ _ _ ⟨_, _, _, rfl, by assumption, rfl⟩ (by k_asm) (cb_drop (by k_asm) (fun q hq => hq))
theorem c_unp147 {n : Int} {b : Array UInt8} {t : Tok} (H : KBw.bInts b = (lawOct n 2).reverse ∧ 0 ≤ n ∧ n < 65536) :
    TCon w mean mg mb 147 [.bytes b t] 3 (n) := by
  obtain ⟨hb, h0, h1⟩ := H
  intro news
  k_fill
  have hrr := List.reverse_reverse (lawOct n 2)
  intro dp un gd cn cs a ccd cl outer A₀ base h₀ L m s Q E B F X N T hk hd hu hret
  k_dflt (refine' code_def ?k1 ?k2 ?k3 ?k4 ?k5 ?kA ?kF ?kK ?k6 ?k7 ?k8 ?k9 ?kB ?_ ?c2 ?c3 ?c4 ?c5; (case kA => exact rfl); (case kF => exact rfl); (case kK => first | exact rfl | assumption); (case k1 => k_asm); (case k2 => k_asm); (case k3 => k_asm); (case k4 => k_asm); (case k5 => k_asm); (case k6 => k_is); (case k7 => k_is); (case k8 => k_room); (case k9 => first | exact BindsTo.of_eq rfl | exact binds_K (by k_in) rfl (by k_is) rfl rfl rfl | fail "k_enter: no rule for these arguments"); (case c5 => decide); (case kB => exact locs rfl); (case c2 => exact rfl); (case c3 => exact rfl); (case c4 => exact rfl); k_whole; intro g' L' h' FG' F' N' B' X' T'; (try dsimp only); (try k_lift B'); (try k_fold))
  k_steps
  repeat' (refine go ?_; (first | (k_dflt (first | (refine' TCon.use (c_unpacked2 ?uH) ?uA ?_)); k_dflt (case uA => exact ⟨by k_asm, by k_asm, by k_asm, by k_asm, by k_asm, (by first | exact rfl | assumption), (by first | exact Nat.le_of_ble_eq_true rfl | ((try simp only [depth_under_make, depth_under_kw, depth_in1, depth_deeper, depth_caller]); (try dsimp only [ktrTop]); first | ((try simp only [Nat.add_assoc, Nat.reduceAdd, Nat.reduceMul]); exact room9 (by assumption) (by rfl)) | omega)), (by first | exact Nat.le_of_ble_eq_true rfl | ((try simp only [units_in1, units_deeper, Around.mark_units, units_caller]); (try dsimp only [ktrTop]); first | ((try simp only [Nat.add_assoc, Nat.reduceAdd, Nat.reduceMul]); exact room9 (by assumption) (by rfl)) | omega))⟩); k_dflt (try (case uM => k_mem)); k_dflt (try (case uI => (refine' ⟨by k_mem, by k_mem, by k_mem, by k_updF, by assumption, by first | assumption | omega, by first | assumption | omega, by first | assumption | omega⟩))); k_dflt (try (case uH2 => (rw [lawOct_length]; omega))); k_dflt (try (case uH => ((repeat' (with_reducible apply And.intro)) <;> (first | with_reducible assumption | exact Nat.le_of_ble_eq_true rfl | assumption | exact Eq.trans (by assumption) (by assumption) | exact of_decide_eq_true rfl | omega | ((simp only [List.length_append, List.length_take, List.length_drop, List.length_cons, List.length_nil, List.length_reverse, lawOct_length]); omega))))); intros; (rename News _ _ _ _ => N9); (try dsimp only at N9); (try (rename AllLt _ _ => l9; simp only [AllLt] at l9)); (try k_fold))); k_steps; (all_goals (try k_data)))
  (all_goals (try k_data))
  refine' hret _ _ _ _ ⟨_, _, _, rfl, by assumption, rfl⟩ (by k_asm) (cb_drop (by k_asm) (fun q hq => hq))
theorem c_unp154 {n : Int} {b : Array UInt8} {t : Tok} (H : KBw.bInts b = (lawOct n 4).reverse ∧ 0 ≤ n ∧ n < 4294967296) :
    TCon w mean mg mb 154 [.bytes b t] 3 (n) := by
  obtain ⟨hb, h0, h1⟩ := H
  intro news
  k_fill
  have hrr := List.reverse_reverse (lawOct n 4)
  intro dp un gd cn cs a ccd cl outer A₀ base h₀ L m s Q E B F X N T hk hd hu hret
  k_dflt (refine' code_def ?k1 ?k2 ?k3 ?k4 ?k5 ?kA ?kF ?kK ?k6 ?k7 ?k8 ?k9 ?kB ?_ ?c2 ?c3 ?c4 ?c5; (case kA => exact rfl); (case kF => exact rfl); (case kK => first | exact rfl | assumption); (case k1 => k_asm); (case k2 => k_asm); (case k3 => k_asm); (case k4 => k_asm); (case k5 => k_asm); (case k6 => k_is); (case k7 => k_is); (case k8 => k_room); (case k9 => first | exact BindsTo.of_eq rfl | exact binds_K (by k_in) rfl (by k_is) rfl rfl rfl | fail "k_enter: no rule for these arguments"); (case c5 => decide); (case kB => exact locs rfl); (case c2 => exact rfl); (case c3 => exact rfl); (case c4 => exact rfl); k_whole; intro g' L' h' FG' F' N' B' X' T'; (try dsimp only); (try k_lift B'); (try k_fold))
  k_steps
  repeat' (refine go ?_; (first | (k_dflt (first | (refine' TCon.use (c_unpacked4 ?uH) ?uA ?_)); k_dflt (case uA => exact ⟨by k_asm, by k_asm, by k_asm, by k_asm, by k_asm, (by first | exact rfl | assumption), (by first | exact Nat.le_of_ble_eq_true rfl | ((try simp only [depth_under_make, depth_under_kw, depth_in1, depth_deeper, depth_caller]); (try dsimp only [ktrTop]); first | ((try simp only [Nat.add_assoc, Nat.reduceAdd, Nat.reduceMul]); exact room9 (by assumption) (by rfl)) | omega)), (by first | exact Nat.le_of_ble_eq_true rfl | ((try simp only [units_in1, units_deeper, Around.mark_units, units_caller]); (try dsimp only [ktrTop]); first | ((try simp only [Nat.add_assoc, Nat.reduceAdd, Nat.reduceMul]); exact room9 (by assumption) (by rfl)) | omega))⟩); k_dflt (try (case uM => k_mem)); k_dflt (try (case uI => (refine' ⟨by k_mem, by k_mem, by k_mem, by k_updF, by assumption, by first | assumption | omega, by first | assumption | omega, by first | assumption | omega⟩))); k_dflt (try (case uH2 => (rw [lawOct_length]; omega))); k_dflt (try (case uH => ((repeat' (with_reducible apply And.intro)) <;> (first | with_reducible assumption | exact Nat.le_of_ble_eq_true rfl | assumption | exact Eq.trans (by assumption) (by assumption) | exact of_decide_eq_true rfl | omega | ((simp only [List.length_append, List.length_take, List.length_drop, List.length_cons, List.length_nil, List.length_reverse, lawOct_length]); omega))))); intros; (rename News _ _ _ _ => N9); (try dsimp only at N9); (try (rename AllLt _ _ => l9; simp only [AllLt] at l9)); (try k_fold))); k_steps; (all_goals (try k_data)))
  (all_goals (try k_data))
  refine' hret _ _ _ _ ⟨_, _, _, rfl, by assumption, rfl⟩ (by k_asm) (cb_drop (by k_asm) (fun q hq => hq))
end

end
theorem off_WRT : True := by w_top off; trivial
section
section
variable {w : World} {mean : ExcName → Option Value} {mg mb : Str → Option Value} {fx dS ox dO : Addr} {k1 k2 k3 k4 k5 k6 : Tok} {ks : List Int} {p : Nat}
theorem c_wr500 {n : Int} {t : Tok} (H : 0 ≤ n ∧ n < 256 ∧ p ≤ ks.length ∧ ks.length ≤ 900000) :
    FCon w mean mg mb 500 fx dS ox dO k1 k2 k3 k4 k5 k6 ks p [.ref fx, .int n t] 7 (ks.take p ++ (lawOct n 1) ++ ks.drop (p + (lawOct n 1).length)) (p + (lawOct n 1).length) (fun v : Value => v) (fun _ => True) := by
  obtain ⟨g0, g1, h1, h2⟩ := H
  have L8 : ks.length + (lawOct n 1).length ≤ 1000000 := add_le9 h2 (by rw [lawOct_length]; decide)
  intro o rest l1 l2 l3 ho hO
  have l4 : @LT.lt Nat _ dO dS := Nat.lt_trans l1 l2
  have l5 : @LT.lt Nat _ ox fx := Nat.lt_trans l2 l3
  have l6 : @LT.lt Nat _ dO fx := Nat.lt_trans l4 l3
  k_fill
  obtain ⟨b0, tb, q, tp, rfl, hb0, rfl⟩ := hO
  intro dp un gd cn cs a ccd cl outer A₀ base h₀ L m s Q E B F X N T hk hd hu hret
  k_dflt (refine' code_def ?k1 ?k2 ?k3 ?k4 ?k5 ?kA ?kF ?kK ?k6 ?k7 ?k8 ?k9 ?kB ?_ ?c2 ?c3 ?c4 ?c5; (case kA => exact rfl); (case kF => exact rfl); (case kK => first | exact rfl | assumption); (case k1 => k_asm); (case k2 => k_asm); (case k3 => k_asm); (case k4 => k_asm); (case k5 => k_asm); (case k6 => k_is); (case k7 => k_is); (case k8 => k_room); (case k9 => first | exact BindsTo.of_eq rfl | exact binds_K (by k_in) rfl (by k_is) rfl rfl rfl | fail "k_enter: no rule for these arguments"); (case c5 => decide); (case kB => exact locs rfl); (case c2 => exact rfl); (case c3 => exact rfl); (case c4 => exact rfl); k_whole; intro g' L' h' FG' F' N' B' X' T'; (try dsimp only); (try k_lift B'); (try k_fold))
  k_steps
  repeat' (refine go ?_; (first | (k_dflt (first | (refine' PCon.use (c_pk35 ?uH) ?uA ?_) | (refine' FCon.use (c_write ?uH) ?uA ?uI ?_)); k_dflt (case uA => exact ⟨by k_asm, by k_asm, by k_asm, by k_asm, by k_asm, (by first | exact rfl | assumption), (by first | exact Nat.le_of_ble_eq_true rfl | ((try simp only [depth_under_make, depth_under_kw, depth_in1, depth_deeper, depth_caller]); (try dsimp only [ktrTop]); first | ((try simp only [Nat.add_assoc, Nat.reduceAdd, Nat.reduceMul]); exact room9 (by assumption) (by rfl)) | omega)), (by first | exact Nat.le_of_ble_eq_true rfl | ((try simp only [units_in1, units_deeper, Around.mark_units, units_caller]); (try dsimp only [ktrTop]); first | ((try simp only [Nat.add_assoc, Nat.reduceAdd, Nat.reduceMul]); exact room9 (by assumption) (by rfl)) | omega))⟩); k_dflt (try (case uM => k_mem)); k_dflt (try (case uI => (refine' ⟨by k_mem, by k_mem, by k_mem, by k_updF, by assumption, by first | assumption | omega, by first | assumption | omega, by first | assumption | omega⟩))); k_dflt (try (case uH2 => (rw [lawOct_length]; omega))); k_dflt (try (case uH => ((repeat' (with_reducible apply And.intro)) <;> (first | with_reducible assumption | exact Nat.le_of_ble_eq_true rfl | assumption | exact Eq.trans (by assumption) (by assumption) | exact of_decide_eq_true rfl | omega | ((simp only [List.length_append, List.length_take, List.length_drop, List.length_cons, List.length_nil, List.length_reverse, lawOct_length]); omega))))); intros; (rename News _ _ _ _ => N9); (try dsimp only at N9); (try (rename AllLt _ _ => l9; simp only [AllLt] at l9)); (try k_fold))); k_steps; (all_goals (try k_data)))
  (all_goals (try k_data))
  refine' hret _ _ _ _ ⟨_, ⟨⟨_, _, _, _, rfl, by assumption, rfl⟩, _, rfl, trivial⟩, rfl⟩ (by k_asm) (cb_drop (by k_asm) ?_)
  rotate_right 1
  (focus (intro q hq; repeat (first | exact hq | apply List.mem_cons_of_mem)))
theorem c_wr514 {n : Int} {t : Tok} (H : -128 ≤ n ∧ n < 128 ∧ p ≤ ks.length ∧ ks.length ≤ 900000) :
    FCon w mean mg mb 514 fx dS ox dO k1 k2 k3 k4 k5 k6 ks p [.ref fx, .int n t] 7 (ks.take p ++ (lawOct n 1) ++ ks.drop (p + (lawOct n 1).length)) (p + (lawOct n 1).length) (fun v : Value => v) (fun _ => True) := by
  obtain ⟨g0, g1, h1, h2⟩ := H
  have L8 : ks.length + (lawOct n 1).length ≤ 1000000 := add_le9 h2 (by rw [lawOct_length]; decide)
  intro o rest l1 l2 l3 ho hO
  have l4 : @LT.lt Nat _ dO dS := Nat.lt_trans l1 l2
  have l5 : @LT.lt Nat _ ox fx := Nat.lt_trans l2 l3
  have l6 : @LT.lt Nat _ dO fx := Nat.lt_trans l4 l3
  k_fill
  obtain ⟨b0, tb, q, tp, rfl, hb0, rfl⟩ := hO
  intro dp un gd cn cs a ccd cl outer A₀ base h₀ L m s Q E B F X N T hk hd hu hret
  k_dflt (refine' code_def ?k1 ?k2 ?k3 ?k4 ?k5 ?kA ?kF ?kK ?k6 ?k7 ?k8 ?k9 ?kB ?_ ?c2 ?c3 ?c4 ?c5; (case kA => exact rfl); (case kF => exact rfl); (case kK => first | exact rfl | assumption); (case k1 => k_asm); (case k2 => k_asm); (case k3 => k_asm); (case k4 => k_asm); (case k5 => k_asm); (case k6 => k_is); (case k7 => k_is); (case k8 => k_room); (case k9 => first | exact BindsTo.of_eq rfl | exact binds_K (by k_in) rfl (by k_is) rfl rfl rfl | fail "k_enter: no rule for these arguments"); (case c5 => decide); (case kB => exact locs rfl); (case c2 => exact rfl); (case c3 => exact rfl); (case c4 => exact rfl); k_whole; intro g' L' h' FG' F' N' B' X' T'; (try dsimp only); (try k_lift B'); (try k_fold))
  k_steps
  repeat' (refine go ?_; (first | (k_dflt (first | (refine' PCon.use (c_pk42 ?uH) ?uA ?_) | (refine' FCon.use (c_write ?uH) ?uA ?uI ?_)); k_dflt (case uA => exact ⟨by k_asm, by k_asm, by k_asm, by k_asm, by k_asm, (by first | exact rfl | assumption), (by first | exact Nat.le_of_ble_eq_true rfl | ((try simp only [depth_under_make, depth_under_kw, depth_in1, depth_deeper, depth_caller]); (try dsimp only [ktrTop]); first | ((try simp only [Nat.add_assoc, Nat.reduceAdd, Nat.reduceMul]); exact room9 (by assumption) (by rfl)) | omega)), (by first | exact Nat.le_of_ble_eq_true rfl | ((try simp only [units_in1, units_deeper, Around.mark_units, units_caller]); (try dsimp only [ktrTop]); first | ((try simp only [Nat.add_assoc, Nat.reduceAdd, Nat.reduceMul]); exact room9 (by assumption) (by rfl)) | omega))⟩); k_dflt (try (case uM => k_mem)); k_dflt (try (case uI => (refine' ⟨by k_mem, by k_mem, by k_mem, by k_updF, by assumption, by first | assumption | omega, by first | assumption | omega, by first | assumption | omega⟩))); k_dflt (try (case uH2 => (rw [lawOct_length]; omega))); k_dflt (try (case uH => ((repeat' (with_reducible apply And.intro)) <;> (first | with_reducible assumption | exact Nat.le_of_ble_eq_true rfl | assumption | exact Eq.trans (by assumption) (by assumption) | exact of_decide_eq_true rfl | omega | ((simp only [List.length_append, List.length_take, List.length_drop, List.length_cons, List.length_nil, List.length_reverse, lawOct_length]); omega))))); intros; (rename News _ _ _ _ => N9); (try dsimp only at N9); (try (rename AllLt _ _ => l9; simp only [AllLt] at l9)); (try k_fold))); k_steps; (all_goals (try k_data)))
  (all_goals (try k_data))
  refine' hret _ _ _ _ ⟨_, ⟨⟨_, _, _, _, rfl, by assumption, rfl⟩, _, rfl, trivial⟩, rfl⟩ (by k_asm) (cb_drop (by k_asm) ?_)
  rotate_right 1
  (focus (intro q hq; repeat (first | exact hq | apply List.mem_cons_of_mem)))
theorem c_wr542 {n : Int} {t : Tok} (H : 0 ≤ n ∧ n < 65536 ∧ p ≤ ks.length ∧ ks.length ≤ 900000) :
    FCon w mean mg mb 542 fx dS ox dO k1 k2 k3 k4 k5 k6 ks p [.ref fx, .int n t] 7 (ks.take p ++ (lawOct n 2) ++ ks.drop (p + (lawOct n 2).length)) (p + (lawOct n 2).length) (fun v : Value => v) (fun _ => True) := by
  obtain ⟨g0, g1, h1, h2⟩ := H
  have L8 : ks.length + (lawOct n 2).length ≤ 1000000 := add_le9 h2 (by rw [lawOct_length]; decide)
  intro o rest l1 l2 l3 ho hO
  have l4 : @LT.lt Nat _ dO dS := Nat.lt_trans l1 l2
  have l5 : @LT.lt Nat _ ox fx := Nat.lt_trans l2 l3
  have l6 : @LT.lt Nat _ dO fx := Nat.lt_trans l4 l3
  k_fill
  obtain ⟨b0, tb, q, tp, rfl, hb0, rfl⟩ := hO
  intro dp un gd cn cs a ccd cl outer A₀ base h₀ L m s Q E B F X N T hk hd hu hret
  k_dflt (refine' code_def ?k1 ?k2 ?k3 ?k4 ?k5 ?kA ?kF ?kK ?k6 ?k7 ?k8 ?k9 ?kB ?_ ?c2 ?c3 ?c4 ?c5; (case kA => exact rfl); (case kF => exact rfl); (case kK => first | exact rfl | assumption); (case k1 => k_asm); (case k2 => k_asm); (case k3 => k_asm); (case k4 => k_asm); (case k5 => k_asm); (case k6 => k_is); (case k7 => k_is); (case k8 => k_room); (case k9 => first | exact BindsTo.of_eq rfl | exact binds_K (by k_in) rfl (by k_is) rfl rfl rfl | fail "k_enter: no rule for these arguments"); (case c5 => decide); (case kB => exact locs rfl); (case c2 => exact rfl); (case c3 => exact rfl); (case c4 => exact rfl); k_whole; intro g' L' h' FG' F' N' B' X' T'; (try dsimp only); (try k_lift B'); (try k_fold))
  k_steps
  repeat' (refine go ?_; (first | (k_dflt (first | (refine' PCon.use (c_pk49 ?uH) ?uA ?_) | (refine' FCon.use (c_write ?uH) ?uA ?uI ?_)); k_dflt (case uA => exact ⟨by k_asm, by k_asm, by k_asm, by k_asm, by k_asm, (by first | exact rfl | assumption), (by first | exact Nat.le_of_ble_eq_true rfl | ((try simp only [depth_under_make, depth_under_kw, depth_in1, depth_deeper, depth_caller]); (try dsimp only [ktrTop]); first | ((try simp only [Nat.add_assoc, Nat.reduceAdd, Nat.reduceMul]); exact room9 (by assumption) (by rfl)) | omega)), (by first | exact Nat.le_of_ble_eq_true rfl | ((try simp only [units_in1, units_deeper, Around.mark_units, units_caller]); (try dsimp only [ktrTop]); first | ((try simp only [Nat.add_assoc, Nat.reduceAdd, Nat.reduceMul]); exact room9 (by assumption) (by rfl)) | omega))⟩); k_dflt (try (case uM => k_mem)); k_dflt (try (case uI => (refine' ⟨by k_mem, by k_mem, by k_mem, by k_updF, by assumption, by first | assumption | omega, by first | assumption | omega, by first | assumption | omega⟩))); k_dflt (try (case uH2 => (rw [lawOct_length]; omega))); k_dflt (try (case uH => ((repeat' (with_reducible apply And.intro)) <;> (first | with_reducible assumption | exact Nat.le_of_ble_eq_true rfl | assumption | exact Eq.trans (by assumption) (by assumption) | exact of_decide_eq_true rfl | omega | ((simp only [List.length_append, List.length_take, List.length_drop, List.length_cons, List.length_nil, List.length_reverse, lawOct_length]); omega))))); intros; (rename News _ _ _ _ => N9); (try dsimp only at N9); (try (rename AllLt _ _ => l9; simp only [AllLt] at l9)); (try k_fold))); k_steps; (all_goals (try k_data)))
  (all_goals (try k_data))
  refine' hret _ _ _ _ ⟨_, ⟨⟨_, _, _, _, rfl, by assumption, rfl⟩, _, rfl, trivial⟩, rfl⟩ (by k_asm) (cb_drop (by k_asm) ?_)
  rotate_right 1
  (focus (intro q hq; repeat (first | exact hq | apply List.mem_cons_of_mem)))
theorem c_wr549 {n : Int} {t : Tok} (H : 0 ≤ n ∧ n < 65536 ∧ p ≤ ks.length ∧ ks.length ≤ 900000) :
    FCon w mean mg mb 549 fx dS ox dO k1 k2 k3 k4 k5 k6 ks p [.ref fx, .int n t] 7 (ks.take p ++ ((lawOct n 2).reverse) ++ ks.drop (p + ((lawOct n 2).reverse).length)) (p + ((lawOct n 2).reverse).length) (fun v : Value => v) (fun _ => True) := by
  obtain ⟨g0, g1, h1, h2⟩ := H
  have L8 : ks.length + ((lawOct n 2).reverse).length ≤ 1000000 := add_le9 h2 (by rw [List.length_reverse, lawOct_length]; decide)
  intro o rest l1 l2 l3 ho hO
  have l4 : @LT.lt Nat _ dO dS := Nat.lt_trans l1 l2
  have l5 : @LT.lt Nat _ ox fx := Nat.lt_trans l2 l3
  have l6 : @LT.lt Nat _ dO fx := Nat.lt_trans l4 l3
  k_fill
  obtain ⟨b0, tb, q, tp, rfl, hb0, rfl⟩ := hO
  intro dp un gd cn cs a ccd cl outer A₀ base h₀ L m s Q E B F X N T hk hd hu hret
  k_dflt (refine' code_def ?k1 ?k2 ?k3 ?k4 ?k5 ?kA ?kF ?kK ?k6 ?k7 ?k8 ?k9 ?kB ?_ ?c2 ?c3 ?c4 ?c5; (case kA => exact rfl); (case kF => exact rfl); (case kK => first | exact rfl | assumption); (case k1 => k_asm); (case k2 => k_asm); (case k3 => k_asm); (case k4 => k_asm); (case k5 => k_asm); (case k6 => k_is); (case k7 => k_is); (case k8 => k_room); (case k9 => first | exact BindsTo.of_eq rfl | exact binds_K (by k_in) rfl (by k_is) rfl rfl rfl | fail "k_enter: no rule for these arguments"); (case c5 => decide); (case kB => exact locs rfl); (case c2 => exact rfl); (case c3 => exact rfl); (case c4 => exact rfl); k_whole; intro g' L' h' FG' F' N' B' X' T'; (try dsimp only); (try k_lift B'); (try k_fold))
  k_steps
  repeat' (refine go ?_; (first | (k_dflt (first | (refine' PCon.use (c_pk84 ?uH) ?uA ?_) | (refine' FCon.use (c_write ?uH) ?uA ?uI ?_)); k_dflt (case uA => exact ⟨by k_asm, by k_asm, by k_asm, by k_asm, by k_asm, (by first | exact rfl | assumption), (by first | exact Nat.le_of_ble_eq_true rfl | ((try simp only [depth_under_make, depth_under_kw, depth_in1, depth_deeper, depth_caller]); (try dsimp only [ktrTop]); first | ((try simp only [Nat.add_assoc, Nat.reduceAdd, Nat.reduceMul]); exact room9 (by assumption) (by rfl)) | omega)), (by first | exact Nat.le_of_ble_eq_true rfl | ((try simp only [units_in1, units_deeper, Around.mark_units, units_caller]); (try dsimp only [ktrTop]); first | ((try simp only [Nat.add_assoc, Nat.reduceAdd, Nat.reduceMul]); exact room9 (by assumption) (by rfl)) | omega))⟩); k_dflt (try (case uM => k_mem)); k_dflt (try (case uI => (refine' ⟨by k_mem, by k_mem, by k_mem, by k_updF, by assumption, by first | assumption | omega, by first | assumption | omega, by first | assumption | omega⟩))); k_dflt (try (case uH2 => (rw [lawOct_length]; omega))); k_dflt (try (case uH => ((repeat' (with_reducible apply And.intro)) <;> (first | with_reducible assumption | exact Nat.le_of_ble_eq_true rfl | assumption | exact Eq.trans (by assumption) (by assumption) | exact of_decide_eq_true rfl | omega | ((simp only [List.length_append, List.length_take, List.length_drop, List.length_cons, List.length_nil, List.length_reverse, lawOct_length]); omega))))); intros; (rename News _ _ _ _ => N9); (try dsimp only at N9); (try (rename AllLt _ _ => l9; simp only [AllLt] at l9)); (try k_fold))); k_steps; (all_goals (try k_data)))
  (all_goals (try k_data))
  refine' hret _ _ _ _ ⟨_, ⟨⟨_, _, _, _, rfl, by assumption, rfl⟩, _, rfl, trivial⟩, rfl⟩ (by k_asm) (cb_drop (by k_asm) ?_)
  rotate_right 1
  (focus (intro q hq; repeat (first | exact hq | apply List.mem_cons_of_mem)))
theorem c_wr521 {n : Int} {t : Tok} (H : -2147483648 ≤ n ∧ n < 2147483648 ∧ p ≤ ks.length ∧ ks.length ≤ 900000) :
    FCon w mean mg mb 521 fx dS ox dO k1 k2 k3 k4 k5 k6 ks p [.ref fx, .int n t] 7 (ks.take p ++ (lawOct n 4) ++ ks.drop (p + (lawOct n 4).length)) (p + (lawOct n 4).length) (fun v : Value => v) (fun _ => True) := by
  obtain ⟨g0, g1, h1, h2⟩ := H
  have L8 : ks.length + (lawOct n 4).length ≤ 1000000 := add_le9 h2 (by rw [lawOct_length]; decide)
  intro o rest l1 l2 l3 ho hO
  have l4 : @LT.lt Nat _ dO dS := Nat.lt_trans l1 l2
  have l5 : @LT.lt Nat _ ox fx := Nat.lt_trans l2 l3
  have l6 : @LT.lt Nat _ dO fx := Nat.lt_trans l4 l3
  k_fill
  obtain ⟨b0, tb, q, tp, rfl, hb0, rfl⟩ := hO
  intro dp un gd cn cs a ccd cl outer A₀ base h₀ L m s Q E B F X N T hk hd hu hret
  k_dflt (refine' code_def ?k1 ?k2 ?k3 ?k4 ?k5 ?kA ?kF ?kK ?k6 ?k7 ?k8 ?k9 ?kB ?_ ?c2 ?c3 ?c4 ?c5; (case kA => exact rfl); (case kF => exact rfl); (case kK => first | exact rfl | assumption); (case k1 => k_asm); (case k2 => k_asm); (case k3 => k_asm); (case k4 => k_asm); (case k5 => k_asm); (case k6 => k_is); (case k7 => k_is); (case k8 => k_room); (case k9 => first | exact BindsTo.of_eq rfl | exact binds_K (by k_in) rfl (by k_is) rfl rfl rfl | fail "k_enter: no rule for these arguments"); (case c5 => decide); (case kB => exact locs rfl); (case c2 => exact rfl); (case c3 => exact rfl); (case c4 => exact rfl); k_whole; intro g' L' h' FG' F' N' B' X' T'; (try dsimp only); (try k_lift B'); (try k_fold))
  k_steps
  repeat' (refine go ?_; (first | (k_dflt (first | (refine' PCon.use (c_pk56 ?uH) ?uA ?_) | (refine' FCon.use (c_write ?uH) ?uA ?uI ?_)); k_dflt (case uA => exact ⟨by k_asm, by k_asm, by k_asm, by k_asm, by k_asm, (by first | exact rfl | assumption), (by first | exact Nat.le_of_ble_eq_true rfl | ((try simp only [depth_under_make, depth_under_kw, depth_in1, depth_deeper, depth_caller]); (try dsimp only [ktrTop]); first | ((try simp only [Nat.add_assoc, Nat.reduceAdd, Nat.reduceMul]); exact room9 (by assumption) (by rfl)) | omega)), (by first | exact Nat.le_of_ble_eq_true rfl | ((try simp only [units_in1, units_deeper, Around.mark_units, units_caller]); (try dsimp only [ktrTop]); first | ((try simp only [Nat.add_assoc, Nat.reduceAdd, Nat.reduceMul]); exact room9 (by assumption) (by rfl)) | omega))⟩); k_dflt (try (case uM => k_mem)); k_dflt (try (case uI => (refine' ⟨by k_mem, by k_mem, by k_mem, by k_updF, by assumption, by first | assumption | omega, by first | assumption | omega, by first | assumption | omega⟩))); k_dflt (try (case uH2 => (rw [lawOct_length]; omega))); k_dflt (try (case uH => ((repeat' (with_reducible apply And.intro)) <;> (first | with_reducible assumption | exact Nat.le_of_ble_eq_true rfl | assumption | exact Eq.trans (by assumption) (by assumption) | exact of_decide_eq_true rfl | omega | ((simp only [List.length_append, List.length_take, List.length_drop, List.length_cons, List.length_nil, List.length_reverse, lawOct_length]); omega))))); intros; (rename News _ _ _ _ => N9); (try dsimp only at N9); (try (rename AllLt _ _ => l9; simp only [AllLt] at l9)); (try k_fold))); k_steps; (all_goals (try k_data)))
  (all_goals (try k_data))
  refine' hret _ _ _ _ ⟨_, ⟨⟨_, _, _, _, rfl, by assumption, rfl⟩, _, rfl, trivial⟩, rfl⟩ (by k_asm) (cb_drop (by k_asm) ?_)
  rotate_right 1
  (focus (intro q hq; repeat (first | exact hq | apply List.mem_cons_of_mem)))
theorem c_wr528 {n : Int} {t : Tok} (H : 0 ≤ n ∧ n < 4294967296 ∧ p ≤ ks.length ∧ ks.length ≤ 900000) :
    FCon w mean mg mb 528 fx dS ox dO k1 k2 k3 k4 k5 k6 ks p [.ref fx, .int n t] 7 (ks.take p ++ (lawOct n 4) ++ ks.drop (p + (lawOct n 4).length)) (p + (lawOct n 4).length) (fun v : Value => v) (fun _ => True) := by
  obtain ⟨g0, g1, h1, h2⟩ := H
  have L8 : ks.length + (lawOct n 4).length ≤ 1000000 := add_le9 h2 (by rw [lawOct_length]; decide)
  intro o rest l1 l2 l3 ho hO
  have l4 : @LT.lt Nat _ dO dS := Nat.lt_trans l1 l2
  have l5 : @LT.lt Nat _ ox fx := Nat.lt_trans l2 l3
  have l6 : @LT.lt Nat _ dO fx := Nat.lt_trans l4 l3
  k_fill
  obtain ⟨b0, tb, q, tp, rfl, hb0, rfl⟩ := hO
  intro dp un gd cn cs a ccd cl outer A₀ base h₀ L m s Q E B F X N T hk hd hu hret
  k_dflt (refine' code_def ?k1 ?k2 ?k3 ?k4 ?k5 ?kA ?kF ?kK ?k6 ?k7 ?k8 ?k9 ?kB ?_ ?c2 ?c3 ?c4 ?c5; (case kA => exact rfl); (case kF => exact rfl); (case kK => first | exact rfl | assumption); (case k1 => k_asm); (case k2 => k_asm); (case k3 => k_asm); (case k4 => k_asm); (case k5 => k_asm); (case k6 => k_is); (case k7 => k_is); (case k8 => k_room); (case k9 => first | exact BindsTo.of_eq rfl | exact binds_K (by k_in) rfl (by k_is) rfl rfl rfl | fail "k_enter: no rule for these arguments"); (case c5 => decide); (case kB => exact locs rfl); (case c2 => exact rfl); (case c3 => exact rfl); (case c4 => exact rfl); k_whole; intro g' L' h' FG' F' N' B' X' T'; (try dsimp only); (try k_lift B'); (try k_fold))
  k_steps
  repeat' (refine go ?_; (first | (k_dflt (first | (refine' PCon.use (c_pk63 ?uH) ?uA ?_) | (refine' FCon.use (c_write ?uH) ?uA ?uI ?_)); k_dflt (case uA => exact ⟨by k_asm, by k_asm, by k_asm, by k_asm, by k_asm, (by first | exact rfl | assumption), (by first | exact Nat.le_of_ble_eq_true rfl | ((try simp only [depth_under_make, depth_under_kw, depth_in1, depth_deeper, depth_caller]); (try dsimp only [ktrTop]); first | ((try simp only [Nat.add_assoc, Nat.reduceAdd, Nat.reduceMul]); exact room9 (by assumption) (by rfl)) | omega)), (by first | exact Nat.le_of_ble_eq_true rfl | ((try simp only [units_in1, units_deeper, Around.mark_units, units_caller]); (try dsimp only [ktrTop]); first | ((try simp only [Nat.add_assoc, Nat.reduceAdd, Nat.reduceMul]); exact room9 (by assumption) (by rfl)) | omega))⟩); k_dflt (try (case uM => k_mem)); k_dflt (try (case uI => (refine' ⟨by k_mem, by k_mem, by k_mem, by k_updF, by assumption, by first | assumption | omega, by first | assumption | omega, by first | assumption | omega⟩))); k_dflt (try (case uH2 => (rw [lawOct_length]; omega))); k_dflt (try (case uH => ((repeat' (with_reducible apply And.intro)) <;> (first | with_reducible assumption | exact Nat.le_of_ble_eq_true rfl | assumption | exact Eq.trans (by assumption) (by assumption) | exact of_decide_eq_true rfl | omega | ((simp only [List.length_append, List.length_take, List.length_drop, List.length_cons, List.length_nil, List.length_reverse, lawOct_length]); omega))))); intros; (rename News _ _ _ _ => N9); (try dsimp only at N9); (try (rename AllLt _ _ => l9; simp only [AllLt] at l9)); (try k_fold))); k_steps; (all_goals (try k_data)))
  (all_goals (try k_data))
  refine' hret _ _ _ _ ⟨_, ⟨⟨_, _, _, _, rfl, by assumption, rfl⟩, _, rfl, trivial⟩, rfl⟩ (by k_asm) (cb_drop (by k_asm) ?_)
  rotate_right 1
  (focus (intro q hq; repeat (first | exact hq | apply List.mem_cons_of_mem)))
theorem c_wr535 {n : Int} {t : Tok} (H : 0 ≤ n ∧ n < 4294967296 ∧ p ≤ ks.length ∧ ks.length ≤ 900000) :
    FCon w mean mg mb 535 fx dS ox dO k1 k2 k3 k4 k5 k6 ks p [.ref fx, .int n t] 7 (ks.take p ++ ((lawOct n 4).reverse) ++ ks.drop (p + ((lawOct n 4).reverse).length)) (p + ((lawOct n 4).reverse).length) (fun v : Value => v) (fun _ => True) := by
  obtain ⟨g0, g1, h1, h2⟩ := H
  have L8 : ks.length + ((lawOct n 4).reverse).length ≤ 1000000 := add_le9 h2 (by rw [List.length_reverse, lawOct_length]; decide)
  intro o rest l1 l2 l3 ho hO
  have l4 : @LT.lt Nat _ dO dS := Nat.lt_trans l1 l2
  have l5 : @LT.lt Nat _ ox fx := Nat.lt_trans l2 l3
  have l6 : @LT.lt Nat _ dO fx := Nat.lt_trans l4 l3
  k_fill
  obtain ⟨b0, tb, q, tp, rfl, hb0, rfl⟩ := hO
  intro dp un gd cn cs a ccd cl outer A₀ base h₀ L m s Q E B F X N T hk hd hu hret
  k_dflt (refine' code_def ?k1 ?k2 ?k3 ?k4 ?k5 ?kA ?kF ?kK ?k6 ?k7 ?k8 ?k9 ?kB ?_ ?c2 ?c3 ?c4 ?c5; (case kA => exact rfl); (case kF => exact rfl); (case kK => first | exact rfl | assumption); (case k1 => k_asm); (case k2 => k_asm); (case k3 => k_asm); (case k4 => k_asm); (case k5 => k_asm); (case k6 => k_is); (case k7 => k_is); (case k8 => k_room); (case k9 => first | exact BindsTo.of_eq rfl | exact binds_K (by k_in) rfl (by k_is) rfl rfl rfl | fail "k_enter: no rule for these arguments"); (case c5 => decide); (case kB => exact locs rfl); (case c2 => exact rfl); (case c3 => exact rfl); (case c4 => exact rfl); k_whole; intro g' L' h' FG' F' N' B' X' T'; (try dsimp only); (try k_lift B'); (try k_fold))
  k_steps
  repeat' (refine go ?_; (first | (k_dflt (first | (refine' PCon.use (c_pk91 ?uH) ?uA ?_) | (refine' FCon.use (c_write ?uH) ?uA ?uI ?_)); k_dflt (case uA => exact ⟨by k_asm, by k_asm, by k_asm, by k_asm, by k_asm, (by first | exact rfl | assumption), (by first | exact Nat.le_of_ble_eq_true rfl | ((try simp only [depth_under_make, depth_under_kw, depth_in1, depth_deeper, depth_caller]); (try dsimp only [ktrTop]); first | ((try simp only [Nat.add_assoc, Nat.reduceAdd, Nat.reduceMul]); exact room9 (by assumption) (by rfl)) | omega)), (by first | exact Nat.le_of_ble_eq_true rfl | ((try simp only [units_in1, units_deeper, Around.mark_units, units_caller]); (try dsimp only [ktrTop]); first | ((try simp only [Nat.add_assoc, Nat.reduceAdd, Nat.reduceMul]); exact room9 (by assumption) (by rfl)) | omega))⟩); k_dflt (try (case uM => k_mem)); k_dflt (try (case uI => (refine' ⟨by k_mem, by k_mem, by k_mem, by k_updF, by assumption, by first | assumption | omega, by first | assumption | omega, by first | assumption | omega⟩))); k_dflt (try (case uH2 => (rw [lawOct_length]; omega))); k_dflt (try (case uH => ((repeat' (with_reducible apply And.intro)) <;> (first | with_reducible assumption | exact Nat.le_of_ble_eq_true rfl | assumption | exact Eq.trans (by assumption) (by assumption) | exact of_decide_eq_true rfl | omega | ((simp only [List.length_append, List.length_take, List.length_drop, List.length_cons, List.length_nil, List.length_reverse, lawOct_length]); omega))))); intros; (rename News _ _ _ _ => N9); (try dsimp only at N9); (try (rename AllLt _ _ => l9; simp only [AllLt] at l9)); (try k_fold))); k_steps; (all_goals (try k_data)))
  (all_goals (try k_data))
  refine' hret _ _ _ _ ⟨_, ⟨⟨_, _, _, _, rfl, by assumption, rfl⟩, _, rfl, trivial⟩, rfl⟩ (by k_asm) (cb_drop (by k_asm) ?_)
  rotate_right 1
  (focus (intro q hq; repeat (first | exact hq | apply List.mem_cons_of_mem)))
theorem c_wr556 {n : Int} {t : Tok} (H : -9223372036854775808 ≤ n ∧ n < 9223372036854775808 ∧ p ≤ ks.length ∧ ks.length ≤ 900000) :
    FCon w mean mg mb 556 fx dS ox dO k1 k2 k3 k4 k5 k6 ks p [.ref fx, .int n t] 7 (ks.take p ++ (lawOct n 8) ++ ks.drop (p + (lawOct n 8).length)) (p + (lawOct n 8).length) (fun v : Value => v) (fun _ => True) := by
  obtain ⟨g0, g1, h1, h2⟩ := H
  have L8 : ks.length + (lawOct n 8).length ≤ 1000000 := add_le9 h2 (by rw [lawOct_length]; decide)
  intro o rest l1 l2 l3 ho hO
  have l4 : @LT.lt Nat _ dO dS := Nat.lt_trans l1 l2
  have l5 : @LT.lt Nat _ ox fx := Nat.lt_trans l2 l3
  have l6 : @LT.lt Nat _ dO fx := Nat.lt_trans l4 l3
  k_fill
  obtain ⟨b0, tb, q, tp, rfl, hb0, rfl⟩ := hO
  intro dp un gd cn cs a ccd cl outer A₀ base h₀ L m s Q E B F X N T hk hd hu hret
  k_dflt (refine' code_def ?k1 ?k2 ?k3 ?k4 ?k5 ?kA ?kF ?kK ?k6 ?k7 ?k8 ?k9 ?kB ?_ ?c2 ?c3 ?c4 ?c5; (case kA => exact rfl); (case kF => exact rfl); (case kK => first | exact rfl | assumption); (case k1 => k_asm); (case k2 => k_asm); (case k3 => k_asm); (case k4 => k_asm); (case k5 => k_asm); (case k6 => k_is); (case k7 => k_is); (case k8 => k_room); (case k9 => first | exact BindsTo.of_eq rfl | exact binds_K (by k_in) rfl (by k_is) rfl rfl rfl | fail "k_enter: no rule for these arguments"); (case c5 => decide); (case kB => exact locs rfl); (case c2 => exact rfl); (case c3 => exact rfl); (case c4 => exact rfl); k_whole; intro g' L' h' FG' F' N' B' X' T'; (try dsimp only); (try k_lift B'); (try k_fold))
  k_steps
  repeat' (refine go ?_; (first | (k_dflt (first | (refine' PCon.use (c_pk70 ?uH) ?uA ?_) | (refine' FCon.use (c_write ?uH) ?uA ?uI ?_)); k_dflt (case uA => exact ⟨by k_asm, by k_asm, by k_asm, by k_asm, by k_asm, (by first | exact rfl | assumption), (by first | exact Nat.le_of_ble_eq_true rfl | ((try simp only [depth_under_make, depth_under_kw, depth_in1, depth_deeper, depth_caller]); (try dsimp only [ktrTop]); first | ((try simp only [Nat.add_assoc, Nat.reduceAdd, Nat.reduceMul]); exact room9 (by assumption) (by rfl)) | omega)), (by first | exact Nat.le_of_ble_eq_true rfl | ((try simp only [units_in1, units_deeper, Around.mark_units, units_caller]); (try dsimp only [ktrTop]); first | ((try simp only [Nat.add_assoc, Nat.reduceAdd, Nat.reduceMul]); exact room9 (by assumption) (by rfl)) | omega))⟩); k_dflt (try (case uM => k_mem)); k_dflt (try (case uI => (refine' ⟨by k_mem, by k_mem, by k_mem, by k_updF, by assumption, by first | assumption | omega, by first | assumption | omega, by first | assumption | omega⟩))); k_dflt (try (case uH2 => (rw [lawOct_length]; omega))); k_dflt (try (case uH => ((repeat' (with_reducible apply And.intro)) <;> (first | with_reducible assumption | exact Nat.le_of_ble_eq_true rfl | assumption | exact Eq.trans (by assumption) (by assumption) | exact of_decide_eq_true rfl | omega | ((simp only [List.length_append, List.length_take, List.length_drop, List.length_cons, List.length_nil, List.length_reverse, lawOct_length]); omega))))); intros; (rename News _ _ _ _ => N9); (try dsimp only at N9); (try (rename AllLt _ _ => l9; simp only [AllLt] at l9)); (try k_fold))); k_steps; (all_goals (try k_data)))
  (all_goals (try k_data))
  refine' hret _ _ _ _ ⟨_, ⟨⟨_, _, _, _, rfl, by assumption, rfl⟩, _, rfl, trivial⟩, rfl⟩ (by k_asm) (cb_drop (by k_asm) ?_)
  rotate_right 1
  (focus (intro q hq; repeat (first | exact hq | apply List.mem_cons_of_mem)))
theorem c_wr563 {n : Int} {t : Tok} (H : 0 ≤ n ∧ n < 18446744073709551616 ∧ p ≤ ks.length ∧ ks.length ≤ 900000) :
    FCon w mean mg mb 563 fx dS ox dO k1 k2 k3 k4 k5 k6 ks p [.ref fx, .int n t] 7 (ks.take p ++ (lawOct n 8) ++ ks.drop (p + (lawOct n 8).length)) (p + (lawOct n 8).length) (fun v : Value => v) (fun _ => True) := by
  obtain ⟨g0, g1, h1, h2⟩ := H
  have L8 : ks.length + (lawOct n 8).length ≤ 1000000 := add_le9 h2 (by rw [lawOct_length]; decide)
  intro o rest l1 l2 l3 ho hO
  have l4 : @LT.lt Nat _ dO dS := Nat.lt_trans l1 l2
  have l5 : @LT.lt Nat _ ox fx := Nat.lt_trans l2 l3
  have l6 : @LT.lt Nat _ dO fx := Nat.lt_trans l4 l3
  k_fill
  obtain ⟨b0, tb, q, tp, rfl, hb0, rfl⟩ := hO
  intro dp un gd cn cs a ccd cl outer A₀ base h₀ L m s Q E B F X N T hk hd hu hret
  k_dflt (refine' code_def ?k1 ?k2 ?k3 ?k4 ?k5 ?kA ?kF ?kK ?k6 ?k7 ?k8 ?k9 ?kB ?_ ?c2 ?c3 ?c4 ?c5; (case kA => exact rfl); (case kF => exact rfl); (case kK => first | exact rfl | assumption); (case k1 => k_asm); (case k2 => k_asm); (case k3 => k_asm); (case k4 => k_asm); (case k5 => k_asm); (case k6 => k_is); (case k7 => k_is); (case k8 => k_room); (case k9 => first | exact BindsTo.of_eq rfl | exact binds_K (by k_in) rfl (by k_is) rfl rfl rfl | fail "k_enter: no rule for these arguments"); (case c5 => decide); (case kB => exact locs rfl); (case c2 => exact rfl); (case c3 => exact rfl); (case c4 => exact rfl); k_whole; intro g' L' h' FG' F' N' B' X' T'; (try dsimp only); (try k_lift B'); (try k_fold))
  k_steps
  repeat' (refine go ?_; (first | (k_dflt (first | (refine' PCon.use (c_pk77 ?uH) ?uA ?_) | (refine' FCon.use (c_write ?uH) ?uA ?uI ?_)); k_dflt (case uA => exact ⟨by k_asm, by k_asm, by k_asm, by k_asm, by k_asm, (by first | exact rfl | assumption), (by first | exact Nat.le_of_ble_eq_true rfl | ((try simp only [depth_under_make, depth_under_kw, depth_in1, depth_deeper, depth_caller]); (try dsimp only [ktrTop]); first | ((try simp only [Nat.add_assoc, Nat.reduceAdd, Nat.reduceMul]); exact room9 (by assumption) (by rfl)) | omega)), (by first | exact Nat.le_of_ble_eq_true rfl | ((try simp only [units_in1, units_deeper, Around.mark_units, units_caller]); (try dsimp only [ktrTop]); first | ((try simp only [Nat.add_assoc, Nat.reduceAdd, Nat.reduceMul]); exact room9 (by assumption) (by rfl)) | omega))⟩); k_dflt (try (case uM => k_mem)); k_dflt (try (case uI => (refine' ⟨by k_mem, by k_mem, by k_mem, by k_updF, by assumption, by first | assumption | omega, by first | assumption | omega, by first | assumption | omega⟩))); k_dflt (try (case uH2 => (rw [lawOct_length]; omega))); k_dflt (try (case uH => ((repeat' (with_reducible apply And.intro)) <;> (first | with_reducible assumption | exact Nat.le_of_ble_eq_true rfl | assumption | exact Eq.trans (by assumption) (by assumption) | exact of_decide_eq_true rfl | omega | ((simp only [List.length_append, List.length_take, List.length_drop, List.length_cons, List.length_nil, List.length_reverse, lawOct_length]); omega))))); intros; (rename News _ _ _ _ => N9); (try dsimp only at N9); (try (rename AllLt _ _ => l9; simp only [AllLt] at l9)); (try k_fold))); k_steps; (all_goals (try k_data)))
  (all_goals (try k_data))
  refine' hret _ _ _ _ ⟨_, ⟨⟨_, _, _, _, rfl, by assumption, rfl⟩, _, rfl, trivial⟩, rfl⟩ (by k_asm) (cb_drop (by k_asm) ?_)
  rotate_right 1
  (focus (intro q hq; repeat (first | exact hq | apply List.mem_cons_of_mem)))
theorem c_wr472 {n : Nat} {t : Tok} (H : n < 4722366482869645213696 ∧ p ≤ ks.length ∧ ks.length ≤ 900000) :
    FCon w mean mg mb 472 fx dS ox dO k1 k2 k3 k4 k5 k6 ks p [.ref fx, .int n t] 8 (ks.take p ++ seven n ++ ks.drop (p + (seven n).length)) (p + (seven n).length) (fun v : Value => v) (fun _ => True) := by
  obtain ⟨g0, h1, h2⟩ := H
  have L8 : ks.length + (seven n).length ≤ 1000000 := add_le9 h2 (seven_len12 g0)
  intro o rest l1 l2 l3 ho hO
  have l4 : @LT.lt Nat _ dO dS := Nat.lt_trans l1 l2
  have l5 : @LT.lt Nat _ ox fx := Nat.lt_trans l2 l3
  have l6 : @LT.lt Nat _ dO fx := Nat.lt_trans l4 l3
  k_fill
  obtain ⟨b0, tb, q, tp, rfl, hb0, rfl⟩ := hO
  intro dp un gd cn cs a ccd cl outer A₀ base h₀ L m s Q E B F X N T hk hd hu hret
  k_dflt (refine' code_def ?k1 ?k2 ?k3 ?k4 ?k5 ?kA ?kF ?kK ?k6 ?k7 ?k8 ?k9 ?kB ?_ ?c2 ?c3 ?c4 ?c5; (case kA => exact rfl); (case kF => exact rfl); (case kK => first | exact rfl | assumption); (case k1 => k_asm); (case k2 => k_asm); (case k3 => k_asm); (case k4 => k_asm); (case k5 => k_asm); (case k6 => k_is); (case k7 => k_is); (case k8 => k_room); (case k9 => first | exact BindsTo.of_eq rfl | exact binds_K (by k_in) rfl (by k_is) rfl rfl rfl | fail "k_enter: no rule for these arguments"); (case c5 => decide); (case kB => exact locs rfl); (case c2 => exact rfl); (case c3 => exact rfl); (case c4 => exact rfl); k_whole; intro g' L' h' FG' F' N' B' X' T'; (try dsimp only); (try k_lift B'); (try k_fold))
  k_steps
  repeat' (refine go ?_; (first | (k_dflt (first | (refine' PCon.use (c_varint ?uH) ?uA ?_) | (refine' FCon.use (c_write ?uH) ?uA ?uI ?_)); k_dflt (case uA => exact ⟨by k_asm, by k_asm, by k_asm, by k_asm, by k_asm, (by first | exact rfl | assumption), (by first | exact Nat.le_of_ble_eq_true rfl | ((try simp only [depth_under_make, depth_under_kw, depth_in1, depth_deeper, depth_caller]); (try dsimp only [ktrTop]); first | ((try simp only [Nat.add_assoc, Nat.reduceAdd, Nat.reduceMul]); exact room9 (by assumption) (by rfl)) | omega)), (by first | exact Nat.le_of_ble_eq_true rfl | ((try simp only [units_in1, units_deeper, Around.mark_units, units_caller]); (try dsimp only [ktrTop]); first | ((try simp only [Nat.add_assoc, Nat.reduceAdd, Nat.reduceMul]); exact room9 (by assumption) (by rfl)) | omega))⟩); k_dflt (try (case uM => k_mem)); k_dflt (try (case uI => (refine' ⟨by k_mem, by k_mem, by k_mem, by k_updF, by assumption, by first | assumption | omega, by first | assumption | omega, by first | assumption | omega⟩))); k_dflt (try (case uH2 => (rw [lawOct_length]; omega))); k_dflt (try (case uH => ((repeat' (with_reducible apply And.intro)) <;> (first | with_reducible assumption | exact Nat.le_of_ble_eq_true rfl | assumption | exact Eq.trans (by assumption) (by assumption) | exact of_decide_eq_true rfl | omega | ((simp only [List.length_append, List.length_take, List.length_drop, List.length_cons, List.length_nil, List.length_reverse, lawOct_length]); omega))))); intros; (rename News _ _ _ _ => N9); (try dsimp only at N9); (try (rename AllLt _ _ => l9; simp only [AllLt] at l9)); (try k_fold))); k_steps; (all_goals (try k_data)))
  (all_goals (try k_data))
  refine' hret _ _ _ _ ⟨_, ⟨⟨_, _, _, _, rfl, by assumption, rfl⟩, _, rfl, trivial⟩, rfl⟩ (by k_asm) (cb_drop (by k_asm) ?_)
  rotate_right 1
  (focus (intro q hq; repeat (first | exact hq | apply List.mem_cons_of_mem)))
theorem c_wr479 {n : Int} {t : Tok} (H : -1000000000000000000000 ≤ n ∧ n ≤ 1000000000000000000000 ∧ (seven (if 0 ≤ n then 2 * n else -2 * n - 1).toNat).length ≤ 11 ∧ p ≤ ks.length ∧ ks.length ≤ 900000) :
    FCon w mean mg mb 479 fx dS ox dO k1 k2 k3 k4 k5 k6 ks p [.ref fx, .int n t] 10 (ks.take p ++ (seven (if 0 ≤ n then 2 * n else -2 * n - 1).toNat) ++ ks.drop (p + (seven (if 0 ≤ n then 2 * n else -2 * n - 1).toNat).length)) (p + (seven (if 0 ≤ n then 2 * n else -2 * n - 1).toNat).length) (fun v : Value => v) (fun _ => True) := by
  obtain ⟨g0, g1, g2, h1, h2⟩ := H
  have L8 : ks.length + (seven (if 0 ≤ n then 2 * n else -2 * n - 1).toNat).length ≤ 1000000 := add_le9 h2 g2
  intro o rest l1 l2 l3 ho hO
  have l4 : @LT.lt Nat _ dO dS := Nat.lt_trans l1 l2
  have l5 : @LT.lt Nat _ ox fx := Nat.lt_trans l2 l3
  have l6 : @LT.lt Nat _ dO fx := Nat.lt_trans l4 l3
  k_fill
  obtain ⟨b0, tb, q, tp, rfl, hb0, rfl⟩ := hO
  intro dp un gd cn cs a ccd cl outer A₀ base h₀ L m s Q E B F X N T hk hd hu hret
  k_dflt (refine' code_def ?k1 ?k2 ?k3 ?k4 ?k5 ?kA ?kF ?kK ?k6 ?k7 ?k8 ?k9 ?kB ?_ ?c2 ?c3 ?c4 ?c5; (case kA => exact rfl); (case kF => exact rfl); (case kK => first | exact rfl | assumption); (case k1 => k_asm); (case k2 => k_asm); (case k3 => k_asm); (case k4 => k_asm); (case k5 => k_asm); (case k6 => k_is); (case k7 => k_is); (case k8 => k_room); (case k9 => first | exact BindsTo.of_eq rfl | exact binds_K (by k_in) rfl (by k_is) rfl rfl rfl | fail "k_enter: no rule for these arguments"); (case c5 => decide); (case kB => exact locs rfl); (case c2 => exact rfl); (case c3 => exact rfl); (case c4 => exact rfl); k_whole; intro g' L' h' FG' F' N' B' X' T'; (try dsimp only); (try k_lift B'); (try k_fold))
  k_steps
  repeat' (refine go ?_; (first | (k_dflt (first | (refine' PCon.use (c_svarint ?uH) ?uA ?_) | (refine' FCon.use (c_write ?uH) ?uA ?uI ?_)); k_dflt (case uA => exact ⟨by k_asm, by k_asm, by k_asm, by k_asm, by k_asm, (by first | exact rfl | assumption), (by first | exact Nat.le_of_ble_eq_true rfl | ((try simp only [depth_under_make, depth_under_kw, depth_in1, depth_deeper, depth_caller]); (try dsimp only [ktrTop]); first | ((try simp only [Nat.add_assoc, Nat.reduceAdd, Nat.reduceMul]); exact room9 (by assumption) (by rfl)) | omega)), (by first | exact Nat.le_of_ble_eq_true rfl | ((try simp only [units_in1, units_deeper, Around.mark_units, units_caller]); (try dsimp only [ktrTop]); first | ((try simp only [Nat.add_assoc, Nat.reduceAdd, Nat.reduceMul]); exact room9 (by assumption) (by rfl)) | omega))⟩); k_dflt (try (case uM => k_mem)); k_dflt (try (case uI => (refine' ⟨by k_mem, by k_mem, by k_mem, by k_updF, by assumption, by first | assumption | omega, by first | assumption | omega, by first | assumption | omega⟩))); k_dflt (try (case uH2 => (rw [lawOct_length]; omega))); k_dflt (try (case uH => ((repeat' (with_reducible apply And.intro)) <;> (first | with_reducible assumption | exact Nat.le_of_ble_eq_true rfl | assumption | exact Eq.trans (by assumption) (by assumption) | exact of_decide_eq_true rfl | omega | ((simp only [List.length_append, List.length_take, List.length_drop, List.length_cons, List.length_nil, List.length_reverse, lawOct_length]); omega))))); intros; (rename News _ _ _ _ => N9); (try dsimp only at N9); (try (rename AllLt _ _ => l9; simp only [AllLt] at l9)); (try k_fold))); k_steps; (all_goals (try k_data)))
  (all_goals (try k_data))
  refine' hret _ _ _ _ ⟨_, ⟨⟨_, _, _, _, rfl, by assumption, rfl⟩, _, rfl, trivial⟩, rfl⟩ (by k_asm) (cb_drop (by k_asm) ?_)
  rotate_right 1
  (focus (intro q hq; repeat (first | exact hq | apply List.mem_cons_of_mem)))
end

end
theorem off_RDS : True := by w_top off; trivial
section
local macro_rules | `(tactic| walk_at "pad9") => `(tactic| skip)
section
variable {w : World} {mean : ExcName → Option Value} {mg mb : Str → Option Value} {fx dS ox dO : Addr} {k1 k2 k3 k4 k5 k6 : Tok} {ks : List Int} {p : Nat}
theorem c_rd570 {n : Int} (H : (ks.drop p).take 1 = lawOct n 1 ∧ -128 ≤ n ∧ n < 128 ∧ p + 1 ≤ ks.length ∧ ks.length ≤ 1000000) :
    FCon w mean mg mb 570 fx dS ox dO k1 k2 k3 k4 k5 k6 ks p [.ref fx] 7 (ks) (p + 1) (fun t' : Tok => Value.int (n) t') (fun _ => True) := by
  obtain ⟨h8, g0, g1, h2, h3⟩ := H
  intro o rest l1 l2 l3 ho hO
  have l4 : @LT.lt Nat _ dO dS := Nat.lt_trans l1 l2
  have l5 : @LT.lt Nat _ ox fx := Nat.lt_trans l2 l3
  have l6 : @LT.lt Nat _ dO fx := Nat.lt_trans l4 l3
  k_fill
  obtain ⟨b0, tb, q, tp, rfl, hb0, rfl⟩ := hO
  intro dp un gd cn cs a ccd cl outer A₀ base h₀ L m s Q E B F X N T hk hd hu hret
  k_dflt (refine' code_def ?k1 ?k2 ?k3 ?k4 ?k5 ?kA ?kF ?kK ?k6 ?k7 ?k8 ?k9 ?kB ?_ ?c2 ?c3 ?c4 ?c5; (case kA => exact rfl); (case kF => exact rfl); (case kK => first | exact rfl | assumption); (case k1 => k_asm); (case k2 => k_asm); (case k3 => k_asm); (case k4 => k_asm); (case k5 => k_asm); (case k6 => k_is); (case k7 => k_is); (case k8 => k_room); (case k9 => first | exact BindsTo.of_eq rfl | exact binds_K (by k_in) rfl (by k_is) rfl rfl rfl | fail "k_enter: no rule for these arguments"); (case c5 => decide); (case kB => exact locs rfl); (case c2 => exact rfl); (case c3 => exact rfl); (case c4 => exact rfl); k_whole; intro g' L' h' FG' F' N' B' X' T'; (try dsimp only); (try k_lift B'); (try k_fold))
  k_steps
  repeat' (refine go ?_; (first | (k_dflt (first | (refine' FCon.use (c_readI ?uH) ?uA ?uI ?_) | (refine' TCon.use (c_unp105 ?uH) ?uA ?_)); k_dflt (case uA => exact ⟨by k_asm, by k_asm, by k_asm, by k_asm, by k_asm, (by first | exact rfl | assumption), (by first | exact Nat.le_of_ble_eq_true rfl | ((try simp only [depth_under_make, depth_under_kw, depth_in1, depth_deeper, depth_caller]); (try dsimp only [ktrTop]); first | ((try simp only [Nat.add_assoc, Nat.reduceAdd, Nat.reduceMul]); exact room9 (by assumption) (by rfl)) | omega)), (by first | exact Nat.le_of_ble_eq_true rfl | ((try simp only [units_in1, units_deeper, Around.mark_units, units_caller]); (try dsimp only [ktrTop]); first | ((try simp only [Nat.add_assoc, Nat.reduceAdd, Nat.reduceMul]); exact room9 (by assumption) (by rfl)) | omega))⟩); k_dflt (try (case uM => k_mem)); k_dflt (try (case uI => (refine' ⟨by k_mem, by k_mem, by k_mem, by k_updF, by assumption, by first | assumption | omega, by first | assumption | omega, by first | assumption | omega⟩))); k_dflt (try (case uH2 => (rw [lawOct_length]; omega))); k_dflt (try (case uH => ((repeat' (with_reducible apply And.intro)) <;> (first | with_reducible assumption | exact Nat.le_of_ble_eq_true rfl | assumption | exact Eq.trans (by assumption) (by assumption) | exact of_decide_eq_true rfl | omega | ((simp only [List.length_append, List.length_take, List.length_drop, List.length_cons, List.length_nil, List.length_reverse, lawOct_length]); omega))))); intros; (rename News _ _ _ _ => N9); (try dsimp only at N9); (try (rename AllLt _ _ => l9; simp only [AllLt] at l9)); (try k_fold))); k_steps; (all_goals (try k_data)))
  (all_goals (try k_data))
  refine' hret _ _ _ _ ⟨_, ⟨⟨_, _, _, _, ?_, ?_, rfl⟩, _, rfl, trivial⟩, rfl⟩ (by k_asm) (cb_drop (by k_asm) ?_)
  rotate_right 1
  (focus (intro q hq; repeat (first | exact hq | apply List.mem_cons_of_mem)))
  · rfl
  · assumption
theorem c_rd577 {n : Int} (H : (ks.drop p).take 4 = lawOct n 4 ∧ -2147483648 ≤ n ∧ n < 2147483648 ∧ p + 4 ≤ ks.length ∧ ks.length ≤ 1000000) :
    FCon w mean mg mb 577 fx dS ox dO k1 k2 k3 k4 k5 k6 ks p [.ref fx] 7 (ks) (p + 4) (fun t' : Tok => Value.int (n) t') (fun _ => True) := by
  obtain ⟨h8, g0, g1, h2, h3⟩ := H
  intro o rest l1 l2 l3 ho hO
  have l4 : @LT.lt Nat _ dO dS := Nat.lt_trans l1 l2
  have l5 : @LT.lt Nat _ ox fx := Nat.lt_trans l2 l3
  have l6 : @LT.lt Nat _ dO fx := Nat.lt_trans l4 l3
  k_fill
  obtain ⟨b0, tb, q, tp, rfl, hb0, rfl⟩ := hO
  intro dp un gd cn cs a ccd cl outer A₀ base h₀ L m s Q E B F X N T hk hd hu hret
  k_dflt (refine' code_def ?k1 ?k2 ?k3 ?k4 ?k5 ?kA ?kF ?kK ?k6 ?k7 ?k8 ?k9 ?kB ?_ ?c2 ?c3 ?c4 ?c5; (case kA => exact rfl); (case kF => exact rfl); (case kK => first | exact rfl | assumption); (case k1 => k_asm); (case k2 => k_asm); (case k3 => k_asm); (case k4 => k_asm); (case k5 => k_asm); (case k6 => k_is); (case k7 => k_is); (case k8 => k_room); (case k9 => first | exact BindsTo.of_eq rfl | exact binds_K (by k_in) rfl (by k_is) rfl rfl rfl | fail "k_enter: no rule for these arguments"); (case c5 => decide); (case kB => exact locs rfl); (case c2 => exact rfl); (case c3 => exact rfl); (case c4 => exact rfl); k_whole; intro g' L' h' FG' F' N' B' X' T'; (try dsimp only); (try k_lift B'); (try k_fold))
  k_steps
  repeat' (refine go ?_; (first | (k_dflt (first | (refine' FCon.use (c_readI ?uH) ?uA ?uI ?_) | (refine' TCon.use (c_unp119 ?uH) ?uA ?_)); k_dflt (case uA => exact ⟨by k_asm, by k_asm, by k_asm, by k_asm, by k_asm, (by first | exact rfl | assumption), (by first | exact Nat.le_of_ble_eq_true rfl | ((try simp only [depth_under_make, depth_under_kw, depth_in1, depth_deeper, depth_caller]); (try dsimp only [ktrTop]); first | ((try simp only [Nat.add_assoc, Nat.reduceAdd, Nat.reduceMul]); exact room9 (by assumption) (by rfl)) | omega)), (by first | exact Nat.le_of_ble_eq_true rfl | ((try simp only [units_in1, units_deeper, Around.mark_units, units_caller]); (try dsimp only [ktrTop]); first | ((try simp only [Nat.add_assoc, Nat.reduceAdd, Nat.reduceMul]); exact room9 (by assumption) (by rfl)) | omega))⟩); k_dflt (try (case uM => k_mem)); k_dflt (try (case uI => (refine' ⟨by k_mem, by k_mem, by k_mem, by k_updF, by assumption, by first | assumption | omega, by first | assumption | omega, by first | assumption | omega⟩))); k_dflt (try (case uH2 => (rw [lawOct_length]; omega))); k_dflt (try (case uH => ((repeat' (with_reducible apply And.intro)) <;> (first | with_reducible assumption | exact Nat.le_of_ble_eq_true rfl | assumption | exact Eq.trans (by assumption) (by assumption) | exact of_decide_eq_true rfl | omega | ((simp only [List.length_append, List.length_take, List.length_drop, List.length_cons, List.length_nil, List.length_reverse, lawOct_length]); omega))))); intros; (rename News _ _ _ _ => N9); (try dsimp only at N9); (try (rename AllLt _ _ => l9; simp only [AllLt] at l9)); (try k_fold))); k_steps; (all_goals (try k_data)))
  (all_goals (try k_data))
  refine' hret _ _ _ _ ⟨_, ⟨⟨_, _, _, _, ?_, ?_, rfl⟩, _, rfl, trivial⟩, rfl⟩ (by k_asm) (cb_drop (by k_asm) ?_)
  rotate_right 1
  (focus (intro q hq; repeat (first | exact hq | apply List.mem_cons_of_mem)))
  · rfl
  · assumption
theorem c_rd584 {n : Int} (H : (ks.drop p).take 4 = lawOct n 4 ∧ 0 ≤ n ∧ n < 4294967296 ∧ p + 4 ≤ ks.length ∧ ks.length ≤ 1000000) :
    FCon w mean mg mb 584 fx dS ox dO k1 k2 k3 k4 k5 k6 ks p [.ref fx] 7 (ks) (p + 4) (fun t' : Tok => Value.int (n) t') (fun _ => True) := by
  obtain ⟨h8, g0, g1, h2, h3⟩ := H
  intro o rest l1 l2 l3 ho hO
  have l4 : @LT.lt Nat _ dO dS := Nat.lt_trans l1 l2
  have l5 : @LT.lt Nat _ ox fx := Nat.lt_trans l2 l3
  have l6 : @LT.lt Nat _ dO fx := Nat.lt_trans l4 l3
  k_fill
  obtain ⟨b0, tb, q, tp, rfl, hb0, rfl⟩ := hO
  intro dp un gd cn cs a ccd cl outer A₀ base h₀ L m s Q E B F X N T hk hd hu hret
  k_dflt (refine' code_def ?k1 ?k2 ?k3 ?k4 ?k5 ?kA ?kF ?kK ?k6 ?k7 ?k8 ?k9 ?kB ?_ ?c2 ?c3 ?c4 ?c5; (case kA => exact rfl); (case kF => exact rfl); (case kK => first | exact rfl | assumption); (case k1 => k_asm); (case k2 => k_asm); (case k3 => k_asm); (case k4 => k_asm); (case k5 => k_asm); (case k6 => k_is); (case k7 => k_is); (case k8 => k_room); (case k9 => first | exact BindsTo.of_eq rfl | exact binds_K (by k_in) rfl (by k_is) rfl rfl rfl | fail "k_enter: no rule for these arguments"); (case c5 => decide); (case kB => exact locs rfl); (case c2 => exact rfl); (case c3 => exact rfl); (case c4 => exact rfl); k_whole; intro g' L' h' FG' F' N' B' X' T'; (try dsimp only); (try k_lift B'); (try k_fold))
  k_steps
  repeat' (refine go ?_; (first | (k_dflt (first | (refine' FCon.use (c_readI ?uH) ?uA ?uI ?_) | (refine' TCon.use (c_unp126 ?uH) ?uA ?_)); k_dflt (case uA => exact ⟨by k_asm, by k_asm, by k_asm, by k_asm, by k_asm, (by first | exact rfl | assumption), (by first | exact Nat.le_of_ble_eq_true rfl | ((try simp only [depth_under_make, depth_under_kw, depth_in1, depth_deeper, depth_caller]); (try dsimp only [ktrTop]); first | ((try simp only [Nat.add_assoc, Nat.reduceAdd, Nat.reduceMul]); exact room9 (by assumption) (by rfl)) | omega)), (by first | exact Nat.le_of_ble_eq_true rfl | ((try simp only [units_in1, units_deeper, Around.mark_units, units_caller]); (try dsimp only [ktrTop]); first | ((try simp only [Nat.add_assoc, Nat.reduceAdd, Nat.reduceMul]); exact room9 (by assumption) (by rfl)) | omega))⟩); k_dflt (try (case uM => k_mem)); k_dflt (try (case uI => (refine' ⟨by k_mem, by k_mem, by k_mem, by k_updF, by assumption, by first | assumption | omega, by first | assumption | omega, by first | assumption | omega⟩))); k_dflt (try (case uH2 => (rw [lawOct_length]; omega))); k_dflt (try (case uH => ((repeat' (with_reducible apply And.intro)) <;> (first | with_reducible assumption | exact Nat.le_of_ble_eq_true rfl | assumption | exact Eq.trans (by assumption) (by assumption) | exact of_decide_eq_true rfl | omega | ((simp only [List.length_append, List.length_take, List.length_drop, List.length_cons, List.length_nil, List.length_reverse, lawOct_length]); omega))))); intros; (rename News _ _ _ _ => N9); (try dsimp only at N9); (try (rename AllLt _ _ => l9; simp only [AllLt] at l9)); (try k_fold))); k_steps; (all_goals (try k_data)))
  (all_goals (try k_data))
  refine' hret _ _ _ _ ⟨_, ⟨⟨_, _, _, _, ?_, ?_, rfl⟩, _, rfl, trivial⟩, rfl⟩ (by k_asm) (cb_drop (by k_asm) ?_)
  rotate_right 1
  (focus (intro q hq; repeat (first | exact hq | apply List.mem_cons_of_mem)))
  · rfl
  · assumption
theorem c_rd591 {n : Int} (H : (ks.drop p).take 4 = (lawOct n 4).reverse ∧ 0 ≤ n ∧ n < 4294967296 ∧ p + 4 ≤ ks.length ∧ ks.length ≤ 1000000) :
    FCon w mean mg mb 591 fx dS ox dO k1 k2 k3 k4 k5 k6 ks p [.ref fx] 7 (ks) (p + 4) (fun t' : Tok => Value.int (n) t') (fun _ => True) := by
  obtain ⟨h8, g0, g1, h2, h3⟩ := H
  intro o rest l1 l2 l3 ho hO
  have l4 : @LT.lt Nat _ dO dS := Nat.lt_trans l1 l2
  have l5 : @LT.lt Nat _ ox fx := Nat.lt_trans l2 l3
  have l6 : @LT.lt Nat _ dO fx := Nat.lt_trans l4 l3
  k_fill
  obtain ⟨b0, tb, q, tp, rfl, hb0, rfl⟩ := hO
  intro dp un gd cn cs a ccd cl outer A₀ base h₀ L m s Q E B F X N T hk hd hu hret
  k_dflt (refine' code_def ?k1 ?k2 ?k3 ?k4 ?k5 ?kA ?kF ?kK ?k6 ?k7 ?k8 ?k9 ?kB ?_ ?c2 ?c3 ?c4 ?c5; (case kA => exact rfl); (case kF => exact rfl); (case kK => first | exact rfl | assumption); (case k1 => k_asm); (case k2 => k_asm); (case k3 => k_asm); (case k4 => k_asm); (case k5 => k_asm); (case k6 => k_is); (case k7 => k_is); (case k8 => k_room); (case k9 => first | exact BindsTo.of_eq rfl | exact binds_K (by k_in) rfl (by k_is) rfl rfl rfl | fail "k_enter: no rule for these arguments"); (case c5 => decide); (case kB => exact locs rfl); (case c2 => exact rfl); (case c3 => exact rfl); (case c4 => exact rfl); k_whole; intro g' L' h' FG' F' N' B' X' T'; (try dsimp only); (try k_lift B'); (try k_fold))
  k_steps
  repeat' (refine go ?_; (first | (k_dflt (first | (refine' FCon.use (c_readI ?uH) ?uA ?uI ?_) | (refine' TCon.use (c_unp154 ?uH) ?uA ?_)); k_dflt (case uA => exact ⟨by k_asm, by k_asm, by k_asm, by k_asm, by k_asm, (by first | exact rfl | assumption), (by first | exact Nat.le_of_ble_eq_true rfl | ((try simp only [depth_under_make, depth_under_kw, depth_in1, depth_deeper, depth_caller]); (try dsimp only [ktrTop]); first | ((try simp only [Nat.add_assoc, Nat.reduceAdd, Nat.reduceMul]); exact room9 (by assumption) (by rfl)) | omega)), (by first | exact Nat.le_of_ble_eq_true rfl | ((try simp only [units_in1, units_deeper, Around.mark_units, units_caller]); (try dsimp only [ktrTop]); first | ((try simp only [Nat.add_assoc, Nat.reduceAdd, Nat.reduceMul]); exact room9 (by assumption) (by rfl)) | omega))⟩); k_dflt (try (case uM => k_mem)); k_dflt (try (case uI => (refine' ⟨by k_mem, by k_mem, by k_mem, by k_updF, by assumption, by first | assumption | omega, by first | assumption | omega, by first | assumption | omega⟩))); k_dflt (try (case uH2 => (rw [lawOct_length]; omega))); k_dflt (try (case uH => ((repeat' (with_reducible apply And.intro)) <;> (first | with_reducible assumption | exact Nat.le_of_ble_eq_true rfl | assumption | exact Eq.trans (by assumption) (by assumption) | exact of_decide_eq_true rfl | omega | ((simp only [List.length_append, List.length_take, List.length_drop, List.length_cons, List.length_nil, List.length_reverse, lawOct_length]); omega))))); intros; (rename News _ _ _ _ => N9); (try dsimp only at N9); (try (rename AllLt _ _ => l9; simp only [AllLt] at l9)); (try k_fold))); k_steps; (all_goals (try k_data)))
  (all_goals (try k_data))
  refine' hret _ _ _ _ ⟨_, ⟨⟨_, _, _, _, ?_, ?_, rfl⟩, _, rfl, trivial⟩, rfl⟩ (by k_asm) (cb_drop (by k_asm) ?_)
  rotate_right 1
  (focus (intro q hq; repeat (first | exact hq | apply List.mem_cons_of_mem)))
  · rfl
  · assumption
theorem c_rd598 {n : Int} (H : (ks.drop p).take 2 = lawOct n 2 ∧ 0 ≤ n ∧ n < 65536 ∧ p + 2 ≤ ks.length ∧ ks.length ≤ 1000000) :
    FCon w mean mg mb 598 fx dS ox dO k1 k2 k3 k4 k5 k6 ks p [.ref fx] 7 (ks) (p + 2) (fun t' : Tok => Value.int (n) t') (fun _ => True) := by
  obtain ⟨h8, g0, g1, h2, h3⟩ := H
  intro o rest l1 l2 l3 ho hO
  have l4 : @LT.lt Nat _ dO dS := Nat.lt_trans l1 l2
  have l5 : @LT.lt Nat _ ox fx := Nat.lt_trans l2 l3
  have l6 : @LT.lt Nat _ dO fx := Nat.lt_trans l4 l3
  k_fill
  obtain ⟨b0, tb, q, tp, rfl, hb0, rfl⟩ := hO
  intro dp un gd cn cs a ccd cl outer A₀ base h₀ L m s Q E B F X N T hk hd hu hret
  k_dflt (refine' code_def ?k1 ?k2 ?k3 ?k4 ?k5 ?kA ?kF ?kK ?k6 ?k7 ?k8 ?k9 ?kB ?_ ?c2 ?c3 ?c4 ?c5; (case kA => exact rfl); (case kF => exact rfl); (case kK => first | exact rfl | assumption); (case k1 => k_asm); (case k2 => k_asm); (case k3 => k_asm); (case k4 => k_asm); (case k5 => k_asm); (case k6 => k_is); (case k7 => k_is); (case k8 => k_room); (case k9 => first | exact BindsTo.of_eq rfl | exact binds_K (by k_in) rfl (by k_is) rfl rfl rfl | fail "k_enter: no rule for these arguments"); (case c5 => decide); (case kB => exact locs rfl); (case c2 => exact rfl); (case c3 => exact rfl); (case c4 => exact rfl); k_whole; intro g' L' h' FG' F' N' B' X' T'; (try dsimp only); (try k_lift B'); (try k_fold))
  k_steps
  repeat' (refine go ?_; (first | (k_dflt (first | (refine' FCon.use (c_readI ?uH) ?uA ?uI ?_) | (refine' TCon.use (c_unp112 ?uH) ?uA ?_)); k_dflt (case uA => exact ⟨by k_asm, by k_asm, by k_asm, by k_asm, by k_asm, (by first | exact rfl | assumption), (by first | exact Nat.le_of_ble_eq_true rfl | ((try simp only [depth_under_make, depth_under_kw, depth_in1, depth_deeper, depth_caller]); (try dsimp only [ktrTop]); first | ((try simp only [Nat.add_assoc, Nat.reduceAdd, Nat.reduceMul]); exact room9 (by assumption) (by rfl)) | omega)), (by first | exact Nat.le_of_ble_eq_true rfl | ((try simp only [units_in1, units_deeper, Around.mark_units, units_caller]); (try dsimp only [ktrTop]); first | ((try simp only [Nat.add_assoc, Nat.reduceAdd, Nat.reduceMul]); exact room9 (by assumption) (by rfl)) | omega))⟩); k_dflt (try (case uM => k_mem)); k_dflt (try (case uI => (refine' ⟨by k_mem, by k_mem, by k_mem, by k_updF, by assumption, by first | assumption | omega, by first | assumption | omega, by first | assumption | omega⟩))); k_dflt (try (case uH2 => (rw [lawOct_length]; omega))); k_dflt (try (case uH => ((repeat' (with_reducible apply And.intro)) <;> (first | with_reducible assumption | exact Nat.le_of_ble_eq_true rfl | assumption | exact Eq.trans (by assumption) (by assumption) | exact of_decide_eq_true rfl | omega | ((simp only [List.length_append, List.length_take, List.length_drop, List.length_cons, List.length_nil, List.length_reverse, lawOct_length]); omega))))); intros; (rename News _ _ _ _ => N9); (try dsimp only at N9); (try (rename AllLt _ _ => l9; simp only [AllLt] at l9)); (try k_fold))); k_steps; (all_goals (try k_data)))
  (all_goals (try k_data))
  refine' hret _ _ _ _ ⟨_, ⟨⟨_, _, _, _, ?_, ?_, rfl⟩, _, rfl, trivial⟩, rfl⟩ (by k_asm) (cb_drop (by k_asm) ?_)
  rotate_right 1
  (focus (intro q hq; repeat (first | exact hq | apply List.mem_cons_of_mem)))
  · rfl
  · assumption
theorem c_rd605 {n : Int} (H : (ks.drop p).take 2 = (lawOct n 2).reverse ∧ 0 ≤ n ∧ n < 65536 ∧ p + 2 ≤ ks.length ∧ ks.length ≤ 1000000) :
    FCon w mean mg mb 605 fx dS ox dO k1 k2 k3 k4 k5 k6 ks p [.ref fx] 7 (ks) (p + 2) (fun t' : Tok => Value.int (n) t') (fun _ => True) := by
  obtain ⟨h8, g0, g1, h2, h3⟩ := H
  intro o rest l1 l2 l3 ho hO
  have l4 : @LT.lt Nat _ dO dS := Nat.lt_trans l1 l2
  have l5 : @LT.lt Nat _ ox fx := Nat.lt_trans l2 l3
  have l6 : @LT.lt Nat _ dO fx := Nat.lt_trans l4 l3
  k_fill
  obtain ⟨b0, tb, q, tp, rfl, hb0, rfl⟩ := hO
  intro dp un gd cn cs a ccd cl outer A₀ base h₀ L m s Q E B F X N T hk hd hu hret
  k_dflt (refine' code_def ?k1 ?k2 ?k3 ?k4 ?k5 ?kA ?kF ?kK ?k6 ?k7 ?k8 ?k9 ?kB ?_ ?c2 ?c3 ?c4 ?c5; (case kA => exact rfl); (case kF => exact rfl); (case kK => first | exact rfl | assumption); (case k1 => k_asm); (case k2 => k_asm); (case k3 => k_asm); (case k4 => k_asm); (case k5 => k_asm); (case k6 => k_is); (case k7 => k_is); (case k8 => k_room); (case k9 => first | exact BindsTo.of_eq rfl | exact binds_K (by k_in) rfl (by k_is) rfl rfl rfl | fail "k_enter: no rule for these arguments"); (case c5 => decide); (case kB => exact locs rfl); (case c2 => exact rfl); (case c3 => exact rfl); (case c4 => exact rfl); k_whole; intro g' L' h' FG' F' N' B' X' T'; (try dsimp only); (try k_lift B'); (try k_fold))
  k_steps
  repeat' (refine go ?_; (first | (k_dflt (first | (refine' FCon.use (c_readI ?uH) ?uA ?uI ?_) | (refine' TCon.use (c_unp147 ?uH) ?uA ?_)); k_dflt (case uA => exact ⟨by k_asm, by k_asm, by k_asm, by k_asm, by k_asm, (by first | exact rfl | assumption), (by first | exact Nat.le_of_ble_eq_true rfl | ((try simp only [depth_under_make, depth_under_kw, depth_in1, depth_deeper, depth_caller]); (try dsimp only [ktrTop]); first | ((try simp only [Nat.add_assoc, Nat.reduceAdd, Nat.reduceMul]); exact room9 (by assumption) (by rfl)) | omega)), (by first | exact Nat.le_of_ble_eq_true rfl | ((try simp only [units_in1, units_deeper, Around.mark_units, units_caller]); (try dsimp only [ktrTop]); first | ((try simp only [Nat.add_assoc, Nat.reduceAdd, Nat.reduceMul]); exact room9 (by assumption) (by rfl)) | omega))⟩); k_dflt (try (case uM => k_mem)); k_dflt (try (case uI => (refine' ⟨by k_mem, by k_mem, by k_mem, by k_updF, by assumption, by first | assumption | omega, by first | assumption | omega, by first | assumption | omega⟩))); k_dflt (try (case uH2 => (rw [lawOct_length]; omega))); k_dflt (try (case uH => ((repeat' (with_reducible apply And.intro)) <;> (first | with_reducible assumption | exact Nat.le_of_ble_eq_true rfl | assumption | exact Eq.trans (by assumption) (by assumption) | exact of_decide_eq_true rfl | omega | ((simp only [List.length_append, List.length_take, List.length_drop, List.length_cons, List.length_nil, List.length_reverse, lawOct_length]); omega))))); intros; (rename News _ _ _ _ => N9); (try dsimp only at N9); (try (rename AllLt _ _ => l9; simp only [AllLt] at l9)); (try k_fold))); k_steps; (all_goals (try k_data)))
  (all_goals (try k_data))
  refine' hret _ _ _ _ ⟨_, ⟨⟨_, _, _, _, ?_, ?_, rfl⟩, _, rfl, trivial⟩, rfl⟩ (by k_asm) (cb_drop (by k_asm) ?_)
  rotate_right 1
  (focus (intro q hq; repeat (first | exact hq | apply List.mem_cons_of_mem)))
  · rfl
  · assumption
theorem c_rd612 {n : Int} (H : (ks.drop p).take 8 = lawOct n 8 ∧ -9223372036854775808 ≤ n ∧ n < 9223372036854775808 ∧ p + 8 ≤ ks.length ∧ ks.length ≤ 1000000) :
    FCon w mean mg mb 612 fx dS ox dO k1 k2 k3 k4 k5 k6 ks p [.ref fx] 7 (ks) (p + 8) (fun t' : Tok => Value.int (n) t') (fun _ => True) := by
  obtain ⟨h8, g0, g1, h2, h3⟩ := H
  intro o rest l1 l2 l3 ho hO
  have l4 : @LT.lt Nat _ dO dS := Nat.lt_trans l1 l2
  have l5 : @LT.lt Nat _ ox fx := Nat.lt_trans l2 l3
  have l6 : @LT.lt Nat _ dO fx := Nat.lt_trans l4 l3
  k_fill
  obtain ⟨b0, tb, q, tp, rfl, hb0, rfl⟩ := hO
  intro dp un gd cn cs a ccd cl outer A₀ base h₀ L m s Q E B F X N T hk hd hu hret
  k_dflt (refine' code_def ?k1 ?k2 ?k3 ?k4 ?k5 ?kA ?kF ?kK ?k6 ?k7 ?k8 ?k9 ?kB ?_ ?c2 ?c3 ?c4 ?c5; (case kA => exact rfl); (case kF => exact rfl); (case kK => first | exact rfl | assumption); (case k1 => k_asm); (case k2 => k_asm); (case k3 => k_asm); (case k4 => k_asm); (case k5 => k_asm); (case k6 => k_is); (case k7 => k_is); (case k8 => k_room); (case k9 => first | exact BindsTo.of_eq rfl | exact binds_K (by k_in) rfl (by k_is) rfl rfl rfl | fail "k_enter: no rule for these arguments"); (case c5 => decide); (case kB => exact locs rfl); (case c2 => exact rfl); (case c3 => exact rfl); (case c4 => exact rfl); k_whole; intro g' L' h' FG' F' N' B' X' T'; (try dsimp only); (try k_lift B'); (try k_fold))
  k_steps
  repeat' (refine go ?_; (first | (k_dflt (first | (refine' FCon.use (c_readI ?uH) ?uA ?uI ?_) | (refine' TCon.use (c_unp133 ?uH) ?uA ?_)); k_dflt (case uA => exact ⟨by k_asm, by k_asm, by k_asm, by k_asm, by k_asm, (by first | exact rfl | assumption), (by first | exact Nat.le_of_ble_eq_true rfl | ((try simp only [depth_under_make, depth_under_kw, depth_in1, depth_deeper, depth_caller]); (try dsimp only [ktrTop]); first | ((try simp only [Nat.add_assoc, Nat.reduceAdd, Nat.reduceMul]); exact room9 (by assumption) (by rfl)) | omega)), (by first | exact Nat.le_of_ble_eq_true rfl | ((try simp only [units_in1, units_deeper, Around.mark_units, units_caller]); (try dsimp only [ktrTop]); first | ((try simp only [Nat.add_assoc, Nat.reduceAdd, Nat.reduceMul]); exact room9 (by assumption) (by rfl)) | omega))⟩); k_dflt (try (case uM => k_mem)); k_dflt (try (case uI => (refine' ⟨by k_mem, by k_mem, by k_mem, by k_updF, by assumption, by first | assumption | omega, by first | assumption | omega, by first | assumption | omega⟩))); k_dflt (try (case uH2 => (rw [lawOct_length]; omega))); k_dflt (try (case uH => ((repeat' (with_reducible apply And.intro)) <;> (first | with_reducible assumption | exact Nat.le_of_ble_eq_true rfl | assumption | exact Eq.trans (by assumption) (by assumption) | exact of_decide_eq_true rfl | omega | ((simp only [List.length_append, List.length_take, List.length_drop, List.length_cons, List.length_nil, List.length_reverse, lawOct_length]); omega))))); intros; (rename News _ _ _ _ => N9); (try dsimp only at N9); (try (rename AllLt _ _ => l9; simp only [AllLt] at l9)); (try k_fold))); k_steps; (all_goals (try k_data)))
  (all_goals (try k_data))
  refine' hret _ _ _ _ ⟨_, ⟨⟨_, _, _, _, ?_, ?_, rfl⟩, _, rfl, trivial⟩, rfl⟩ (by k_asm) (cb_drop (by k_asm) ?_)
  rotate_right 1
  (focus (intro q hq; repeat (first | exact hq | apply List.mem_cons_of_mem)))
  · rfl
  · assumption
theorem c_rd619 {n : Int} (H : (ks.drop p).take 8 = lawOct n 8 ∧ 0 ≤ n ∧ n < 18446744073709551616 ∧ p + 8 ≤ ks.length ∧ ks.length ≤ 1000000) :
    FCon w mean mg mb 619 fx dS ox dO k1 k2 k3 k4 k5 k6 ks p [.ref fx] 7 (ks) (p + 8) (fun t' : Tok => Value.int (n) t') (fun _ => True) := by
  obtain ⟨h8, g0, g1, h2, h3⟩ := H
  intro o rest l1 l2 l3 ho hO
  have l4 : @LT.lt Nat _ dO dS := Nat.lt_trans l1 l2
  have l5 : @LT.lt Nat _ ox fx := Nat.lt_trans l2 l3
  have l6 : @LT.lt Nat _ dO fx := Nat.lt_trans l4 l3
  k_fill
  obtain ⟨b0, tb, q, tp, rfl, hb0, rfl⟩ := hO
  intro dp un gd cn cs a ccd cl outer A₀ base h₀ L m s Q E B F X N T hk hd hu hret
  k_dflt (refine' code_def ?k1 ?k2 ?k3 ?k4 ?k5 ?kA ?kF ?kK ?k6 ?k7 ?k8 ?k9 ?kB ?_ ?c2 ?c3 ?c4 ?c5; (case kA => exact rfl); (case kF => exact rfl); (case kK => first | exact rfl | assumption); (case k1 => k_asm); (case k2 => k_asm); (case k3 => k_asm); (case k4 => k_asm); (case k5 => k_asm); (case k6 => k_is); (case k7 => k_is); (case k8 => k_room); (case k9 => first | exact BindsTo.of_eq rfl | exact binds_K (by k_in) rfl (by k_is) rfl rfl rfl | fail "k_enter: no rule for these arguments"); (case c5 => decide); (case kB => exact locs rfl); (case c2 => exact rfl); (case c3 => exact rfl); (case c4 => exact rfl); k_whole; intro g' L' h' FG' F' N' B' X' T'; (try dsimp only); (try k_lift B'); (try k_fold))
  k_steps
  repeat' (refine go ?_; (first | (k_dflt (first | (refine' FCon.use (c_readI ?uH) ?uA ?uI ?_) | (refine' TCon.use (c_unp140 ?uH) ?uA ?_)); k_dflt (case uA => exact ⟨by k_asm, by k_asm, by k_asm, by k_asm, by k_asm, (by first | exact rfl | assumption), (by first | exact Nat.le_of_ble_eq_true rfl | ((try simp only [depth_under_make, depth_under_kw, depth_in1, depth_deeper, depth_caller]); (try dsimp only [ktrTop]); first | ((try simp only [Nat.add_assoc, Nat.reduceAdd, Nat.reduceMul]); exact room9 (by assumption) (by rfl)) | omega)), (by first | exact Nat.le_of_ble_eq_true rfl | ((try simp only [units_in1, units_deeper, Around.mark_units, units_caller]); (try dsimp only [ktrTop]); first | ((try simp only [Nat.add_assoc, Nat.reduceAdd, Nat.reduceMul]); exact room9 (by assumption) (by rfl)) | omega))⟩); k_dflt (try (case uM => k_mem)); k_dflt (try (case uI => (refine' ⟨by k_mem, by k_mem, by k_mem, by k_updF, by assumption, by first | assumption | omega, by first | assumption | omega, by first | assumption | omega⟩))); k_dflt (try (case uH2 => (rw [lawOct_length]; omega))); k_dflt (try (case uH => ((repeat' (with_reducible apply And.intro)) <;> (first | with_reducible assumption | exact Nat.le_of_ble_eq_true rfl | assumption | exact Eq.trans (by assumption) (by assumption) | exact of_decide_eq_true rfl | omega | ((simp only [List.length_append, List.length_take, List.length_drop, List.length_cons, List.length_nil, List.length_reverse, lawOct_length]); omega))))); intros; (rename News _ _ _ _ => N9); (try dsimp only at N9); (try (rename AllLt _ _ => l9; simp only [AllLt] at l9)); (try k_fold))); k_steps; (all_goals (try k_data)))
  (all_goals (try k_data))
  refine' hret _ _ _ _ ⟨_, ⟨⟨_, _, _, _, ?_, ?_, rfl⟩, _, rfl, trivial⟩, rfl⟩ (by k_asm) (cb_drop (by k_asm) ?_)
  rotate_right 1
  (focus (intro q hq; repeat (first | exact hq | apply List.mem_cons_of_mem)))
  · rfl
  · assumption
end

end
theorem off_GTS : True := by w_top off; trivial
section
section
variable {w : World} {mean : ExcName → Option Value} {mg mb : Str → Option Value} {fx dS ox dO : Addr} {k1 k2 k3 k4 k5 k6 : Tok} {ks : List Int} {p : Nat}
theorem c_gt633 {n : Int} {zp : Nat} {t : Tok} (H : (ks.drop zp).take 1 = lawOct n 1 ∧ 0 ≤ n ∧ n < 256 ∧ zp + 1 ≤ ks.length ∧ ks.length ≤ 1000000) :
    FCon w mean mg mb 633 fx dS ox dO k1 k2 k3 k4 k5 k6 ks p [.ref fx, .int zp t] 10 (ks) (zp + 1) (fun t' : Tok => Value.int (n) t') (fun _ => True) := by
  obtain ⟨h8, g0, g1, h2, h3⟩ := H
  intro o rest l1 l2 l3 ho hO
  have l4 : @LT.lt Nat _ dO dS := Nat.lt_trans l1 l2
  have l5 : @LT.lt Nat _ ox fx := Nat.lt_trans l2 l3
  have l6 : @LT.lt Nat _ dO fx := Nat.lt_trans l4 l3
  k_fill
  obtain ⟨b0, tb, q, tp, rfl, hb0, rfl⟩ := hO
  intro dp un gd cn cs a ccd cl outer A₀ base h₀ L m s Q E B F X N T hk hd hu hret
  k_dflt (refine' code_def ?k1 ?k2 ?k3 ?k4 ?k5 ?kA ?kF ?kK ?k6 ?k7 ?k8 ?k9 ?kB ?_ ?c2 ?c3 ?c4 ?c5; (case kA => exact rfl); (case kF => exact rfl); (case kK => first | exact rfl | assumption); (case k1 => k_asm); (case k2 => k_asm); (case k3 => k_asm); (case k4 => k_asm); (case k5 => k_asm); (case k6 => k_is); (case k7 => k_is); (case k8 => k_room); (case k9 => first | exact BindsTo.of_eq rfl | exact binds_K (by k_in) rfl (by k_is) rfl rfl rfl | fail "k_enter: no rule for these arguments"); (case c5 => decide); (case kB => exact locs rfl); (case c2 => exact rfl); (case c3 => exact rfl); (case c4 => exact rfl); k_whole; intro g' L' h' FG' F' N' B' X' T'; (try dsimp only); (try k_lift B'); (try k_fold))
  k_steps
  repeat' (refine go ?_; (first | (k_dflt (first | (refine' FCon.use (c_getI rfl ?uH) ?uA ?uI ?_) | (refine' TCon.use (c_unp98 ?uH) ?uA ?_)); k_dflt (case uA => exact ⟨by k_asm, by k_asm, by k_asm, by k_asm, by k_asm, (by first | exact rfl | assumption), (by first | exact Nat.le_of_ble_eq_true rfl | ((try simp only [depth_under_make, depth_under_kw, depth_in1, depth_deeper, depth_caller]); (try dsimp only [ktrTop]); first | ((try simp only [Nat.add_assoc, Nat.reduceAdd, Nat.reduceMul]); exact room9 (by assumption) (by rfl)) | omega)), (by first | exact Nat.le_of_ble_eq_true rfl | ((try simp only [units_in1, units_deeper, Around.mark_units, units_caller]); (try dsimp only [ktrTop]); first | ((try simp only [Nat.add_assoc, Nat.reduceAdd, Nat.reduceMul]); exact room9 (by assumption) (by rfl)) | omega))⟩); k_dflt (try (case uM => k_mem)); k_dflt (try (case uI => (refine' ⟨by k_mem, by k_mem, by k_mem, by k_updF, by assumption, by first | assumption | omega, by first | assumption | omega, by first | assumption | omega⟩))); k_dflt (try (case uH2 => (rw [lawOct_length]; omega))); k_dflt (try (case uH => ((repeat' (with_reducible apply And.intro)) <;> (first | with_reducible assumption | exact Nat.le_of_ble_eq_true rfl | assumption | exact Eq.trans (by assumption) (by assumption) | exact of_decide_eq_true rfl | omega | ((simp only [List.length_append, List.length_take, List.length_drop, List.length_cons, List.length_nil, List.length_reverse, lawOct_length]); omega))))); intros; (rename News _ _ _ _ => N9); (try dsimp only at N9); (try (rename AllLt _ _ => l9; simp only [AllLt] at l9)); (try k_fold))); k_steps; (all_goals (try k_data)))
  (all_goals (try k_data))
  refine' hret _ _ _ _ ⟨_, ⟨⟨_, _, _, _, ?_, ?_, rfl⟩, _, rfl, trivial⟩, rfl⟩ (by k_asm) (cb_drop (by k_asm) ?_)
  rotate_right 1
  (focus (intro q hq; repeat (first | exact hq | apply List.mem_cons_of_mem)))
  · rfl
  · assumption
theorem c_gt640 {n : Int} {zp : Nat} {t : Tok} (H : (ks.drop zp).take 1 = lawOct n 1 ∧ -128 ≤ n ∧ n < 128 ∧ zp + 1 ≤ ks.length ∧ ks.length ≤ 1000000) :
    FCon w mean mg mb 640 fx dS ox dO k1 k2 k3 k4 k5 k6 ks p [.ref fx, .int zp t] 10 (ks) (zp + 1) (fun t' : Tok => Value.int (n) t') (fun _ => True) := by
  obtain ⟨h8, g0, g1, h2, h3⟩ := H
  intro o rest l1 l2 l3 ho hO
  have l4 : @LT.lt Nat _ dO dS := Nat.lt_trans l1 l2
  have l5 : @LT.lt Nat _ ox fx := Nat.lt_trans l2 l3
  have l6 : @LT.lt Nat _ dO fx := Nat.lt_trans l4 l3
  k_fill
  obtain ⟨b0, tb, q, tp, rfl, hb0, rfl⟩ := hO
  intro dp un gd cn cs a ccd cl outer A₀ base h₀ L m s Q E B F X N T hk hd hu hret
  k_dflt (refine' code_def ?k1 ?k2 ?k3 ?k4 ?k5 ?kA ?kF ?kK ?k6 ?k7 ?k8 ?k9 ?kB ?_ ?c2 ?c3 ?c4 ?c5; (case kA => exact rfl); (case kF => exact rfl); (case kK => first | exact rfl | assumption); (case k1 => k_asm); (case k2 => k_asm); (case k3 => k_asm); (case k4 => k_asm); (case k5 => k_asm); (case k6 => k_is); (case k7 => k_is); (case k8 => k_room); (case k9 => first | exact BindsTo.of_eq rfl | exact binds_K (by k_in) rfl (by k_is) rfl rfl rfl | fail "k_enter: no rule for these arguments"); (case c5 => decide); (case kB => exact locs rfl); (case c2 => exact rfl); (case c3 => exact rfl); (case c4 => exact rfl); k_whole; intro g' L' h' FG' F' N' B' X' T'; (try dsimp only); (try k_lift B'); (try k_fold))
  k_steps
  repeat' (refine go ?_; (first | (k_dflt (first | (refine' FCon.use (c_getI rfl ?uH) ?uA ?uI ?_) | (refine' TCon.use (c_unp105 ?uH) ?uA ?_)); k_dflt (case uA => exact ⟨by k_asm, by k_asm, by k_asm, by k_asm, by k_asm, (by first | exact rfl | assumption), (by first | exact Nat.le_of_ble_eq_true rfl | ((try simp only [depth_under_make, depth_under_kw, depth_in1, depth_deeper, depth_caller]); (try dsimp only [ktrTop]); first | ((try simp only [Nat.add_assoc, Nat.reduceAdd, Nat.reduceMul]); exact room9 (by assumption) (by rfl)) | omega)), (by first | exact Nat.le_of_ble_eq_true rfl | ((try simp only [units_in1, units_deeper, Around.mark_units, units_caller]); (try dsimp only [ktrTop]); first | ((try simp only [Nat.add_assoc, Nat.reduceAdd, Nat.reduceMul]); exact room9 (by assumption) (by rfl)) | omega))⟩); k_dflt (try (case uM => k_mem)); k_dflt (try (case uI => (refine' ⟨by k_mem, by k_mem, by k_mem, by k_updF, by assumption, by first | assumption | omega, by first | assumption | omega, by first | assumption | omega⟩))); k_dflt (try (case uH2 => (rw [lawOct_length]; omega))); k_dflt (try (case uH => ((repeat' (with_reducible apply And.intro)) <;> (first | with_reducible assumption | exact Nat.le_of_ble_eq_true rfl | assumption | exact Eq.trans (by assumption) (by assumption) | exact of_decide_eq_true rfl | omega | ((simp only [List.length_append, List.length_take, List.length_drop, List.length_cons, List.length_nil, List.length_reverse, lawOct_length]); omega))))); intros; (rename News _ _ _ _ => N9); (try dsimp only at N9); (try (rename AllLt _ _ => l9; simp only [AllLt] at l9)); (try k_fold))); k_steps; (all_goals (try k_data)))
  (all_goals (try k_data))
  refine' hret _ _ _ _ ⟨_, ⟨⟨_, _, _, _, ?_, ?_, rfl⟩, _, rfl, trivial⟩, rfl⟩ (by k_asm) (cb_drop (by k_asm) ?_)
  rotate_right 1
  (focus (intro q hq; repeat (first | exact hq | apply List.mem_cons_of_mem)))
  · rfl
  · assumption
theorem c_gt647 {n : Int} {zp : Nat} {t : Tok} (H : (ks.drop zp).take 4 = lawOct n 4 ∧ -2147483648 ≤ n ∧ n < 2147483648 ∧ zp + 4 ≤ ks.length ∧ ks.length ≤ 1000000) :
    FCon w mean mg mb 647 fx dS ox dO k1 k2 k3 k4 k5 k6 ks p [.ref fx, .int zp t] 10 (ks) (zp + 4) (fun t' : Tok => Value.int (n) t') (fun _ => True) := by
  obtain ⟨h8, g0, g1, h2, h3⟩ := H
  intro o rest l1 l2 l3 ho hO
  have l4 : @LT.lt Nat _ dO dS := Nat.lt_trans l1 l2
  have l5 : @LT.lt Nat _ ox fx := Nat.lt_trans l2 l3
  have l6 : @LT.lt Nat _ dO fx := Nat.lt_trans l4 l3
  k_fill
  obtain ⟨b0, tb, q, tp, rfl, hb0, rfl⟩ := hO
  intro dp un gd cn cs a ccd cl outer A₀ base h₀ L m s Q E B F X N T hk hd hu hret
  k_dflt (refine' code_def ?k1 ?k2 ?k3 ?k4 ?k5 ?kA ?kF ?kK ?k6 ?k7 ?k8 ?k9 ?kB ?_ ?c2 ?c3 ?c4 ?c5; (case kA => exact rfl); (case kF => exact rfl); (case kK => first | exact rfl | assumption); (case k1 => k_asm); (case k2 => k_asm); (case k3 => k_asm); (case k4 => k_asm); (case k5 => k_asm); (case k6 => k_is); (case k7 => k_is); (case k8 => k_room); (case k9 => first | exact BindsTo.of_eq rfl | exact binds_K (by k_in) rfl (by k_is) rfl rfl rfl | fail "k_enter: no rule for these arguments"); (case c5 => decide); (case kB => exact locs rfl); (case c2 => exact rfl); (case c3 => exact rfl); (case c4 => exact rfl); k_whole; intro g' L' h' FG' F' N' B' X' T'; (try dsimp only); (try k_lift B'); (try k_fold))
  k_steps
  repeat' (refine go ?_; (first | (k_dflt (first | (refine' FCon.use (c_getI rfl ?uH) ?uA ?uI ?_) | (refine' TCon.use (c_unp119 ?uH) ?uA ?_)); k_dflt (case uA => exact ⟨by k_asm, by k_asm, by k_asm, by k_asm, by k_asm, (by first | exact rfl | assumption), (by first | exact Nat.le_of_ble_eq_true rfl | ((try simp only [depth_under_make, depth_under_kw, depth_in1, depth_deeper, depth_caller]); (try dsimp only [ktrTop]); first | ((try simp only [Nat.add_assoc, Nat.reduceAdd, Nat.reduceMul]); exact room9 (by assumption) (by rfl)) | omega)), (by first | exact Nat.le_of_ble_eq_true rfl | ((try simp only [units_in1, units_deeper, Around.mark_units, units_caller]); (try dsimp only [ktrTop]); first | ((try simp only [Nat.add_assoc, Nat.reduceAdd, Nat.reduceMul]); exact room9 (by assumption) (by rfl)) | omega))⟩); k_dflt (try (case uM => k_mem)); k_dflt (try (case uI => (refine' ⟨by k_mem, by k_mem, by k_mem, by k_updF, by assumption, by first | assumption | omega, by first | assumption | omega, by first | assumption | omega⟩))); k_dflt (try (case uH2 => (rw [lawOct_length]; omega))); k_dflt (try (case uH => ((repeat' (with_reducible apply And.intro)) <;> (first | with_reducible assumption | exact Nat.le_of_ble_eq_true rfl | assumption | exact Eq.trans (by assumption) (by assumption) | exact of_decide_eq_true rfl | omega | ((simp only [List.length_append, List.length_take, List.length_drop, List.length_cons, List.length_nil, List.length_reverse, lawOct_length]); omega))))); intros; (rename News _ _ _ _ => N9); (try dsimp only at N9); (try (rename AllLt _ _ => l9; simp only [AllLt] at l9)); (try k_fold))); k_steps; (all_goals (try k_data)))
  (all_goals (try k_data))
  refine' hret _ _ _ _ ⟨_, ⟨⟨_, _, _, _, ?_, ?_, rfl⟩, _, rfl, trivial⟩, rfl⟩ (by k_asm) (cb_drop (by k_asm) ?_)
  rotate_right 1
  (focus (intro q hq; repeat (first | exact hq | apply List.mem_cons_of_mem)))
  · rfl
  · assumption
theorem c_gt654 {n : Int} {zp : Nat} {t : Tok} (H : (ks.drop zp).take 4 = lawOct n 4 ∧ 0 ≤ n ∧ n < 4294967296 ∧ zp + 4 ≤ ks.length ∧ ks.length ≤ 1000000) :
    FCon w mean mg mb 654 fx dS ox dO k1 k2 k3 k4 k5 k6 ks p [.ref fx, .int zp t] 10 (ks) (zp + 4) (fun t' : Tok => Value.int (n) t') (fun _ => True) := by
  obtain ⟨h8, g0, g1, h2, h3⟩ := H
  intro o rest l1 l2 l3 ho hO
  have l4 : @LT.lt Nat _ dO dS := Nat.lt_trans l1 l2
  have l5 : @LT.lt Nat _ ox fx := Nat.lt_trans l2 l3
  have l6 : @LT.lt Nat _ dO fx := Nat.lt_trans l4 l3
  k_fill
  obtain ⟨b0, tb, q, tp, rfl, hb0, rfl⟩ := hO
  intro dp un gd cn cs a ccd cl outer A₀ base h₀ L m s Q E B F X N T hk hd hu hret
  k_dflt (refine' code_def ?k1 ?k2 ?k3 ?k4 ?k5 ?kA ?kF ?kK ?k6 ?k7 ?k8 ?k9 ?kB ?_ ?c2 ?c3 ?c4 ?c5; (case kA => exact rfl); (case kF => exact rfl); (case kK => first | exact rfl | assumption); (case k1 => k_asm); (case k2 => k_asm); (case k3 => k_asm); (case k4 => k_asm); (case k5 => k_asm); (case k6 => k_is); (case k7 => k_is); (case k8 => k_room); (case k9 => first | exact BindsTo.of_eq rfl | exact binds_K (by k_in) rfl (by k_is) rfl rfl rfl | fail "k_enter: no rule for these arguments"); (case c5 => decide); (case kB => exact locs rfl); (case c2 => exact rfl); (case c3 => exact rfl); (case c4 => exact rfl); k_whole; intro g' L' h' FG' F' N' B' X' T'; (try dsimp only); (try k_lift B'); (try k_fold))
  k_steps
  repeat' (refine go ?_; (first | (k_dflt (first | (refine' FCon.use (c_getI rfl ?uH) ?uA ?uI ?_) | (refine' TCon.use (c_unp126 ?uH) ?uA ?_)); k_dflt (case uA => exact ⟨by k_asm, by k_asm, by k_asm, by k_asm, by k_asm, (by first | exact rfl | assumption), (by first | exact Nat.le_of_ble_eq_true rfl | ((try simp only [depth_under_make, depth_under_kw, depth_in1, depth_deeper, depth_caller]); (try dsimp only [ktrTop]); first | ((try simp only [Nat.add_assoc, Nat.reduceAdd, Nat.reduceMul]); exact room9 (by assumption) (by rfl)) | omega)), (by first | exact Nat.le_of_ble_eq_true rfl | ((try simp only [units_in1, units_deeper, Around.mark_units, units_caller]); (try dsimp only [ktrTop]); first | ((try simp only [Nat.add_assoc, Nat.reduceAdd, Nat.reduceMul]); exact room9 (by assumption) (by rfl)) | omega))⟩); k_dflt (try (case uM => k_mem)); k_dflt (try (case uI => (refine' ⟨by k_mem, by k_mem, by k_mem, by k_updF, by assumption, by first | assumption | omega, by first | assumption | omega, by first | assumption | omega⟩))); k_dflt (try (case uH2 => (rw [lawOct_length]; omega))); k_dflt (try (case uH => ((repeat' (with_reducible apply And.intro)) <;> (first | with_reducible assumption | exact Nat.le_of_ble_eq_true rfl | assumption | exact Eq.trans (by assumption) (by assumption) | exact of_decide_eq_true rfl | omega | ((simp only [List.length_append, List.length_take, List.length_drop, List.length_cons, List.length_nil, List.length_reverse, lawOct_length]); omega))))); intros; (rename News _ _ _ _ => N9); (try dsimp only at N9); (try (rename AllLt _ _ => l9; simp only [AllLt] at l9)); (try k_fold))); k_steps; (all_goals (try k_data)))
  (all_goals (try k_data))
  refine' hret _ _ _ _ ⟨_, ⟨⟨_, _, _, _, ?_, ?_, rfl⟩, _, rfl, trivial⟩, rfl⟩ (by k_asm) (cb_drop (by k_asm) ?_)
  rotate_right 1
  (focus (intro q hq; repeat (first | exact hq | apply List.mem_cons_of_mem)))
  · rfl
  · assumption
theorem c_gt661 {n : Int} {zp : Nat} {t : Tok} (H : (ks.drop zp).take 2 = lawOct n 2 ∧ 0 ≤ n ∧ n < 65536 ∧ zp + 2 ≤ ks.length ∧ ks.length ≤ 1000000) :
    FCon w mean mg mb 661 fx dS ox dO k1 k2 k3 k4 k5 k6 ks p [.ref fx, .int zp t] 10 (ks) (zp + 2) (fun t' : Tok => Value.int (n) t') (fun _ => True) := by
  obtain ⟨h8, g0, g1, h2, h3⟩ := H
  intro o rest l1 l2 l3 ho hO
  have l4 : @LT.lt Nat _ dO dS := Nat.lt_trans l1 l2
  have l5 : @LT.lt Nat _ ox fx := Nat.lt_trans l2 l3
  have l6 : @LT.lt Nat _ dO fx := Nat.lt_trans l4 l3
  k_fill
  obtain ⟨b0, tb, q, tp, rfl, hb0, rfl⟩ := hO
  intro dp un gd cn cs a ccd cl outer A₀ base h₀ L m s Q E B F X N T hk hd hu hret
  k_dflt (refine' code_def ?k1 ?k2 ?k3 ?k4 ?k5 ?kA ?kF ?kK ?k6 ?k7 ?k8 ?k9 ?kB ?_ ?c2 ?c3 ?c4 ?c5; (case kA => exact rfl); (case kF => exact rfl); (case kK => first | exact rfl | assumption); (case k1 => k_asm); (case k2 => k_asm); (case k3 => k_asm); (case k4 => k_asm); (case k5 => k_asm); (case k6 => k_is); (case k7 => k_is); (case k8 => k_room); (case k9 => first | exact BindsTo.of_eq rfl | exact binds_K (by k_in) rfl (by k_is) rfl rfl rfl | fail "k_enter: no rule for these arguments"); (case c5 => decide); (case kB => exact locs rfl); (case c2 => exact rfl); (case c3 => exact rfl); (case c4 => exact rfl); k_whole; intro g' L' h' FG' F' N' B' X' T'; (try dsimp only); (try k_lift B'); (try k_fold))
  k_steps
  repeat' (refine go ?_; (first | (k_dflt (first | (refine' FCon.use (c_getI rfl ?uH) ?uA ?uI ?_) | (refine' TCon.use (c_unp112 ?uH) ?uA ?_)); k_dflt (case uA => exact ⟨by k_asm, by k_asm, by k_asm, by k_asm, by k_asm, (by first | exact rfl | assumption), (by first | exact Nat.le_of_ble_eq_true rfl | ((try simp only [depth_under_make, depth_under_kw, depth_in1, depth_deeper, depth_caller]); (try dsimp only [ktrTop]); first | ((try simp only [Nat.add_assoc, Nat.reduceAdd, Nat.reduceMul]); exact room9 (by assumption) (by rfl)) | omega)), (by first | exact Nat.le_of_ble_eq_true rfl | ((try simp only [units_in1, units_deeper, Around.mark_units, units_caller]); (try dsimp only [ktrTop]); first | ((try simp only [Nat.add_assoc, Nat.reduceAdd, Nat.reduceMul]); exact room9 (by assumption) (by rfl)) | omega))⟩); k_dflt (try (case uM => k_mem)); k_dflt (try (case uI => (refine' ⟨by k_mem, by k_mem, by k_mem, by k_updF, by assumption, by first | assumption | omega, by first | assumption | omega, by first | assumption | omega⟩))); k_dflt (try (case uH2 => (rw [lawOct_length]; omega))); k_dflt (try (case uH => ((repeat' (with_reducible apply And.intro)) <;> (first | with_reducible assumption | exact Nat.le_of_ble_eq_true rfl | assumption | exact Eq.trans (by assumption) (by assumption) | exact of_decide_eq_true rfl | omega | ((simp only [List.length_append, List.length_take, List.length_drop, List.length_cons, List.length_nil, List.length_reverse, lawOct_length]); omega))))); intros; (rename News _ _ _ _ => N9); (try dsimp only at N9); (try (rename AllLt _ _ => l9; simp only [AllLt] at l9)); (try k_fold))); k_steps; (all_goals (try k_data)))
  (all_goals (try k_data))
  refine' hret _ _ _ _ ⟨_, ⟨⟨_, _, _, _, ?_, ?_, rfl⟩, _, rfl, trivial⟩, rfl⟩ (by k_asm) (cb_drop (by k_asm) ?_)
  rotate_right 1
  (focus (intro q hq; repeat (first | exact hq | apply List.mem_cons_of_mem)))
  · rfl
  · assumption
theorem c_gt668 {n : Int} {zp : Nat} {t : Tok} (H : (ks.drop zp).take 8 = lawOct n 8 ∧ -9223372036854775808 ≤ n ∧ n < 9223372036854775808 ∧ zp + 8 ≤ ks.length ∧ ks.length ≤ 1000000) :
    FCon w mean mg mb 668 fx dS ox dO k1 k2 k3 k4 k5 k6 ks p [.ref fx, .int zp t] 10 (ks) (zp + 8) (fun t' : Tok => Value.int (n) t') (fun _ => True) := by
  obtain ⟨h8, g0, g1, h2, h3⟩ := H
  intro o rest l1 l2 l3 ho hO
  have l4 : @LT.lt Nat _ dO dS := Nat.lt_trans l1 l2
  have l5 : @LT.lt Nat _ ox fx := Nat.lt_trans l2 l3
  have l6 : @LT.lt Nat _ dO fx := Nat.lt_trans l4 l3
  k_fill
  obtain ⟨b0, tb, q, tp, rfl, hb0, rfl⟩ := hO
  intro dp un gd cn cs a ccd cl outer A₀ base h₀ L m s Q E B F X N T hk hd hu hret
  k_dflt (refine' code_def ?k1 ?k2 ?k3 ?k4 ?k5 ?kA ?kF ?kK ?k6 ?k7 ?k8 ?k9 ?kB ?_ ?c2 ?c3 ?c4 ?c5; (case kA => exact rfl); (case kF => exact rfl); (case kK => first | exact rfl | assumption); (case k1 => k_asm); (case k2 => k_asm); (case k3 => k_asm); (case k4 => k_asm); (case k5 => k_asm); (case k6 => k_is); (case k7 => k_is); (case k8 => k_room); (case k9 => first | exact BindsTo.of_eq rfl | exact binds_K (by k_in) rfl (by k_is) rfl rfl rfl | fail "k_enter: no rule for these arguments"); (case c5 => decide); (case kB => exact locs rfl); (case c2 => exact rfl); (case c3 => exact rfl); (case c4 => exact rfl); k_whole; intro g' L' h' FG' F' N' B' X' T'; (try dsimp only); (try k_lift B'); (try k_fold))
  k_steps
  repeat' (refine go ?_; (first | (k_dflt (first | (refine' FCon.use (c_getI rfl ?uH) ?uA ?uI ?_) | (refine' TCon.use (c_unp133 ?uH) ?uA ?_)); k_dflt (case uA => exact ⟨by k_asm, by k_asm, by k_asm, by k_asm, by k_asm, (by first | exact rfl | assumption), (by first | exact Nat.le_of_ble_eq_true rfl | ((try simp only [depth_under_make, depth_under_kw, depth_in1, depth_deeper, depth_caller]); (try dsimp only [ktrTop]); first | ((try simp only [Nat.add_assoc, Nat.reduceAdd, Nat.reduceMul]); exact room9 (by assumption) (by rfl)) | omega)), (by first | exact Nat.le_of_ble_eq_true rfl | ((try simp only [units_in1, units_deeper, Around.mark_units, units_caller]); (try dsimp only [ktrTop]); first | ((try simp only [Nat.add_assoc, Nat.reduceAdd, Nat.reduceMul]); exact room9 (by assumption) (by rfl)) | omega))⟩); k_dflt (try (case uM => k_mem)); k_dflt (try (case uI => (refine' ⟨by k_mem, by k_mem, by k_mem, by k_updF, by assumption, by first | assumption | omega, by first | assumption | omega, by first | assumption | omega⟩))); k_dflt (try (case uH2 => (rw [lawOct_length]; omega))); k_dflt (try (case uH => ((repeat' (with_reducible apply And.intro)) <;> (first | with_reducible assumption | exact Nat.le_of_ble_eq_true rfl | assumption | exact Eq.trans (by assumption) (by assumption) | exact of_decide_eq_true rfl | omega | ((simp only [List.length_append, List.length_take, List.length_drop, List.length_cons, List.length_nil, List.length_reverse, lawOct_length]); omega))))); intros; (rename News _ _ _ _ => N9); (try dsimp only at N9); (try (rename AllLt _ _ => l9; simp only [AllLt] at l9)); (try k_fold))); k_steps; (all_goals (try k_data)))
  (all_goals (try k_data))
  refine' hret _ _ _ _ ⟨_, ⟨⟨_, _, _, _, ?_, ?_, rfl⟩, _, rfl, trivial⟩, rfl⟩ (by k_asm) (cb_drop (by k_asm) ?_)
  rotate_right 1
  (focus (intro q hq; repeat (first | exact hq | apply List.mem_cons_of_mem)))
  · rfl
  · assumption
theorem c_gt675 {n : Int} {zp : Nat} {t : Tok} (H : (ks.drop zp).take 8 = lawOct n 8 ∧ 0 ≤ n ∧ n < 18446744073709551616 ∧ zp + 8 ≤ ks.length ∧ ks.length ≤ 1000000) :
    FCon w mean mg mb 675 fx dS ox dO k1 k2 k3 k4 k5 k6 ks p [.ref fx, .int zp t] 10 (ks) (zp + 8) (fun t' : Tok => Value.int (n) t') (fun _ => True) := by
  obtain ⟨h8, g0, g1, h2, h3⟩ := H
  intro o rest l1 l2 l3 ho hO
  have l4 : @LT.lt Nat _ dO dS := Nat.lt_trans l1 l2
  have l5 : @LT.lt Nat _ ox fx := Nat.lt_trans l2 l3
  have l6 : @LT.lt Nat _ dO fx := Nat.lt_trans l4 l3
  k_fill
  obtain ⟨b0, tb, q, tp, rfl, hb0, rfl⟩ := hO
  intro dp un gd cn cs a ccd cl outer A₀ base h₀ L m s Q E B F X N T hk hd hu hret
  k_dflt (refine' code_def ?k1 ?k2 ?k3 ?k4 ?k5 ?kA ?kF ?kK ?k6 ?k7 ?k8 ?k9 ?kB ?_ ?c2 ?c3 ?c4 ?c5; (case kA => exact rfl); (case kF => exact rfl); (case kK => first | exact rfl | assumption); (case k1 => k_asm); (case k2 => k_asm); (case k3 => k_asm); (case k4 => k_asm); (case k5 => k_asm); (case k6 => k_is); (case k7 => k_is); (case k8 => k_room); (case k9 => first | exact BindsTo.of_eq rfl | exact binds_K (by k_in) rfl (by k_is) rfl rfl rfl | fail "k_enter: no rule for these arguments"); (case c5 => decide); (case kB => exact locs rfl); (case c2 => exact rfl); (case c3 => exact rfl); (case c4 => exact rfl); k_whole; intro g' L' h' FG' F' N' B' X' T'; (try dsimp only); (try k_lift B'); (try k_fold))
  k_steps
  repeat' (refine go ?_; (first | (k_dflt (first | (refine' FCon.use (c_getI rfl ?uH) ?uA ?uI ?_) | (refine' TCon.use (c_unp140 ?uH) ?uA ?_)); k_dflt (case uA => exact ⟨by k_asm, by k_asm, by k_asm, by k_asm, by k_asm, (by first | exact rfl | assumption), (by first | exact Nat.le_of_ble_eq_true rfl | ((try simp only [depth_under_make, depth_under_kw, depth_in1, depth_deeper, depth_caller]); (try dsimp only [ktrTop]); first | ((try simp only [Nat.add_assoc, Nat.reduceAdd, Nat.reduceMul]); exact room9 (by assumption) (by rfl)) | omega)), (by first | exact Nat.le_of_ble_eq_true rfl | ((try simp only [units_in1, units_deeper, Around.mark_units, units_caller]); (try dsimp only [ktrTop]); first | ((try simp only [Nat.add_assoc, Nat.reduceAdd, Nat.reduceMul]); exact room9 (by assumption) (by rfl)) | omega))⟩); k_dflt (try (case uM => k_mem)); k_dflt (try (case uI => (refine' ⟨by k_mem, by k_mem, by k_mem, by k_updF, by assumption, by first | assumption | omega, by first | assumption | omega, by first | assumption | omega⟩))); k_dflt (try (case uH2 => (rw [lawOct_length]; omega))); k_dflt (try (case uH => ((repeat' (with_reducible apply And.intro)) <;> (first | with_reducible assumption | exact Nat.le_of_ble_eq_true rfl | assumption | exact Eq.trans (by assumption) (by assumption) | exact of_decide_eq_true rfl | omega | ((simp only [List.length_append, List.length_take, List.length_drop, List.length_cons, List.length_nil, List.length_reverse, lawOct_length]); omega))))); intros; (rename News _ _ _ _ => N9); (try dsimp only at N9); (try (rename AllLt _ _ => l9; simp only [AllLt] at l9)); (try k_fold))); k_steps; (all_goals (try k_data)))
  (all_goals (try k_data))
  refine' hret _ _ _ _ ⟨_, ⟨⟨_, _, _, _, ?_, ?_, rfl⟩, _, rfl, trivial⟩, rfl⟩ (by k_asm) (cb_drop (by k_asm) ?_)
  rotate_right 1
  (focus (intro q hq; repeat (first | exact hq | apply List.mem_cons_of_mem)))
  · rfl
  · assumption
end

end
section
noncomputable def Mark : Prop := True
noncomputable def zig (i : Int) : Nat := (if 0 ≤ i then 2 * i else -2 * i - 1).toNat
noncomputable def spread (k : Nat) : Nat := if k < 2 then 0 else if k < 4 then 1 else if k < 6 then 2 else if k < 9 then 4 else 8
/-- the octets of a number of kind k -/
noncomputable def formI (k : Nat) (n : Int) : List Int := if k = 0 then seven n.toNat else if k = 1 then seven (zig n) else if k = 5 ∨ k = 8 then (lawOct n (spread k)).reverse else lawOct n (spread k)
/-- the octets ahead of a string of kind k -/
noncomputable def headB (k l : Nat) : List Int := if k = 11 then seven l else if k = 12 then lawOct (l : Int) 2 else lawOct (l : Int) 4
/-- what the law draws of kind k -/
noncomputable def loK (k : Nat) : Int := match k with
  | 1 => -1000000000000000000000
  | 3 => -128
  | 6 => -2147483648
  | 9 => -9223372036854775808
  | _ => 0
noncomputable def hiK (k : Nat) : Int := match k with
  | 0 => 1000000000000000000000 + 1
  | 1 => 1000000000000000000000 + 1
  | 2 => 256
  | 3 => 128
  | 4 => 65536
  | 5 => 65536
  | 6 => 2147483648
  | 7 => 4294967296
  | 8 => 4294967296
  | 9 => 9223372036854775808
  | _ => 18446744073709551616
noncomputable def GoodI (k : Nat) (n : Int) : Prop := loK k ≤ n ∧ n < hiK k
theorem GoodI.k0 {k : Nat} {n : Int} (G : GoodI k n) (h : k = 0) : 0 ≤ n ∧ n ≤ 1000000000000000000000 := by subst h; exact ⟨G.1, Int.lt_add_one_iff.mp G.2⟩
theorem GoodI.k1 {k : Nat} {n : Int} (G : GoodI k n) (h : k = 1) : -1000000000000000000000 ≤ n ∧ n ≤ 1000000000000000000000 := by subst h; exact ⟨G.1, Int.lt_add_one_iff.mp G.2⟩
theorem GoodI.k2 {k : Nat} {n : Int} (G : GoodI k n) (h : k = 2) : 0 ≤ n ∧ n < 256 := by subst h; exact G
theorem GoodI.k3 {k : Nat} {n : Int} (G : GoodI k n) (h : k = 3) : -128 ≤ n ∧ n < 128 := by subst h; exact G
theorem GoodI.k4 {k : Nat} {n : Int} (G : GoodI k n) (h : k = 4) : 0 ≤ n ∧ n < 65536 := by subst h; exact G
theorem GoodI.k5 {k : Nat} {n : Int} (G : GoodI k n) (h : k = 5) : 0 ≤ n ∧ n < 65536 := by subst h; exact G
theorem GoodI.k6 {k : Nat} {n : Int} (G : GoodI k n) (h : k = 6) : -2147483648 ≤ n ∧ n < 2147483648 := by subst h; exact G
theorem GoodI.k7 {k : Nat} {n : Int} (G : GoodI k n) (h : k = 7) : 0 ≤ n ∧ n < 4294967296 := by subst h; exact G
theorem GoodI.k8 {k : Nat} {n : Int} (G : GoodI k n) (h : k = 8) : 0 ≤ n ∧ n < 4294967296 := by subst h; exact G
theorem GoodI.k9 {k : Nat} {n : Int} (G : GoodI k n) (h : k = 9) : -9223372036854775808 ≤ n ∧ n < 9223372036854775808 := by subst h; exact G
theorem GoodI.k10 {k : Nat} {n : Int} (G : GoodI k n) (h : k = 10) : 0 ≤ n ∧ n < 18446744073709551616 := by subst h; exact G
theorem zig_lt {n : Int} (h1 : -1000000000000000000000 ≤ n) (h2 : n ≤ 1000000000000000000000) : zig n < 4722366482869645213696 := by
  unfold zig
  split <;> omega
theorem formI_len {k : Nat} {n : Int} (G : GoodI k n) : (formI k n).length ≤ 11 := by
  unfold formI
  split
  · have := G.k0 ‹_›
    exact seven_len12 (by omega)
  split
  · have := G.k1 ‹_›
    exact seven_len12 (zig_lt this.1 this.2)
  have h9 : spread k ≤ 8 := by unfold spread; (repeat' split) <;> omega
  split
  · rw [List.length_reverse, lawOct_length]; omega
  · rw [lawOct_length]; omega
theorem headB_len {k l : Nat} (h : l ≤ 1000) : (headB k l).length ≤ 11 := by
  unfold headB
  split
  · exact seven_len12 (by omega)
  split <;> rw [lawOct_length] <;> omega

end
theorem off_P13 : True := by w_top off; trivial
section
local macro_rules | `(tactic| walk_at "pad9") => `(tactic| skip)
theorem no10' : ∀ k : Nat, k < 11 → (k : Int) = 0 ∨ (k : Int) = 1 ∨ (k : Int) = 2 ∨ (k : Int) = 3 ∨ (k : Int) = 4 ∨ (k : Int) = 5 ∨ (k : Int) = 6 ∨ (k : Int) = 7 ∨ (k : Int) = 8 ∨ (k : Int) = 9 ∨ (k : Int) = 10 := by decide
theorem no10 {k : Nat} (h : k ≤ 10) (h0 : ¬ (k : Int) = 0) (h1 : ¬ (k : Int) = 1) (h2 : ¬ (k : Int) = 2) (h3 : ¬ (k : Int) = 3) (h4 : ¬ (k : Int) = 4) (h5 : ¬ (k : Int) = 5) (h6 : ¬ (k : Int) = 6) (h7 : ¬ (k : Int) = 7) (h8 : ¬ (k : Int) = 8) (h9 : ¬ (k : Int) = 9) (h10 : ¬ (k : Int) = 10) : False := by
  rcases no10' k (Nat.lt_succ_of_le h) with e | e | e | e | e | e | e | e | e | e | e
  · exact h0 e
  · exact h1 e
  · exact h2 e
  · exact h3 e
  · exact h4 e
  · exact h5 e
  · exact h6 e
  · exact h7 e
  · exact h8 e
  · exact h9 e
  · exact h10 e
theorem nat_lt9 {j : Nat} (h : (j : Int) ≤ 1000000000000000000000) : j < 4722366482869645213696 := by omega
section
variable {w : World} {mean : ExcName → Option Value} {mg mb : Str → Option Value} {fx dS ox dO : Addr} {k1 k2 k3 k4 k5 k6 : Tok} {ks : List Int} {p : Nat}
local macro_rules | `(tactic| walk_at "exec Expr") => `(tactic| (k_here; (fail_if_success (rename Mark => y9)); refine halt ?_))
theorem c_lawwI {k : Nat} {n : Int} {t u : Tok} (hk10 : k ≤ 10) (G : GoodI k n) (h1 : p ≤ ks.length) (h2 : ks.length ≤ 900000) :
    FCon w mean mg mb 722 fx dS ox dO k1 k2 k3 k4 k5 k6 ks p [.ref fx, .int k u, .int n t] 12 (ks.take p ++ formI k n ++ ks.drop (p + (formI k n).length)) (p + (formI k n).length) (fun v : Value => v) (fun _ => True) := by
  intro o rest l1 l2 l3 ho hO
  have l4 : @LT.lt Nat _ dO dS := Nat.lt_trans l1 l2
  have l5 : @LT.lt Nat _ ox fx := Nat.lt_trans l2 l3
  have l6 : @LT.lt Nat _ dO fx := Nat.lt_trans l4 l3
  k_fill
  obtain ⟨b0, tb, q, tp, rfl, hb0, rfl⟩ := hO
  intro dp un gd cn cs a ccd cl outer A₀ base h₀ L m s Q E B F X N T hk hd hu hret
  k_dflt (refine' code_def ?k1 ?k2 ?k3 ?k4 ?k5 ?kA ?kF ?kK ?k6 ?k7 ?k8 ?k9 ?kB ?_ ?c2 ?c3 ?c4 ?c5; (case kA => exact rfl); (case kF => exact rfl); (case kK => first | exact rfl | assumption); (case k1 => k_asm); (case k2 => k_asm); (case k3 => k_asm); (case k4 => k_asm); (case k5 => k_asm); (case k6 => k_is); (case k7 => k_is); (case k8 => k_room); (case k9 => first | exact BindsTo.of_eq rfl | exact binds_K (by k_in) rfl (by k_is) rfl rfl rfl | fail "k_enter: no rule for these arguments"); (case c5 => decide); (case kB => exact locs rfl); (case c2 => exact rfl); (case c3 => exact rfl); (case c4 => exact rfl); k_whole; intro g' L' h' FG' F' N' B' X' T'; (try dsimp only); (try k_lift B'); (try k_fold))
  k_steps
  all_goals first
    | exact (no10 hk10 (by assumption) (by assumption) (by assumption) (by assumption) (by assumption) (by assumption) (by assumption) (by assumption) (by assumption) (by assumption) (by assumption)).elim
    | refine go ?_
  all_goals have mk9 : Mark := trivial
  · obtain rfl : k = 0 := Int.ofNat.inj (by assumption)
    obtain ⟨g8, g9⟩ := G.k0 rfl
    have e9 : formI 0 n = seven n.toNat := rfl
    have L9 := formI_len G
    rw [e9] at hret L9
    clear hk10 G
    obtain ⟨j9, rfl⟩ := Int.eq_ofNat_of_zero_le g8
    rw [Int.toNat_natCast] at hret L9
    have g7 : j9 < 4722366482869645213696 := nat_lt9 g9
    k_steps
    repeat' (refine go ?_; (first | (k_dflt (first | (refine' FCon.use (c_wr472 ?uH) ?uA ?uI ?_)); k_dflt (case uA => exact ⟨by k_asm, by k_asm, by k_asm, by k_asm, by k_asm, (by first | exact rfl | assumption), (by first | exact Nat.le_of_ble_eq_true rfl | ((try simp only [depth_under_make, depth_under_kw, depth_in1, depth_deeper, depth_caller]); (try dsimp only [ktrTop]); first | ((try simp only [Nat.add_assoc, Nat.reduceAdd, Nat.reduceMul]); exact room9 (by assumption) (by rfl)) | omega)), (by first | exact Nat.le_of_ble_eq_true rfl | ((try simp only [units_in1, units_deeper, Around.mark_units, units_caller]); (try dsimp only [ktrTop]); first | ((try simp only [Nat.add_assoc, Nat.reduceAdd, Nat.reduceMul]); exact room9 (by assumption) (by rfl)) | omega))⟩); k_dflt (try (case uM => k_mem)); k_dflt (try (case uI => (refine' ⟨by k_mem, by k_mem, by k_mem, by k_updF, by assumption, by first | assumption | omega, by first | assumption | omega, by first | assumption | omega⟩))); k_dflt (try (case uH2 => (rw [lawOct_length]; omega))); k_dflt (try (case uH => ((repeat' (with_reducible apply And.intro)) <;> (first | with_reducible assumption | exact Nat.le_of_ble_eq_true rfl | assumption | exact Eq.trans (by assumption) (by assumption) | exact of_decide_eq_true rfl | omega | ((simp only [List.length_append, List.length_take, List.length_drop, List.length_cons, List.length_nil, List.length_reverse, lawOct_length]); omega))))); intros; (rename News _ _ _ _ => N9); (try dsimp only at N9); (try (rename AllLt _ _ => l9; simp only [AllLt] at l9)); (try k_fold))); k_steps; (all_goals (try k_data)))
    (all_goals (try k_data))
    refine' hret _ _ _ _ ⟨_, ⟨⟨_, _, _, _, rfl, by assumption, rfl⟩, _, rfl, trivial⟩, rfl⟩ (by k_asm) (cb_drop (by k_asm) ?_)
    rotate_right 1
    (focus (intro q hq; repeat (first | exact hq | apply List.mem_cons_of_mem)))
  · obtain rfl : k = 1 := Int.ofNat.inj (by assumption)
    obtain ⟨g8, g9⟩ := G.k1 rfl
    have e9 : formI 1 n = seven (if 0 ≤ n then 2 * n else -2 * n - 1).toNat := rfl
    have L9 := formI_len G
    rw [e9] at hret L9
    clear hk10 G
    k_steps
    repeat' (refine go ?_; (first | (k_dflt (first | (refine' FCon.use (c_wr479 ?uH) ?uA ?uI ?_)); k_dflt (case uA => exact ⟨by k_asm, by k_asm, by k_asm, by k_asm, by k_asm, (by first | exact rfl | assumption), (by first | exact Nat.le_of_ble_eq_true rfl | ((try simp only [depth_under_make, depth_under_kw, depth_in1, depth_deeper, depth_caller]); (try dsimp only [ktrTop]); first | ((try simp only [Nat.add_assoc, Nat.reduceAdd, Nat.reduceMul]); exact room9 (by assumption) (by rfl)) | omega)), (by first | exact Nat.le_of_ble_eq_true rfl | ((try simp only [units_in1, units_deeper, Around.mark_units, units_caller]); (try dsimp only [ktrTop]); first | ((try simp only [Nat.add_assoc, Nat.reduceAdd, Nat.reduceMul]); exact room9 (by assumption) (by rfl)) | omega))⟩); k_dflt (try (case uM => k_mem)); k_dflt (try (case uI => (refine' ⟨by k_mem, by k_mem, by k_mem, by k_updF, by assumption, by first | assumption | omega, by first | assumption | omega, by first | assumption | omega⟩))); k_dflt (try (case uH2 => (rw [lawOct_length]; omega))); k_dflt (try (case uH => ((repeat' (with_reducible apply And.intro)) <;> (first | with_reducible assumption | exact Nat.le_of_ble_eq_true rfl | assumption | exact Eq.trans (by assumption) (by assumption) | exact of_decide_eq_true rfl | omega | ((simp only [List.length_append, List.length_take, List.length_drop, List.length_cons, List.length_nil, List.length_reverse, lawOct_length]); omega))))); intros; (rename News _ _ _ _ => N9); (try dsimp only at N9); (try (rename AllLt _ _ => l9; simp only [AllLt] at l9)); (try k_fold))); k_steps; (all_goals (try k_data)))
    (all_goals (try k_data))
    refine' hret _ _ _ _ ⟨_, ⟨⟨_, _, _, _, rfl, by assumption, rfl⟩, _, rfl, trivial⟩, rfl⟩ (by k_asm) (cb_drop (by k_asm) ?_)
    rotate_right 1
    (focus (intro q hq; repeat (first | exact hq | apply List.mem_cons_of_mem)))
  · obtain rfl : k = 2 := Int.ofNat.inj (by assumption)
    obtain ⟨g8, g9⟩ := G.k2 rfl
    have e9 : formI 2 n = lawOct n 1 := rfl
    have L9 := formI_len G
    rw [e9] at hret L9
    clear hk10 G
    k_steps
    repeat' (refine go ?_; (first | (k_dflt (first | (refine' FCon.use (c_wr500 ?uH) ?uA ?uI ?_)); k_dflt (case uA => exact ⟨by k_asm, by k_asm, by k_asm, by k_asm, by k_asm, (by first | exact rfl | assumption), (by first | exact Nat.le_of_ble_eq_true rfl | ((try simp only [depth_under_make, depth_under_kw, depth_in1, depth_deeper, depth_caller]); (try dsimp only [ktrTop]); first | ((try simp only [Nat.add_assoc, Nat.reduceAdd, Nat.reduceMul]); exact room9 (by assumption) (by rfl)) | omega)), (by first | exact Nat.le_of_ble_eq_true rfl | ((try simp only [units_in1, units_deeper, Around.mark_units, units_caller]); (try dsimp only [ktrTop]); first | ((try simp only [Nat.add_assoc, Nat.reduceAdd, Nat.reduceMul]); exact room9 (by assumption) (by rfl)) | omega))⟩); k_dflt (try (case uM => k_mem)); k_dflt (try (case uI => (refine' ⟨by k_mem, by k_mem, by k_mem, by k_updF, by assumption, by first | assumption | omega, by first | assumption | omega, by first | assumption | omega⟩))); k_dflt (try (case uH2 => (rw [lawOct_length]; omega))); k_dflt (try (case uH => ((repeat' (with_reducible apply And.intro)) <;> (first | with_reducible assumption | exact Nat.le_of_ble_eq_true rfl | assumption | exact Eq.trans (by assumption) (by assumption) | exact of_decide_eq_true rfl | omega | ((simp only [List.length_append, List.length_take, List.length_drop, List.length_cons, List.length_nil, List.length_reverse, lawOct_length]); omega))))); intros; (rename News _ _ _ _ => N9); (try dsimp only at N9); (try (rename AllLt _ _ => l9; simp only [AllLt] at l9)); (try k_fold))); k_steps; (all_goals (try k_data)))
    (all_goals (try k_data))
    refine' hret _ _ _ _ ⟨_, ⟨⟨_, _, _, _, rfl, by assumption, rfl⟩, _, rfl, trivial⟩, rfl⟩ (by k_asm) (cb_drop (by k_asm) ?_)
    rotate_right 1
    (focus (intro q hq; repeat (first | exact hq | apply List.mem_cons_of_mem)))
  · obtain rfl : k = 3 := Int.ofNat.inj (by assumption)
    obtain ⟨g8, g9⟩ := G.k3 rfl
    have e9 : formI 3 n = lawOct n 1 := rfl
    have L9 := formI_len G
    rw [e9] at hret L9
    clear hk10 G
    k_steps
    repeat' (refine go ?_; (first | (k_dflt (first | (refine' FCon.use (c_wr514 ?uH) ?uA ?uI ?_)); k_dflt (case uA => exact ⟨by k_asm, by k_asm, by k_asm, by k_asm, by k_asm, (by first | exact rfl | assumption), (by first | exact Nat.le_of_ble_eq_true rfl | ((try simp only [depth_under_make, depth_under_kw, depth_in1, depth_deeper, depth_caller]); (try dsimp only [ktrTop]); first | ((try simp only [Nat.add_assoc, Nat.reduceAdd, Nat.reduceMul]); exact room9 (by assumption) (by rfl)) | omega)), (by first | exact Nat.le_of_ble_eq_true rfl | ((try simp only [units_in1, units_deeper, Around.mark_units, units_caller]); (try dsimp only [ktrTop]); first | ((try simp only [Nat.add_assoc, Nat.reduceAdd, Nat.reduceMul]); exact room9 (by assumption) (by rfl)) | omega))⟩); k_dflt (try (case uM => k_mem)); k_dflt (try (case uI => (refine' ⟨by k_mem, by k_mem, by k_mem, by k_updF, by assumption, by first | assumption | omega, by first | assumption | omega, by first | assumption | omega⟩))); k_dflt (try (case uH2 => (rw [lawOct_length]; omega))); k_dflt (try (case uH => ((repeat' (with_reducible apply And.intro)) <;> (first | with_reducible assumption | exact Nat.le_of_ble_eq_true rfl | assumption | exact Eq.trans (by assumption) (by assumption) | exact of_decide_eq_true rfl | omega | ((simp only [List.length_append, List.length_take, List.length_drop, List.length_cons, List.length_nil, List.length_reverse, lawOct_length]); omega))))); intros; (rename News _ _ _ _ => N9); (try dsimp only at N9); (try (rename AllLt _ _ => l9; simp only [AllLt] at l9)); (try k_fold))); k_steps; (all_goals (try k_data)))
    (all_goals (try k_data))
    refine' hret _ _ _ _ ⟨_, ⟨⟨_, _, _, _, rfl, by assumption, rfl⟩, _, rfl, trivial⟩, rfl⟩ (by k_asm) (cb_drop (by k_asm) ?_)
    rotate_right 1
    (focus (intro q hq; repeat (first | exact hq | apply List.mem_cons_of_mem)))
  · obtain rfl : k = 4 := Int.ofNat.inj (by assumption)
    obtain ⟨g8, g9⟩ := G.k4 rfl
    have e9 : formI 4 n = lawOct n 2 := rfl
    have L9 := formI_len G
    rw [e9] at hret L9
    clear hk10 G
    k_steps
    repeat' (refine go ?_; (first | (k_dflt (first | (refine' FCon.use (c_wr542 ?uH) ?uA ?uI ?_)); k_dflt (case uA => exact ⟨by k_asm, by k_asm, by k_asm, by k_asm, by k_asm, (by first | exact rfl | assumption), (by first | exact Nat.le_of_ble_eq_true rfl | ((try simp only [depth_under_make, depth_under_kw, depth_in1, depth_deeper, depth_caller]); (try dsimp only [ktrTop]); first | ((try simp only [Nat.add_assoc, Nat.reduceAdd, Nat.reduceMul]); exact room9 (by assumption) (by rfl)) | omega)), (by first | exact Nat.le_of_ble_eq_true rfl | ((try simp only [units_in1, units_deeper, Around.mark_units, units_caller]); (try dsimp only [ktrTop]); first | ((try simp only [Nat.add_assoc, Nat.reduceAdd, Nat.reduceMul]); exact room9 (by assumption) (by rfl)) | omega))⟩); k_dflt (try (case uM => k_mem)); k_dflt (try (case uI => (refine' ⟨by k_mem, by k_mem, by k_mem, by k_updF, by assumption, by first | assumption | omega, by first | assumption | omega, by first | assumption | omega⟩))); k_dflt (try (case uH2 => (rw [lawOct_length]; omega))); k_dflt (try (case uH => ((repeat' (with_reducible apply And.intro)) <;> (first | with_reducible assumption | exact Nat.le_of_ble_eq_true rfl | assumption | exact Eq.trans (by assumption) (by assumption) | exact of_decide_eq_true rfl | omega | ((simp only [List.length_append, List.length_take, List.length_drop, List.length_cons, List.length_nil, List.length_reverse, lawOct_length]); omega))))); intros; (rename News _ _ _ _ => N9); (try dsimp only at N9); (try (rename AllLt _ _ => l9; simp only [AllLt] at l9)); (try k_fold))); k_steps; (all_goals (try k_data)))
    (all_goals (try k_data))
    refine' hret _ _ _ _ ⟨_, ⟨⟨_, _, _, _, rfl, by assumption, rfl⟩, _, rfl, trivial⟩, rfl⟩ (by k_asm) (cb_drop (by k_asm) ?_)
    rotate_right 1
    (focus (intro q hq; repeat (first | exact hq | apply List.mem_cons_of_mem)))
  · obtain rfl : k = 5 := Int.ofNat.inj (by assumption)
    obtain ⟨g8, g9⟩ := G.k5 rfl
    have e9 : formI 5 n = (lawOct n 2).reverse := rfl
    have L9 := formI_len G
    rw [e9] at hret L9
    clear hk10 G
    k_steps
    repeat' (refine go ?_; (first | (k_dflt (first | (refine' FCon.use (c_wr549 ?uH) ?uA ?uI ?_)); k_dflt (case uA => exact ⟨by k_asm, by k_asm, by k_asm, by k_asm, by k_asm, (by first | exact rfl | assumption), (by first | exact Nat.le_of_ble_eq_true rfl | ((try simp only [depth_under_make, depth_under_kw, depth_in1, depth_deeper, depth_caller]); (try dsimp only [ktrTop]); first | ((try simp only [Nat.add_assoc, Nat.reduceAdd, Nat.reduceMul]); exact room9 (by assumption) (by rfl)) | omega)), (by first | exact Nat.le_of_ble_eq_true rfl | ((try simp only [units_in1, units_deeper, Around.mark_units, units_caller]); (try dsimp only [ktrTop]); first | ((try simp only [Nat.add_assoc, Nat.reduceAdd, Nat.reduceMul]); exact room9 (by assumption) (by rfl)) | omega))⟩); k_dflt (try (case uM => k_mem)); k_dflt (try (case uI => (refine' ⟨by k_mem, by k_mem, by k_mem, by k_updF, by assumption, by first | assumption | omega, by first | assumption | omega, by first | assumption | omega⟩))); k_dflt (try (case uH2 => (rw [lawOct_length]; omega))); k_dflt (try (case uH => ((repeat' (with_reducible apply And.intro)) <;> (first | with_reducible assumption | exact Nat.le_of_ble_eq_true rfl | assumption | exact Eq.trans (by assumption) (by assumption) | exact of_decide_eq_true rfl | omega | ((simp only [List.length_append, List.length_take, List.length_drop, List.length_cons, List.length_nil, List.length_reverse, lawOct_length]); omega))))); intros; (rename News _ _ _ _ => N9); (try dsimp only at N9); (try (rename AllLt _ _ => l9; simp only [AllLt] at l9)); (try k_fold))); k_steps; (all_goals (try k_data)))
    (all_goals (try k_data))
    refine' hret _ _ _ _ ⟨_, ⟨⟨_, _, _, _, rfl, by assumption, rfl⟩, _, rfl, trivial⟩, rfl⟩ (by k_asm) (cb_drop (by k_asm) ?_)
    rotate_right 1
    (focus (intro q hq; repeat (first | exact hq | apply List.mem_cons_of_mem)))
  · obtain rfl : k = 6 := Int.ofNat.inj (by assumption)
    obtain ⟨g8, g9⟩ := G.k6 rfl
    have e9 : formI 6 n = lawOct n 4 := rfl
    have L9 := formI_len G
    rw [e9] at hret L9
    clear hk10 G
    k_steps
    repeat' (refine go ?_; (first | (k_dflt (first | (refine' FCon.use (c_wr521 ?uH) ?uA ?uI ?_)); k_dflt (case uA => exact ⟨by k_asm, by k_asm, by k_asm, by k_asm, by k_asm, (by first | exact rfl | assumption), (by first | exact Nat.le_of_ble_eq_true rfl | ((try simp only [depth_under_make, depth_under_kw, depth_in1, depth_deeper, depth_caller]); (try dsimp only [ktrTop]); first | ((try simp only [Nat.add_assoc, Nat.reduceAdd, Nat.reduceMul]); exact room9 (by assumption) (by rfl)) | omega)), (by first | exact Nat.le_of_ble_eq_true rfl | ((try simp only [units_in1, units_deeper, Around.mark_units, units_caller]); (try dsimp only [ktrTop]); first | ((try simp only [Nat.add_assoc, Nat.reduceAdd, Nat.reduceMul]); exact room9 (by assumption) (by rfl)) | omega))⟩); k_dflt (try (case uM => k_mem)); k_dflt (try (case uI => (refine' ⟨by k_mem, by k_mem, by k_mem, by k_updF, by assumption, by first | assumption | omega, by first | assumption | omega, by first | assumption | omega⟩))); k_dflt (try (case uH2 => (rw [lawOct_length]; omega))); k_dflt (try (case uH => ((repeat' (with_reducible apply And.intro)) <;> (first | with_reducible assumption | exact Nat.le_of_ble_eq_true rfl | assumption | exact Eq.trans (by assumption) (by assumption) | exact of_decide_eq_true rfl | omega | ((simp only [List.length_append, List.length_take, List.length_drop, List.length_cons, List.length_nil, List.length_reverse, lawOct_length]); omega))))); intros; (rename News _ _ _ _ => N9); (try dsimp only at N9); (try (rename AllLt _ _ => l9; simp only [AllLt] at l9)); (try k_fold))); k_steps; (all_goals (try k_data)))
    (all_goals (try k_data))
    refine' hret _ _ _ _ ⟨_, ⟨⟨_, _, _, _, rfl, by assumption, rfl⟩, _, rfl, trivial⟩, rfl⟩ (by k_asm) (cb_drop (by k_asm) ?_)
    rotate_right 1
    (focus (intro q hq; repeat (first | exact hq | apply List.mem_cons_of_mem)))
  · obtain rfl : k = 7 := Int.ofNat.inj (by assumption)
    obtain ⟨g8, g9⟩ := G.k7 rfl
    have e9 : formI 7 n = lawOct n 4 := rfl
    have L9 := formI_len G
    rw [e9] at hret L9
    clear hk10 G
    k_steps
    repeat' (refine go ?_; (first | (k_dflt (first | (refine' FCon.use (c_wr528 ?uH) ?uA ?uI ?_)); k_dflt (case uA => exact ⟨by k_asm, by k_asm, by k_asm, by k_asm, by k_asm, (by first | exact rfl | assumption), (by first | exact Nat.le_of_ble_eq_true rfl | ((try simp only [depth_under_make, depth_under_kw, depth_in1, depth_deeper, depth_caller]); (try dsimp only [ktrTop]); first | ((try simp only [Nat.add_assoc, Nat.reduceAdd, Nat.reduceMul]); exact room9 (by assumption) (by rfl)) | omega)), (by first | exact Nat.le_of_ble_eq_true rfl | ((try simp only [units_in1, units_deeper, Around.mark_units, units_caller]); (try dsimp only [ktrTop]); first | ((try simp only [Nat.add_assoc, Nat.reduceAdd, Nat.reduceMul]); exact room9 (by assumption) (by rfl)) | omega))⟩); k_dflt (try (case uM => k_mem)); k_dflt (try (case uI => (refine' ⟨by k_mem, by k_mem, by k_mem, by k_updF, by assumption, by first | assumption | omega, by first | assumption | omega, by first | assumption | omega⟩))); k_dflt (try (case uH2 => (rw [lawOct_length]; omega))); k_dflt (try (case uH => ((repeat' (with_reducible apply And.intro)) <;> (first | with_reducible assumption | exact Nat.le_of_ble_eq_true rfl | assumption | exact Eq.trans (by assumption) (by assumption) | exact of_decide_eq_true rfl | omega | ((simp only [List.length_append, List.length_take, List.length_drop, List.length_cons, List.length_nil, List.length_reverse, lawOct_length]); omega))))); intros; (rename News _ _ _ _ => N9); (try dsimp only at N9); (try (rename AllLt _ _ => l9; simp only [AllLt] at l9)); (try k_fold))); k_steps; (all_goals (try k_data)))
    (all_goals (try k_data))
    refine' hret _ _ _ _ ⟨_, ⟨⟨_, _, _, _, rfl, by assumption, rfl⟩, _, rfl, trivial⟩, rfl⟩ (by k_asm) (cb_drop (by k_asm) ?_)
    rotate_right 1
    (focus (intro q hq; repeat (first | exact hq | apply List.mem_cons_of_mem)))
  · obtain rfl : k = 8 := Int.ofNat.inj (by assumption)
    obtain ⟨g8, g9⟩ := G.k8 rfl
    have e9 : formI 8 n = (lawOct n 4).reverse := rfl
    have L9 := formI_len G
    rw [e9] at hret L9
    clear hk10 G
    k_steps
    repeat' (refine go ?_; (first | (k_dflt (first | (refine' FCon.use (c_wr535 ?uH) ?uA ?uI ?_)); k_dflt (case uA => exact ⟨by k_asm, by k_asm, by k_asm, by k_asm, by k_asm, (by first | exact rfl | assumption), (by first | exact Nat.le_of_ble_eq_true rfl | ((try simp only [depth_under_make, depth_under_kw, depth_in1, depth_deeper, depth_caller]); (try dsimp only [ktrTop]); first | ((try simp only [Nat.add_assoc, Nat.reduceAdd, Nat.reduceMul]); exact room9 (by assumption) (by rfl)) | omega)), (by first | exact Nat.le_of_ble_eq_true rfl | ((try simp only [units_in1, units_deeper, Around.mark_units, units_caller]); (try dsimp only [ktrTop]); first | ((try simp only [Nat.add_assoc, Nat.reduceAdd, Nat.reduceMul]); exact room9 (by assumption) (by rfl)) | omega))⟩); k_dflt (try (case uM => k_mem)); k_dflt (try (case uI => (refine' ⟨by k_mem, by k_mem, by k_mem, by k_updF, by assumption, by first | assumption | omega, by first | assumption | omega, by first | assumption | omega⟩))); k_dflt (try (case uH2 => (rw [lawOct_length]; omega))); k_dflt (try (case uH => ((repeat' (with_reducible apply And.intro)) <;> (first | with_reducible assumption | exact Nat.le_of_ble_eq_true rfl | assumption | exact Eq.trans (by assumption) (by assumption) | exact of_decide_eq_true rfl | omega | ((simp only [List.length_append, List.length_take, List.length_drop, List.length_cons, List.length_nil, List.length_reverse, lawOct_length]); omega))))); intros; (rename News _ _ _ _ => N9); (try dsimp only at N9); (try (rename AllLt _ _ => l9; simp only [AllLt] at l9)); (try k_fold))); k_steps; (all_goals (try k_data)))
    (all_goals (try k_data))
    refine' hret _ _ _ _ ⟨_, ⟨⟨_, _, _, _, rfl, by assumption, rfl⟩, _, rfl, trivial⟩, rfl⟩ (by k_asm) (cb_drop (by k_asm) ?_)
    rotate_right 1
    (focus (intro q hq; repeat (first | exact hq | apply List.mem_cons_of_mem)))
  · obtain rfl : k = 9 := Int.ofNat.inj (by assumption)
    obtain ⟨g8, g9⟩ := G.k9 rfl
    have e9 : formI 9 n = lawOct n 8 := rfl
    have L9 := formI_len G
    rw [e9] at hret L9
    clear hk10 G
    k_steps
    repeat' (refine go ?_; (first | (k_dflt (first | (refine' FCon.use (c_wr556 ?uH) ?uA ?uI ?_)); k_dflt (case uA => exact ⟨by k_asm, by k_asm, by k_asm, by k_asm, by k_asm, (by first | exact rfl | assumption), (by first | exact Nat.le_of_ble_eq_true rfl | ((try simp only [depth_under_make, depth_under_kw, depth_in1, depth_deeper, depth_caller]); (try dsimp only [ktrTop]); first | ((try simp only [Nat.add_assoc, Nat.reduceAdd, Nat.reduceMul]); exact room9 (by assumption) (by rfl)) | omega)), (by first | exact Nat.le_of_ble_eq_true rfl | ((try simp only [units_in1, units_deeper, Around.mark_units, units_caller]); (try dsimp only [ktrTop]); first | ((try simp only [Nat.add_assoc, Nat.reduceAdd, Nat.reduceMul]); exact room9 (by assumption) (by rfl)) | omega))⟩); k_dflt (try (case uM => k_mem)); k_dflt (try (case uI => (refine' ⟨by k_mem, by k_mem, by k_mem, by k_updF, by assumption, by first | assumption | omega, by first | assumption | omega, by first | assumption | omega⟩))); k_dflt (try (case uH2 => (rw [lawOct_length]; omega))); k_dflt (try (case uH => ((repeat' (with_reducible apply And.intro)) <;> (first | with_reducible assumption | exact Nat.le_of_ble_eq_true rfl | assumption | exact Eq.trans (by assumption) (by assumption) | exact of_decide_eq_true rfl | omega | ((simp only [List.length_append, List.length_take, List.length_drop, List.length_cons, List.length_nil, List.length_reverse, lawOct_length]); omega))))); intros; (rename News _ _ _ _ => N9); (try dsimp only at N9); (try (rename AllLt _ _ => l9; simp only [AllLt] at l9)); (try k_fold))); k_steps; (all_goals (try k_data)))
    (all_goals (try k_data))
    refine' hret _ _ _ _ ⟨_, ⟨⟨_, _, _, _, rfl, by assumption, rfl⟩, _, rfl, trivial⟩, rfl⟩ (by k_asm) (cb_drop (by k_asm) ?_)
    rotate_right 1
    (focus (intro q hq; repeat (first | exact hq | apply List.mem_cons_of_mem)))
  · obtain rfl : k = 10 := Int.ofNat.inj (by assumption)
    obtain ⟨g8, g9⟩ := G.k10 rfl
    have e9 : formI 10 n = lawOct n 8 := rfl
    have L9 := formI_len G
    rw [e9] at hret L9
    clear hk10 G
    k_steps
    repeat' (refine go ?_; (first | (k_dflt (first | (refine' FCon.use (c_wr563 ?uH) ?uA ?uI ?_)); k_dflt (case uA => exact ⟨by k_asm, by k_asm, by k_asm, by k_asm, by k_asm, (by first | exact rfl | assumption), (by first | exact Nat.le_of_ble_eq_true rfl | ((try simp only [depth_under_make, depth_under_kw, depth_in1, depth_deeper, depth_caller]); (try dsimp only [ktrTop]); first | ((try simp only [Nat.add_assoc, Nat.reduceAdd, Nat.reduceMul]); exact room9 (by assumption) (by rfl)) | omega)), (by first | exact Nat.le_of_ble_eq_true rfl | ((try simp only [units_in1, units_deeper, Around.mark_units, units_caller]); (try dsimp only [ktrTop]); first | ((try simp only [Nat.add_assoc, Nat.reduceAdd, Nat.reduceMul]); exact room9 (by assumption) (by rfl)) | omega))⟩); k_dflt (try (case uM => k_mem)); k_dflt (try (case uI => (refine' ⟨by k_mem, by k_mem, by k_mem, by k_updF, by assumption, by first | assumption | omega, by first | assumption | omega, by first | assumption | omega⟩))); k_dflt (try (case uH2 => (rw [lawOct_length]; omega))); k_dflt (try (case uH => ((repeat' (with_reducible apply And.intro)) <;> (first | with_reducible assumption | exact Nat.le_of_ble_eq_true rfl | assumption | exact Eq.trans (by assumption) (by assumption) | exact of_decide_eq_true rfl | omega | ((simp only [List.length_append, List.length_take, List.length_drop, List.length_cons, List.length_nil, List.length_reverse, lawOct_length]); omega))))); intros; (rename News _ _ _ _ => N9); (try dsimp only at N9); (try (rename AllLt _ _ => l9; simp only [AllLt] at l9)); (try k_fold))); k_steps; (all_goals (try k_data)))
    (all_goals (try k_data))
    refine' hret _ _ _ _ ⟨_, ⟨⟨_, _, _, _, rfl, by assumption, rfl⟩, _, rfl, trivial⟩, rfl⟩ (by k_asm) (cb_drop (by k_asm) ?_)
    rotate_right 1
    (focus (intro q hq; repeat (first | exact hq | apply List.mem_cons_of_mem)))

end

end
theorem off_P14 : True := by w_top off; trivial
section
noncomputable def formB (k : Nat) (kv : List Int) : List Int := headB k kv.length ++ kv
theorem two_writes {ks ka kv : List Int} {p : Nat} (h : p ≤ ks.length) :
    List.take (p + ka.length) (ks.take p ++ ka ++ ks.drop (p + ka.length)) ++ kv ++ List.drop (p + ka.length + kv.length) (ks.take p ++ ka ++ ks.drop (p + ka.length)) =
      ks.take p ++ (ka ++ kv) ++ ks.drop (p + (ka ++ kv).length) := by
  have e1 : (ks.take p ++ ka).length = p + ka.length := by rw [List.length_append, List.length_take, Nat.min_eq_left h]
  rw [show p + ka.length = (ks.take p ++ ka).length from e1.symm]
  rw [List.take_left, ← List.drop_drop, List.drop_left, List.drop_drop, e1, List.length_append, ← List.append_assoc, Nat.add_assoc]
theorem two_len {ks ka kv : List Int} {p : Nat} (h1 : p ≤ ks.length) (h2 : ks.length ≤ 900000) (h : ka.length ≤ 11) (h3 : kv.length ≤ 200) :
    p + ka.length ≤ (ks.take p ++ ka ++ ks.drop (p + ka.length)).length ∧ (ks.take p ++ ka ++ ks.drop (p + ka.length)).length + kv.length ≤ 1000000 := by
  simp only [List.length_append, List.length_take, List.length_drop]
  omega
theorem str_len9 {ks ka kv : List Int} (h2 : ks.length ≤ 900000) (h : ka.length ≤ 11) (h3 : kv.length ≤ 200) : ks.length + (ka ++ kv).length ≤ 1000000 := by
  rw [List.length_append]; omega
theorem not_small {k j : Nat} (h : 11 ≤ k) (e : k = j) (hj : Nat.ble 11 j = false) : False := by
  subst e
  rw [Nat.ble_eq_true_of_le h] at hj
  cases hj
theorem len_bounds {l : Nat} (h : l ≤ 200) : (0 : Int) ≤ l ∧ (l : Int) < 65536 ∧ (-2147483648 : Int) ≤ l ∧ (l : Int) < 2147483648 := by omega
theorem only13 {k : Nat} (h1 : 11 ≤ k) (h2 : k ≤ 13) (h3 : ¬ (k : Int) = 11) (h4 : ¬ (k : Int) = 12) : k = 13 := by omega
section
variable {w : World} {mean : ExcName → Option Value} {mg mb : Str → Option Value} {fx dS ox dO : Addr} {k1 k2 k3 k4 k5 k6 : Tok} {ks : List Int} {p : Nat}
local macro_rules | `(tactic| walk_at "exec Expr") => `(tactic| (k_here; (fail_if_success (rename Mark => y9)); refine halt ?_))
theorem c_lawwB {k : Nat} {bv : Array UInt8} {kv : List Int} {t u : Tok} (hk11 : 11 ≤ k) (hk13 : k ≤ 13) (hbv : KBw.bInts bv = kv) (hl : kv.length ≤ 200) (h1 : p ≤ ks.length) (h2 : ks.length ≤ 900000) :
    FCon w mean mg mb 722 fx dS ox dO k1 k2 k3 k4 k5 k6 ks p [.ref fx, .int k u, .bytes bv t] 12 (ks.take p ++ formB k kv ++ ks.drop (p + (formB k kv).length)) (p + (formB k kv).length) (fun v : Value => v) (fun _ => True) := by
  intro o rest l1 l2 l3 ho hO
  have l4 : @LT.lt Nat _ dO dS := Nat.lt_trans l1 l2
  have l5 : @LT.lt Nat _ ox fx := Nat.lt_trans l2 l3
  have l6 : @LT.lt Nat _ dO fx := Nat.lt_trans l4 l3
  k_fill
  obtain ⟨b0, tb, q, tp, rfl, hb0, rfl⟩ := hO
  intro dp un gd cn cs a ccd cl outer A₀ base h₀ L m s Q E B F X N T hk hd hu hret
  k_dflt (refine' code_def ?k1 ?k2 ?k3 ?k4 ?k5 ?kA ?kF ?kK ?k6 ?k7 ?k8 ?k9 ?kB ?_ ?c2 ?c3 ?c4 ?c5; (case kA => exact rfl); (case kF => exact rfl); (case kK => first | exact rfl | assumption); (case k1 => k_asm); (case k2 => k_asm); (case k3 => k_asm); (case k4 => k_asm); (case k5 => k_asm); (case k6 => k_is); (case k7 => k_is); (case k8 => k_room); (case k9 => first | exact BindsTo.of_eq rfl | exact binds_K (by k_in) rfl (by k_is) rfl rfl rfl | fail "k_enter: no rule for these arguments"); (case c5 => decide); (case kB => exact locs rfl); (case c2 => exact rfl); (case c3 => exact rfl); (case c4 => exact rfl); k_whole; intro g' L' h' FG' F' N' B' X' T'; (try dsimp only); (try k_lift B'); (try k_fold))
  k_steps
  all_goals first
    | exact (not_small hk11 (Int.ofNat.inj (by assumption)) rfl).elim
    | refine go ?_
  all_goals have mk9 : Mark := trivial
  · obtain rfl : k = 11 := by first | exact Int.ofNat.inj (by assumption) | exact only13 hk11 hk13 (by assumption) (by assumption)
    have e9 : formB 11 kv = seven kv.length ++ kv := rfl
    rw [e9] at hret
    have L9 : (seven kv.length).length ≤ 11 := headB_len (k := 11) (l := kv.length) (Nat.le_trans hl (by decide))
    obtain ⟨L7, L8⟩ := two_len h1 h2 L9 hl
    have L6 : kv.length < 4722366482869645213696 := Nat.lt_of_le_of_lt hl (by decide)
    k_steps
    repeat' (refine go ?_; (first | (k_dflt (first | (refine' PCon.use (c_pk56 ?uH) ?uA ?_) | (refine' PCon.use (c_pk49 ?uH) ?uA ?_) | (refine' FCon.use (c_wr472 ?uH) ?uA ?uI ?_) | (refine' FCon.use (c_seek2 ?uH) ?uA ?uI ?_) | (refine' FCon.use (c_seek1) ?uA ?uI ?_) | (refine' FCon.use (c_seek) ?uA ?uI ?_) | (refine' FCon.use (c_tell) ?uA ?uI ?_) | (refine' FCon.use (c_read ?uH) ?uA ?uI ?_) | (refine' FCon.use (c_write ?uH) ?uA ?uI ?_) | (refine' FCon.use (c_readI ?uH) ?uA ?uI ?_)); k_dflt (case uA => exact ⟨by k_asm, by k_asm, by k_asm, by k_asm, by k_asm, (by first | exact rfl | assumption), (by first | exact Nat.le_of_ble_eq_true rfl | ((try simp only [depth_under_make, depth_under_kw, depth_in1, depth_deeper, depth_caller]); (try dsimp only [ktrTop]); first | ((try simp only [Nat.add_assoc, Nat.reduceAdd, Nat.reduceMul]); exact room9 (by assumption) (by rfl)) | omega)), (by first | exact Nat.le_of_ble_eq_true rfl | ((try simp only [units_in1, units_deeper, Around.mark_units, units_caller]); (try dsimp only [ktrTop]); first | ((try simp only [Nat.add_assoc, Nat.reduceAdd, Nat.reduceMul]); exact room9 (by assumption) (by rfl)) | omega))⟩); k_dflt (try (case uM => k_mem)); k_dflt (try (case uI => (refine' ⟨by k_mem, by k_mem, by k_mem, by k_updF, by assumption, by first | assumption | omega, by first | assumption | omega, by first | assumption | omega⟩))); k_dflt (try (case uH2 => (rw [lawOct_length]; omega))); k_dflt (try (case uH => ((repeat' (with_reducible apply And.intro)) <;> (first | with_reducible assumption | exact Nat.le_of_ble_eq_true rfl | assumption | exact Eq.trans (by assumption) (by assumption) | exact of_decide_eq_true rfl | omega | ((simp only [List.length_append, List.length_take, List.length_drop, List.length_cons, List.length_nil, List.length_reverse, lawOct_length]); omega))))); intros; (rename News _ _ _ _ => N9); (try dsimp only at N9); (try (rename AllLt _ _ => l9; simp only [AllLt] at l9)); (try k_fold)) | ((with_reducible show wpAny _ _ (call (Value.ref _) _) _ _ _); (have mkE : EMark := trivial); walk1; (rename EMark => y9); clear y9)); k_steps; (all_goals (try k_data)))
    (all_goals (try k_data))
    refine' hret _ _ _ _ ⟨_, ⟨⟨_, _, _, _, ?_, ?_, rfl⟩, _, rfl, trivial⟩, rfl⟩ (by k_asm) (cb_drop (by k_asm) ?_)
    rotate_right 1
    (focus (intro q hq; repeat (first | exact hq | apply List.mem_cons_of_mem)))
    · rw [List.length_append, ← Nat.add_assoc]
    · exact Eq.trans (by assumption) (two_writes h1)
  · obtain rfl : k = 12 := by first | exact Int.ofNat.inj (by assumption) | exact only13 hk11 hk13 (by assumption) (by assumption)
    have e9 : formB 12 kv = lawOct (kv.length : Int) 2 ++ kv := rfl
    rw [e9] at hret
    have L9 : (lawOct (kv.length : Int) 2).length ≤ 11 := headB_len (k := 12) (l := kv.length) (Nat.le_trans hl (by decide))
    obtain ⟨b1, b2, b3, b4⟩ := len_bounds hl
    have L6 := str_len9 h2 L9 hl
    k_steps
    repeat' (refine go ?_; (first | (k_dflt (first | (refine' PCon.use (c_pk56 ?uH) ?uA ?_) | (refine' PCon.use (c_pk49 ?uH) ?uA ?_) | (refine' FCon.use (c_wr472 ?uH) ?uA ?uI ?_) | (refine' FCon.use (c_seek2 ?uH) ?uA ?uI ?_) | (refine' FCon.use (c_seek1) ?uA ?uI ?_) | (refine' FCon.use (c_seek) ?uA ?uI ?_) | (refine' FCon.use (c_tell) ?uA ?uI ?_) | (refine' FCon.use (c_read ?uH) ?uA ?uI ?_) | (refine' FCon.use (c_write ?uH) ?uA ?uI ?_) | (refine' FCon.use (c_readI ?uH) ?uA ?uI ?_)); k_dflt (case uA => exact ⟨by k_asm, by k_asm, by k_asm, by k_asm, by k_asm, (by first | exact rfl | assumption), (by first | exact Nat.le_of_ble_eq_true rfl | ((try simp only [depth_under_make, depth_under_kw, depth_in1, depth_deeper, depth_caller]); (try dsimp only [ktrTop]); first | ((try simp only [Nat.add_assoc, Nat.reduceAdd, Nat.reduceMul]); exact room9 (by assumption) (by rfl)) | omega)), (by first | exact Nat.le_of_ble_eq_true rfl | ((try simp only [units_in1, units_deeper, Around.mark_units, units_caller]); (try dsimp only [ktrTop]); first | ((try simp only [Nat.add_assoc, Nat.reduceAdd, Nat.reduceMul]); exact room9 (by assumption) (by rfl)) | omega))⟩); k_dflt (try (case uM => k_mem)); k_dflt (try (case uI => (refine' ⟨by k_mem, by k_mem, by k_mem, by k_updF, by assumption, by first | assumption | omega, by first | assumption | omega, by first | assumption | omega⟩))); k_dflt (try (case uH2 => (rw [lawOct_length]; omega))); k_dflt (try (case uH => ((repeat' (with_reducible apply And.intro)) <;> (first | with_reducible assumption | exact Nat.le_of_ble_eq_true rfl | assumption | exact Eq.trans (by assumption) (by assumption) | exact of_decide_eq_true rfl | omega | ((simp only [List.length_append, List.length_take, List.length_drop, List.length_cons, List.length_nil, List.length_reverse, lawOct_length]); omega))))); intros; (rename News _ _ _ _ => N9); (try dsimp only at N9); (try (rename AllLt _ _ => l9; simp only [AllLt] at l9)); (try k_fold)) | ((with_reducible show wpAny _ _ (call (Value.ref _) _) _ _ _); (have mkE : EMark := trivial); walk1; (rename EMark => y9); clear y9)); k_steps; (all_goals (try k_data)))
    (all_goals (try k_data))
    refine' hret _ _ _ _ ⟨_, ⟨⟨_, _, _, _, ?_, ?_, rfl⟩, _, rfl, trivial⟩, rfl⟩ (by k_asm) (cb_drop (by k_asm) ?_)
    rotate_right 1
    (focus (intro q hq; repeat (first | exact hq | apply List.mem_cons_of_mem)))
    · rfl
    · assumption
  · obtain rfl : k = 13 := by first | exact Int.ofNat.inj (by assumption) | exact only13 hk11 hk13 (by assumption) (by assumption)
    have e9 : formB 13 kv = lawOct (kv.length : Int) 4 ++ kv := rfl
    rw [e9] at hret
    have L9 : (lawOct (kv.length : Int) 4).length ≤ 11 := headB_len (k := 13) (l := kv.length) (Nat.le_trans hl (by decide))
    obtain ⟨b1, b2, b3, b4⟩ := len_bounds hl
    have L6 := str_len9 h2 L9 hl
    k_steps
    repeat' (refine go ?_; (first | (k_dflt (first | (refine' PCon.use (c_pk56 ?uH) ?uA ?_) | (refine' PCon.use (c_pk49 ?uH) ?uA ?_) | (refine' FCon.use (c_wr472 ?uH) ?uA ?uI ?_) | (refine' FCon.use (c_seek2 ?uH) ?uA ?uI ?_) | (refine' FCon.use (c_seek1) ?uA ?uI ?_) | (refine' FCon.use (c_seek) ?uA ?uI ?_) | (refine' FCon.use (c_tell) ?uA ?uI ?_) | (refine' FCon.use (c_read ?uH) ?uA ?uI ?_) | (refine' FCon.use (c_write ?uH) ?uA ?uI ?_) | (refine' FCon.use (c_readI ?uH) ?uA ?uI ?_)); k_dflt (case uA => exact ⟨by k_asm, by k_asm, by k_asm, by k_asm, by k_asm, (by first | exact rfl | assumption), (by first | exact Nat.le_of_ble_eq_true rfl | ((try simp only [depth_under_make, depth_under_kw, depth_in1, depth_deeper, depth_caller]); (try dsimp only [ktrTop]); first | ((try simp only [Nat.add_assoc, Nat.reduceAdd, Nat.reduceMul]); exact room9 (by assumption) (by rfl)) | omega)), (by first | exact Nat.le_of_ble_eq_true rfl | ((try simp only [units_in1, units_deeper, Around.mark_units, units_caller]); (try dsimp only [ktrTop]); first | ((try simp only [Nat.add_assoc, Nat.reduceAdd, Nat.reduceMul]); exact room9 (by assumption) (by rfl)) | omega))⟩); k_dflt (try (case uM => k_mem)); k_dflt (try (case uI => (refine' ⟨by k_mem, by k_mem, by k_mem, by k_updF, by assumption, by first | assumption | omega, by first | assumption | omega, by first | assumption | omega⟩))); k_dflt (try (case uH2 => (rw [lawOct_length]; omega))); k_dflt (try (case uH => ((repeat' (with_reducible apply And.intro)) <;> (first | with_reducible assumption | exact Nat.le_of_ble_eq_true rfl | assumption | exact Eq.trans (by assumption) (by assumption) | exact of_decide_eq_true rfl | omega | ((simp only [List.length_append, List.length_take, List.length_drop, List.length_cons, List.length_nil, List.length_reverse, lawOct_length]); omega))))); intros; (rename News _ _ _ _ => N9); (try dsimp only at N9); (try (rename AllLt _ _ => l9; simp only [AllLt] at l9)); (try k_fold)) | ((with_reducible show wpAny _ _ (call (Value.ref _) _) _ _ _); (have mkE : EMark := trivial); walk1; (rename EMark => y9); clear y9)); k_steps; (all_goals (try k_data)))
    (all_goals (try k_data))
    refine' hret _ _ _ _ ⟨_, ⟨⟨_, _, _, _, ?_, ?_, rfl⟩, _, rfl, trivial⟩, rfl⟩ (by k_asm) (cb_drop (by k_asm) ?_)
    rotate_right 1
    (focus (intro q hq; repeat (first | exact hq | apply List.mem_cons_of_mem)))
    · rfl
    · assumption

end

end
theorem off_P15 : True := by w_top off; trivial
section
open PySem.Builtin in
theorem zig_bit (n : Int) : bitAnd (zig n : Int) 1 = (zig n : Int) % 2 := by
  have e : bitAnd (zig n : Int) 1 = ((zig n : Int) / 1 % 2) * 1 := kbt_bit (zig n : Int) 0
  rw [e, Int.ediv_one, Int.mul_one]
open PySem.Builtin in
theorem zig_odd {n : Int} (h : bitAnd (zig n : Int) 1 ≠ 0) : bitXor ((zig n : Int).fdiv (2 ^ Int.toNat 1)) (bitNot 0) = n := by
  rw [zig_bit] at h
  rw [show Int.toNat 1 = 1 from rfl, Int.pow_one, Int.fdiv_eq_ediv_of_nonneg _ (by decide : (0 : Int) ≤ 2), show bitNot 0 = -1 from rfl, xor_ones]
  unfold zig at h ⊢
  split at h <;> split <;> omega
open PySem.Builtin in
theorem zig_even {n : Int} (h : bitAnd (zig n : Int) 1 = 0) : (zig n : Int).fdiv (2 ^ Int.toNat 1) = n := by
  rw [zig_bit] at h
  rw [show Int.toNat 1 = 1 from rfl, Int.pow_one, Int.fdiv_eq_ediv_of_nonneg _ (by decide : (0 : Int) ≤ 2)]
  unfold zig at h ⊢
  split at h <;> split <;> omega
section
variable {w : World} {mean : ExcName → Option Value} {mg mb : Str → Option Value} {fx dS ox dO : Addr} {k1 k2 k3 k4 k5 k6 : Tok} {ks : List Int} {p : Nat}
local macro_rules | `(tactic| walk_at "exec Return some") => `(tactic| (k_here; (fail_if_success (rename Mark => y9)); refine halt ?_))
local macro_rules | `(tactic| walk_at "call builtin:ord") => `(tactic| (k_here; refine halt ?_))
theorem c_backI {k : Nat} {n : Int} {u : Tok} (H : k ≤ 10 ∧ GoodI k n ∧ (ks.drop p).take (formI k n).length = formI k n ∧ p + (formI k n).length ≤ ks.length ∧ ks.length ≤ 1000000) :
    FCon w mean mg mb 729 fx dS ox dO k1 k2 k3 k4 k5 k6 ks p [.ref fx, .int k u] 12 (ks) (p + (formI k n).length) (fun t' : Tok => Value.int (n) t') (fun _ => True) := by
  obtain ⟨hk10, G, h1, h2, h3⟩ := H
  intro o rest l1 l2 l3 ho hO
  have l4 : @LT.lt Nat _ dO dS := Nat.lt_trans l1 l2
  have l5 : @LT.lt Nat _ ox fx := Nat.lt_trans l2 l3
  have l6 : @LT.lt Nat _ dO fx := Nat.lt_trans l4 l3
  k_fill
  obtain ⟨b0, tb, q, tp, rfl, hb0, rfl⟩ := hO
  intro dp un gd cn cs a ccd cl outer A₀ base h₀ L m s Q E B F X N T hk hd hu hret
  k_dflt (refine' code_def ?k1 ?k2 ?k3 ?k4 ?k5 ?kA ?kF ?kK ?k6 ?k7 ?k8 ?k9 ?kB ?_ ?c2 ?c3 ?c4 ?c5; (case kA => exact rfl); (case kF => exact rfl); (case kK => first | exact rfl | assumption); (case k1 => k_asm); (case k2 => k_asm); (case k3 => k_asm); (case k4 => k_asm); (case k5 => k_asm); (case k6 => k_is); (case k7 => k_is); (case k8 => k_room); (case k9 => first | exact BindsTo.of_eq rfl | exact binds_K (by k_in) rfl (by k_is) rfl rfl rfl | fail "k_enter: no rule for these arguments"); (case c5 => decide); (case kB => exact locs rfl); (case c2 => exact rfl); (case c3 => exact rfl); (case c4 => exact rfl); k_whole; intro g' L' h' FG' F' N' B' X' T'; (try dsimp only); (try k_lift B'); (try k_fold))
  k_steps
  all_goals first
    | exact (no10 hk10 (by assumption) (by assumption) (by assumption) (by assumption) (by assumption) (by assumption) (by assumption) (by assumption) (by assumption) (by assumption) (by assumption)).elim
    | refine go ?_
  all_goals have mk9 : Mark := trivial
  · obtain rfl : k = 0 := Int.ofNat.inj (by assumption)
    obtain ⟨g8, g9⟩ := G.k0 rfl
    have e9 : formI 0 n = seven n.toNat := rfl
    rw [e9] at hret h1 h2
    clear hk10 G
    obtain ⟨j9, rfl⟩ := Int.eq_ofNat_of_zero_le g8
    rw [Int.toNat_natCast] at hret h1 h2
    have h8 : j9 < 4722366482869645213696 := nat_lt9 g9
    k_steps
    repeat' (refine go ?_; (first | (k_dflt (first | (refine' FCon.use (c_rd619 ?uH) ?uA ?uI ?_) | (refine' FCon.use (c_rd612 ?uH) ?uA ?uI ?_) | (refine' FCon.use (c_rd605 ?uH) ?uA ?uI ?_) | (refine' FCon.use (c_rd598 ?uH) ?uA ?uI ?_) | (refine' FCon.use (c_rd591 ?uH) ?uA ?uI ?_) | (refine' FCon.use (c_rd584 ?uH) ?uA ?uI ?_) | (refine' FCon.use (c_rd577 ?uH) ?uA ?uI ?_) | (refine' FCon.use (c_rd570 ?uH) ?uA ?uI ?_) | (refine' use_readvar ?uM ?uH ?uA ?uI ?_) | (refine' FCon.use (c_seek2 ?uH) ?uA ?uI ?_) | (refine' FCon.use (c_seek1) ?uA ?uI ?_) | (refine' FCon.use (c_seek) ?uA ?uI ?_) | (refine' FCon.use (c_tell) ?uA ?uI ?_) | (refine' FCon.use (c_read ?uH) ?uA ?uI ?_) | (refine' FCon.use (c_write ?uH) ?uA ?uI ?_) | (refine' FCon.use (c_readI ?uH) ?uA ?uI ?_)); k_dflt (case uA => exact ⟨by k_asm, by k_asm, by k_asm, by k_asm, by k_asm, (by first | exact rfl | assumption), (by first | exact Nat.le_of_ble_eq_true rfl | ((try simp only [depth_under_make, depth_under_kw, depth_in1, depth_deeper, depth_caller]); (try dsimp only [ktrTop]); first | ((try simp only [Nat.add_assoc, Nat.reduceAdd, Nat.reduceMul]); exact room9 (by assumption) (by rfl)) | omega)), (by first | exact Nat.le_of_ble_eq_true rfl | ((try simp only [units_in1, units_deeper, Around.mark_units, units_caller]); (try dsimp only [ktrTop]); first | ((try simp only [Nat.add_assoc, Nat.reduceAdd, Nat.reduceMul]); exact room9 (by assumption) (by rfl)) | omega))⟩); k_dflt (try (case uM => k_mem)); k_dflt (try (case uI => (refine' ⟨by k_mem, by k_mem, by k_mem, by k_updF, by assumption, by first | assumption | omega, by first | assumption | omega, by first | assumption | omega⟩))); k_dflt (try (case uH2 => (rw [lawOct_length]; omega))); k_dflt (try (case uH => ((repeat' (with_reducible apply And.intro)) <;> (first | with_reducible assumption | exact Nat.le_of_ble_eq_true rfl | assumption | exact Eq.trans (by assumption) (by assumption) | exact of_decide_eq_true rfl | omega | ((simp only [List.length_append, List.length_take, List.length_drop, List.length_cons, List.length_nil, List.length_reverse, lawOct_length]); omega))))); intros; (rename News _ _ _ _ => N9); (try dsimp only at N9); (try (rename AllLt _ _ => l9; simp only [AllLt] at l9)); (try k_fold)) | ((with_reducible show wpAny _ _ (call (Value.ref _) _) _ _ _); (have mkE : EMark := trivial); walk1; (rename EMark => y9); clear y9)); k_steps; (all_goals (try k_data)))
    (all_goals (try k_data))
    refine' hret _ _ _ _ ⟨_, ⟨⟨_, _, _, _, ?_, ?_, rfl⟩, _, rfl, trivial⟩, rfl⟩ (by k_asm) (cb_drop (by k_asm) ?_)
    rotate_right 1
    (focus (intro q hq; repeat (first | exact hq | apply List.mem_cons_of_mem)))
    · rfl
    · assumption
  · obtain rfl : k = 1 := Int.ofNat.inj (by assumption)
    obtain ⟨g8, g9⟩ := G.k1 rfl
    have e9 : formI 1 n = seven (zig n) := rfl
    rw [e9] at hret h1 h2
    clear hk10 G
    have h8 : zig n < 4722366482869645213696 := zig_lt g8 g9
    k_steps
    repeat' (refine go ?_; (first | (k_dflt (first | (refine' FCon.use (c_rd619 ?uH) ?uA ?uI ?_) | (refine' FCon.use (c_rd612 ?uH) ?uA ?uI ?_) | (refine' FCon.use (c_rd605 ?uH) ?uA ?uI ?_) | (refine' FCon.use (c_rd598 ?uH) ?uA ?uI ?_) | (refine' FCon.use (c_rd591 ?uH) ?uA ?uI ?_) | (refine' FCon.use (c_rd584 ?uH) ?uA ?uI ?_) | (refine' FCon.use (c_rd577 ?uH) ?uA ?uI ?_) | (refine' FCon.use (c_rd570 ?uH) ?uA ?uI ?_) | (refine' use_readvar ?uM ?uH ?uA ?uI ?_) | (refine' FCon.use (c_seek2 ?uH) ?uA ?uI ?_) | (refine' FCon.use (c_seek1) ?uA ?uI ?_) | (refine' FCon.use (c_seek) ?uA ?uI ?_) | (refine' FCon.use (c_tell) ?uA ?uI ?_) | (refine' FCon.use (c_read ?uH) ?uA ?uI ?_) | (refine' FCon.use (c_write ?uH) ?uA ?uI ?_) | (refine' FCon.use (c_readI ?uH) ?uA ?uI ?_)); k_dflt (case uA => exact ⟨by k_asm, by k_asm, by k_asm, by k_asm, by k_asm, (by first | exact rfl | assumption), (by first | exact Nat.le_of_ble_eq_true rfl | ((try simp only [depth_under_make, depth_under_kw, depth_in1, depth_deeper, depth_caller]); (try dsimp only [ktrTop]); first | ((try simp only [Nat.add_assoc, Nat.reduceAdd, Nat.reduceMul]); exact room9 (by assumption) (by rfl)) | omega)), (by first | exact Nat.le_of_ble_eq_true rfl | ((try simp only [units_in1, units_deeper, Around.mark_units, units_caller]); (try dsimp only [ktrTop]); first | ((try simp only [Nat.add_assoc, Nat.reduceAdd, Nat.reduceMul]); exact room9 (by assumption) (by rfl)) | omega))⟩); k_dflt (try (case uM => k_mem)); k_dflt (try (case uI => (refine' ⟨by k_mem, by k_mem, by k_mem, by k_updF, by assumption, by first | assumption | omega, by first | assumption | omega, by first | assumption | omega⟩))); k_dflt (try (case uH2 => (rw [lawOct_length]; omega))); k_dflt (try (case uH => ((repeat' (with_reducible apply And.intro)) <;> (first | with_reducible assumption | exact Nat.le_of_ble_eq_true rfl | assumption | exact Eq.trans (by assumption) (by assumption) | exact of_decide_eq_true rfl | omega | ((simp only [List.length_append, List.length_take, List.length_drop, List.length_cons, List.length_nil, List.length_reverse, lawOct_length]); omega))))); intros; (rename News _ _ _ _ => N9); (try dsimp only at N9); (try (rename AllLt _ _ => l9; simp only [AllLt] at l9)); (try k_fold)) | ((with_reducible show wpAny _ _ (call (Value.ref _) _) _ _ _); (have mkE : EMark := trivial); walk1; (rename EMark => y9); clear y9)); k_steps; (all_goals (try k_data)))
    (all_goals (try k_data))
    · rename (Builtin.bitAnd _ _ ≠ 0) => h5
      refine' hret _ _ _ _ ⟨_, ⟨⟨_, _, _, _, ?_, ?_, rfl⟩, _, congrArg (fun z => Value.int z _) (zig_odd h5), trivial⟩, rfl⟩ (by k_asm) (cb_drop (by k_asm) ?_)
      rotate_right 1
      (focus (intro q hq; repeat (first | exact hq | apply List.mem_cons_of_mem)))
      · rfl
      · assumption
    · rename (Builtin.bitAnd _ _ = 0) => h5
      refine' hret _ _ _ _ ⟨_, ⟨⟨_, _, _, _, ?_, ?_, rfl⟩, _, congrArg (fun z => Value.int z _) (zig_even h5), trivial⟩, rfl⟩ (by k_asm) (cb_drop (by k_asm) ?_)
      rotate_right 1
      (focus (intro q hq; repeat (first | exact hq | apply List.mem_cons_of_mem)))
      · rfl
      · assumption
  · obtain rfl : k = 2 := Int.ofNat.inj (by assumption)
    obtain ⟨g8, g9⟩ := G.k2 rfl
    have e9 : formI 2 n = lawOct n 1 := rfl
    rw [e9] at hret h1 h2
    clear hk10 G
    rw [lawOct_length] at hret h1 h2
    have h8 : List.take (Int.toNat 1) (List.drop p ks) = lawOct n 1 := h1
    have h7 : lawOct n 1 = [n] := by show [n % 256 ^ 1 % 256] = [n]; congr 1; omega
    k_steps
    repeat' (refine go ?_; (first | (k_dflt (first | (refine' FCon.use (c_rd619 ?uH) ?uA ?uI ?_) | (refine' FCon.use (c_rd612 ?uH) ?uA ?uI ?_) | (refine' FCon.use (c_rd605 ?uH) ?uA ?uI ?_) | (refine' FCon.use (c_rd598 ?uH) ?uA ?uI ?_) | (refine' FCon.use (c_rd591 ?uH) ?uA ?uI ?_) | (refine' FCon.use (c_rd584 ?uH) ?uA ?uI ?_) | (refine' FCon.use (c_rd577 ?uH) ?uA ?uI ?_) | (refine' FCon.use (c_rd570 ?uH) ?uA ?uI ?_) | (refine' use_readvar ?uM ?uH ?uA ?uI ?_) | (refine' FCon.use (c_seek2 ?uH) ?uA ?uI ?_) | (refine' FCon.use (c_seek1) ?uA ?uI ?_) | (refine' FCon.use (c_seek) ?uA ?uI ?_) | (refine' FCon.use (c_tell) ?uA ?uI ?_) | (refine' FCon.use (c_read ?uH) ?uA ?uI ?_) | (refine' FCon.use (c_write ?uH) ?uA ?uI ?_) | (refine' FCon.use (c_readI ?uH) ?uA ?uI ?_)); k_dflt (case uA => exact ⟨by k_asm, by k_asm, by k_asm, by k_asm, by k_asm, (by first | exact rfl | assumption), (by first | exact Nat.le_of_ble_eq_true rfl | ((try simp only [depth_under_make, depth_under_kw, depth_in1, depth_deeper, depth_caller]); (try dsimp only [ktrTop]); first | ((try simp only [Nat.add_assoc, Nat.reduceAdd, Nat.reduceMul]); exact room9 (by assumption) (by rfl)) | omega)), (by first | exact Nat.le_of_ble_eq_true rfl | ((try simp only [units_in1, units_deeper, Around.mark_units, units_caller]); (try dsimp only [ktrTop]); first | ((try simp only [Nat.add_assoc, Nat.reduceAdd, Nat.reduceMul]); exact room9 (by assumption) (by rfl)) | omega))⟩); k_dflt (try (case uM => k_mem)); k_dflt (try (case uI => (refine' ⟨by k_mem, by k_mem, by k_mem, by k_updF, by assumption, by first | assumption | omega, by first | assumption | omega, by first | assumption | omega⟩))); k_dflt (try (case uH2 => (rw [lawOct_length]; omega))); k_dflt (try (case uH => ((repeat' (with_reducible apply And.intro)) <;> (first | with_reducible assumption | exact Nat.le_of_ble_eq_true rfl | assumption | exact Eq.trans (by assumption) (by assumption) | exact of_decide_eq_true rfl | omega | ((simp only [List.length_append, List.length_take, List.length_drop, List.length_cons, List.length_nil, List.length_reverse, lawOct_length]); omega))))); intros; (rename News _ _ _ _ => N9); (try dsimp only at N9); (try (rename AllLt _ _ => l9; simp only [AllLt] at l9)); (try k_fold)) | ((with_reducible show wpAny _ _ (call (Value.ref _) _) _ _ _); (have mkE : EMark := trivial); walk1; (rename EMark => y9); clear y9)); k_steps; (all_goals (try k_data)))
    (all_goals (try k_data))
    refine go ?_
    refine ord_bytes (Eq.trans (by assumption) (h8.trans h7)) ?_
    k_steps
    repeat' (refine go ?_; (first | (k_dflt (first | (refine' FCon.use (c_rd619 ?uH) ?uA ?uI ?_) | (refine' FCon.use (c_rd612 ?uH) ?uA ?uI ?_) | (refine' FCon.use (c_rd605 ?uH) ?uA ?uI ?_) | (refine' FCon.use (c_rd598 ?uH) ?uA ?uI ?_) | (refine' FCon.use (c_rd591 ?uH) ?uA ?uI ?_) | (refine' FCon.use (c_rd584 ?uH) ?uA ?uI ?_) | (refine' FCon.use (c_rd577 ?uH) ?uA ?uI ?_) | (refine' FCon.use (c_rd570 ?uH) ?uA ?uI ?_) | (refine' use_readvar ?uM ?uH ?uA ?uI ?_) | (refine' FCon.use (c_seek2 ?uH) ?uA ?uI ?_) | (refine' FCon.use (c_seek1) ?uA ?uI ?_) | (refine' FCon.use (c_seek) ?uA ?uI ?_) | (refine' FCon.use (c_tell) ?uA ?uI ?_) | (refine' FCon.use (c_read ?uH) ?uA ?uI ?_) | (refine' FCon.use (c_write ?uH) ?uA ?uI ?_) | (refine' FCon.use (c_readI ?uH) ?uA ?uI ?_)); k_dflt (case uA => exact ⟨by k_asm, by k_asm, by k_asm, by k_asm, by k_asm, (by first | exact rfl | assumption), (by first | exact Nat.le_of_ble_eq_true rfl | ((try simp only [depth_under_make, depth_under_kw, depth_in1, depth_deeper, depth_caller]); (try dsimp only [ktrTop]); first | ((try simp only [Nat.add_assoc, Nat.reduceAdd, Nat.reduceMul]); exact room9 (by assumption) (by rfl)) | omega)), (by first | exact Nat.le_of_ble_eq_true rfl | ((try simp only [units_in1, units_deeper, Around.mark_units, units_caller]); (try dsimp only [ktrTop]); first | ((try simp only [Nat.add_assoc, Nat.reduceAdd, Nat.reduceMul]); exact room9 (by assumption) (by rfl)) | omega))⟩); k_dflt (try (case uM => k_mem)); k_dflt (try (case uI => (refine' ⟨by k_mem, by k_mem, by k_mem, by k_updF, by assumption, by first | assumption | omega, by first | assumption | omega, by first | assumption | omega⟩))); k_dflt (try (case uH2 => (rw [lawOct_length]; omega))); k_dflt (try (case uH => ((repeat' (with_reducible apply And.intro)) <;> (first | with_reducible assumption | exact Nat.le_of_ble_eq_true rfl | assumption | exact Eq.trans (by assumption) (by assumption) | exact of_decide_eq_true rfl | omega | ((simp only [List.length_append, List.length_take, List.length_drop, List.length_cons, List.length_nil, List.length_reverse, lawOct_length]); omega))))); intros; (rename News _ _ _ _ => N9); (try dsimp only at N9); (try (rename AllLt _ _ => l9; simp only [AllLt] at l9)); (try k_fold)) | ((with_reducible show wpAny _ _ (call (Value.ref _) _) _ _ _); (have mkE : EMark := trivial); walk1; (rename EMark => y9); clear y9)); k_steps; (all_goals (try k_data)))
    (all_goals (try k_data))
    refine' hret _ _ _ _ ⟨_, ⟨⟨_, _, _, _, ?_, ?_, rfl⟩, _, rfl, trivial⟩, rfl⟩ (by k_asm) (cb_drop (by k_asm) ?_)
    rotate_right 1
    (focus (intro q hq; repeat (first | exact hq | apply List.mem_cons_of_mem)))
    · rfl
    · assumption
  · obtain rfl : k = 3 := Int.ofNat.inj (by assumption)
    obtain ⟨g8, g9⟩ := G.k3 rfl
    have e9 : formI 3 n = lawOct n 1 := rfl
    rw [e9] at hret h1 h2
    clear hk10 G
    rw [lawOct_length] at hret h1 h2
    k_steps
    repeat' (refine go ?_; (first | (k_dflt (first | (refine' FCon.use (c_rd570 ?uH) ?uA ?uI ?_)); k_dflt (case uA => exact ⟨by k_asm, by k_asm, by k_asm, by k_asm, by k_asm, (by first | exact rfl | assumption), (by first | exact Nat.le_of_ble_eq_true rfl | ((try simp only [depth_under_make, depth_under_kw, depth_in1, depth_deeper, depth_caller]); (try dsimp only [ktrTop]); first | ((try simp only [Nat.add_assoc, Nat.reduceAdd, Nat.reduceMul]); exact room9 (by assumption) (by rfl)) | omega)), (by first | exact Nat.le_of_ble_eq_true rfl | ((try simp only [units_in1, units_deeper, Around.mark_units, units_caller]); (try dsimp only [ktrTop]); first | ((try simp only [Nat.add_assoc, Nat.reduceAdd, Nat.reduceMul]); exact room9 (by assumption) (by rfl)) | omega))⟩); k_dflt (try (case uM => k_mem)); k_dflt (try (case uI => (refine' ⟨by k_mem, by k_mem, by k_mem, by k_updF, by assumption, by first | assumption | omega, by first | assumption | omega, by first | assumption | omega⟩))); k_dflt (try (case uH2 => (rw [lawOct_length]; omega))); k_dflt (try (case uH => ((repeat' (with_reducible apply And.intro)) <;> (first | with_reducible assumption | exact Nat.le_of_ble_eq_true rfl | assumption | exact Eq.trans (by assumption) (by assumption) | exact of_decide_eq_true rfl | omega | ((simp only [List.length_append, List.length_take, List.length_drop, List.length_cons, List.length_nil, List.length_reverse, lawOct_length]); omega))))); intros; (rename News _ _ _ _ => N9); (try dsimp only at N9); (try (rename AllLt _ _ => l9; simp only [AllLt] at l9)); (try k_fold)) | ((with_reducible show wpAny _ _ (call (Value.ref _) _) _ _ _); (have mkE : EMark := trivial); walk1; (rename EMark => y9); clear y9)); k_steps; (all_goals (try k_data)))
    (all_goals (try k_data))
    refine' hret _ _ _ _ ⟨_, ⟨⟨_, _, _, _, ?_, ?_, rfl⟩, _, rfl, trivial⟩, rfl⟩ (by k_asm) (cb_drop (by k_asm) ?_)
    rotate_right 1
    (focus (intro q hq; repeat (first | exact hq | apply List.mem_cons_of_mem)))
    · rfl
    · assumption
  · obtain rfl : k = 4 := Int.ofNat.inj (by assumption)
    obtain ⟨g8, g9⟩ := G.k4 rfl
    have e9 : formI 4 n = lawOct n 2 := rfl
    rw [e9] at hret h1 h2
    clear hk10 G
    rw [lawOct_length] at hret h1 h2
    k_steps
    repeat' (refine go ?_; (first | (k_dflt (first | (refine' FCon.use (c_rd598 ?uH) ?uA ?uI ?_)); k_dflt (case uA => exact ⟨by k_asm, by k_asm, by k_asm, by k_asm, by k_asm, (by first | exact rfl | assumption), (by first | exact Nat.le_of_ble_eq_true rfl | ((try simp only [depth_under_make, depth_under_kw, depth_in1, depth_deeper, depth_caller]); (try dsimp only [ktrTop]); first | ((try simp only [Nat.add_assoc, Nat.reduceAdd, Nat.reduceMul]); exact room9 (by assumption) (by rfl)) | omega)), (by first | exact Nat.le_of_ble_eq_true rfl | ((try simp only [units_in1, units_deeper, Around.mark_units, units_caller]); (try dsimp only [ktrTop]); first | ((try simp only [Nat.add_assoc, Nat.reduceAdd, Nat.reduceMul]); exact room9 (by assumption) (by rfl)) | omega))⟩); k_dflt (try (case uM => k_mem)); k_dflt (try (case uI => (refine' ⟨by k_mem, by k_mem, by k_mem, by k_updF, by assumption, by first | assumption | omega, by first | assumption | omega, by first | assumption | omega⟩))); k_dflt (try (case uH2 => (rw [lawOct_length]; omega))); k_dflt (try (case uH => ((repeat' (with_reducible apply And.intro)) <;> (first | with_reducible assumption | exact Nat.le_of_ble_eq_true rfl | assumption | exact Eq.trans (by assumption) (by assumption) | exact of_decide_eq_true rfl | omega | ((simp only [List.length_append, List.length_take, List.length_drop, List.length_cons, List.length_nil, List.length_reverse, lawOct_length]); omega))))); intros; (rename News _ _ _ _ => N9); (try dsimp only at N9); (try (rename AllLt _ _ => l9; simp only [AllLt] at l9)); (try k_fold)) | ((with_reducible show wpAny _ _ (call (Value.ref _) _) _ _ _); (have mkE : EMark := trivial); walk1; (rename EMark => y9); clear y9)); k_steps; (all_goals (try k_data)))
    (all_goals (try k_data))
    refine' hret _ _ _ _ ⟨_, ⟨⟨_, _, _, _, ?_, ?_, rfl⟩, _, rfl, trivial⟩, rfl⟩ (by k_asm) (cb_drop (by k_asm) ?_)
    rotate_right 1
    (focus (intro q hq; repeat (first | exact hq | apply List.mem_cons_of_mem)))
    · rfl
    · assumption
  · obtain rfl : k = 5 := Int.ofNat.inj (by assumption)
    obtain ⟨g8, g9⟩ := G.k5 rfl
    have e9 : formI 5 n = (lawOct n 2).reverse := rfl
    rw [e9] at hret h1 h2
    clear hk10 G
    rw [List.length_reverse, lawOct_length] at hret h1 h2
    k_steps
    repeat' (refine go ?_; (first | (k_dflt (first | (refine' FCon.use (c_rd605 ?uH) ?uA ?uI ?_)); k_dflt (case uA => exact ⟨by k_asm, by k_asm, by k_asm, by k_asm, by k_asm, (by first | exact rfl | assumption), (by first | exact Nat.le_of_ble_eq_true rfl | ((try simp only [depth_under_make, depth_under_kw, depth_in1, depth_deeper, depth_caller]); (try dsimp only [ktrTop]); first | ((try simp only [Nat.add_assoc, Nat.reduceAdd, Nat.reduceMul]); exact room9 (by assumption) (by rfl)) | omega)), (by first | exact Nat.le_of_ble_eq_true rfl | ((try simp only [units_in1, units_deeper, Around.mark_units, units_caller]); (try dsimp only [ktrTop]); first | ((try simp only [Nat.add_assoc, Nat.reduceAdd, Nat.reduceMul]); exact room9 (by assumption) (by rfl)) | omega))⟩); k_dflt (try (case uM => k_mem)); k_dflt (try (case uI => (refine' ⟨by k_mem, by k_mem, by k_mem, by k_updF, by assumption, by first | assumption | omega, by first | assumption | omega, by first | assumption | omega⟩))); k_dflt (try (case uH2 => (rw [lawOct_length]; omega))); k_dflt (try (case uH => ((repeat' (with_reducible apply And.intro)) <;> (first | with_reducible assumption | exact Nat.le_of_ble_eq_true rfl | assumption | exact Eq.trans (by assumption) (by assumption) | exact of_decide_eq_true rfl | omega | ((simp only [List.length_append, List.length_take, List.length_drop, List.length_cons, List.length_nil, List.length_reverse, lawOct_length]); omega))))); intros; (rename News _ _ _ _ => N9); (try dsimp only at N9); (try (rename AllLt _ _ => l9; simp only [AllLt] at l9)); (try k_fold)) | ((with_reducible show wpAny _ _ (call (Value.ref _) _) _ _ _); (have mkE : EMark := trivial); walk1; (rename EMark => y9); clear y9)); k_steps; (all_goals (try k_data)))
    (all_goals (try k_data))
    refine' hret _ _ _ _ ⟨_, ⟨⟨_, _, _, _, ?_, ?_, rfl⟩, _, rfl, trivial⟩, rfl⟩ (by k_asm) (cb_drop (by k_asm) ?_)
    rotate_right 1
    (focus (intro q hq; repeat (first | exact hq | apply List.mem_cons_of_mem)))
    · rfl
    · assumption
  · obtain rfl : k = 6 := Int.ofNat.inj (by assumption)
    obtain ⟨g8, g9⟩ := G.k6 rfl
    have e9 : formI 6 n = lawOct n 4 := rfl
    rw [e9] at hret h1 h2
    clear hk10 G
    rw [lawOct_length] at hret h1 h2
    k_steps
    repeat' (refine go ?_; (first | (k_dflt (first | (refine' FCon.use (c_rd577 ?uH) ?uA ?uI ?_)); k_dflt (case uA => exact ⟨by k_asm, by k_asm, by k_asm, by k_asm, by k_asm, (by first | exact rfl | assumption), (by first | exact Nat.le_of_ble_eq_true rfl | ((try simp only [depth_under_make, depth_under_kw, depth_in1, depth_deeper, depth_caller]); (try dsimp only [ktrTop]); first | ((try simp only [Nat.add_assoc, Nat.reduceAdd, Nat.reduceMul]); exact room9 (by assumption) (by rfl)) | omega)), (by first | exact Nat.le_of_ble_eq_true rfl | ((try simp only [units_in1, units_deeper, Around.mark_units, units_caller]); (try dsimp only [ktrTop]); first | ((try simp only [Nat.add_assoc, Nat.reduceAdd, Nat.reduceMul]); exact room9 (by assumption) (by rfl)) | omega))⟩); k_dflt (try (case uM => k_mem)); k_dflt (try (case uI => (refine' ⟨by k_mem, by k_mem, by k_mem, by k_updF, by assumption, by first | assumption | omega, by first | assumption | omega, by first | assumption | omega⟩))); k_dflt (try (case uH2 => (rw [lawOct_length]; omega))); k_dflt (try (case uH => ((repeat' (with_reducible apply And.intro)) <;> (first | with_reducible assumption | exact Nat.le_of_ble_eq_true rfl | assumption | exact Eq.trans (by assumption) (by assumption) | exact of_decide_eq_true rfl | omega | ((simp only [List.length_append, List.length_take, List.length_drop, List.length_cons, List.length_nil, List.length_reverse, lawOct_length]); omega))))); intros; (rename News _ _ _ _ => N9); (try dsimp only at N9); (try (rename AllLt _ _ => l9; simp only [AllLt] at l9)); (try k_fold)) | ((with_reducible show wpAny _ _ (call (Value.ref _) _) _ _ _); (have mkE : EMark := trivial); walk1; (rename EMark => y9); clear y9)); k_steps; (all_goals (try k_data)))
    (all_goals (try k_data))
    refine' hret _ _ _ _ ⟨_, ⟨⟨_, _, _, _, ?_, ?_, rfl⟩, _, rfl, trivial⟩, rfl⟩ (by k_asm) (cb_drop (by k_asm) ?_)
    rotate_right 1
    (focus (intro q hq; repeat (first | exact hq | apply List.mem_cons_of_mem)))
    · rfl
    · assumption
  · obtain rfl : k = 7 := Int.ofNat.inj (by assumption)
    obtain ⟨g8, g9⟩ := G.k7 rfl
    have e9 : formI 7 n = lawOct n 4 := rfl
    rw [e9] at hret h1 h2
    clear hk10 G
    rw [lawOct_length] at hret h1 h2
    k_steps
    repeat' (refine go ?_; (first | (k_dflt (first | (refine' FCon.use (c_rd584 ?uH) ?uA ?uI ?_)); k_dflt (case uA => exact ⟨by k_asm, by k_asm, by k_asm, by k_asm, by k_asm, (by first | exact rfl | assumption), (by first | exact Nat.le_of_ble_eq_true rfl | ((try simp only [depth_under_make, depth_under_kw, depth_in1, depth_deeper, depth_caller]); (try dsimp only [ktrTop]); first | ((try simp only [Nat.add_assoc, Nat.reduceAdd, Nat.reduceMul]); exact room9 (by assumption) (by rfl)) | omega)), (by first | exact Nat.le_of_ble_eq_true rfl | ((try simp only [units_in1, units_deeper, Around.mark_units, units_caller]); (try dsimp only [ktrTop]); first | ((try simp only [Nat.add_assoc, Nat.reduceAdd, Nat.reduceMul]); exact room9 (by assumption) (by rfl)) | omega))⟩); k_dflt (try (case uM => k_mem)); k_dflt (try (case uI => (refine' ⟨by k_mem, by k_mem, by k_mem, by k_updF, by assumption, by first | assumption | omega, by first | assumption | omega, by first | assumption | omega⟩))); k_dflt (try (case uH2 => (rw [lawOct_length]; omega))); k_dflt (try (case uH => ((repeat' (with_reducible apply And.intro)) <;> (first | with_reducible assumption | exact Nat.le_of_ble_eq_true rfl | assumption | exact Eq.trans (by assumption) (by assumption) | exact of_decide_eq_true rfl | omega | ((simp only [List.length_append, List.length_take, List.length_drop, List.length_cons, List.length_nil, List.length_reverse, lawOct_length]); omega))))); intros; (rename News _ _ _ _ => N9); (try dsimp only at N9); (try (rename AllLt _ _ => l9; simp only [AllLt] at l9)); (try k_fold)) | ((with_reducible show wpAny _ _ (call (Value.ref _) _) _ _ _); (have mkE : EMark := trivial); walk1; (rename EMark => y9); clear y9)); k_steps; (all_goals (try k_data)))
    (all_goals (try k_data))
    refine' hret _ _ _ _ ⟨_, ⟨⟨_, _, _, _, ?_, ?_, rfl⟩, _, rfl, trivial⟩, rfl⟩ (by k_asm) (cb_drop (by k_asm) ?_)
    rotate_right 1
    (focus (intro q hq; repeat (first | exact hq | apply List.mem_cons_of_mem)))
    · rfl
    · assumption
  · obtain rfl : k = 8 := Int.ofNat.inj (by assumption)
    obtain ⟨g8, g9⟩ := G.k8 rfl
    have e9 : formI 8 n = (lawOct n 4).reverse := rfl
    rw [e9] at hret h1 h2
    clear hk10 G
    rw [List.length_reverse, lawOct_length] at hret h1 h2
    k_steps
    repeat' (refine go ?_; (first | (k_dflt (first | (refine' FCon.use (c_rd591 ?uH) ?uA ?uI ?_)); k_dflt (case uA => exact ⟨by k_asm, by k_asm, by k_asm, by k_asm, by k_asm, (by first | exact rfl | assumption), (by first | exact Nat.le_of_ble_eq_true rfl | ((try simp only [depth_under_make, depth_under_kw, depth_in1, depth_deeper, depth_caller]); (try dsimp only [ktrTop]); first | ((try simp only [Nat.add_assoc, Nat.reduceAdd, Nat.reduceMul]); exact room9 (by assumption) (by rfl)) | omega)), (by first | exact Nat.le_of_ble_eq_true rfl | ((try simp only [units_in1, units_deeper, Around.mark_units, units_caller]); (try dsimp only [ktrTop]); first | ((try simp only [Nat.add_assoc, Nat.reduceAdd, Nat.reduceMul]); exact room9 (by assumption) (by rfl)) | omega))⟩); k_dflt (try (case uM => k_mem)); k_dflt (try (case uI => (refine' ⟨by k_mem, by k_mem, by k_mem, by k_updF, by assumption, by first | assumption | omega, by first | assumption | omega, by first | assumption | omega⟩))); k_dflt (try (case uH2 => (rw [lawOct_length]; omega))); k_dflt (try (case uH => ((repeat' (with_reducible apply And.intro)) <;> (first | with_reducible assumption | exact Nat.le_of_ble_eq_true rfl | assumption | exact Eq.trans (by assumption) (by assumption) | exact of_decide_eq_true rfl | omega | ((simp only [List.length_append, List.length_take, List.length_drop, List.length_cons, List.length_nil, List.length_reverse, lawOct_length]); omega))))); intros; (rename News _ _ _ _ => N9); (try dsimp only at N9); (try (rename AllLt _ _ => l9; simp only [AllLt] at l9)); (try k_fold)) | ((with_reducible show wpAny _ _ (call (Value.ref _) _) _ _ _); (have mkE : EMark := trivial); walk1; (rename EMark => y9); clear y9)); k_steps; (all_goals (try k_data)))
    (all_goals (try k_data))
    refine' hret _ _ _ _ ⟨_, ⟨⟨_, _, _, _, ?_, ?_, rfl⟩, _, rfl, trivial⟩, rfl⟩ (by k_asm) (cb_drop (by k_asm) ?_)
    rotate_right 1
    (focus (intro q hq; repeat (first | exact hq | apply List.mem_cons_of_mem)))
    · rfl
    · assumption
  · obtain rfl : k = 9 := Int.ofNat.inj (by assumption)
    obtain ⟨g8, g9⟩ := G.k9 rfl
    have e9 : formI 9 n = lawOct n 8 := rfl
    rw [e9] at hret h1 h2
    clear hk10 G
    rw [lawOct_length] at hret h1 h2
    k_steps
    repeat' (refine go ?_; (first | (k_dflt (first | (refine' FCon.use (c_rd612 ?uH) ?uA ?uI ?_)); k_dflt (case uA => exact ⟨by k_asm, by k_asm, by k_asm, by k_asm, by k_asm, (by first | exact rfl | assumption), (by first | exact Nat.le_of_ble_eq_true rfl | ((try simp only [depth_under_make, depth_under_kw, depth_in1, depth_deeper, depth_caller]); (try dsimp only [ktrTop]); first | ((try simp only [Nat.add_assoc, Nat.reduceAdd, Nat.reduceMul]); exact room9 (by assumption) (by rfl)) | omega)), (by first | exact Nat.le_of_ble_eq_true rfl | ((try simp only [units_in1, units_deeper, Around.mark_units, units_caller]); (try dsimp only [ktrTop]); first | ((try simp only [Nat.add_assoc, Nat.reduceAdd, Nat.reduceMul]); exact room9 (by assumption) (by rfl)) | omega))⟩); k_dflt (try (case uM => k_mem)); k_dflt (try (case uI => (refine' ⟨by k_mem, by k_mem, by k_mem, by k_updF, by assumption, by first | assumption | omega, by first | assumption | omega, by first | assumption | omega⟩))); k_dflt (try (case uH2 => (rw [lawOct_length]; omega))); k_dflt (try (case uH => ((repeat' (with_reducible apply And.intro)) <;> (first | with_reducible assumption | exact Nat.le_of_ble_eq_true rfl | assumption | exact Eq.trans (by assumption) (by assumption) | exact of_decide_eq_true rfl | omega | ((simp only [List.length_append, List.length_take, List.length_drop, List.length_cons, List.length_nil, List.length_reverse, lawOct_length]); omega))))); intros; (rename News _ _ _ _ => N9); (try dsimp only at N9); (try (rename AllLt _ _ => l9; simp only [AllLt] at l9)); (try k_fold)) | ((with_reducible show wpAny _ _ (call (Value.ref _) _) _ _ _); (have mkE : EMark := trivial); walk1; (rename EMark => y9); clear y9)); k_steps; (all_goals (try k_data)))
    (all_goals (try k_data))
    refine' hret _ _ _ _ ⟨_, ⟨⟨_, _, _, _, ?_, ?_, rfl⟩, _, rfl, trivial⟩, rfl⟩ (by k_asm) (cb_drop (by k_asm) ?_)
    rotate_right 1
    (focus (intro q hq; repeat (first | exact hq | apply List.mem_cons_of_mem)))
    · rfl
    · assumption
  · obtain rfl : k = 10 := Int.ofNat.inj (by assumption)
    obtain ⟨g8, g9⟩ := G.k10 rfl
    have e9 : formI 10 n = lawOct n 8 := rfl
    rw [e9] at hret h1 h2
    clear hk10 G
    rw [lawOct_length] at hret h1 h2
    k_steps
    repeat' (refine go ?_; (first | (k_dflt (first | (refine' FCon.use (c_rd619 ?uH) ?uA ?uI ?_)); k_dflt (case uA => exact ⟨by k_asm, by k_asm, by k_asm, by k_asm, by k_asm, (by first | exact rfl | assumption), (by first | exact Nat.le_of_ble_eq_true rfl | ((try simp only [depth_under_make, depth_under_kw, depth_in1, depth_deeper, depth_caller]); (try dsimp only [ktrTop]); first | ((try simp only [Nat.add_assoc, Nat.reduceAdd, Nat.reduceMul]); exact room9 (by assumption) (by rfl)) | omega)), (by first | exact Nat.le_of_ble_eq_true rfl | ((try simp only [units_in1, units_deeper, Around.mark_units, units_caller]); (try dsimp only [ktrTop]); first | ((try simp only [Nat.add_assoc, Nat.reduceAdd, Nat.reduceMul]); exact room9 (by assumption) (by rfl)) | omega))⟩); k_dflt (try (case uM => k_mem)); k_dflt (try (case uI => (refine' ⟨by k_mem, by k_mem, by k_mem, by k_updF, by assumption, by first | assumption | omega, by first | assumption | omega, by first | assumption | omega⟩))); k_dflt (try (case uH2 => (rw [lawOct_length]; omega))); k_dflt (try (case uH => ((repeat' (with_reducible apply And.intro)) <;> (first | with_reducible assumption | exact Nat.le_of_ble_eq_true rfl | assumption | exact Eq.trans (by assumption) (by assumption) | exact of_decide_eq_true rfl | omega | ((simp only [List.length_append, List.length_take, List.length_drop, List.length_cons, List.length_nil, List.length_reverse, lawOct_length]); omega))))); intros; (rename News _ _ _ _ => N9); (try dsimp only at N9); (try (rename AllLt _ _ => l9; simp only [AllLt] at l9)); (try k_fold)) | ((with_reducible show wpAny _ _ (call (Value.ref _) _) _ _ _); (have mkE : EMark := trivial); walk1; (rename EMark => y9); clear y9)); k_steps; (all_goals (try k_data)))
    (all_goals (try k_data))
    refine' hret _ _ _ _ ⟨_, ⟨⟨_, _, _, _, ?_, ?_, rfl⟩, _, rfl, trivial⟩, rfl⟩ (by k_asm) (cb_drop (by k_asm) ?_)
    rotate_right 1
    (focus (intro q hq; repeat (first | exact hq | apply List.mem_cons_of_mem)))
    · rfl
    · assumption

end

end
theorem off_P16 : True := by w_top off; trivial
section
theorem nine {P : Nat → Prop} (h2 : P 2) (h3 : P 3) (h4 : P 4) (h5 : P 5) (h6 : P 6) (h7 : P 7) (h8 : P 8) (h9 : P 9) (h10 : P 10) : ∀ k, 2 ≤ k → k ≤ 10 → P k
  | 0, h, _ => absurd h (by decide)
  | 1, h, _ => absurd h (by decide)
  | 2, _, _ => h2
  | 3, _, _ => h3
  | 4, _, _ => h4
  | 5, _, _ => h5
  | 6, _, _ => h6
  | 7, _, _ => h7
  | 8, _, _ => h8
  | 9, _, _ => h9
  | 10, _, _ => h10
  | k + 11, _, h => absurd (Nat.le_trans (Nat.le_add_left 11 k) h) (by decide)
theorem spread_get : ∀ k : Nat, k < 11 → [(0 : Int), 0, 1, 1, 2, 2, 4, 4, 4, 8, 8].getD (k : Int).toNat 0 = ((spread k : Nat) : Int) := by decide
theorem getD4 {a b c d : Int} {i : Nat} {P : Int → Prop} (ha : P a) (hb : P b) (hc : P c) (hd : P d) (hi : i < 4) : P ([a, b, c, d].getD i 0) := by
  match i, hi with
  | 0, _ => exact ha
  | 1, _ => exact hb
  | 2, _ => exact hc
  | 3, _ => exact hd
theorem getD2 {a b : Int} {i : Nat} {P : Int → Prop} (ha : P a) (hb : P b) (hi : i < 2) : P ([a, b].getD i 0) := by
  match i, hi with
  | 0, _ => exact ha
  | 1, _ => exact hb
theorem ix4 (c : Int) : (c.fmod 4).toNat < 4 := by
  rw [Int.fmod_eq_emod_of_nonneg _ (by decide : (0 : Int) ≤ 4)]; omega
theorem ix2 (c : Int) : (c.fmod 2).toNat < 2 := by
  rw [Int.fmod_eq_emod_of_nonneg _ (by decide : (0 : Int) ≤ 2)]; omega
theorem val0_ok {c : Int} (h0 : 0 ≤ c) (h1 : c < 1000000000000000000000) (j : Int) : 0 ≤ [c.fmod 200, c.fmod 70000, 2 ^ (c.fmod 40).toNat, c].getD (j.fmod 4).toNat 0 ∧ [c.fmod 200, c.fmod 70000, 2 ^ (c.fmod 40).toNat, c].getD (j.fmod 4).toNat 0 ≤ 1000000000000000000000 := by
  have h : (2 : Nat) ^ (c.fmod 40).toNat ≤ 2 ^ 40 := Nat.pow_le_pow_right (by decide) (by rw [Int.fmod_eq_emod_of_nonneg _ (by decide : (0 : Int) ≤ 40)]; omega)
  have e : (2 : Int) ^ (c.fmod 40).toNat = (((2 : Nat) ^ (c.fmod 40).toNat : Nat) : Int) := by push_cast; rfl
  refine getD4 (P := fun x => 0 ≤ x ∧ x ≤ 1000000000000000000000) ?_ ?_ ?_ ⟨h0, by omega⟩ (ix4 _)
  · rw [Int.fmod_eq_emod_of_nonneg _ (by decide : (0 : Int) ≤ 200)]; omega
  · rw [Int.fmod_eq_emod_of_nonneg _ (by decide : (0 : Int) ≤ 70000)]; omega
  · rw [e]; generalize (2 : Nat) ^ (c.fmod 40).toNat = X at h; omega
theorem spread_le (k : Nat) : spread k ≤ 8 := by unfold spread; (repeat' split) <;> omega
theorem spread_ge {k : Nat} (h : 2 ≤ k) : 1 ≤ spread k := by
  unfold spread
  rw [if_neg (by omega)]
  (repeat' split) <;> omega
theorem valJ_ok {c low : Int} {k : Nat} (hk : 2 ≤ k) (hk2 : k ≤ 10) (h0 : 0 ≤ c) (hlow : low = if k = 3 ∨ k = 6 ∨ k = 9 then ((256 : Int) ^ (spread k)).fdiv 2 else 0) (j : Int) :
    GoodI k ([c.fmod (256 ^ (spread k)), c.fmod 200, 256 ^ (spread k) - 1 - c.fmod 200, ((256 : Int) ^ (spread k)).fdiv 2 + c.fmod 3].getD (j.fmod 4).toNat 0 - low) := by
  have h : ∀ M : Int, 256 ≤ M → 0 ≤ [c.fmod M, c.fmod 200, M - 1 - c.fmod 200, M.fdiv 2 + c.fmod 3].getD (j.fmod 4).toNat 0 ∧ [c.fmod M, c.fmod 200, M - 1 - c.fmod 200, M.fdiv 2 + c.fmod 3].getD (j.fmod 4).toNat 0 < M := by
    intro M hM
    rw [Int.fmod_eq_emod_of_nonneg _ (by decide : (0 : Int) ≤ 200), Int.fmod_eq_emod_of_nonneg _ (by decide : (0 : Int) ≤ 3), Int.fmod_eq_emod_of_nonneg _ (show (0 : Int) ≤ M by omega), Int.fdiv_eq_ediv_of_nonneg _ (by decide : (0 : Int) ≤ 2)]
    have h1 := Int.emod_nonneg c (show M ≠ 0 by omega)
    have h2 := Int.emod_lt_of_pos c (show 0 < M by omega)
    exact getD4 (P := fun x => 0 ≤ x ∧ x < M) ⟨h1, h2⟩ (by omega) (by omega) (by omega) (ix4 _)
  revert h0 hlow
  refine nine (P := fun k => 0 ≤ c → (low = if k = 3 ∨ k = 6 ∨ k = 9 then ((256 : Int) ^ (spread k)).fdiv 2 else 0) → GoodI k ([c.fmod (256 ^ (spread k)), c.fmod 200, 256 ^ (spread k) - 1 - c.fmod 200, ((256 : Int) ^ (spread k)).fdiv 2 + c.fmod 3].getD (j.fmod 4).toNat 0 - low)) ?_ ?_ ?_ ?_ ?_ ?_ ?_ ?_ ?_ k hk hk2
  · intro h0 hlow
    have hlow9 : low = 0 := hlow
    subst hlow9
    have h' := h 256 (by decide)
    have e9 : (256 : Int) ^ (spread 2) = 256 := rfl
    rw [e9]
    generalize List.getD _ _ _ = X at h' ⊢
    exact ⟨by show (0 : Int) ≤ X - _; omega, by show X - _ < 256; omega⟩
  · intro h0 hlow
    have hlow9 : low = 128 := hlow
    subst hlow9
    have h' := h 256 (by decide)
    have e9 : (256 : Int) ^ (spread 3) = 256 := rfl
    rw [e9]
    generalize List.getD _ _ _ = X at h' ⊢
    exact ⟨by show (-128 : Int) ≤ X - _; omega, by show X - _ < 128; omega⟩
  · intro h0 hlow
    have hlow9 : low = 0 := hlow
    subst hlow9
    have h' := h 65536 (by decide)
    have e9 : (256 : Int) ^ (spread 4) = 65536 := rfl
    rw [e9]
    generalize List.getD _ _ _ = X at h' ⊢
    exact ⟨by show (0 : Int) ≤ X - _; omega, by show X - _ < 65536; omega⟩
  · intro h0 hlow
    have hlow9 : low = 0 := hlow
    subst hlow9
    have h' := h 65536 (by decide)
    have e9 : (256 : Int) ^ (spread 5) = 65536 := rfl
    rw [e9]
    generalize List.getD _ _ _ = X at h' ⊢
    exact ⟨by show (0 : Int) ≤ X - _; omega, by show X - _ < 65536; omega⟩
  · intro h0 hlow
    have hlow9 : low = 2147483648 := hlow
    subst hlow9
    have h' := h 4294967296 (by decide)
    have e9 : (256 : Int) ^ (spread 6) = 4294967296 := rfl
    rw [e9]
    generalize List.getD _ _ _ = X at h' ⊢
    exact ⟨by show (-2147483648 : Int) ≤ X - _; omega, by show X - _ < 2147483648; omega⟩
  · intro h0 hlow
    have hlow9 : low = 0 := hlow
    subst hlow9
    have h' := h 4294967296 (by decide)
    have e9 : (256 : Int) ^ (spread 7) = 4294967296 := rfl
    rw [e9]
    generalize List.getD _ _ _ = X at h' ⊢
    exact ⟨by show (0 : Int) ≤ X - _; omega, by show X - _ < 4294967296; omega⟩
  · intro h0 hlow
    have hlow9 : low = 0 := hlow
    subst hlow9
    have h' := h 4294967296 (by decide)
    have e9 : (256 : Int) ^ (spread 8) = 4294967296 := rfl
    rw [e9]
    generalize List.getD _ _ _ = X at h' ⊢
    exact ⟨by show (0 : Int) ≤ X - _; omega, by show X - _ < 4294967296; omega⟩
  · intro h0 hlow
    have hlow9 : low = 9223372036854775808 := hlow
    subst hlow9
    have h' := h 18446744073709551616 (by decide)
    have e9 : (256 : Int) ^ (spread 9) = 18446744073709551616 := rfl
    rw [e9]
    generalize List.getD _ _ _ = X at h' ⊢
    exact ⟨by show (-9223372036854775808 : Int) ≤ X - _; omega, by show X - _ < 9223372036854775808; omega⟩
  · intro h0 hlow
    have hlow9 : low = 0 := hlow
    subst hlow9
    have h' := h 18446744073709551616 (by decide)
    have e9 : (256 : Int) ^ (spread 10) = 18446744073709551616 := rfl
    rw [e9]
    generalize List.getD _ _ _ = X at h' ⊢
    exact ⟨by show (0 : Int) ≤ X - _; omega, by show X - _ < 18446744073709551616; omega⟩

section
variable {w : World} {mean : ExcName → Option Value} {mg mb : Str → Option Value}
theorem c_spread {k : Nat} {u : Tok} (hk9 : k ≤ 10) :
    PCon w mean mg mb 703 [.int k u] 2 (fun t' : Tok => Value.int ((spread k : Nat)) t') (fun _ => spread k ≤ 8) := by
  intro news
  k_fill
  intro dp un gd cn cs a ccd cl outer A₀ base h₀ L m s Q E B F X N T hk hd hu hret
  k_dflt (refine' code_def ?k1 ?k2 ?k3 ?k4 ?k5 ?kA ?kF ?kK ?k6 ?k7 ?k8 ?k9 ?kB ?_ ?c2 ?c3 ?c4 ?c5; (case kA => exact rfl); (case kF => exact rfl); (case kK => first | exact rfl | assumption); (case k1 => k_asm); (case k2 => k_asm); (case k3 => k_asm); (case k4 => k_asm); (case k5 => k_asm); (case k6 => k_is); (case k7 => k_is); (case k8 => k_room); (case k9 => first | exact BindsTo.of_eq rfl | exact binds_K (by k_in) rfl (by k_is) rfl rfl rfl | fail "k_enter: no rule for these arguments"); (case c5 => decide); (case kB => exact locs rfl); (case c2 => exact rfl); (case c3 => exact rfl); (case c4 => exact rfl); k_whole; intro g' L' h' FG' F' N' B' X' T'; (try dsimp only); (try k_lift B'); (try k_fold))
  k_steps
  repeat' (refine go ?_; (first | (k_dflt (first | (refine' PCon.use (c_spread ?uH) ?uA ?_)); k_dflt (case uA => exact ⟨by k_asm, by k_asm, by k_asm, by k_asm, by k_asm, (by first | exact rfl | assumption), (by first | exact Nat.le_of_ble_eq_true rfl | ((try simp only [depth_under_make, depth_under_kw, depth_in1, depth_deeper, depth_caller]); (try dsimp only [ktrTop]); first | ((try simp only [Nat.add_assoc, Nat.reduceAdd, Nat.reduceMul]); exact room9 (by assumption) (by rfl)) | omega)), (by first | exact Nat.le_of_ble_eq_true rfl | ((try simp only [units_in1, units_deeper, Around.mark_units, units_caller]); (try dsimp only [ktrTop]); first | ((try simp only [Nat.add_assoc, Nat.reduceAdd, Nat.reduceMul]); exact room9 (by assumption) (by rfl)) | omega))⟩); k_dflt (try (case uM => k_mem)); k_dflt (try (case uI => (refine' ⟨by k_mem, by k_mem, by k_mem, by k_updF, by assumption, by first | assumption | omega, by first | assumption | omega, by first | assumption | omega⟩))); k_dflt (try (case uH2 => (rw [lawOct_length]; omega))); k_dflt (try (case uH => ((repeat' (with_reducible apply And.intro)) <;> (first | with_reducible assumption | exact Nat.le_of_ble_eq_true rfl | assumption | exact Eq.trans (by assumption) (by assumption) | exact of_decide_eq_true rfl | omega | ((simp only [List.length_append, List.length_take, List.length_drop, List.length_cons, List.length_nil, List.length_reverse, lawOct_length]); omega))))); intros; (rename News _ _ _ _ => N9); (try dsimp only at N9); (try (rename AllLt _ _ => l9; simp only [AllLt] at l9)); (try k_fold))); k_steps; (all_goals (try k_data)))
  have e9 := spread_get k (Nat.lt_succ_of_le hk9)
  refine' hret _ _ _ _ ⟨⟨_, by rw [e9], spread_le _⟩, rfl⟩ (by k_asm) (cb_drop (by k_asm) ?_)
  (focus (intro q hq; repeat (first | exact hq | apply List.mem_cons_of_mem)))
theorem c_valI {k : Nat} {c : Int} {t u : Tok} (hk9 : k ≤ 1) (h0 : 0 ≤ c) (h1 : c < 1000000000000000000000) :
    PCon w mean mg mb 708 [.int k u, .int c t] 4 (fun x : Int × Tok => Value.int x.1 x.2) (fun x => GoodI k x.1) := by
  intro news
  k_fill
  intro dp un gd cn cs a ccd cl outer A₀ base h₀ L m s Q E B F X N T hk hd hu hret
  k_dflt (refine' code_defC ?k1 ?k2 ?k3 ?k4 ?k5 ?kA ?kF ?kK ?k6 ?k7 ?k8 ?k9 ?kB ?kD ?_ ?c2 ?c3 ?c4; (case kA => exact rfl); (case kF => exact rfl); (case kK => first | exact rfl | assumption); (case k1 => k_asm); (case k2 => k_asm); (case k3 => k_asm); (case k4 => k_asm); (case k5 => k_asm); (case k6 => k_is); (case k7 => k_is); (case k8 => k_room); (case k9 => first | exact BindsTo.of_eq rfl | exact binds_K (by k_in) rfl (by k_is) rfl rfl rfl | fail "k_enter: no rule for these arguments"); (case kB => exact rfl); (case kD => decide +kernel); (case c2 => exact rfl); (case c3 => exact rfl); (case c4 => exact rfl); k_whole; intro g' L' h' tk' cells' FG' F' N' Y' B' X' T' l1; (try k_lt l1); k_cells Y'; (try simp only [List.cons_append, List.nil_append] at N'); (try dsimp only); (try k_lift B'); (try k_fold))
  k_steps
  repeat' (refine go ?_; (first | (k_dflt (first | (refine' PCon.use (c_spread ?uH) ?uA ?_)); k_dflt (case uA => exact ⟨by k_asm, by k_asm, by k_asm, by k_asm, by k_asm, (by first | exact rfl | assumption), (by first | exact Nat.le_of_ble_eq_true rfl | ((try simp only [depth_under_make, depth_under_kw, depth_in1, depth_deeper, depth_caller]); (try dsimp only [ktrTop]); first | ((try simp only [Nat.add_assoc, Nat.reduceAdd, Nat.reduceMul]); exact room9 (by assumption) (by rfl)) | omega)), (by first | exact Nat.le_of_ble_eq_true rfl | ((try simp only [units_in1, units_deeper, Around.mark_units, units_caller]); (try dsimp only [ktrTop]); first | ((try simp only [Nat.add_assoc, Nat.reduceAdd, Nat.reduceMul]); exact room9 (by assumption) (by rfl)) | omega))⟩); k_dflt (try (case uM => k_mem)); k_dflt (try (case uI => (refine' ⟨by k_mem, by k_mem, by k_mem, by k_updF, by assumption, by first | assumption | omega, by first | assumption | omega, by first | assumption | omega⟩))); k_dflt (try (case uH2 => (rw [lawOct_length]; omega))); k_dflt (try (case uH => ((repeat' (with_reducible apply And.intro)) <;> (first | with_reducible assumption | exact Nat.le_of_ble_eq_true rfl | assumption | exact Eq.trans (by assumption) (by assumption) | exact of_decide_eq_true rfl | omega | ((simp only [List.length_append, List.length_take, List.length_drop, List.length_cons, List.length_nil, List.length_reverse, lawOct_length]); omega))))); intros; (rename News _ _ _ _ => N9); (try dsimp only at N9); (try (rename AllLt _ _ => l9; simp only [AllLt] at l9)); (try k_fold))); k_steps; (all_goals (try k_data)))
  · obtain rfl : k = 0 := by omega
    refine' hret _ _ _ _ ⟨⟨(_, _), rfl, ?_⟩, rfl⟩ (by k_asm) (cb_drop (by k_asm) ?_)
    · exact ⟨(val0_ok h0 h1 _).1, Int.lt_add_one_iff.mpr (val0_ok h0 h1 _).2⟩
    · (focus (intro q hq; repeat (first | exact hq | apply List.mem_cons_of_mem)))
  · obtain rfl : k = 1 := by omega
    refine' hret _ _ _ _ ⟨⟨(_, _), rfl, ?_⟩, rfl⟩ (by k_asm) (cb_drop (by k_asm) ?_)
    · have h9 := val0_ok h0 h1 (c.fdiv 3)
      have h8 : -1000000000000000000000 ≤ ([[c.fmod 200, c.fmod 70000, 2 ^ (c.fmod 40).toNat, c].getD (Int.toNat ((c.fdiv 3).fmod 4)) 0, 0 - [c.fmod 200, c.fmod 70000, 2 ^ (c.fmod 40).toNat, c].getD (Int.toNat ((c.fdiv 3).fmod 4)) 0].getD (c.fmod 2).toNat 0) ∧ ([[c.fmod 200, c.fmod 70000, 2 ^ (c.fmod 40).toNat, c].getD (Int.toNat ((c.fdiv 3).fmod 4)) 0, 0 - [c.fmod 200, c.fmod 70000, 2 ^ (c.fmod 40).toNat, c].getD (Int.toNat ((c.fdiv 3).fmod 4)) 0].getD (c.fmod 2).toNat 0) ≤ 1000000000000000000000 := by
        generalize List.getD _ (Int.toNat ((c.fdiv 3).fmod 4)) _ = X at h9 ⊢
        exact getD2 (P := fun x => -1000000000000000000000 ≤ x ∧ x ≤ 1000000000000000000000) (by omega) (by omega) (ix2 _)
      exact ⟨h8.1, Int.lt_add_one_iff.mpr h8.2⟩
    · (focus (intro q hq; repeat (first | exact hq | apply List.mem_cons_of_mem)))
theorem c_valJ {k : Nat} {c : Int} {t u : Tok} (hk8 : 2 ≤ k) (hk9 : k ≤ 10) (h0 : 0 ≤ c) (h1 : c < 1000000000000000000000) :
    PCon w mean mg mb 708 [.int k u, .int c t] 4 (fun x : Int × Tok => Value.int x.1 x.2) (fun x => GoodI k x.1) := by
  intro news
  k_fill
  intro dp un gd cn cs a ccd cl outer A₀ base h₀ L m s Q E B F X N T hk hd hu hret
  k_dflt (refine' code_defC ?k1 ?k2 ?k3 ?k4 ?k5 ?kA ?kF ?kK ?k6 ?k7 ?k8 ?k9 ?kB ?kD ?_ ?c2 ?c3 ?c4; (case kA => exact rfl); (case kF => exact rfl); (case kK => first | exact rfl | assumption); (case k1 => k_asm); (case k2 => k_asm); (case k3 => k_asm); (case k4 => k_asm); (case k5 => k_asm); (case k6 => k_is); (case k7 => k_is); (case k8 => k_room); (case k9 => first | exact BindsTo.of_eq rfl | exact binds_K (by k_in) rfl (by k_is) rfl rfl rfl | fail "k_enter: no rule for these arguments"); (case kB => exact rfl); (case kD => decide +kernel); (case c2 => exact rfl); (case c3 => exact rfl); (case c4 => exact rfl); k_whole; intro g' L' h' tk' cells' FG' F' N' Y' B' X' T' l1; (try k_lt l1); k_cells Y'; (try simp only [List.cons_append, List.nil_append] at N'); (try dsimp only); (try k_lift B'); (try k_fold))
  k_steps
  repeat' (refine go ?_; (first | (k_dflt (first | (refine' PCon.use (c_spread ?uH) ?uA ?_)); k_dflt (case uA => exact ⟨by k_asm, by k_asm, by k_asm, by k_asm, by k_asm, (by first | exact rfl | assumption), (by first | exact Nat.le_of_ble_eq_true rfl | ((try simp only [depth_under_make, depth_under_kw, depth_in1, depth_deeper, depth_caller]); (try dsimp only [ktrTop]); first | ((try simp only [Nat.add_assoc, Nat.reduceAdd, Nat.reduceMul]); exact room9 (by assumption) (by rfl)) | omega)), (by first | exact Nat.le_of_ble_eq_true rfl | ((try simp only [units_in1, units_deeper, Around.mark_units, units_caller]); (try dsimp only [ktrTop]); first | ((try simp only [Nat.add_assoc, Nat.reduceAdd, Nat.reduceMul]); exact room9 (by assumption) (by rfl)) | omega))⟩); k_dflt (try (case uM => k_mem)); k_dflt (try (case uI => (refine' ⟨by k_mem, by k_mem, by k_mem, by k_updF, by assumption, by first | assumption | omega, by first | assumption | omega, by first | assumption | omega⟩))); k_dflt (try (case uH2 => (rw [lawOct_length]; omega))); k_dflt (try (case uH => ((repeat' (with_reducible apply And.intro)) <;> (first | with_reducible assumption | exact Nat.le_of_ble_eq_true rfl | assumption | exact Eq.trans (by assumption) (by assumption) | exact of_decide_eq_true rfl | omega | ((simp only [List.length_append, List.length_take, List.length_drop, List.length_cons, List.length_nil, List.length_reverse, lawOct_length]); omega))))); intros; (rename News _ _ _ _ => N9); (try dsimp only at N9); (try (rename AllLt _ _ => l9; simp only [AllLt] at l9)); (try k_fold))); k_steps; (all_goals (try k_data)))
  all_goals (try k_data)
  all_goals simp only [Int.toNat_natCast] at *
  all_goals refine' hret _ _ _ _ ⟨⟨(_, _), rfl, ?_⟩, rfl⟩ (by k_asm) (cb_drop (by k_asm) ?_)
  · refine valJ_ok hk8 hk9 h0 ?_ _
    rw [if_pos]
    rename (List.any _ _ = _) => h9
    simp at h9
    exact h9.imp (fun h => (Int.ofNat.inj h).symm) (Or.imp (fun h => (Int.ofNat.inj h).symm) (fun h => (Int.ofNat.inj h).symm))
  · (focus (intro q hq; repeat (first | exact hq | apply List.mem_cons_of_mem)))
  · refine valJ_ok hk8 hk9 h0 ?_ _
    rw [if_neg]
    rename (List.any _ _ = _) => h9
    simp at h9
    rintro (rfl | rfl | rfl)
    · exact h9.1 rfl
    · exact h9.2.1 rfl
    · exact h9.2.2 rfl
  · (focus (intro q hq; repeat (first | exact hq | apply List.mem_cons_of_mem)))
theorem c_valB {k : Nat} {c : Int} {t u : Tok} (hk8 : 11 ≤ k) (hk9 : k ≤ 13) (h0 : 0 ≤ c) (h1 : c < 1000000000000000000000) :
    PCon w mean mg mb 708 [.int k u, .int c t] 4 (fun x : Array UInt8 × Tok => Value.bytes x.1 x.2) (fun x => (KBw.bInts x.1).length ≤ 200) := by
  intro news
  k_fill
  intro dp un gd cn cs a ccd cl outer A₀ base h₀ L m s Q E B F X N T hk hd hu hret
  k_dflt (refine' code_defC ?k1 ?k2 ?k3 ?k4 ?k5 ?kA ?kF ?kK ?k6 ?k7 ?k8 ?k9 ?kB ?kD ?_ ?c2 ?c3 ?c4; (case kA => exact rfl); (case kF => exact rfl); (case kK => first | exact rfl | assumption); (case k1 => k_asm); (case k2 => k_asm); (case k3 => k_asm); (case k4 => k_asm); (case k5 => k_asm); (case k6 => k_is); (case k7 => k_is); (case k8 => k_room); (case k9 => first | exact BindsTo.of_eq rfl | exact binds_K (by k_in) rfl (by k_is) rfl rfl rfl | fail "k_enter: no rule for these arguments"); (case kB => exact rfl); (case kD => decide +kernel); (case c2 => exact rfl); (case c3 => exact rfl); (case c4 => exact rfl); k_whole; intro g' L' h' tk' cells' FG' F' N' Y' B' X' T' l1; (try k_lt l1); k_cells Y'; (try simp only [List.cons_append, List.nil_append] at N'); (try dsimp only); (try k_lift B'); (try k_fold))
  k_steps
  repeat' (refine go ?_; (first | (k_dflt (first | (refine' PCon.use (c_spread ?uH) ?uA ?_)); k_dflt (case uA => exact ⟨by k_asm, by k_asm, by k_asm, by k_asm, by k_asm, (by first | exact rfl | assumption), (by first | exact Nat.le_of_ble_eq_true rfl | ((try simp only [depth_under_make, depth_under_kw, depth_in1, depth_deeper, depth_caller]); (try dsimp only [ktrTop]); first | ((try simp only [Nat.add_assoc, Nat.reduceAdd, Nat.reduceMul]); exact room9 (by assumption) (by rfl)) | omega)), (by first | exact Nat.le_of_ble_eq_true rfl | ((try simp only [units_in1, units_deeper, Around.mark_units, units_caller]); (try dsimp only [ktrTop]); first | ((try simp only [Nat.add_assoc, Nat.reduceAdd, Nat.reduceMul]); exact room9 (by assumption) (by rfl)) | omega))⟩); k_dflt (try (case uM => k_mem)); k_dflt (try (case uI => (refine' ⟨by k_mem, by k_mem, by k_mem, by k_updF, by assumption, by first | assumption | omega, by first | assumption | omega, by first | assumption | omega⟩))); k_dflt (try (case uH2 => (rw [lawOct_length]; omega))); k_dflt (try (case uH => ((repeat' (with_reducible apply And.intro)) <;> (first | with_reducible assumption | exact Nat.le_of_ble_eq_true rfl | assumption | exact Eq.trans (by assumption) (by assumption) | exact of_decide_eq_true rfl | omega | ((simp only [List.length_append, List.length_take, List.length_drop, List.length_cons, List.length_nil, List.length_reverse, lawOct_length]); omega))))); intros; (rename News _ _ _ _ => N9); (try dsimp only at N9); (try (rename AllLt _ _ => l9; simp only [AllLt] at l9)); (try k_fold))); k_steps; (all_goals (try k_data)))
  all_goals (try k_data)
  all_goals refine' hret _ _ _ _ ⟨⟨(_, _), rfl, ?_⟩, rfl⟩ (by k_asm) (cb_drop (by k_asm) ?_)
  · show (KBw.bInts (byteArr _)).length ≤ _
    rw [KBw.ints_length, byteArr_size, List.length_map, rangeKs_length, Int.fmod_eq_emod_of_nonneg _ (by decide : (0 : Int) ≤ 7)]; omega
  · (focus (intro q hq; repeat (first | exact hq | apply List.mem_cons_of_mem)))
  · show (KBw.bInts (byteArr _)).length ≤ _
    rw [KBw.ints_length, byteArr_size, List.length_map, rangeKs_length, Int.fmod_eq_emod_of_nonneg _ (by decide : (0 : Int) ≤ 7)]; omega
  · (focus (intro q hq; repeat (first | exact hq | apply List.mem_cons_of_mem)))
end

end
theorem off_P17 : True := by w_top off; trivial
section
local macro_rules | `(tactic| walk_at "pad9") => `(tactic| skip)
theorem c_seven9 {w : World} {mean : ExcName → Option Value} {mg mb : Str → Option Value} {n : Nat} {t : Tok} (hn : n < 4722366482869645213696) :
    LCon w mean mg mb 696 [.int n t] 2 (seven n) :=
  c_seven' (fun _ h => seven_small h) (fun _ h => seven_big h) (Nat.le_trans (seven_len12 hn) (by decide))
theorem c_sevenI {w : World} {mean : ExcName → Option Value} {mg mb : Str → Option Value} {x : Int} {n : Nat} {t : Tok} (e : x = n) (hn : n < 4722366482869645213696) :
    LCon w mean mg mb 696 [.int x t] 2 (seven n) := by
  subst e
  exact c_seven9 hn
theorem seven_len20 {n : Nat} (hn : n < 4722366482869645213696) : (seven n).length ≤ 20 := Nat.le_trans (seven_len12 hn) (by decide)
section
variable {w : World} {mean : ExcName → Option Value} {mg mb : Str → Option Value}
theorem c_formI {k : Nat} {n : Int} {t u : Tok} (hk9 : k ≤ 10) (G : GoodI k n) :
    LCon w mean mg mb 715 [.int k u, .int n t] 6 (formI k n) := by
  intro news
  k_fill
  intro dp un gd cn cs a ccd cl outer A₀ base h₀ L m s Q E B F X N T hk hd hu hret
  k_dflt (refine' code_def ?k1 ?k2 ?k3 ?k4 ?k5 ?kA ?kF ?kK ?k6 ?k7 ?k8 ?k9 ?kB ?_ ?c2 ?c3 ?c4 ?c5; (case kA => exact rfl); (case kF => exact rfl); (case kK => first | exact rfl | assumption); (case k1 => k_asm); (case k2 => k_asm); (case k3 => k_asm); (case k4 => k_asm); (case k5 => k_asm); (case k6 => k_is); (case k7 => k_is); (case k8 => k_room); (case k9 => first | exact BindsTo.of_eq rfl | exact binds_K (by k_in) rfl (by k_is) rfl rfl rfl | fail "k_enter: no rule for these arguments"); (case c5 => decide); (case kB => exact locs rfl); (case c2 => exact rfl); (case c3 => exact rfl); (case c4 => exact rfl); k_whole; intro g' L' h' FG' F' N' B' X' T'; (try dsimp only); (try k_lift B'); (try k_fold))
  k_steps
  repeat' (refine go ?_; (first | (k_dflt (first | (refine' PCon.use (c_spread ?uH) ?uA ?_) | (refine' LCon.use (c_oct ?uH) 20 ?uH2 ?uA ?_) | (refine' LCon.use (c_oct (sz := 4) (by decide)) 20 (by rw [lawOct_length]; decide) ?uA ?_) | (refine' LCon.use (c_oct (sz := 2) (by decide)) 20 (by rw [lawOct_length]; decide) ?uA ?_)); k_dflt (case uA => exact ⟨by k_asm, by k_asm, by k_asm, by k_asm, by k_asm, (by first | exact rfl | assumption), (by first | exact Nat.le_of_ble_eq_true rfl | ((try simp only [depth_under_make, depth_under_kw, depth_in1, depth_deeper, depth_caller]); (try dsimp only [ktrTop]); first | ((try simp only [Nat.add_assoc, Nat.reduceAdd, Nat.reduceMul]); exact room9 (by assumption) (by rfl)) | omega)), (by first | exact Nat.le_of_ble_eq_true rfl | ((try simp only [units_in1, units_deeper, Around.mark_units, units_caller]); (try dsimp only [ktrTop]); first | ((try simp only [Nat.add_assoc, Nat.reduceAdd, Nat.reduceMul]); exact room9 (by assumption) (by rfl)) | omega))⟩); k_dflt (try (case uM => k_mem)); k_dflt (try (case uI => (refine' ⟨by k_mem, by k_mem, by k_mem, by k_updF, by assumption, by first | assumption | omega, by first | assumption | omega, by first | assumption | omega⟩))); k_dflt (try (case uH2 => (rw [lawOct_length]; omega))); k_dflt (try (case uH => ((repeat' (with_reducible apply And.intro)) <;> (first | with_reducible assumption | exact Nat.le_of_ble_eq_true rfl | assumption | exact Eq.trans (by assumption) (by assumption) | exact of_decide_eq_true rfl | omega | ((simp only [List.length_append, List.length_take, List.length_drop, List.length_cons, List.length_nil, List.length_reverse, lawOct_length]); omega))))); intros; (rename News _ _ _ _ => N9); (try dsimp only at N9); (try (rename AllLt _ _ => l9; simp only [AllLt] at l9)); (try k_fold))); k_steps; (all_goals (try k_data)))
  (all_goals (try k_data))
  · refine go ?_
    obtain rfl : k = 0 := by omega
    have g9 := G.k0 rfl
    obtain ⟨j9, rfl⟩ := Int.eq_ofNat_of_zero_le g9.1
    have h8 : j9 < 4722366482869645213696 := nat_lt9 g9.2
    refine' LCon.use (c_seven9 h8) 20 (seven_len20 h8) ?uA ?_
    (k_dflt (case uA => exact ⟨by k_asm, by k_asm, by k_asm, by k_asm, by k_asm, (by first | exact rfl | assumption), (by first | exact Nat.le_of_ble_eq_true rfl | ((try simp only [depth_under_make, depth_under_kw, depth_in1, depth_deeper, depth_caller]); (try dsimp only [ktrTop]); first | ((try simp only [Nat.add_assoc, Nat.reduceAdd, Nat.reduceMul]); exact room9 (by assumption) (by rfl)) | omega)), (by first | exact Nat.le_of_ble_eq_true rfl | ((try simp only [units_in1, units_deeper, Around.mark_units, units_caller]); (try dsimp only [ktrTop]); first | ((try simp only [Nat.add_assoc, Nat.reduceAdd, Nat.reduceMul]); exact room9 (by assumption) (by rfl)) | omega))⟩); k_dflt (try (case uM => k_mem)); k_dflt (try (case uI => (refine' ⟨by k_mem, by k_mem, by k_mem, by k_updF, by assumption, by first | assumption | omega, by first | assumption | omega, by first | assumption | omega⟩))); k_dflt (try (case uH2 => (rw [lawOct_length]; omega))); k_dflt (try (case uH => ((repeat' (with_reducible apply And.intro)) <;> (first | with_reducible assumption | exact Nat.le_of_ble_eq_true rfl | assumption | exact Eq.trans (by assumption) (by assumption) | exact of_decide_eq_true rfl | omega | ((simp only [List.length_append, List.length_take, List.length_drop, List.length_cons, List.length_nil, List.length_reverse, lawOct_length]); omega))))); intros; (rename News _ _ _ _ => N9); (try dsimp only at N9); (try (rename AllLt _ _ => l9; simp only [AllLt] at l9)); (try k_fold))
    k_steps
    repeat' (refine go ?_; (first | (k_dflt (first | (refine' PCon.use (c_spread ?uH) ?uA ?_) | (refine' LCon.use (c_oct ?uH) 20 ?uH2 ?uA ?_) | (refine' LCon.use (c_oct (sz := 4) (by decide)) 20 (by rw [lawOct_length]; decide) ?uA ?_) | (refine' LCon.use (c_oct (sz := 2) (by decide)) 20 (by rw [lawOct_length]; decide) ?uA ?_)); k_dflt (case uA => exact ⟨by k_asm, by k_asm, by k_asm, by k_asm, by k_asm, (by first | exact rfl | assumption), (by first | exact Nat.le_of_ble_eq_true rfl | ((try simp only [depth_under_make, depth_under_kw, depth_in1, depth_deeper, depth_caller]); (try dsimp only [ktrTop]); first | ((try simp only [Nat.add_assoc, Nat.reduceAdd, Nat.reduceMul]); exact room9 (by assumption) (by rfl)) | omega)), (by first | exact Nat.le_of_ble_eq_true rfl | ((try simp only [units_in1, units_deeper, Around.mark_units, units_caller]); (try dsimp only [ktrTop]); first | ((try simp only [Nat.add_assoc, Nat.reduceAdd, Nat.reduceMul]); exact room9 (by assumption) (by rfl)) | omega))⟩); k_dflt (try (case uM => k_mem)); k_dflt (try (case uI => (refine' ⟨by k_mem, by k_mem, by k_mem, by k_updF, by assumption, by first | assumption | omega, by first | assumption | omega, by first | assumption | omega⟩))); k_dflt (try (case uH2 => (rw [lawOct_length]; omega))); k_dflt (try (case uH => ((repeat' (with_reducible apply And.intro)) <;> (first | with_reducible assumption | exact Nat.le_of_ble_eq_true rfl | assumption | exact Eq.trans (by assumption) (by assumption) | exact of_decide_eq_true rfl | omega | ((simp only [List.length_append, List.length_take, List.length_drop, List.length_cons, List.length_nil, List.length_reverse, lawOct_length]); omega))))); intros; (rename News _ _ _ _ => N9); (try dsimp only at N9); (try (rename AllLt _ _ => l9; simp only [AllLt] at l9)); (try k_fold))); k_steps; (all_goals (try k_data)))
    refine' hret _ _ _ _ ⟨_, _, _, rfl, by assumption, by assumption, rfl⟩ (by k_asm) (cb_drop (by k_asm) ?_)
    rotate_right 1
    (focus (intro q hq; repeat (first | exact hq | apply List.mem_cons_of_mem)))
  · refine go ?_
    obtain rfl : k = 1 := by omega
    have g9 := G.k1 rfl
    have h8 : zig n < 4722366482869645213696 := zig_lt g9.1 g9.2
    have h7 : 2 * n = ((zig n : Nat) : Int) := by unfold zig; split <;> omega
    refine' LCon.use (c_sevenI h7 h8) 20 (seven_len20 h8) ?uA ?_
    (k_dflt (case uA => exact ⟨by k_asm, by k_asm, by k_asm, by k_asm, by k_asm, (by first | exact rfl | assumption), (by first | exact Nat.le_of_ble_eq_true rfl | ((try simp only [depth_under_make, depth_under_kw, depth_in1, depth_deeper, depth_caller]); (try dsimp only [ktrTop]); first | ((try simp only [Nat.add_assoc, Nat.reduceAdd, Nat.reduceMul]); exact room9 (by assumption) (by rfl)) | omega)), (by first | exact Nat.le_of_ble_eq_true rfl | ((try simp only [units_in1, units_deeper, Around.mark_units, units_caller]); (try dsimp only [ktrTop]); first | ((try simp only [Nat.add_assoc, Nat.reduceAdd, Nat.reduceMul]); exact room9 (by assumption) (by rfl)) | omega))⟩); k_dflt (try (case uM => k_mem)); k_dflt (try (case uI => (refine' ⟨by k_mem, by k_mem, by k_mem, by k_updF, by assumption, by first | assumption | omega, by first | assumption | omega, by first | assumption | omega⟩))); k_dflt (try (case uH2 => (rw [lawOct_length]; omega))); k_dflt (try (case uH => ((repeat' (with_reducible apply And.intro)) <;> (first | with_reducible assumption | exact Nat.le_of_ble_eq_true rfl | assumption | exact Eq.trans (by assumption) (by assumption) | exact of_decide_eq_true rfl | omega | ((simp only [List.length_append, List.length_take, List.length_drop, List.length_cons, List.length_nil, List.length_reverse, lawOct_length]); omega))))); intros; (rename News _ _ _ _ => N9); (try dsimp only at N9); (try (rename AllLt _ _ => l9; simp only [AllLt] at l9)); (try k_fold))
    k_steps
    repeat' (refine go ?_; (first | (k_dflt (first | (refine' PCon.use (c_spread ?uH) ?uA ?_) | (refine' LCon.use (c_oct ?uH) 20 ?uH2 ?uA ?_) | (refine' LCon.use (c_oct (sz := 4) (by decide)) 20 (by rw [lawOct_length]; decide) ?uA ?_) | (refine' LCon.use (c_oct (sz := 2) (by decide)) 20 (by rw [lawOct_length]; decide) ?uA ?_)); k_dflt (case uA => exact ⟨by k_asm, by k_asm, by k_asm, by k_asm, by k_asm, (by first | exact rfl | assumption), (by first | exact Nat.le_of_ble_eq_true rfl | ((try simp only [depth_under_make, depth_under_kw, depth_in1, depth_deeper, depth_caller]); (try dsimp only [ktrTop]); first | ((try simp only [Nat.add_assoc, Nat.reduceAdd, Nat.reduceMul]); exact room9 (by assumption) (by rfl)) | omega)), (by first | exact Nat.le_of_ble_eq_true rfl | ((try simp only [units_in1, units_deeper, Around.mark_units, units_caller]); (try dsimp only [ktrTop]); first | ((try simp only [Nat.add_assoc, Nat.reduceAdd, Nat.reduceMul]); exact room9 (by assumption) (by rfl)) | omega))⟩); k_dflt (try (case uM => k_mem)); k_dflt (try (case uI => (refine' ⟨by k_mem, by k_mem, by k_mem, by k_updF, by assumption, by first | assumption | omega, by first | assumption | omega, by first | assumption | omega⟩))); k_dflt (try (case uH2 => (rw [lawOct_length]; omega))); k_dflt (try (case uH => ((repeat' (with_reducible apply And.intro)) <;> (first | with_reducible assumption | exact Nat.le_of_ble_eq_true rfl | assumption | exact Eq.trans (by assumption) (by assumption) | exact of_decide_eq_true rfl | omega | ((simp only [List.length_append, List.length_take, List.length_drop, List.length_cons, List.length_nil, List.length_reverse, lawOct_length]); omega))))); intros; (rename News _ _ _ _ => N9); (try dsimp only at N9); (try (rename AllLt _ _ => l9; simp only [AllLt] at l9)); (try k_fold))); k_steps; (all_goals (try k_data)))
    refine' hret _ _ _ _ ⟨_, _, _, rfl, by assumption, by assumption, rfl⟩ (by k_asm) (cb_drop (by k_asm) ?_)
    rotate_right 1
    (focus (intro q hq; repeat (first | exact hq | apply List.mem_cons_of_mem)))
  · refine go ?_
    obtain rfl : k = 1 := by omega
    have g9 := G.k1 rfl
    have h8 : zig n < 4722366482869645213696 := zig_lt g9.1 g9.2
    have h7 : 0 - 2 * n - 1 = ((zig n : Nat) : Int) := by unfold zig; split <;> omega
    refine' LCon.use (c_sevenI h7 h8) 20 (seven_len20 h8) ?uA ?_
    (k_dflt (case uA => exact ⟨by k_asm, by k_asm, by k_asm, by k_asm, by k_asm, (by first | exact rfl | assumption), (by first | exact Nat.le_of_ble_eq_true rfl | ((try simp only [depth_under_make, depth_under_kw, depth_in1, depth_deeper, depth_caller]); (try dsimp only [ktrTop]); first | ((try simp only [Nat.add_assoc, Nat.reduceAdd, Nat.reduceMul]); exact room9 (by assumption) (by rfl)) | omega)), (by first | exact Nat.le_of_ble_eq_true rfl | ((try simp only [units_in1, units_deeper, Around.mark_units, units_caller]); (try dsimp only [ktrTop]); first | ((try simp only [Nat.add_assoc, Nat.reduceAdd, Nat.reduceMul]); exact room9 (by assumption) (by rfl)) | omega))⟩); k_dflt (try (case uM => k_mem)); k_dflt (try (case uI => (refine' ⟨by k_mem, by k_mem, by k_mem, by k_updF, by assumption, by first | assumption | omega, by first | assumption | omega, by first | assumption | omega⟩))); k_dflt (try (case uH2 => (rw [lawOct_length]; omega))); k_dflt (try (case uH => ((repeat' (with_reducible apply And.intro)) <;> (first | with_reducible assumption | exact Nat.le_of_ble_eq_true rfl | assumption | exact Eq.trans (by assumption) (by assumption) | exact of_decide_eq_true rfl | omega | ((simp only [List.length_append, List.length_take, List.length_drop, List.length_cons, List.length_nil, List.length_reverse, lawOct_length]); omega))))); intros; (rename News _ _ _ _ => N9); (try dsimp only at N9); (try (rename AllLt _ _ => l9; simp only [AllLt] at l9)); (try k_fold))
    k_steps
    repeat' (refine go ?_; (first | (k_dflt (first | (refine' PCon.use (c_spread ?uH) ?uA ?_) | (refine' LCon.use (c_oct ?uH) 20 ?uH2 ?uA ?_) | (refine' LCon.use (c_oct (sz := 4) (by decide)) 20 (by rw [lawOct_length]; decide) ?uA ?_) | (refine' LCon.use (c_oct (sz := 2) (by decide)) 20 (by rw [lawOct_length]; decide) ?uA ?_)); k_dflt (case uA => exact ⟨by k_asm, by k_asm, by k_asm, by k_asm, by k_asm, (by first | exact rfl | assumption), (by first | exact Nat.le_of_ble_eq_true rfl | ((try simp only [depth_under_make, depth_under_kw, depth_in1, depth_deeper, depth_caller]); (try dsimp only [ktrTop]); first | ((try simp only [Nat.add_assoc, Nat.reduceAdd, Nat.reduceMul]); exact room9 (by assumption) (by rfl)) | omega)), (by first | exact Nat.le_of_ble_eq_true rfl | ((try simp only [units_in1, units_deeper, Around.mark_units, units_caller]); (try dsimp only [ktrTop]); first | ((try simp only [Nat.add_assoc, Nat.reduceAdd, Nat.reduceMul]); exact room9 (by assumption) (by rfl)) | omega))⟩); k_dflt (try (case uM => k_mem)); k_dflt (try (case uI => (refine' ⟨by k_mem, by k_mem, by k_mem, by k_updF, by assumption, by first | assumption | omega, by first | assumption | omega, by first | assumption | omega⟩))); k_dflt (try (case uH2 => (rw [lawOct_length]; omega))); k_dflt (try (case uH => ((repeat' (with_reducible apply And.intro)) <;> (first | with_reducible assumption | exact Nat.le_of_ble_eq_true rfl | assumption | exact Eq.trans (by assumption) (by assumption) | exact of_decide_eq_true rfl | omega | ((simp only [List.length_append, List.length_take, List.length_drop, List.length_cons, List.length_nil, List.length_reverse, lawOct_length]); omega))))); intros; (rename News _ _ _ _ => N9); (try dsimp only at N9); (try (rename AllLt _ _ => l9; simp only [AllLt] at l9)); (try k_fold))); k_steps; (all_goals (try k_data)))
    refine' hret _ _ _ _ ⟨_, _, _, rfl, by assumption, by assumption, rfl⟩ (by k_asm) (cb_drop (by k_asm) ?_)
    rotate_right 1
    (focus (intro q hq; repeat (first | exact hq | apply List.mem_cons_of_mem)))
  · rename (List.any _ _ = _) => h9
    simp at h9
    have e9 : formI k n = (lawOct n (spread k)).reverse := by
      unfold formI
      rw [if_neg (by omega), if_neg (by omega), if_pos (by omega)]
    rw [e9] at hret
    refine' hret _ _ _ _ ⟨_, _, _, rfl, by (first | assumption | exact allLt_lt9 (by assumption) (by omega) | exact allLt_tr (by assumption) (by omega) | exact allLt_tr (And.right (by assumption)) (by omega) | exact allLt_tr (And.right (And.right (by assumption))) (by omega) | exact allLt_tr (And.right (And.right (And.right (by assumption)))) (by omega) | exact allLt_tr (And.right (And.right (And.right (And.right (by assumption))))) (by omega) | exact allLt_tr (And.right (And.right (And.right (And.right (And.right (by assumption)))))) (by omega) | exact allLt_tr (And.right (And.right (And.right (And.right (And.right (And.right (by assumption))))))) (by omega) | exact allLt_tr (And.right (And.right (And.right (And.right (And.right (And.right (And.right (by assumption)))))))) (by omega) | exact allLt_tr (And.right (And.right (And.right (And.right (And.right (And.right (And.right (And.right (by assumption))))))))) (by omega) | exact allLt_tr (And.right (And.right (And.right (And.right (And.right (And.right (And.right (And.right (And.right (by assumption)))))))))) (by omega)), by assumption, rfl⟩ (by k_asm) (cb_drop (by k_asm) ?_)
    rotate_right 1
    (focus (intro q hq; rcases List.mem_cons.mp hq with hq1 | hq; (focus (subst hq1; k_mem)); repeat (first | exact hq | apply List.mem_cons_of_mem)))
  · rename (List.any _ _ = _) => h9
    simp at h9
    have e9 : formI k n = lawOct n (spread k) := by
      unfold formI
      rw [if_neg (by omega), if_neg (by omega), if_neg (by omega)]
    rw [e9] at hret
    refine' hret _ _ _ _ ⟨_, _, _, rfl, by assumption, by assumption, rfl⟩ (by k_asm) (cb_drop (by k_asm) ?_)
    rotate_right 1
    (focus (intro q hq; rcases List.mem_cons.mp hq with hq1 | hq; (focus (subst hq1; k_mem)); repeat (first | exact hq | apply List.mem_cons_of_mem)))
end

end
theorem off_P18 : True := by w_top off; trivial
section
local macro_rules | `(tactic| walk_at "pad9") => `(tactic| skip)
local macro_rules | `(tactic| walk_at "pad9") => `(tactic| skip)
theorem take_two {ks a b : List Int} {p : Nat} (h : (ks.drop p).take (a.length + b.length) = a ++ b) : (ks.drop p).take a.length = a ∧ (ks.drop (p + a.length)).take b.length = b := by
  have h1 : ((ks.drop p).take (a.length + b.length)).take a.length = a := by rw [h, List.take_left]
  have h2 : ((ks.drop p).take (a.length + b.length)).drop a.length = b := by rw [h, List.drop_left]
  rw [List.take_take, Nat.min_eq_left (Nat.le_add_right _ _)] at h1
  rw [List.drop_take, List.drop_drop, Nat.add_sub_cancel_left] at h2
  exact ⟨h1, h2⟩
local macro_rules | `(tactic| walk_at "call type:list") => `(tactic| (k_here; (with_reducible show wpAny _ _ (call (Value.type "list") [Value.bytes _ _]) _ _ _); k_dflt (refine' lb_call ?eH ?eF ?eN ?eK ?eZ ?_; (case eH => rfl); (case eF => k_asm); (case eN => k_asm); (case eK => assumption); (case eZ => omega)); intros; (rename News _ _ _ _ => N9); (rename AllLt _ _ => l9; simp only [AllLt] at l9); (rename IntsAre _ _ => hI9; have hz9 := IntsAre.length hI9); (try k_fold)))
section
variable {w : World} {mean : ExcName → Option Value} {mg mb : Str → Option Value}
theorem c_formB {k : Nat} {bv : Array UInt8} {kv : List Int} {t u : Tok} (hk8 : 11 ≤ k) (hk9 : k ≤ 13) (hbv : KBw.bInts bv = kv) (hl : kv.length ≤ 200) :
    LCon w mean mg mb 715 [.int k u, .bytes bv t] 6 (formB k kv) := by
  have L6 : kv.length < 4722366482869645213696 := Nat.lt_of_le_of_lt hl (by decide)
  intro news
  k_fill
  intro dp un gd cn cs a ccd cl outer A₀ base h₀ L m s Q E B F X N T hk hd hu hret
  k_dflt (refine' code_def ?k1 ?k2 ?k3 ?k4 ?k5 ?kA ?kF ?kK ?k6 ?k7 ?k8 ?k9 ?kB ?_ ?c2 ?c3 ?c4 ?c5; (case kA => exact rfl); (case kF => exact rfl); (case kK => first | exact rfl | assumption); (case k1 => k_asm); (case k2 => k_asm); (case k3 => k_asm); (case k4 => k_asm); (case k5 => k_asm); (case k6 => k_is); (case k7 => k_is); (case k8 => k_room); (case k9 => first | exact BindsTo.of_eq rfl | exact binds_K (by k_in) rfl (by k_is) rfl rfl rfl | fail "k_enter: no rule for these arguments"); (case c5 => decide); (case kB => exact locs rfl); (case c2 => exact rfl); (case c3 => exact rfl); (case c4 => exact rfl); k_whole; intro g' L' h' FG' F' N' B' X' T'; (try dsimp only); (try k_lift B'); (try k_fold))
  k_steps
  repeat' (refine go ?_; (first | (k_dflt (first | (refine' FCon.use (c_rd577 ?uH) ?uA ?uI ?_) | (refine' FCon.use (c_rd598 ?uH) ?uA ?uI ?_) | (refine' LCon.use (c_seven9 ?uH) 20 (seven_len20 ?uH) ?uA ?_) | (refine' LCon.use (c_oct ?uH) 20 ?uH2 ?uA ?_) | (refine' LCon.use (c_oct (sz := 4) (by decide)) 20 (by rw [lawOct_length]; decide) ?uA ?_) | (refine' LCon.use (c_oct (sz := 2) (by decide)) 20 (by rw [lawOct_length]; decide) ?uA ?_) | (refine' use_readvar ?uM ?uH ?uA ?uI ?_) | (refine' FCon.use (c_seek2 ?uH) ?uA ?uI ?_) | (refine' FCon.use (c_seek1) ?uA ?uI ?_) | (refine' FCon.use (c_seek) ?uA ?uI ?_) | (refine' FCon.use (c_tell) ?uA ?uI ?_) | (refine' FCon.use (c_read ?uH) ?uA ?uI ?_) | (refine' FCon.use (c_write ?uH) ?uA ?uI ?_) | (refine' FCon.use (c_readI ?uH) ?uA ?uI ?_)); k_dflt (case uA => exact ⟨by k_asm, by k_asm, by k_asm, by k_asm, by k_asm, (by first | exact rfl | assumption), (by first | exact Nat.le_of_ble_eq_true rfl | ((try simp only [depth_under_make, depth_under_kw, depth_in1, depth_deeper, depth_caller]); (try dsimp only [ktrTop]); first | ((try simp only [Nat.add_assoc, Nat.reduceAdd, Nat.reduceMul]); exact room9 (by assumption) (by rfl)) | omega)), (by first | exact Nat.le_of_ble_eq_true rfl | ((try simp only [units_in1, units_deeper, Around.mark_units, units_caller]); (try dsimp only [ktrTop]); first | ((try simp only [Nat.add_assoc, Nat.reduceAdd, Nat.reduceMul]); exact room9 (by assumption) (by rfl)) | omega))⟩); k_dflt (try (case uM => k_mem)); k_dflt (try (case uI => (refine' ⟨by k_mem, by k_mem, by k_mem, by k_updF, by assumption, by first | assumption | omega, by first | assumption | omega, by first | assumption | omega⟩))); k_dflt (try (case uH2 => (rw [lawOct_length]; omega))); k_dflt (try (case uH => ((repeat' (with_reducible apply And.intro)) <;> (first | with_reducible assumption | exact Nat.le_of_ble_eq_true rfl | assumption | exact Eq.trans (by assumption) (by assumption) | exact of_decide_eq_true rfl | omega | ((simp only [List.length_append, List.length_take, List.length_drop, List.length_cons, List.length_nil, List.length_reverse, lawOct_length]); omega))))); intros; (rename News _ _ _ _ => N9); (try dsimp only at N9); (try (rename AllLt _ _ => l9; simp only [AllLt] at l9)); (try k_fold)) | ((with_reducible show wpAny _ _ (call (Value.ref _) _) _ _ _); (have mkE : EMark := trivial); walk1; (rename EMark => y9); clear y9)); k_steps; (all_goals (try k_data)))
  (all_goals (try k_data))
  all_goals first | exact (not_small hk8 (Int.ofNat.inj (by assumption)) rfl).elim | (exfalso; omega) | skip
  · obtain rfl : k = 11 := by first | exact Int.ofNat.inj (by assumption) | omega
    have e9 : formB 11 kv = seven kv.length ++ kv := rfl
    rw [e9] at hret
    refine' hret _ _ _ _ ⟨_, _, _, rfl, by (first | assumption | exact allLt_lt9 (by assumption) (by omega) | exact allLt_tr (by assumption) (by omega) | exact allLt_tr (And.right (by assumption)) (by omega) | exact allLt_tr (And.right (And.right (by assumption))) (by omega) | exact allLt_tr (And.right (And.right (And.right (by assumption)))) (by omega) | exact allLt_tr (And.right (And.right (And.right (And.right (by assumption))))) (by omega) | exact allLt_tr (And.right (And.right (And.right (And.right (And.right (by assumption)))))) (by omega) | exact allLt_tr (And.right (And.right (And.right (And.right (And.right (And.right (by assumption))))))) (by omega) | exact allLt_tr (And.right (And.right (And.right (And.right (And.right (And.right (And.right (by assumption)))))))) (by omega) | exact allLt_tr (And.right (And.right (And.right (And.right (And.right (And.right (And.right (And.right (by assumption))))))))) (by omega) | exact allLt_tr (And.right (And.right (And.right (And.right (And.right (And.right (And.right (And.right (And.right (by assumption)))))))))) (by omega)), by assumption, rfl⟩ (by k_asm) (cb_drop (by k_asm) ?_)
    rotate_right 1
    (focus (intro q hq; rcases List.mem_cons.mp hq with hq1 | hq; (focus (subst hq1; k_mem)); repeat (first | exact hq | apply List.mem_cons_of_mem)))
  · obtain rfl : k = 12 := by first | exact Int.ofNat.inj (by assumption) | omega
    have e9 : formB 12 kv = lawOct (kv.length : Int) 2 ++ kv := rfl
    rw [e9] at hret
    refine' hret _ _ _ _ ⟨_, _, _, rfl, by (first | assumption | exact allLt_lt9 (by assumption) (by omega) | exact allLt_tr (by assumption) (by omega) | exact allLt_tr (And.right (by assumption)) (by omega) | exact allLt_tr (And.right (And.right (by assumption))) (by omega) | exact allLt_tr (And.right (And.right (And.right (by assumption)))) (by omega) | exact allLt_tr (And.right (And.right (And.right (And.right (by assumption))))) (by omega) | exact allLt_tr (And.right (And.right (And.right (And.right (And.right (by assumption)))))) (by omega) | exact allLt_tr (And.right (And.right (And.right (And.right (And.right (And.right (by assumption))))))) (by omega) | exact allLt_tr (And.right (And.right (And.right (And.right (And.right (And.right (And.right (by assumption)))))))) (by omega) | exact allLt_tr (And.right (And.right (And.right (And.right (And.right (And.right (And.right (And.right (by assumption))))))))) (by omega) | exact allLt_tr (And.right (And.right (And.right (And.right (And.right (And.right (And.right (And.right (And.right (by assumption)))))))))) (by omega)), by assumption, rfl⟩ (by k_asm) (cb_drop (by k_asm) ?_)
    rotate_right 1
    (focus (intro q hq; rcases List.mem_cons.mp hq with hq1 | hq; (focus (subst hq1; k_mem)); repeat (first | exact hq | apply List.mem_cons_of_mem)))
  · obtain rfl : k = 13 := by omega
    have e9 : formB 13 kv = lawOct (kv.length : Int) 4 ++ kv := rfl
    rw [e9] at hret
    refine' hret _ _ _ _ ⟨_, _, _, rfl, by (first | assumption | exact allLt_lt9 (by assumption) (by omega) | exact allLt_tr (by assumption) (by omega) | exact allLt_tr (And.right (by assumption)) (by omega) | exact allLt_tr (And.right (And.right (by assumption))) (by omega) | exact allLt_tr (And.right (And.right (And.right (by assumption)))) (by omega) | exact allLt_tr (And.right (And.right (And.right (And.right (by assumption))))) (by omega) | exact allLt_tr (And.right (And.right (And.right (And.right (And.right (by assumption)))))) (by omega) | exact allLt_tr (And.right (And.right (And.right (And.right (And.right (And.right (by assumption))))))) (by omega) | exact allLt_tr (And.right (And.right (And.right (And.right (And.right (And.right (And.right (by assumption)))))))) (by omega) | exact allLt_tr (And.right (And.right (And.right (And.right (And.right (And.right (And.right (And.right (by assumption))))))))) (by omega) | exact allLt_tr (And.right (And.right (And.right (And.right (And.right (And.right (And.right (And.right (And.right (by assumption)))))))))) (by omega)), by assumption, rfl⟩ (by k_asm) (cb_drop (by k_asm) ?_)
    rotate_right 1
    (focus (intro q hq; rcases List.mem_cons.mp hq with hq1 | hq; (focus (subst hq1; k_mem)); repeat (first | exact hq | apply List.mem_cons_of_mem)))
end
section
variable {w : World} {mean : ExcName → Option Value} {mg mb : Str → Option Value} {fx dS ox dO : Addr} {k1 k2 k3 k4 k5 k6 : Tok} {ks : List Int} {p : Nat}
local macro_rules | `(tactic| walk_at "exec Return some") => `(tactic| (k_here; (fail_if_success (rename Mark => y9)); refine halt ?_))
theorem c_backB {k : Nat} {kv : List Int} {u : Tok} (H : 11 ≤ k ∧ k ≤ 13 ∧ kv.length ≤ 200 ∧ (ks.drop p).take (formB k kv).length = formB k kv ∧ p + (formB k kv).length ≤ ks.length ∧ ks.length ≤ 1000000) :
    FCon w mean mg mb 729 fx dS ox dO k1 k2 k3 k4 k5 k6 ks p [.ref fx, .int k u] 12 (ks) (p + (formB k kv).length) (fun x : Array UInt8 × Tok => Value.bytes x.1 x.2) (fun x => KBw.bInts x.1 = kv) := by
  obtain ⟨hk11, hk13, hl, h1, h2, h3⟩ := H
  intro o rest l1 l2 l3 ho hO
  have l4 : @LT.lt Nat _ dO dS := Nat.lt_trans l1 l2
  have l5 : @LT.lt Nat _ ox fx := Nat.lt_trans l2 l3
  have l6 : @LT.lt Nat _ dO fx := Nat.lt_trans l4 l3
  k_fill
  obtain ⟨b0, tb, q, tp, rfl, hb0, rfl⟩ := hO
  intro dp un gd cn cs a ccd cl outer A₀ base h₀ L m s Q E B F X N T hk hd hu hret
  k_dflt (refine' code_def ?k1 ?k2 ?k3 ?k4 ?k5 ?kA ?kF ?kK ?k6 ?k7 ?k8 ?k9 ?kB ?_ ?c2 ?c3 ?c4 ?c5; (case kA => exact rfl); (case kF => exact rfl); (case kK => first | exact rfl | assumption); (case k1 => k_asm); (case k2 => k_asm); (case k3 => k_asm); (case k4 => k_asm); (case k5 => k_asm); (case k6 => k_is); (case k7 => k_is); (case k8 => k_room); (case k9 => first | exact BindsTo.of_eq rfl | exact binds_K (by k_in) rfl (by k_is) rfl rfl rfl | fail "k_enter: no rule for these arguments"); (case c5 => decide); (case kB => exact locs rfl); (case c2 => exact rfl); (case c3 => exact rfl); (case c4 => exact rfl); k_whole; intro g' L' h' FG' F' N' B' X' T'; (try dsimp only); (try k_lift B'); (try k_fold))
  k_steps
  all_goals first
    | exact (not_small hk11 (Int.ofNat.inj (by assumption)) rfl).elim
    | refine go ?_
  all_goals have mk9 : Mark := trivial
  · obtain rfl : k = 11 := by first | exact Int.ofNat.inj (by assumption) | exact only13 hk11 hk13 (by assumption) (by assumption)
    have e9 : formB 11 kv = seven kv.length ++ kv := rfl
    rw [e9, List.length_append] at hret h1 h2
    obtain ⟨h6, h5⟩ := take_two h1
    have h4 := Nat.add_assoc p _ _ ▸ h2
    have h8 : kv.length < 4722366482869645213696 := Nat.lt_of_le_of_lt hl (by decide)
    have h9 := Nat.le_trans (Nat.le_add_right _ _) h4
    clear h1 h2
    k_steps
    repeat' (refine go ?_; (first | (k_dflt (first | (refine' FCon.use (c_rd577 ?uH) ?uA ?uI ?_) | (refine' FCon.use (c_rd598 ?uH) ?uA ?uI ?_) | (refine' LCon.use (c_seven9 ?uH) 20 (seven_len20 ?uH) ?uA ?_) | (refine' LCon.use (c_oct ?uH) 20 ?uH2 ?uA ?_) | (refine' LCon.use (c_oct (sz := 4) (by decide)) 20 (by rw [lawOct_length]; decide) ?uA ?_) | (refine' LCon.use (c_oct (sz := 2) (by decide)) 20 (by rw [lawOct_length]; decide) ?uA ?_) | (refine' use_readvar ?uM ?uH ?uA ?uI ?_) | (refine' FCon.use (c_seek2 ?uH) ?uA ?uI ?_) | (refine' FCon.use (c_seek1) ?uA ?uI ?_) | (refine' FCon.use (c_seek) ?uA ?uI ?_) | (refine' FCon.use (c_tell) ?uA ?uI ?_) | (refine' FCon.use (c_read ?uH) ?uA ?uI ?_) | (refine' FCon.use (c_write ?uH) ?uA ?uI ?_) | (refine' FCon.use (c_readI ?uH) ?uA ?uI ?_)); k_dflt (case uA => exact ⟨by k_asm, by k_asm, by k_asm, by k_asm, by k_asm, (by first | exact rfl | assumption), (by first | exact Nat.le_of_ble_eq_true rfl | ((try simp only [depth_under_make, depth_under_kw, depth_in1, depth_deeper, depth_caller]); (try dsimp only [ktrTop]); first | ((try simp only [Nat.add_assoc, Nat.reduceAdd, Nat.reduceMul]); exact room9 (by assumption) (by rfl)) | omega)), (by first | exact Nat.le_of_ble_eq_true rfl | ((try simp only [units_in1, units_deeper, Around.mark_units, units_caller]); (try dsimp only [ktrTop]); first | ((try simp only [Nat.add_assoc, Nat.reduceAdd, Nat.reduceMul]); exact room9 (by assumption) (by rfl)) | omega))⟩); k_dflt (try (case uM => k_mem)); k_dflt (try (case uI => (refine' ⟨by k_mem, by k_mem, by k_mem, by k_updF, by assumption, by first | assumption | omega, by first | assumption | omega, by first | assumption | omega⟩))); k_dflt (try (case uH2 => (rw [lawOct_length]; omega))); k_dflt (try (case uH => ((repeat' (with_reducible apply And.intro)) <;> (first | with_reducible assumption | exact Nat.le_of_ble_eq_true rfl | assumption | exact Eq.trans (by assumption) (by assumption) | exact of_decide_eq_true rfl | omega | ((simp only [List.length_append, List.length_take, List.length_drop, List.length_cons, List.length_nil, List.length_reverse, lawOct_length]); omega))))); intros; (rename News _ _ _ _ => N9); (try dsimp only at N9); (try (rename AllLt _ _ => l9; simp only [AllLt] at l9)); (try k_fold)) | ((with_reducible show wpAny _ _ (call (Value.ref _) _) _ _ _); (have mkE : EMark := trivial); walk1; (rename EMark => y9); clear y9)); k_steps; (all_goals (try k_data)))
    (all_goals (try k_data))
    refine' hret _ _ _ _ ⟨_, ⟨⟨_, _, _, _, ?_, ?_, rfl⟩, (_, _), rfl, Eq.trans (by assumption) h5⟩, rfl⟩ (by k_asm) (cb_drop (by k_asm) ?_)
    rotate_right 1
    (focus (intro q hq; repeat (first | exact hq | apply List.mem_cons_of_mem)))
    · exact congrArg (fun q : Nat => (q : Int)) (Nat.add_assoc _ _ _)
    · assumption
  · obtain rfl : k = 12 := by first | exact Int.ofNat.inj (by assumption) | exact only13 hk11 hk13 (by assumption) (by assumption)
    have e9 : formB 12 kv = lawOct (kv.length : Int) 2 ++ kv := rfl
    rw [e9, List.length_append] at hret h1 h2
    obtain ⟨h6, h5⟩ := take_two h1
    have h4 := Nat.add_assoc p _ _ ▸ h2
    rw [lawOct_length] at hret h2 h6 h5 h4
    obtain ⟨b1, b2, b3, b4⟩ := len_bounds hl
    have h9 := Nat.le_trans (Nat.le_add_right _ _) h4
    clear h1 h2
    k_steps
    repeat' (refine go ?_; (first | (k_dflt (first | (refine' FCon.use (c_rd577 ?uH) ?uA ?uI ?_) | (refine' FCon.use (c_rd598 ?uH) ?uA ?uI ?_) | (refine' LCon.use (c_seven9 ?uH) 20 (seven_len20 ?uH) ?uA ?_) | (refine' LCon.use (c_oct ?uH) 20 ?uH2 ?uA ?_) | (refine' LCon.use (c_oct (sz := 4) (by decide)) 20 (by rw [lawOct_length]; decide) ?uA ?_) | (refine' LCon.use (c_oct (sz := 2) (by decide)) 20 (by rw [lawOct_length]; decide) ?uA ?_) | (refine' use_readvar ?uM ?uH ?uA ?uI ?_) | (refine' FCon.use (c_seek2 ?uH) ?uA ?uI ?_) | (refine' FCon.use (c_seek1) ?uA ?uI ?_) | (refine' FCon.use (c_seek) ?uA ?uI ?_) | (refine' FCon.use (c_tell) ?uA ?uI ?_) | (refine' FCon.use (c_read ?uH) ?uA ?uI ?_) | (refine' FCon.use (c_write ?uH) ?uA ?uI ?_) | (refine' FCon.use (c_readI ?uH) ?uA ?uI ?_)); k_dflt (case uA => exact ⟨by k_asm, by k_asm, by k_asm, by k_asm, by k_asm, (by first | exact rfl | assumption), (by first | exact Nat.le_of_ble_eq_true rfl | ((try simp only [depth_under_make, depth_under_kw, depth_in1, depth_deeper, depth_caller]); (try dsimp only [ktrTop]); first | ((try simp only [Nat.add_assoc, Nat.reduceAdd, Nat.reduceMul]); exact room9 (by assumption) (by rfl)) | omega)), (by first | exact Nat.le_of_ble_eq_true rfl | ((try simp only [units_in1, units_deeper, Around.mark_units, units_caller]); (try dsimp only [ktrTop]); first | ((try simp only [Nat.add_assoc, Nat.reduceAdd, Nat.reduceMul]); exact room9 (by assumption) (by rfl)) | omega))⟩); k_dflt (try (case uM => k_mem)); k_dflt (try (case uI => (refine' ⟨by k_mem, by k_mem, by k_mem, by k_updF, by assumption, by first | assumption | omega, by first | assumption | omega, by first | assumption | omega⟩))); k_dflt (try (case uH2 => (rw [lawOct_length]; omega))); k_dflt (try (case uH => ((repeat' (with_reducible apply And.intro)) <;> (first | with_reducible assumption | exact Nat.le_of_ble_eq_true rfl | assumption | exact Eq.trans (by assumption) (by assumption) | exact of_decide_eq_true rfl | omega | ((simp only [List.length_append, List.length_take, List.length_drop, List.length_cons, List.length_nil, List.length_reverse, lawOct_length]); omega))))); intros; (rename News _ _ _ _ => N9); (try dsimp only at N9); (try (rename AllLt _ _ => l9; simp only [AllLt] at l9)); (try k_fold)) | ((with_reducible show wpAny _ _ (call (Value.ref _) _) _ _ _); (have mkE : EMark := trivial); walk1; (rename EMark => y9); clear y9)); k_steps; (all_goals (try k_data)))
    (all_goals (try k_data))
    refine' hret _ _ _ _ ⟨_, ⟨⟨_, _, _, _, ?_, ?_, rfl⟩, (_, _), rfl, Eq.trans (by assumption) h5⟩, rfl⟩ (by k_asm) (cb_drop (by k_asm) ?_)
    rotate_right 1
    (focus (intro q hq; repeat (first | exact hq | apply List.mem_cons_of_mem)))
    · exact congrArg (fun q : Nat => (q : Int)) (Nat.add_assoc _ _ _)
    · assumption
  · obtain rfl : k = 13 := by first | exact Int.ofNat.inj (by assumption) | exact only13 hk11 hk13 (by assumption) (by assumption)
    have e9 : formB 13 kv = lawOct (kv.length : Int) 4 ++ kv := rfl
    rw [e9, List.length_append] at hret h1 h2
    obtain ⟨h6, h5⟩ := take_two h1
    have h4 := Nat.add_assoc p _ _ ▸ h2
    rw [lawOct_length] at hret h2 h6 h5 h4
    obtain ⟨b1, b2, b3, b4⟩ := len_bounds hl
    have h9 := Nat.le_trans (Nat.le_add_right _ _) h4
    clear h1 h2
    k_steps
    repeat' (refine go ?_; (first | (k_dflt (first | (refine' FCon.use (c_rd577 ?uH) ?uA ?uI ?_) | (refine' FCon.use (c_rd598 ?uH) ?uA ?uI ?_) | (refine' LCon.use (c_seven9 ?uH) 20 (seven_len20 ?uH) ?uA ?_) | (refine' LCon.use (c_oct ?uH) 20 ?uH2 ?uA ?_) | (refine' LCon.use (c_oct (sz := 4) (by decide)) 20 (by rw [lawOct_length]; decide) ?uA ?_) | (refine' LCon.use (c_oct (sz := 2) (by decide)) 20 (by rw [lawOct_length]; decide) ?uA ?_) | (refine' use_readvar ?uM ?uH ?uA ?uI ?_) | (refine' FCon.use (c_seek2 ?uH) ?uA ?uI ?_) | (refine' FCon.use (c_seek1) ?uA ?uI ?_) | (refine' FCon.use (c_seek) ?uA ?uI ?_) | (refine' FCon.use (c_tell) ?uA ?uI ?_) | (refine' FCon.use (c_read ?uH) ?uA ?uI ?_) | (refine' FCon.use (c_write ?uH) ?uA ?uI ?_) | (refine' FCon.use (c_readI ?uH) ?uA ?uI ?_)); k_dflt (case uA => exact ⟨by k_asm, by k_asm, by k_asm, by k_asm, by k_asm, (by first | exact rfl | assumption), (by first | exact Nat.le_of_ble_eq_true rfl | ((try simp only [depth_under_make, depth_under_kw, depth_in1, depth_deeper, depth_caller]); (try dsimp only [ktrTop]); first | ((try simp only [Nat.add_assoc, Nat.reduceAdd, Nat.reduceMul]); exact room9 (by assumption) (by rfl)) | omega)), (by first | exact Nat.le_of_ble_eq_true rfl | ((try simp only [units_in1, units_deeper, Around.mark_units, units_caller]); (try dsimp only [ktrTop]); first | ((try simp only [Nat.add_assoc, Nat.reduceAdd, Nat.reduceMul]); exact room9 (by assumption) (by rfl)) | omega))⟩); k_dflt (try (case uM => k_mem)); k_dflt (try (case uI => (refine' ⟨by k_mem, by k_mem, by k_mem, by k_updF, by assumption, by first | assumption | omega, by first | assumption | omega, by first | assumption | omega⟩))); k_dflt (try (case uH2 => (rw [lawOct_length]; omega))); k_dflt (try (case uH => ((repeat' (with_reducible apply And.intro)) <;> (first | with_reducible assumption | exact Nat.le_of_ble_eq_true rfl | assumption | exact Eq.trans (by assumption) (by assumption) | exact of_decide_eq_true rfl | omega | ((simp only [List.length_append, List.length_take, List.length_drop, List.length_cons, List.length_nil, List.length_reverse, lawOct_length]); omega))))); intros; (rename News _ _ _ _ => N9); (try dsimp only at N9); (try (rename AllLt _ _ => l9; simp only [AllLt] at l9)); (try k_fold)) | ((with_reducible show wpAny _ _ (call (Value.ref _) _) _ _ _); (have mkE : EMark := trivial); walk1; (rename EMark => y9); clear y9)); k_steps; (all_goals (try k_data)))
    (all_goals (try k_data))
    refine' hret _ _ _ _ ⟨_, ⟨⟨_, _, _, _, ?_, ?_, rfl⟩, (_, _), rfl, Eq.trans (by assumption) h5⟩, rfl⟩ (by k_asm) (cb_drop (by k_asm) ?_)
    rotate_right 1
    (focus (intro q hq; repeat (first | exact hq | apply List.mem_cons_of_mem)))
    · exact congrArg (fun q : Nat => (q : Int)) (Nat.add_assoc _ _ _)
    · assumption

end

end
section
/-- a value of the law's: a number or octets -/
inductive RV where
  | int (n : Int)
  | bytes (b : Array UInt8)
noncomputable def RV.dat : RV → Dat
  | .int n => .int n
  | .bytes b => .bytes b
noncomputable def RV.form (k : Nat) : RV → List Int
  | .int n => formI k n
  | .bytes b => formB k (KBw.bInts b)
noncomputable def RV.Good (k : Nat) : RV → Prop
  | .int n => k ≤ 10 ∧ GoodI k n
  | .bytes b => 11 ≤ k ∧ k ≤ 13 ∧ (KBw.bInts b).length ≤ 200
structure Row where
  k : Nat
  z : Nat
  v : RV
noncomputable def Row.dat (r : Row) : Dat := .tuple [.int r.k, .int r.z, r.v.dat]
noncomputable def Row.form (r : Row) : List Int := r.v.form r.k
noncomputable def rform (rs : List Row) : List Int := (rs.map Row.form).flatten
noncomputable def Laid : Nat → List Row → Prop
  | _, [] => True
  | z, r :: rs => r.z = z ∧ r.v.Good r.k ∧ Laid (z + r.form.length) rs
theorem rform_append (a b : List Row) : rform (a ++ b) = rform a ++ rform b := by
  unfold rform; rw [List.map_append, List.flatten_append]
theorem rform_cons (r : Row) (b : List Row) : rform (r :: b) = r.form ++ rform b := rfl
theorem rform_one (r : Row) : rform [r] = r.form := by unfold rform; simp
theorem good_len {k : Nat} {v : RV} (h : v.Good k) : (v.form k).length ≤ 220 := by
  cases v with
  | int n => exact Nat.le_trans (formI_len h.2) (by decide)
  | bytes b =>
    have h1 : (headB k (KBw.bInts b).length).length ≤ 11 := headB_len (by have := h.2.2; omega)
    have h2 := h.2.2
    show (headB k (KBw.bInts b).length ++ KBw.bInts b).length ≤ 220
    rw [List.length_append]; omega
theorem laid_len : ∀ {rs : List Row} {z : Nat}, Laid z rs → (rform rs).length ≤ 220 * rs.length
  | [], _, _ => Nat.le_refl _
  | r :: rs, z, h => by
    have h1 := good_len h.2.1
    have h2 := laid_len h.2.2
    rw [rform_cons, List.length_append, List.length_cons]
    have h3 : r.form.length ≤ 220 := h1
    omega
theorem laid_append : ∀ {a b : List Row} {z : Nat}, Laid z (a ++ b) ↔ Laid z a ∧ Laid (z + (rform a).length) b
  | [], b, z => ⟨fun h => ⟨trivial, h⟩, fun h => h.2⟩
  | r :: a, b, z => by
    show (r.z = z ∧ r.v.Good r.k ∧ Laid (z + r.form.length) (a ++ b)) ↔ (r.z = z ∧ r.v.Good r.k ∧ Laid (z + r.form.length) a) ∧ Laid (z + (rform (r :: a)).length) b
    rw [laid_append, rform_cons, List.length_append, Nat.add_assoc]
    exact ⟨fun ⟨h1, h2, h3, h4⟩ => ⟨⟨h1, h2, h3⟩, h4⟩, fun ⟨⟨h1, h2, h3⟩, h4⟩ => ⟨h1, h2, h3, h4⟩⟩
theorem laid_snoc {rs : List Row} {k : Nat} {v : RV} (h : Laid 0 rs) (g : v.Good k) : Laid 0 (rs ++ [⟨k, (rform rs).length, v⟩]) :=
  laid_append.mpr ⟨h, (Nat.zero_add _).symm, g, trivial⟩
/-- a row among the others -/
theorem laid_at {pre post : List Row} {r : Row} (h : Laid 0 (pre ++ r :: post)) : r.z = (rform pre).length ∧ r.v.Good r.k := by
  have h2 := (laid_append.mp h).2
  exact ⟨h2.1.trans (Nat.zero_add _), h2.2.1⟩
theorem laid_take {pre post : List Row} {r : Row} (h : Laid 0 (pre ++ r :: post)) :
    ((rform (pre ++ r :: post)).drop r.z).take (r.v.form r.k).length = r.v.form r.k ∧ r.z + (r.v.form r.k).length ≤ (rform (pre ++ r :: post)).length := by
  rw [(laid_at h).1, rform_append, rform_cons, List.drop_left]
  refine ⟨List.take_left, ?_⟩
  show _ + r.form.length ≤ _
  rw [List.length_append, List.length_append]; omega
theorem laid_set {pre post : List Row} {r r' : Row} (h : Laid 0 (pre ++ r :: post)) (hz : r'.z = r.z) (g : r'.v.Good r'.k) (hl : r'.form.length = r.form.length) : Laid 0 (pre ++ r' :: post) := by
  obtain ⟨h1, h2, h3, h4⟩ := laid_append.mp h
  refine laid_append.mpr ⟨h1, ?_, g, ?_⟩
  · rw [hz]; exact h2
  · rw [hl]; exact h4
theorem rform_set {pre post : List Row} {r r' : Row} (hz : r.z = (rform pre).length) (hl : r'.form.length = r.form.length) :
    rform (pre ++ r' :: post) = (rform (pre ++ r :: post)).take r.z ++ r'.form ++ (rform (pre ++ r :: post)).drop (r.z + r'.form.length) := by
  rw [hz, rform_append, rform_append, rform_cons, rform_cons, List.take_left, ← List.drop_drop, List.drop_left, hl, List.drop_left, List.append_assoc]
theorem fix_len {k : Nat} {n : Int} (h : 2 ≤ k) (h2 : k ≤ 10) : (formI k n).length = spread k := by
  unfold formI
  rw [if_neg (by omega), if_neg (by omega)]
  split
  · rw [List.length_reverse, lawOct_length]
  · rw [lawOct_length]
theorem bInts_inj {a b : Array UInt8} (h : KBw.bInts a = KBw.bInts b) : a = b := by
  have h1 := (List.map_inj_right (fun x y e => UInt8.toNat_inj.mp (Int.ofNat.inj e))).mp h
  exact Array.toList_inj.mp h1
/-- a list whose n-th is x, parted there -/
theorem part_at {α : Type} {l : List α} {n : Nat} {x : α} (h : l[n]? = some x) : l = l.take n ++ x :: l.drop (n + 1) := by
  have h1 := (List.take_append_drop n l).symm
  rw [List.drop_eq_getElem_cons (List.getElem?_eq_some_iff.mp h).1, (List.getElem?_eq_some_iff.mp h).2] at h1
  exact h1

end
theorem off_P19 : True := by w_top off; trivial
section
theorem no_big {k : Nat} (h : k ≤ 10) (e : (k : Int) = 12 ∨ (k : Int) = 13) : False := by omega
theorem not11 {k : Nat} (h : k ≤ 10) (e : k = 11) : False := absurd (e ▸ h) (by decide)
section
variable {w : World} {mean : ExcName → Option Value} {mg mb : Str → Option Value} {fx dS ox dO : Addr} {k1 k2 k3 k4 k5 k6 : Tok} {ks : List Int} {p : Nat}
local macro_rules | `(tactic| walk_at "exec Return some") => `(tactic| (k_here; (fail_if_success (rename Mark => y9)); refine halt ?_))
local macro_rules | `(tactic| walk_at "exec Expr") => `(tactic| (k_here; (fail_if_success (rename Mark => y9)); refine halt ?_))
theorem c_foundI {k z : Nat} {n : Int} {t u v x : Tok} (H : k ≤ 10 ∧ GoodI k n ∧ (ks.drop z).take (formI k n).length = formI k n ∧ z + (formI k n).length ≤ ks.length ∧ ks.length ≤ 1000000) :
    FCon w mean mg mb 736 fx dS ox dO k1 k2 k3 k4 k5 k6 ks p [.ref fx, .int k u, .int z v, .int n t, .int (formI k n).length x] 14 (ks) (z + (formI k n).length) (fun _ : Unit => Value.bool true) (fun _ => True) := by
  obtain ⟨hk10, G, h1, h2, h3⟩ := H
  intro o rest l1 l2 l3 ho hO
  have l4 : @LT.lt Nat _ dO dS := Nat.lt_trans l1 l2
  have l5 : @LT.lt Nat _ ox fx := Nat.lt_trans l2 l3
  have l6 : @LT.lt Nat _ dO fx := Nat.lt_trans l4 l3
  k_fill
  obtain ⟨b0, tb, q, tp, rfl, hb0, rfl⟩ := hO
  intro dp un gd cn cs a ccd cl outer A₀ base h₀ L m s Q E B F X N T hk hd hu hret
  k_dflt (refine' code_def ?k1 ?k2 ?k3 ?k4 ?k5 ?kA ?kF ?kK ?k6 ?k7 ?k8 ?k9 ?kB ?_ ?c2 ?c3 ?c4 ?c5; (case kA => exact rfl); (case kF => exact rfl); (case kK => first | exact rfl | assumption); (case k1 => k_asm); (case k2 => k_asm); (case k3 => k_asm); (case k4 => k_asm); (case k5 => k_asm); (case k6 => k_is); (case k7 => k_is); (case k8 => k_room); (case k9 => first | exact BindsTo.of_eq rfl | exact binds_K (by k_in) rfl (by k_is) rfl rfl rfl | fail "k_enter: no rule for these arguments"); (case c5 => decide); (case kB => exact locs rfl); (case c2 => exact rfl); (case c3 => exact rfl); (case c4 => exact rfl); k_whole; intro g' L' h' FG' F' N' B' X' T'; (try dsimp only); (try k_lift B'); (try k_fold))
  k_steps
  all_goals first
    | (exfalso; exact no_big hk10 (Or.inl (by assumption)))
    | (exfalso; exact no_big hk10 (Or.inr (by assumption)))
    | refine go ?_
  all_goals have mk9 : Mark := trivial
  · obtain rfl : k = 2 := Int.ofNat.inj (by assumption)
    obtain ⟨g8, g9⟩ := G.k2 rfl
    have e9 : formI 2 n = lawOct n 1 := rfl
    rw [e9, lawOct_length] at hret h2 h1
    clear hk10 G
    k_steps
    repeat' (refine go ?_; (first | (k_dflt (first | (refine' FCon.use (c_gt633 ?uH) ?uA ?uI ?_)); k_dflt (case uA => exact ⟨by k_asm, by k_asm, by k_asm, by k_asm, by k_asm, (by first | exact rfl | assumption), (by first | exact Nat.le_of_ble_eq_true rfl | ((try simp only [depth_under_make, depth_under_kw, depth_in1, depth_deeper, depth_caller]); (try dsimp only [ktrTop]); first | ((try simp only [Nat.add_assoc, Nat.reduceAdd, Nat.reduceMul]); exact room9 (by assumption) (by rfl)) | omega)), (by first | exact Nat.le_of_ble_eq_true rfl | ((try simp only [units_in1, units_deeper, Around.mark_units, units_caller]); (try dsimp only [ktrTop]); first | ((try simp only [Nat.add_assoc, Nat.reduceAdd, Nat.reduceMul]); exact room9 (by assumption) (by rfl)) | omega))⟩); k_dflt (try (case uM => k_mem)); k_dflt (try (case uI => (refine' ⟨by k_mem, by k_mem, by k_mem, by k_updF, by assumption, by first | assumption | omega, by first | assumption | omega, by first | assumption | omega⟩))); k_dflt (try (case uH2 => (rw [lawOct_length]; omega))); k_dflt (try (case uH => ((repeat' (with_reducible apply And.intro)) <;> (first | with_reducible assumption | exact Nat.le_of_ble_eq_true rfl | assumption | exact Eq.trans (by assumption) (by assumption) | exact of_decide_eq_true rfl | omega | ((simp only [List.length_append, List.length_take, List.length_drop, List.length_cons, List.length_nil, List.length_reverse, lawOct_length]); omega))))); intros; (rename News _ _ _ _ => N9); (try dsimp only at N9); (try (rename AllLt _ _ => l9; simp only [AllLt] at l9)); (try k_fold))); k_steps; (all_goals (try k_data)))
    (all_goals (try k_data))
    refine' hret _ _ _ _ ⟨_, ⟨⟨_, _, _, _, ?_, ?_, rfl⟩, (), congrArg Value.bool (beq_self_eq_true n), trivial⟩, rfl⟩ (by k_asm) (cb_drop (by k_asm) ?_)
    rotate_right 1
    (focus (intro q hq; repeat (first | exact hq | apply List.mem_cons_of_mem)))
    · rfl
    · assumption
  · obtain rfl : k = 3 := Int.ofNat.inj (by assumption)
    obtain ⟨g8, g9⟩ := G.k3 rfl
    have e9 : formI 3 n = lawOct n 1 := rfl
    rw [e9, lawOct_length] at hret h2 h1
    clear hk10 G
    k_steps
    repeat' (refine go ?_; (first | (k_dflt (first | (refine' FCon.use (c_gt640 ?uH) ?uA ?uI ?_)); k_dflt (case uA => exact ⟨by k_asm, by k_asm, by k_asm, by k_asm, by k_asm, (by first | exact rfl | assumption), (by first | exact Nat.le_of_ble_eq_true rfl | ((try simp only [depth_under_make, depth_under_kw, depth_in1, depth_deeper, depth_caller]); (try dsimp only [ktrTop]); first | ((try simp only [Nat.add_assoc, Nat.reduceAdd, Nat.reduceMul]); exact room9 (by assumption) (by rfl)) | omega)), (by first | exact Nat.le_of_ble_eq_true rfl | ((try simp only [units_in1, units_deeper, Around.mark_units, units_caller]); (try dsimp only [ktrTop]); first | ((try simp only [Nat.add_assoc, Nat.reduceAdd, Nat.reduceMul]); exact room9 (by assumption) (by rfl)) | omega))⟩); k_dflt (try (case uM => k_mem)); k_dflt (try (case uI => (refine' ⟨by k_mem, by k_mem, by k_mem, by k_updF, by assumption, by first | assumption | omega, by first | assumption | omega, by first | assumption | omega⟩))); k_dflt (try (case uH2 => (rw [lawOct_length]; omega))); k_dflt (try (case uH => ((repeat' (with_reducible apply And.intro)) <;> (first | with_reducible assumption | exact Nat.le_of_ble_eq_true rfl | assumption | exact Eq.trans (by assumption) (by assumption) | exact of_decide_eq_true rfl | omega | ((simp only [List.length_append, List.length_take, List.length_drop, List.length_cons, List.length_nil, List.length_reverse, lawOct_length]); omega))))); intros; (rename News _ _ _ _ => N9); (try dsimp only at N9); (try (rename AllLt _ _ => l9; simp only [AllLt] at l9)); (try k_fold))); k_steps; (all_goals (try k_data)))
    (all_goals (try k_data))
    refine' hret _ _ _ _ ⟨_, ⟨⟨_, _, _, _, ?_, ?_, rfl⟩, (), congrArg Value.bool (beq_self_eq_true n), trivial⟩, rfl⟩ (by k_asm) (cb_drop (by k_asm) ?_)
    rotate_right 1
    (focus (intro q hq; repeat (first | exact hq | apply List.mem_cons_of_mem)))
    · rfl
    · assumption
  · obtain rfl : k = 4 := Int.ofNat.inj (by assumption)
    obtain ⟨g8, g9⟩ := G.k4 rfl
    have e9 : formI 4 n = lawOct n 2 := rfl
    rw [e9, lawOct_length] at hret h2 h1
    clear hk10 G
    k_steps
    repeat' (refine go ?_; (first | (k_dflt (first | (refine' FCon.use (c_gt661 ?uH) ?uA ?uI ?_)); k_dflt (case uA => exact ⟨by k_asm, by k_asm, by k_asm, by k_asm, by k_asm, (by first | exact rfl | assumption), (by first | exact Nat.le_of_ble_eq_true rfl | ((try simp only [depth_under_make, depth_under_kw, depth_in1, depth_deeper, depth_caller]); (try dsimp only [ktrTop]); first | ((try simp only [Nat.add_assoc, Nat.reduceAdd, Nat.reduceMul]); exact room9 (by assumption) (by rfl)) | omega)), (by first | exact Nat.le_of_ble_eq_true rfl | ((try simp only [units_in1, units_deeper, Around.mark_units, units_caller]); (try dsimp only [ktrTop]); first | ((try simp only [Nat.add_assoc, Nat.reduceAdd, Nat.reduceMul]); exact room9 (by assumption) (by rfl)) | omega))⟩); k_dflt (try (case uM => k_mem)); k_dflt (try (case uI => (refine' ⟨by k_mem, by k_mem, by k_mem, by k_updF, by assumption, by first | assumption | omega, by first | assumption | omega, by first | assumption | omega⟩))); k_dflt (try (case uH2 => (rw [lawOct_length]; omega))); k_dflt (try (case uH => ((repeat' (with_reducible apply And.intro)) <;> (first | with_reducible assumption | exact Nat.le_of_ble_eq_true rfl | assumption | exact Eq.trans (by assumption) (by assumption) | exact of_decide_eq_true rfl | omega | ((simp only [List.length_append, List.length_take, List.length_drop, List.length_cons, List.length_nil, List.length_reverse, lawOct_length]); omega))))); intros; (rename News _ _ _ _ => N9); (try dsimp only at N9); (try (rename AllLt _ _ => l9; simp only [AllLt] at l9)); (try k_fold))); k_steps; (all_goals (try k_data)))
    (all_goals (try k_data))
    refine' hret _ _ _ _ ⟨_, ⟨⟨_, _, _, _, ?_, ?_, rfl⟩, (), congrArg Value.bool (beq_self_eq_true n), trivial⟩, rfl⟩ (by k_asm) (cb_drop (by k_asm) ?_)
    rotate_right 1
    (focus (intro q hq; repeat (first | exact hq | apply List.mem_cons_of_mem)))
    · rfl
    · assumption
  · obtain rfl : k = 6 := Int.ofNat.inj (by assumption)
    obtain ⟨g8, g9⟩ := G.k6 rfl
    have e9 : formI 6 n = lawOct n 4 := rfl
    rw [e9, lawOct_length] at hret h2 h1
    clear hk10 G
    k_steps
    repeat' (refine go ?_; (first | (k_dflt (first | (refine' FCon.use (c_gt647 ?uH) ?uA ?uI ?_)); k_dflt (case uA => exact ⟨by k_asm, by k_asm, by k_asm, by k_asm, by k_asm, (by first | exact rfl | assumption), (by first | exact Nat.le_of_ble_eq_true rfl | ((try simp only [depth_under_make, depth_under_kw, depth_in1, depth_deeper, depth_caller]); (try dsimp only [ktrTop]); first | ((try simp only [Nat.add_assoc, Nat.reduceAdd, Nat.reduceMul]); exact room9 (by assumption) (by rfl)) | omega)), (by first | exact Nat.le_of_ble_eq_true rfl | ((try simp only [units_in1, units_deeper, Around.mark_units, units_caller]); (try dsimp only [ktrTop]); first | ((try simp only [Nat.add_assoc, Nat.reduceAdd, Nat.reduceMul]); exact room9 (by assumption) (by rfl)) | omega))⟩); k_dflt (try (case uM => k_mem)); k_dflt (try (case uI => (refine' ⟨by k_mem, by k_mem, by k_mem, by k_updF, by assumption, by first | assumption | omega, by first | assumption | omega, by first | assumption | omega⟩))); k_dflt (try (case uH2 => (rw [lawOct_length]; omega))); k_dflt (try (case uH => ((repeat' (with_reducible apply And.intro)) <;> (first | with_reducible assumption | exact Nat.le_of_ble_eq_true rfl | assumption | exact Eq.trans (by assumption) (by assumption) | exact of_decide_eq_true rfl | omega | ((simp only [List.length_append, List.length_take, List.length_drop, List.length_cons, List.length_nil, List.length_reverse, lawOct_length]); omega))))); intros; (rename News _ _ _ _ => N9); (try dsimp only at N9); (try (rename AllLt _ _ => l9; simp only [AllLt] at l9)); (try k_fold))); k_steps; (all_goals (try k_data)))
    (all_goals (try k_data))
    refine' hret _ _ _ _ ⟨_, ⟨⟨_, _, _, _, ?_, ?_, rfl⟩, (), congrArg Value.bool (beq_self_eq_true n), trivial⟩, rfl⟩ (by k_asm) (cb_drop (by k_asm) ?_)
    rotate_right 1
    (focus (intro q hq; repeat (first | exact hq | apply List.mem_cons_of_mem)))
    · rfl
    · assumption
  · obtain rfl : k = 7 := Int.ofNat.inj (by assumption)
    obtain ⟨g8, g9⟩ := G.k7 rfl
    have e9 : formI 7 n = lawOct n 4 := rfl
    rw [e9, lawOct_length] at hret h2 h1
    clear hk10 G
    k_steps
    repeat' (refine go ?_; (first | (k_dflt (first | (refine' FCon.use (c_gt654 ?uH) ?uA ?uI ?_)); k_dflt (case uA => exact ⟨by k_asm, by k_asm, by k_asm, by k_asm, by k_asm, (by first | exact rfl | assumption), (by first | exact Nat.le_of_ble_eq_true rfl | ((try simp only [depth_under_make, depth_under_kw, depth_in1, depth_deeper, depth_caller]); (try dsimp only [ktrTop]); first | ((try simp only [Nat.add_assoc, Nat.reduceAdd, Nat.reduceMul]); exact room9 (by assumption) (by rfl)) | omega)), (by first | exact Nat.le_of_ble_eq_true rfl | ((try simp only [units_in1, units_deeper, Around.mark_units, units_caller]); (try dsimp only [ktrTop]); first | ((try simp only [Nat.add_assoc, Nat.reduceAdd, Nat.reduceMul]); exact room9 (by assumption) (by rfl)) | omega))⟩); k_dflt (try (case uM => k_mem)); k_dflt (try (case uI => (refine' ⟨by k_mem, by k_mem, by k_mem, by k_updF, by assumption, by first | assumption | omega, by first | assumption | omega, by first | assumption | omega⟩))); k_dflt (try (case uH2 => (rw [lawOct_length]; omega))); k_dflt (try (case uH => ((repeat' (with_reducible apply And.intro)) <;> (first | with_reducible assumption | exact Nat.le_of_ble_eq_true rfl | assumption | exact Eq.trans (by assumption) (by assumption) | exact of_decide_eq_true rfl | omega | ((simp only [List.length_append, List.length_take, List.length_drop, List.length_cons, List.length_nil, List.length_reverse, lawOct_length]); omega))))); intros; (rename News _ _ _ _ => N9); (try dsimp only at N9); (try (rename AllLt _ _ => l9; simp only [AllLt] at l9)); (try k_fold))); k_steps; (all_goals (try k_data)))
    (all_goals (try k_data))
    refine' hret _ _ _ _ ⟨_, ⟨⟨_, _, _, _, ?_, ?_, rfl⟩, (), congrArg Value.bool (beq_self_eq_true n), trivial⟩, rfl⟩ (by k_asm) (cb_drop (by k_asm) ?_)
    rotate_right 1
    (focus (intro q hq; repeat (first | exact hq | apply List.mem_cons_of_mem)))
    · rfl
    · assumption
  · obtain rfl : k = 9 := Int.ofNat.inj (by assumption)
    obtain ⟨g8, g9⟩ := G.k9 rfl
    have e9 : formI 9 n = lawOct n 8 := rfl
    rw [e9, lawOct_length] at hret h2 h1
    clear hk10 G
    k_steps
    repeat' (refine go ?_; (first | (k_dflt (first | (refine' FCon.use (c_gt668 ?uH) ?uA ?uI ?_)); k_dflt (case uA => exact ⟨by k_asm, by k_asm, by k_asm, by k_asm, by k_asm, (by first | exact rfl | assumption), (by first | exact Nat.le_of_ble_eq_true rfl | ((try simp only [depth_under_make, depth_under_kw, depth_in1, depth_deeper, depth_caller]); (try dsimp only [ktrTop]); first | ((try simp only [Nat.add_assoc, Nat.reduceAdd, Nat.reduceMul]); exact room9 (by assumption) (by rfl)) | omega)), (by first | exact Nat.le_of_ble_eq_true rfl | ((try simp only [units_in1, units_deeper, Around.mark_units, units_caller]); (try dsimp only [ktrTop]); first | ((try simp only [Nat.add_assoc, Nat.reduceAdd, Nat.reduceMul]); exact room9 (by assumption) (by rfl)) | omega))⟩); k_dflt (try (case uM => k_mem)); k_dflt (try (case uI => (refine' ⟨by k_mem, by k_mem, by k_mem, by k_updF, by assumption, by first | assumption | omega, by first | assumption | omega, by first | assumption | omega⟩))); k_dflt (try (case uH2 => (rw [lawOct_length]; omega))); k_dflt (try (case uH => ((repeat' (with_reducible apply And.intro)) <;> (first | with_reducible assumption | exact Nat.le_of_ble_eq_true rfl | assumption | exact Eq.trans (by assumption) (by assumption) | exact of_decide_eq_true rfl | omega | ((simp only [List.length_append, List.length_take, List.length_drop, List.length_cons, List.length_nil, List.length_reverse, lawOct_length]); omega))))); intros; (rename News _ _ _ _ => N9); (try dsimp only at N9); (try (rename AllLt _ _ => l9; simp only [AllLt] at l9)); (try k_fold))); k_steps; (all_goals (try k_data)))
    (all_goals (try k_data))
    refine' hret _ _ _ _ ⟨_, ⟨⟨_, _, _, _, ?_, ?_, rfl⟩, (), congrArg Value.bool (beq_self_eq_true n), trivial⟩, rfl⟩ (by k_asm) (cb_drop (by k_asm) ?_)
    rotate_right 1
    (focus (intro q hq; repeat (first | exact hq | apply List.mem_cons_of_mem)))
    · rfl
    · assumption
  · obtain rfl : k = 10 := Int.ofNat.inj (by assumption)
    obtain ⟨g8, g9⟩ := G.k10 rfl
    have e9 : formI 10 n = lawOct n 8 := rfl
    rw [e9, lawOct_length] at hret h2 h1
    clear hk10 G
    k_steps
    repeat' (refine go ?_; (first | (k_dflt (first | (refine' FCon.use (c_gt675 ?uH) ?uA ?uI ?_)); k_dflt (case uA => exact ⟨by k_asm, by k_asm, by k_asm, by k_asm, by k_asm, (by first | exact rfl | assumption), (by first | exact Nat.le_of_ble_eq_true rfl | ((try simp only [depth_under_make, depth_under_kw, depth_in1, depth_deeper, depth_caller]); (try dsimp only [ktrTop]); first | ((try simp only [Nat.add_assoc, Nat.reduceAdd, Nat.reduceMul]); exact room9 (by assumption) (by rfl)) | omega)), (by first | exact Nat.le_of_ble_eq_true rfl | ((try simp only [units_in1, units_deeper, Around.mark_units, units_caller]); (try dsimp only [ktrTop]); first | ((try simp only [Nat.add_assoc, Nat.reduceAdd, Nat.reduceMul]); exact room9 (by assumption) (by rfl)) | omega))⟩); k_dflt (try (case uM => k_mem)); k_dflt (try (case uI => (refine' ⟨by k_mem, by k_mem, by k_mem, by k_updF, by assumption, by first | assumption | omega, by first | assumption | omega, by first | assumption | omega⟩))); k_dflt (try (case uH2 => (rw [lawOct_length]; omega))); k_dflt (try (case uH => ((repeat' (with_reducible apply And.intro)) <;> (first | with_reducible assumption | exact Nat.le_of_ble_eq_true rfl | assumption | exact Eq.trans (by assumption) (by assumption) | exact of_decide_eq_true rfl | omega | ((simp only [List.length_append, List.length_take, List.length_drop, List.length_cons, List.length_nil, List.length_reverse, lawOct_length]); omega))))); intros; (rename News _ _ _ _ => N9); (try dsimp only at N9); (try (rename AllLt _ _ => l9; simp only [AllLt] at l9)); (try k_fold))); k_steps; (all_goals (try k_data)))
    (all_goals (try k_data))
    refine' hret _ _ _ _ ⟨_, ⟨⟨_, _, _, _, ?_, ?_, rfl⟩, (), congrArg Value.bool (beq_self_eq_true n), trivial⟩, rfl⟩ (by k_asm) (cb_drop (by k_asm) ?_)
    rotate_right 1
    (focus (intro q hq; repeat (first | exact hq | apply List.mem_cons_of_mem)))
    · rfl
    · assumption
  · k_steps
    repeat' (refine go ?_; (first | (k_dflt (first | (refine' FCon.use (c_backI ?uH) ?uA ?uI ?_) | (refine' FCon.use (c_gt675 ?uH) ?uA ?uI ?_) | (refine' FCon.use (c_gt668 ?uH) ?uA ?uI ?_) | (refine' FCon.use (c_gt661 ?uH) ?uA ?uI ?_) | (refine' FCon.use (c_gt654 ?uH) ?uA ?uI ?_) | (refine' FCon.use (c_gt647 ?uH) ?uA ?uI ?_) | (refine' FCon.use (c_gt640 ?uH) ?uA ?uI ?_) | (refine' FCon.use (c_gt633 ?uH) ?uA ?uI ?_) | (refine' FCon.use (c_seek2 ?uH) ?uA ?uI ?_) | (refine' FCon.use (c_seek1) ?uA ?uI ?_) | (refine' FCon.use (c_seek) ?uA ?uI ?_) | (refine' FCon.use (c_tell) ?uA ?uI ?_) | (refine' FCon.use (c_read ?uH) ?uA ?uI ?_) | (refine' FCon.use (c_write ?uH) ?uA ?uI ?_) | (refine' FCon.use (c_readI ?uH) ?uA ?uI ?_)); k_dflt (case uA => exact ⟨by k_asm, by k_asm, by k_asm, by k_asm, by k_asm, (by first | exact rfl | assumption), (by first | exact Nat.le_of_ble_eq_true rfl | ((try simp only [depth_under_make, depth_under_kw, depth_in1, depth_deeper, depth_caller]); (try dsimp only [ktrTop]); first | ((try simp only [Nat.add_assoc, Nat.reduceAdd, Nat.reduceMul]); exact room9 (by assumption) (by rfl)) | omega)), (by first | exact Nat.le_of_ble_eq_true rfl | ((try simp only [units_in1, units_deeper, Around.mark_units, units_caller]); (try dsimp only [ktrTop]); first | ((try simp only [Nat.add_assoc, Nat.reduceAdd, Nat.reduceMul]); exact room9 (by assumption) (by rfl)) | omega))⟩); k_dflt (try (case uM => k_mem)); k_dflt (try (case uI => (refine' ⟨by k_mem, by k_mem, by k_mem, by k_updF, by assumption, by first | assumption | omega, by first | assumption | omega, by first | assumption | omega⟩))); k_dflt (try (case uH2 => (rw [lawOct_length]; omega))); k_dflt (try (case uH => ((repeat' (with_reducible apply And.intro)) <;> (first | with_reducible assumption | exact Nat.le_of_ble_eq_true rfl | assumption | exact Eq.trans (by assumption) (by assumption) | exact of_decide_eq_true rfl | omega | ((simp only [List.length_append, List.length_take, List.length_drop, List.length_cons, List.length_nil, List.length_reverse, lawOct_length]); omega))))); intros; (rename News _ _ _ _ => N9); (try dsimp only at N9); (try (rename AllLt _ _ => l9; simp only [AllLt] at l9)); (try k_fold))); k_steps; (all_goals (try k_data)))
    (all_goals (try k_data))
    all_goals first
      | exact (not11 hk10 (Int.ofNat.inj (by assumption))).elim
      | (exfalso; omega)
      | skip
    refine' hret _ _ _ _ ⟨_, ⟨⟨_, _, _, _, ?_, ?_, rfl⟩, (), congrArg Value.bool (beq_iff_eq.mpr (Int.natCast_add _ _)), trivial⟩, rfl⟩ (by k_asm) (cb_drop (by k_asm) ?_)
    rotate_right 1
    (focus (intro q hq; repeat (first | exact hq | apply List.mem_cons_of_mem)))
    · rfl
    · assumption

end

end
theorem off_P20 : True := by w_top off; trivial
section
open PySem.SeqAt in
theorem eq_tupBI {prog : Program} {w : World} {A : Around} {E : Value → Shared → Prop} {s : Shared} {h₀ : Heap} {L : Addr} {news : List (Addr × Obj)} {a b : Addr} {x y : Array UInt8} {t u v z : Tok} {i j : Int} {n1 n2 : Nat} {Q : Value → Shared → Prop} (N : News h₀ L s.heap news)
    (ha : (a, ({ cls := .type "tuple", data := .seq #[.bytes x t, .int i v] n1 } : Obj)) ∈ news) (hb : (b, ({ cls := .type "tuple", data := .seq #[.bytes y u, .int j z] n2 } : Obj)) ∈ news) (hu : A.units < cLine) (hx : x = y) (hi : i = j) (h : Q (.bool true) s) :
    wpAny (model prog w) A (compareOp .Eq (.ref a) (.ref b)) Q E s := by
  subst hx hi
  refine eq_tupleAt (e := fun _ => true) ⟨_, (N _ ha).1, rfl, _, rfl⟩ ⟨_, (N _ hb).1, rfl, _, rfl⟩ hu ?_ h
  intro k h1 h2
  match k, h1, h2 with
  | 0, _, _ => exact fun prog w E Q h => eqBool_bytes (by simpa using h)
  | 1, _, _ => exact fun prog w E Q h => EqAt.int_int i v i z prog w E Q (by simpa using h)
theorem only11 {k : Nat} (h1 : 11 ≤ k) (h2 : k ≤ 13) (h3 : ¬ (k : Int) = 12) (h4 : ¬ (k : Int) = 13) : k = 11 := by omega
section
variable {w : World} {mean : ExcName → Option Value} {mg mb : Str → Option Value} {fx dS ox dO : Addr} {k1 k2 k3 k4 k5 k6 : Tok} {ks : List Int} {p : Nat}
local macro_rules | `(tactic| walk_at "exec Return some") => `(tactic| (k_here; (fail_if_success (rename Mark => y9)); refine halt ?_))
local macro_rules | `(tactic| walk_at "compareOp Eq ref ref") => `(tactic| (k_here; refine halt ?_))
local macro_rules | `(tactic| walk_at "exec Expr") => `(tactic| (k_here; (fail_if_success (rename Mark => y9)); refine halt ?_))
theorem c_foundB {k z : Nat} {bv : Array UInt8} {kv : List Int} {t u v x : Tok} (H : 11 ≤ k ∧ k ≤ 13 ∧ KBw.bInts bv = kv ∧ kv.length ≤ 200 ∧ (ks.drop z).take (formB k kv).length = formB k kv ∧ z + (formB k kv).length ≤ ks.length ∧ ks.length ≤ 1000000) :
    FCon w mean mg mb 736 fx dS ox dO k1 k2 k3 k4 k5 k6 ks p [.ref fx, .int k u, .int z v, .bytes bv t, .int (formB k kv).length x] 14 (ks) (z + (formB k kv).length) (fun _ : Unit => Value.bool true) (fun _ => True) := by
  obtain ⟨hk11, hk13, hbv, hl, h1, h2, h3⟩ := H
  intro o rest l1 l2 l3 ho hO
  have l4 : @LT.lt Nat _ dO dS := Nat.lt_trans l1 l2
  have l5 : @LT.lt Nat _ ox fx := Nat.lt_trans l2 l3
  have l6 : @LT.lt Nat _ dO fx := Nat.lt_trans l4 l3
  k_fill
  obtain ⟨b0, tb, q, tp, rfl, hb0, rfl⟩ := hO
  intro dp un gd cn cs a ccd cl outer A₀ base h₀ L m s Q E B F X N T hk hd hu hret
  k_dflt (refine' code_def ?k1 ?k2 ?k3 ?k4 ?k5 ?kA ?kF ?kK ?k6 ?k7 ?k8 ?k9 ?kB ?_ ?c2 ?c3 ?c4 ?c5; (case kA => exact rfl); (case kF => exact rfl); (case kK => first | exact rfl | assumption); (case k1 => k_asm); (case k2 => k_asm); (case k3 => k_asm); (case k4 => k_asm); (case k5 => k_asm); (case k6 => k_is); (case k7 => k_is); (case k8 => k_room); (case k9 => first | exact BindsTo.of_eq rfl | exact binds_K (by k_in) rfl (by k_is) rfl rfl rfl | fail "k_enter: no rule for these arguments"); (case c5 => decide); (case kB => exact locs rfl); (case c2 => exact rfl); (case c3 => exact rfl); (case c4 => exact rfl); k_whole; intro g' L' h' FG' F' N' B' X' T'; (try dsimp only); (try k_lift B'); (try k_fold))
  k_steps
  all_goals first
    | exact (not_small hk11 (Int.ofNat.inj (by assumption)) rfl).elim
    | refine go ?_
  all_goals have mk9 : Mark := trivial
  · obtain rfl : k = 12 := by first | exact Int.ofNat.inj (by assumption) | exact only11 hk11 hk13 (by assumption) (by assumption)
    have e9 : formB 12 kv = lawOct (kv.length : Int) 2 ++ kv := rfl
    rw [e9, List.length_append] at hret h1 h2
    obtain ⟨h6, h5⟩ := take_two h1
    have h4 := Nat.add_assoc z _ _ ▸ h2
    rw [lawOct_length] at hret h2 h6 h5 h4
    obtain ⟨b1, b2, b3, b4⟩ := len_bounds hl
    have h9 := Nat.le_trans (Nat.le_add_right _ _) h4
    have e8 : (formB 12 kv).length = 2 + kv.length := by rw [e9, List.length_append, lawOct_length]
    clear h1 h2
    k_steps
    repeat' (refine go ?_; (first | (k_dflt (first | (refine' FCon.use (c_gt647 ?uH) ?uA ?uI ?_) | (refine' FCon.use (c_gt661 ?uH) ?uA ?uI ?_) | (refine' FCon.use (c_get (Int.natCast_add _ 4).symm ?uH) ?uA ?uI ?_) | (refine' FCon.use (c_get (Int.natCast_add _ 2).symm ?uH) ?uA ?uI ?_) | (refine' use_readvar ?uM ?uH ?uA ?uI ?_) | (refine' FCon.use (c_seek2 ?uH) ?uA ?uI ?_) | (refine' FCon.use (c_seek1) ?uA ?uI ?_) | (refine' FCon.use (c_seek) ?uA ?uI ?_) | (refine' FCon.use (c_tell) ?uA ?uI ?_) | (refine' FCon.use (c_read ?uH) ?uA ?uI ?_) | (refine' FCon.use (c_write ?uH) ?uA ?uI ?_) | (refine' FCon.use (c_readI ?uH) ?uA ?uI ?_)); k_dflt (case uA => exact ⟨by k_asm, by k_asm, by k_asm, by k_asm, by k_asm, (by first | exact rfl | assumption), (by first | exact Nat.le_of_ble_eq_true rfl | ((try simp only [depth_under_make, depth_under_kw, depth_in1, depth_deeper, depth_caller]); (try dsimp only [ktrTop]); first | ((try simp only [Nat.add_assoc, Nat.reduceAdd, Nat.reduceMul]); exact room9 (by assumption) (by rfl)) | omega)), (by first | exact Nat.le_of_ble_eq_true rfl | ((try simp only [units_in1, units_deeper, Around.mark_units, units_caller]); (try dsimp only [ktrTop]); first | ((try simp only [Nat.add_assoc, Nat.reduceAdd, Nat.reduceMul]); exact room9 (by assumption) (by rfl)) | omega))⟩); k_dflt (try (case uM => k_mem)); k_dflt (try (case uI => (refine' ⟨by k_mem, by k_mem, by k_mem, by k_updF, by assumption, by first | assumption | omega, by first | assumption | omega, by first | assumption | omega⟩))); k_dflt (try (case uH2 => (rw [lawOct_length]; omega))); k_dflt (try (case uH => ((repeat' (with_reducible apply And.intro)) <;> (first | with_reducible assumption | exact Nat.le_of_ble_eq_true rfl | assumption | exact Eq.trans (by assumption) (by assumption) | exact of_decide_eq_true rfl | omega | ((simp only [List.length_append, List.length_take, List.length_drop, List.length_cons, List.length_nil, List.length_reverse, lawOct_length]); omega))))); intros; (rename News _ _ _ _ => N9); (try dsimp only at N9); (try (rename AllLt _ _ => l9; simp only [AllLt] at l9)); (try k_fold)) | ((with_reducible show wpAny _ _ (call (Value.ref _) _) _ _ _); (have mkE : EMark := trivial); walk1; (rename EMark => y9); clear y9)); k_steps; (all_goals (try k_data)))
    (all_goals (try k_data))
    refine go ?_
    k_dflt (refine' eq_tupBI ?eN ?eA ?eB ?eU ?eX ?eI ?_; (case eN => k_asm); (case eA => k_mem); (case eB => k_mem))
    case eU => ((try simp only [units_in1, units_deeper, Around.mark_units, units_caller]); (try dsimp only [ktrTop]); first | ((try simp only [Nat.add_assoc, Nat.reduceAdd, Nat.reduceMul]); exact room9 (by assumption) (by rfl)) | omega)
    case eX => exact bInts_inj (Eq.trans (Eq.trans (by assumption) h5) hbv.symm)
    case eI => omega
    k_steps
    repeat' (refine go ?_; (first | (k_dflt (first | (refine' FCon.use (c_gt647 ?uH) ?uA ?uI ?_) | (refine' FCon.use (c_gt661 ?uH) ?uA ?uI ?_) | (refine' FCon.use (c_get (Int.natCast_add _ 4).symm ?uH) ?uA ?uI ?_) | (refine' FCon.use (c_get (Int.natCast_add _ 2).symm ?uH) ?uA ?uI ?_) | (refine' use_readvar ?uM ?uH ?uA ?uI ?_) | (refine' FCon.use (c_seek2 ?uH) ?uA ?uI ?_) | (refine' FCon.use (c_seek1) ?uA ?uI ?_) | (refine' FCon.use (c_seek) ?uA ?uI ?_) | (refine' FCon.use (c_tell) ?uA ?uI ?_) | (refine' FCon.use (c_read ?uH) ?uA ?uI ?_) | (refine' FCon.use (c_write ?uH) ?uA ?uI ?_) | (refine' FCon.use (c_readI ?uH) ?uA ?uI ?_)); k_dflt (case uA => exact ⟨by k_asm, by k_asm, by k_asm, by k_asm, by k_asm, (by first | exact rfl | assumption), (by first | exact Nat.le_of_ble_eq_true rfl | ((try simp only [depth_under_make, depth_under_kw, depth_in1, depth_deeper, depth_caller]); (try dsimp only [ktrTop]); first | ((try simp only [Nat.add_assoc, Nat.reduceAdd, Nat.reduceMul]); exact room9 (by assumption) (by rfl)) | omega)), (by first | exact Nat.le_of_ble_eq_true rfl | ((try simp only [units_in1, units_deeper, Around.mark_units, units_caller]); (try dsimp only [ktrTop]); first | ((try simp only [Nat.add_assoc, Nat.reduceAdd, Nat.reduceMul]); exact room9 (by assumption) (by rfl)) | omega))⟩); k_dflt (try (case uM => k_mem)); k_dflt (try (case uI => (refine' ⟨by k_mem, by k_mem, by k_mem, by k_updF, by assumption, by first | assumption | omega, by first | assumption | omega, by first | assumption | omega⟩))); k_dflt (try (case uH2 => (rw [lawOct_length]; omega))); k_dflt (try (case uH => ((repeat' (with_reducible apply And.intro)) <;> (first | with_reducible assumption | exact Nat.le_of_ble_eq_true rfl | assumption | exact Eq.trans (by assumption) (by assumption) | exact of_decide_eq_true rfl | omega | ((simp only [List.length_append, List.length_take, List.length_drop, List.length_cons, List.length_nil, List.length_reverse, lawOct_length]); omega))))); intros; (rename News _ _ _ _ => N9); (try dsimp only at N9); (try (rename AllLt _ _ => l9; simp only [AllLt] at l9)); (try k_fold)) | ((with_reducible show wpAny _ _ (call (Value.ref _) _) _ _ _); (have mkE : EMark := trivial); walk1; (rename EMark => y9); clear y9)); k_steps; (all_goals (try k_data)))
    (all_goals (try k_data))
    refine' hret _ _ _ _ ⟨_, ⟨⟨_, _, _, _, ?_, ?_, rfl⟩, (), rfl, trivial⟩, rfl⟩ (by k_asm) (cb_drop (by k_asm) ?_)
    rotate_right 1
    (focus (intro q hq; repeat (first | exact hq | apply List.mem_cons_of_mem)))
    · exact congrArg (fun q : Nat => (q : Int)) (Nat.add_assoc _ _ _)
    · assumption
  · obtain rfl : k = 13 := by first | exact Int.ofNat.inj (by assumption) | exact only11 hk11 hk13 (by assumption) (by assumption)
    have e9 : formB 13 kv = lawOct (kv.length : Int) 4 ++ kv := rfl
    rw [e9, List.length_append] at hret h1 h2
    obtain ⟨h6, h5⟩ := take_two h1
    have h4 := Nat.add_assoc z _ _ ▸ h2
    rw [lawOct_length] at hret h2 h6 h5 h4
    obtain ⟨b1, b2, b3, b4⟩ := len_bounds hl
    have h9 := Nat.le_trans (Nat.le_add_right _ _) h4
    have e8 : (formB 13 kv).length = 4 + kv.length := by rw [e9, List.length_append, lawOct_length]
    clear h1 h2
    k_steps
    repeat' (refine go ?_; (first | (k_dflt (first | (refine' FCon.use (c_gt647 ?uH) ?uA ?uI ?_) | (refine' FCon.use (c_gt661 ?uH) ?uA ?uI ?_) | (refine' FCon.use (c_get (Int.natCast_add _ 4).symm ?uH) ?uA ?uI ?_) | (refine' FCon.use (c_get (Int.natCast_add _ 2).symm ?uH) ?uA ?uI ?_) | (refine' use_readvar ?uM ?uH ?uA ?uI ?_) | (refine' FCon.use (c_seek2 ?uH) ?uA ?uI ?_) | (refine' FCon.use (c_seek1) ?uA ?uI ?_) | (refine' FCon.use (c_seek) ?uA ?uI ?_) | (refine' FCon.use (c_tell) ?uA ?uI ?_) | (refine' FCon.use (c_read ?uH) ?uA ?uI ?_) | (refine' FCon.use (c_write ?uH) ?uA ?uI ?_) | (refine' FCon.use (c_readI ?uH) ?uA ?uI ?_)); k_dflt (case uA => exact ⟨by k_asm, by k_asm, by k_asm, by k_asm, by k_asm, (by first | exact rfl | assumption), (by first | exact Nat.le_of_ble_eq_true rfl | ((try simp only [depth_under_make, depth_under_kw, depth_in1, depth_deeper, depth_caller]); (try dsimp only [ktrTop]); first | ((try simp only [Nat.add_assoc, Nat.reduceAdd, Nat.reduceMul]); exact room9 (by assumption) (by rfl)) | omega)), (by first | exact Nat.le_of_ble_eq_true rfl | ((try simp only [units_in1, units_deeper, Around.mark_units, units_caller]); (try dsimp only [ktrTop]); first | ((try simp only [Nat.add_assoc, Nat.reduceAdd, Nat.reduceMul]); exact room9 (by assumption) (by rfl)) | omega))⟩); k_dflt (try (case uM => k_mem)); k_dflt (try (case uI => (refine' ⟨by k_mem, by k_mem, by k_mem, by k_updF, by assumption, by first | assumption | omega, by first | assumption | omega, by first | assumption | omega⟩))); k_dflt (try (case uH2 => (rw [lawOct_length]; omega))); k_dflt (try (case uH => ((repeat' (with_reducible apply And.intro)) <;> (first | with_reducible assumption | exact Nat.le_of_ble_eq_true rfl | assumption | exact Eq.trans (by assumption) (by assumption) | exact of_decide_eq_true rfl | omega | ((simp only [List.length_append, List.length_take, List.length_drop, List.length_cons, List.length_nil, List.length_reverse, lawOct_length]); omega))))); intros; (rename News _ _ _ _ => N9); (try dsimp only at N9); (try (rename AllLt _ _ => l9; simp only [AllLt] at l9)); (try k_fold)) | ((with_reducible show wpAny _ _ (call (Value.ref _) _) _ _ _); (have mkE : EMark := trivial); walk1; (rename EMark => y9); clear y9)); k_steps; (all_goals (try k_data)))
    (all_goals (try k_data))
    refine go ?_
    k_dflt (refine' eq_tupBI ?eN ?eA ?eB ?eU ?eX ?eI ?_; (case eN => k_asm); (case eA => k_mem); (case eB => k_mem))
    case eU => ((try simp only [units_in1, units_deeper, Around.mark_units, units_caller]); (try dsimp only [ktrTop]); first | ((try simp only [Nat.add_assoc, Nat.reduceAdd, Nat.reduceMul]); exact room9 (by assumption) (by rfl)) | omega)
    case eX => exact bInts_inj (Eq.trans (Eq.trans (by assumption) h5) hbv.symm)
    case eI => omega
    k_steps
    repeat' (refine go ?_; (first | (k_dflt (first | (refine' FCon.use (c_gt647 ?uH) ?uA ?uI ?_) | (refine' FCon.use (c_gt661 ?uH) ?uA ?uI ?_) | (refine' FCon.use (c_get (Int.natCast_add _ 4).symm ?uH) ?uA ?uI ?_) | (refine' FCon.use (c_get (Int.natCast_add _ 2).symm ?uH) ?uA ?uI ?_) | (refine' use_readvar ?uM ?uH ?uA ?uI ?_) | (refine' FCon.use (c_seek2 ?uH) ?uA ?uI ?_) | (refine' FCon.use (c_seek1) ?uA ?uI ?_) | (refine' FCon.use (c_seek) ?uA ?uI ?_) | (refine' FCon.use (c_tell) ?uA ?uI ?_) | (refine' FCon.use (c_read ?uH) ?uA ?uI ?_) | (refine' FCon.use (c_write ?uH) ?uA ?uI ?_) | (refine' FCon.use (c_readI ?uH) ?uA ?uI ?_)); k_dflt (case uA => exact ⟨by k_asm, by k_asm, by k_asm, by k_asm, by k_asm, (by first | exact rfl | assumption), (by first | exact Nat.le_of_ble_eq_true rfl | ((try simp only [depth_under_make, depth_under_kw, depth_in1, depth_deeper, depth_caller]); (try dsimp only [ktrTop]); first | ((try simp only [Nat.add_assoc, Nat.reduceAdd, Nat.reduceMul]); exact room9 (by assumption) (by rfl)) | omega)), (by first | exact Nat.le_of_ble_eq_true rfl | ((try simp only [units_in1, units_deeper, Around.mark_units, units_caller]); (try dsimp only [ktrTop]); first | ((try simp only [Nat.add_assoc, Nat.reduceAdd, Nat.reduceMul]); exact room9 (by assumption) (by rfl)) | omega))⟩); k_dflt (try (case uM => k_mem)); k_dflt (try (case uI => (refine' ⟨by k_mem, by k_mem, by k_mem, by k_updF, by assumption, by first | assumption | omega, by first | assumption | omega, by first | assumption | omega⟩))); k_dflt (try (case uH2 => (rw [lawOct_length]; omega))); k_dflt (try (case uH => ((repeat' (with_reducible apply And.intro)) <;> (first | with_reducible assumption | exact Nat.le_of_ble_eq_true rfl | assumption | exact Eq.trans (by assumption) (by assumption) | exact of_decide_eq_true rfl | omega | ((simp only [List.length_append, List.length_take, List.length_drop, List.length_cons, List.length_nil, List.length_reverse, lawOct_length]); omega))))); intros; (rename News _ _ _ _ => N9); (try dsimp only at N9); (try (rename AllLt _ _ => l9; simp only [AllLt] at l9)); (try k_fold)) | ((with_reducible show wpAny _ _ (call (Value.ref _) _) _ _ _); (have mkE : EMark := trivial); walk1; (rename EMark => y9); clear y9)); k_steps; (all_goals (try k_data)))
    (all_goals (try k_data))
    refine' hret _ _ _ _ ⟨_, ⟨⟨_, _, _, _, ?_, ?_, rfl⟩, (), rfl, trivial⟩, rfl⟩ (by k_asm) (cb_drop (by k_asm) ?_)
    rotate_right 1
    (focus (intro q hq; repeat (first | exact hq | apply List.mem_cons_of_mem)))
    · exact congrArg (fun q : Nat => (q : Int)) (Nat.add_assoc _ _ _)
    · assumption
  · obtain rfl : k = 11 := by first | exact Int.ofNat.inj (by assumption) | exact only11 hk11 hk13 (by assumption) (by assumption)
    have e9 : formB 11 kv = seven kv.length ++ kv := rfl
    rw [e9, List.length_append] at hret h1 h2
    obtain ⟨h6, h5⟩ := take_two h1
    have h4 := Nat.add_assoc z _ _ ▸ h2
    have e8 : (formB 11 kv).length = (seven kv.length).length + kv.length := by rw [e9, List.length_append]
    have h8 : kv.length < 4722366482869645213696 := Nat.lt_of_le_of_lt hl (by decide)
    have h9 := Nat.le_trans (Nat.le_add_right _ _) h4
    clear h1 h2
    k_steps
    repeat' (refine go ?_; (first | (k_dflt (first | (refine' FCon.use (c_gt647 ?uH) ?uA ?uI ?_) | (refine' FCon.use (c_gt661 ?uH) ?uA ?uI ?_) | (refine' FCon.use (c_get (Int.natCast_add _ 4).symm ?uH) ?uA ?uI ?_) | (refine' FCon.use (c_get (Int.natCast_add _ 2).symm ?uH) ?uA ?uI ?_) | (refine' use_readvar ?uM ?uH ?uA ?uI ?_) | (refine' FCon.use (c_seek2 ?uH) ?uA ?uI ?_) | (refine' FCon.use (c_seek1) ?uA ?uI ?_) | (refine' FCon.use (c_seek) ?uA ?uI ?_) | (refine' FCon.use (c_tell) ?uA ?uI ?_) | (refine' FCon.use (c_read ?uH) ?uA ?uI ?_) | (refine' FCon.use (c_write ?uH) ?uA ?uI ?_) | (refine' FCon.use (c_readI ?uH) ?uA ?uI ?_)); k_dflt (case uA => exact ⟨by k_asm, by k_asm, by k_asm, by k_asm, by k_asm, (by first | exact rfl | assumption), (by first | exact Nat.le_of_ble_eq_true rfl | ((try simp only [depth_under_make, depth_under_kw, depth_in1, depth_deeper, depth_caller]); (try dsimp only [ktrTop]); first | ((try simp only [Nat.add_assoc, Nat.reduceAdd, Nat.reduceMul]); exact room9 (by assumption) (by rfl)) | omega)), (by first | exact Nat.le_of_ble_eq_true rfl | ((try simp only [units_in1, units_deeper, Around.mark_units, units_caller]); (try dsimp only [ktrTop]); first | ((try simp only [Nat.add_assoc, Nat.reduceAdd, Nat.reduceMul]); exact room9 (by assumption) (by rfl)) | omega))⟩); k_dflt (try (case uM => k_mem)); k_dflt (try (case uI => (refine' ⟨by k_mem, by k_mem, by k_mem, by k_updF, by assumption, by first | assumption | omega, by first | assumption | omega, by first | assumption | omega⟩))); k_dflt (try (case uH2 => (rw [lawOct_length]; omega))); k_dflt (try (case uH => ((repeat' (with_reducible apply And.intro)) <;> (first | with_reducible assumption | exact Nat.le_of_ble_eq_true rfl | assumption | exact Eq.trans (by assumption) (by assumption) | exact of_decide_eq_true rfl | omega | ((simp only [List.length_append, List.length_take, List.length_drop, List.length_cons, List.length_nil, List.length_reverse, lawOct_length]); omega))))); intros; (rename News _ _ _ _ => N9); (try dsimp only at N9); (try (rename AllLt _ _ => l9; simp only [AllLt] at l9)); (try k_fold)) | ((with_reducible show wpAny _ _ (call (Value.ref _) _) _ _ _); (have mkE : EMark := trivial); walk1; (rename EMark => y9); clear y9)); k_steps; (all_goals (try k_data)))
    (all_goals (try k_data))
    refine' hret _ _ _ _ ⟨_, ⟨⟨_, _, _, _, ?_, ?_, rfl⟩, (), congrArg Value.bool (beq_iff_eq.mpr ?_), trivial⟩, rfl⟩ (by k_asm) (cb_drop (by k_asm) ?_)
    rotate_right 1
    (focus (intro q hq; repeat (first | exact hq | apply List.mem_cons_of_mem)))
    · omega
    · assumption
    · omega

end

end
section
theorem c_val {w : World} {mean : ExcName → Option Value} {mg mb : Str → Option Value} {k : Nat} {c : Int} {t u : Tok} (H : k ≤ 13 ∧ 0 ≤ c ∧ c < 1000000000000000000000) :
    PCon w mean mg mb 708 [.int k u, .int c t] 4 (fun x : Value × RV => x.1) (fun x => DatIn [] x.1 x.2.dat ∧ x.2.Good k) := by
  obtain ⟨h1, h2, h3⟩ := H
  intro news
  by_cases c1 : k ≤ 1
  · refine (c_valI c1 h2 h3 news).mono ?_
    rintro v n ⟨⟨x, rfl, G⟩, rfl⟩
    exact ⟨⟨(_, .int x.1), rfl, .int x.1 x.2, Nat.le_trans c1 (by decide), G⟩, rfl⟩
  by_cases c2 : k ≤ 10
  · refine (c_valJ (Nat.lt_of_not_le c1) c2 h2 h3 news).mono ?_
    rintro v n ⟨⟨x, rfl, G⟩, rfl⟩
    exact ⟨⟨(_, .int x.1), rfl, .int x.1 x.2, c2, G⟩, rfl⟩
  · refine (c_valB (Nat.lt_of_not_le c2) h1 h2 h3 news).mono ?_
    rintro v n ⟨⟨x, rfl, G⟩, rfl⟩
    exact ⟨⟨(_, .bytes x.1), rfl, .bytes x.1 x.2, Nat.lt_of_not_le c2, h1, G⟩, rfl⟩
theorem FCon.mono {w : World} {mean : ExcName → Option Value} {mg mb : Str → Option Value} {f : Addr} {fx dS ox dO : Addr} {k1 k2 k3 k4 k5 k6 : Tok} {ks : List Int} {p : Nat} {vs : List Value} {k : Nat} {ks2 : List Int} {p2 : Nat} {τ σ : Type} {val : τ → Value} {ok : τ → Prop} {val' : σ → Value} {ok' : σ → Prop} (P : FCon w mean mg mb f fx dS ox dO k1 k2 k3 k4 k5 k6 ks p vs k ks2 p2 val ok) (h : ∀ x, ok x → ∃ y, val x = val' y ∧ ok' y) : FCon w mean mg mb f fx dS ox dO k1 k2 k3 k4 k5 k6 ks p vs k ks2 p2 val' ok' := by
  intro o rest l1 l2 l3 ho hO
  refine (P o rest l1 l2 l3 ho hO).mono ?_
  rintro v n ⟨o', ⟨hs, x, rfl, hx⟩, rfl⟩
  obtain ⟨y, e, hy⟩ := h x hx
  exact ⟨o', ⟨hs, y, e, hy⟩, rfl⟩
section
variable {w : World} {mean : ExcName → Option Value} {mg mb : Str → Option Value} {fx dS ox dO : Addr} {k1 k2 k3 k4 k5 k6 : Tok} {ks : List Int} {p : Nat} {k z : Nat} {v : Value} {rv : RV} {u t x : Tok}
theorem c_laww (H : DatIn [] v rv.dat ∧ rv.Good k ∧ p ≤ ks.length ∧ ks.length ≤ 900000) :
    FCon w mean mg mb 722 fx dS ox dO k1 k2 k3 k4 k5 k6 ks p [.ref fx, .int k u, v] 12 (ks.take p ++ rv.form k ++ ks.drop (p + (rv.form k).length)) (p + (rv.form k).length) (fun v : Value => v) (fun _ => True) := by
  obtain ⟨hv, G, h1, h2⟩ := H
  cases rv with
  | int n => cases hv; exact c_lawwI G.1 G.2 h1 h2
  | bytes b => cases hv; exact c_lawwB G.1 G.2.1 rfl G.2.2 h1 h2
theorem c_form (H : DatIn [] v rv.dat ∧ rv.Good k) :
    LCon w mean mg mb 715 [.int k u, v] 6 (rv.form k) := by
  obtain ⟨hv, G⟩ := H
  cases rv with
  | int n => cases hv; exact c_formI G.1 G.2
  | bytes b => cases hv; exact c_formB G.1 G.2.1 rfl G.2.2
theorem c_back (H : rv.Good k ∧ (ks.drop p).take (rv.form k).length = rv.form k ∧ p + (rv.form k).length ≤ ks.length ∧ ks.length ≤ 1000000) :
    FCon w mean mg mb 729 fx dS ox dO k1 k2 k3 k4 k5 k6 ks p [.ref fx, .int k u] 12 (ks) (p + (rv.form k).length) (fun v : Value => v) (fun v => DatIn [] v rv.dat) := by
  obtain ⟨G, H⟩ := H
  cases rv with
  | int n => exact (c_backI ⟨G.1, G.2, H⟩).mono fun x _ => ⟨_, rfl, .int n x⟩
  | bytes b => exact (c_backB ⟨G.1, G.2.1, G.2.2, H⟩).mono fun x hx => ⟨_, rfl, bInts_inj hx ▸ .bytes _ x.2⟩
theorem c_found (H : DatIn [] v rv.dat ∧ rv.Good k ∧ (ks.drop z).take (rv.form k).length = rv.form k ∧ z + (rv.form k).length ≤ ks.length ∧ ks.length ≤ 1000000) :
    FCon w mean mg mb 736 fx dS ox dO k1 k2 k3 k4 k5 k6 ks p [.ref fx, .int k u, .int z t, v, .int (rv.form k).length x] 14 (ks) (z + (rv.form k).length) (fun _ : Unit => Value.bool true) (fun _ => True) := by
  obtain ⟨hv, G, H⟩ := H
  cases rv with
  | int n => cases hv; exact c_foundI ⟨G.1, G.2, H⟩
  | bytes b => cases hv; exact c_foundB ⟨G.1, G.2.1, rfl, G.2.2, H⟩
theorem c_seek0 {t : Tok} : FCon w mean mg mb 402 fx dS ox dO k1 k2 k3 k4 k5 k6 ks p [.ref fx, .int 0 t] 3 (ks) (0) (fun t' : Tok => Value.int (0) t') (fun _ => True) := c_seek (n := 0)
end
theorem use_val {w : World} {mean : ExcName → Option Value} {mg mb : Str → Option Value} {dp un : Nat} {gd : Option (List Code)} {cn : Str} {cs : Scope} {a : Addr} {ccd : Value} {cl : List (Str × Addr)} {outer : List Env} {A₀ : Around} {base h₀ : Heap} {L : Addr} {m : Str → Option Value} {s : Shared} {Q E : Value → Shared → Prop} {news : List (Addr × Obj)} {k : Nat} {c : Int} {t u : Tok} (H : k ≤ 13 ∧ 0 ≤ c ∧ c < 1000000000000000000000) (C : At9 4 w mean mg mb dp un cs outer A₀ base h₀ L m s news)
    (R : ∀ (v : Value) (rv : RV) h' tk', DatIn [] v rv.dat → rv.Good k → Fr h₀ L h' m → News h₀ L h' news → Q v { s with heap := h', toks := tk' }) : wpAny (model PySem.Challenge.rw_iu0050_01.row.prog w) (ktrTop dp un gd cn cs L a ccd cl outer) (call (.ref 708) [.int k u, .int c t]) Q E s :=
  (c_val H).use C fun x _ _ h F' N' => R x.1 x.2 _ _ h.1 h.2 F' N'

end
section
noncomputable def Mark3 : Prop := True
noncomputable def Mark4 : Prop := True
noncomputable def Mark5 : Prop := True
theorem size9 {vs : List Value} (h : vs.length ≤ 11) : vs.toArray.size ≤ sizeLine := by
  rw [List.size_toArray, sizeLine_eq]; omega
noncomputable def Hide (p : Prop) : Prop := p
theorem len_ints9 {prog : Program} {w : World} {A : Around} {E : Value → Shared → Prop} {s : Shared} {h₀ : Heap} {L l : Addr} {news : List (Addr × Obj)} {us : List Value} {ns : List Int} {n : Nat} {Q : Value → Shared → Prop} (N : News h₀ L s.heap news) (hm : (l, listOf us.toArray n) ∈ news) (hd : IntsAre us ns) (hfit : ns.length ≤ 1000000)
    (h : Q (.int (ns.length : Int) (s.toks + 1)) { s with toks := s.toks + 1 + 1 }) : wpAny (model prog w) A (call (.builtin "len") [.ref l]) Q E s := by
  have hl : s.heap.IsList l us.toArray := ⟨_, (N _ hm).1, rfl, n, rfl⟩
  have e : us.toArray.size = ns.length := by rw [List.size_toArray, hd.length]
  exact len_list hl (by rw [e]; omega) (by rw [e]; exact h)
theorem turns_le {a b : List Int} {n : Int} {l : List Int} (h : List.take 12 l = a ++ n :: b) : a.length ≤ 11 := by
  have h1 := congrArg List.length h
  rw [List.length_take, List.length_append, List.length_cons] at h1
  omega
noncomputable def Mark2 : Prop := True
theorem cell_ok (n : Int) : ∃ (k : Nat) (c : Int), ((if n < 0 then -n else n).fmod (10 ^ Int.toNat 21)).fmod 15 = (k : Int) ∧ ((if n < 0 then -n else n).fmod (10 ^ Int.toNat 21)).fdiv 15 = c ∧ k ≤ 14 ∧ 0 ≤ c ∧ c < 1000000000000000000000 := by
  have h1 : (10 : Int) ^ Int.toNat 21 = 1000000000000000000000 := by decide
  rw [h1]
  generalize (if n < 0 then -n else n) = x
  rw [Int.fmod_eq_emod_of_nonneg _ (by decide : (0 : Int) ≤ 1000000000000000000000), Int.fmod_eq_emod_of_nonneg _ (by decide : (0 : Int) ≤ 15), Int.fdiv_eq_ediv_of_nonneg _ (by decide : (0 : Int) ≤ 15)]
  exact ⟨(x % 1000000000000000000000 % 15).toNat, _, by omega, rfl, by omega, by omega, by omega⟩
structure C1 where
  rs : List Row
  vs : List Value
  nn : Nat
  oa : Addr
  os : List Value
  on : Nat
  b : Array UInt8
  tb : Tok
  tp : Tok
noncomputable def Led1 (P : Params) (lr dO : Addr) (k5 k6 : Tok) (c : C1) : List (Addr × Obj) := [(lr, listOf c.vs.toArray c.nn), (dO, oDict P k5 k6 c.b c.tb (((rform c.rs).length : Nat) : Int) c.tp)]
noncomputable def Cst1 (P : Params) (D9 fx dS ox dO cc lo : Addr) (ws : List Value) (oc : Obj) (k1 k2 k3 k4 : Tok) : List (Addr × Obj) := [(D9, listOf ws.toArray 0), (fx, instObj 678 dS), (dS, sDict P ox k1 k2 k3 k4), (ox, instObj 347 dO), (cc, oc), (lo, listOf #[] 0)]
noncomputable def Ps1 (fx : Addr) (c : C1) : List (Str × Value) := [(Str.ofString "octets", .ref c.oa), (Str.ofString "file", .ref fx)]
noncomputable def Fac1 (lr dO : Addr) (led : List (Addr × Obj)) (c : C1) : Prop := (c.oa, listOf c.os.toArray c.on) ∈ led ∧ DatAll led c.vs (c.rs.map Row.dat) ∧ IntsAre c.os (rform c.rs) ∧ KBw.bInts c.b = rform c.rs ∧ @Ne Nat c.oa lr ∧ @Ne Nat c.oa dO
noncomputable def St1 : List Str := [Str.ofString "kind", Str.ofString "value", Str.ofString "fixed", Str.ofString "place", Str.ofString "form", Str.ofString "k"]
noncomputable def Inv1 (pre : List Int) (c : C1) : Prop := Laid 0 c.rs ∧ c.rs.length ≤ pre.length
theorem in_front2 {h₀ : Heap} {L : Addr} {h : Heap} {l a b : List (Addr × Obj)} {e : Addr × Obj} (N : News h₀ L h (l ++ (a ++ b))) (he : e ∈ a ++ b) : News h₀ L h (e :: (l ++ (a ++ b))) := by
  intro p hp
  rcases List.mem_cons.mp hp with rfl | hp
  · exact N _ (List.mem_append.mpr (.inr he))
  · exact N p hp
theorem len_any9 {prog : Program} {w : World} {A : Around} {E : Value → Shared → Prop} {s : Shared} {h₀ : Heap} {L l : Addr} {news : List (Addr × Obj)} {us : List Value} {n : Nat} {Q : Value → Shared → Prop} (N : News h₀ L s.heap news) (hm : (l, listOf us.toArray n) ∈ news) (hfit : us.length ≤ 12)
    (h : Q (.int (us.length : Int) (s.toks + 1)) { s with toks := s.toks + 1 + 1 }) : wpAny (model prog w) A (call (.builtin "len") [.ref l]) Q E s := by
  have hl : s.heap.IsList l us.toArray := ⟨_, (N _ hm).1, rfl, n, rfl⟩
  have e : us.toArray.size = us.length := List.size_toArray
  exact len_list hl (by rw [e]; omega) (by rw [e]; exact h)
theorem in_front {h₀ : Heap} {L : Addr} {h : Heap} {l a b c : List (Addr × Obj)} {e : Addr × Obj} (N : News h₀ L h (l ++ (a ++ (b ++ c)))) (he : e ∈ a ++ b) : News h₀ L h (e :: (l ++ (a ++ (b ++ c)))) := by
  intro p hp
  rcases List.mem_cons.mp hp with rfl | hp
  · refine N _ (List.mem_append.mpr (.inr ?_))
    rcases List.mem_append.mp he with h | h
    · exact List.mem_append.mpr (.inl h)
    · exact List.mem_append.mpr (.inr (List.mem_append.mpr (.inl h)))
  · exact N p hp
theorem st1_ne {z : Str} (h : St1.contains z = false) : z ≠ Str.ofString "kind" ∧ z ≠ Str.ofString "value" ∧ z ≠ Str.ofString "fixed" ∧ z ≠ Str.ofString "place" ∧ z ≠ Str.ofString "form" ∧ z ≠ Str.ofString "k" := by
  have f : ∀ a ∈ St1, z ≠ a := fun a ha e => by
    rw [e, List.contains_iff_mem.mpr ha] at h
    cases h
  exact ⟨f _ (by simp [St1]), f _ (by simp [St1]), f _ (by simp [St1]), f _ (by simp [St1]), f _ (by simp [St1]), f _ (by simp [St1])⟩
theorem chain_rows {cc dO ox dS fx lo lr D9 : Addr} (h : @LT.lt Nat _ cc dO ∧ @LT.lt Nat _ dO ox ∧ @LT.lt Nat _ ox dS ∧ @LT.lt Nat _ dS fx ∧ @LT.lt Nat _ fx lo ∧ @LT.lt Nat _ lo lr ∧ @LT.lt Nat _ lr D9) : (@LT.lt Nat _ cc dO) ∧ (@LT.lt Nat _ dO ox ∧ @LT.lt Nat _ cc ox) ∧ (@LT.lt Nat _ ox dS ∧ @LT.lt Nat _ dO dS ∧ @LT.lt Nat _ cc dS) ∧ (@LT.lt Nat _ dS fx ∧ @LT.lt Nat _ ox fx ∧ @LT.lt Nat _ dO fx ∧ @LT.lt Nat _ cc fx) ∧ (@LT.lt Nat _ fx lo ∧ @LT.lt Nat _ dS lo ∧ @LT.lt Nat _ ox lo ∧ @LT.lt Nat _ dO lo ∧ @LT.lt Nat _ cc lo) ∧ (@LT.lt Nat _ lo lr ∧ @LT.lt Nat _ fx lr ∧ @LT.lt Nat _ dS lr ∧ @LT.lt Nat _ ox lr ∧ @LT.lt Nat _ dO lr ∧ @LT.lt Nat _ cc lr) ∧ (@LT.lt Nat _ lr D9 ∧ @LT.lt Nat _ lo D9 ∧ @LT.lt Nat _ fx D9 ∧ @LT.lt Nat _ dS D9 ∧ @LT.lt Nat _ ox D9 ∧ @LT.lt Nat _ dO D9 ∧ @LT.lt Nat _ cc D9) := by
  obtain ⟨a1, a2, a3, a4, a5, a6, a7⟩ := h
  have p01 : @LT.lt Nat _ cc dO := a1
  have p12 : @LT.lt Nat _ dO ox := a2
  have p02 : @LT.lt Nat _ cc ox := Nat.lt_trans p01 a2
  have p23 : @LT.lt Nat _ ox dS := a3
  have p13 : @LT.lt Nat _ dO dS := Nat.lt_trans p12 a3
  have p03 : @LT.lt Nat _ cc dS := Nat.lt_trans p02 a3
  have p34 : @LT.lt Nat _ dS fx := a4
  have p24 : @LT.lt Nat _ ox fx := Nat.lt_trans p23 a4
  have p14 : @LT.lt Nat _ dO fx := Nat.lt_trans p13 a4
  have p04 : @LT.lt Nat _ cc fx := Nat.lt_trans p03 a4
  have p45 : @LT.lt Nat _ fx lo := a5
  have p35 : @LT.lt Nat _ dS lo := Nat.lt_trans p34 a5
  have p25 : @LT.lt Nat _ ox lo := Nat.lt_trans p24 a5
  have p15 : @LT.lt Nat _ dO lo := Nat.lt_trans p14 a5
  have p05 : @LT.lt Nat _ cc lo := Nat.lt_trans p04 a5
  have p56 : @LT.lt Nat _ lo lr := a6
  have p46 : @LT.lt Nat _ fx lr := Nat.lt_trans p45 a6
  have p36 : @LT.lt Nat _ dS lr := Nat.lt_trans p35 a6
  have p26 : @LT.lt Nat _ ox lr := Nat.lt_trans p25 a6
  have p16 : @LT.lt Nat _ dO lr := Nat.lt_trans p15 a6
  have p06 : @LT.lt Nat _ cc lr := Nat.lt_trans p05 a6
  have p67 : @LT.lt Nat _ lr D9 := a7
  have p57 : @LT.lt Nat _ lo D9 := Nat.lt_trans p56 a7
  have p47 : @LT.lt Nat _ fx D9 := Nat.lt_trans p46 a7
  have p37 : @LT.lt Nat _ dS D9 := Nat.lt_trans p36 a7
  have p27 : @LT.lt Nat _ ox D9 := Nat.lt_trans p26 a7
  have p17 : @LT.lt Nat _ dO D9 := Nat.lt_trans p16 a7
  have p07 : @LT.lt Nat _ cc D9 := Nat.lt_trans p06 a7
  exact ⟨p01, ⟨p12, p02⟩, ⟨p23, p13, p03⟩, ⟨p34, p24, p14, p04⟩, ⟨p45, p35, p25, p15, p05⟩, ⟨p56, p46, p36, p26, p16, p06⟩, ⟨p67, p57, p47, p37, p27, p17, p07⟩⟩
theorem adr_apart {cc dO ox dS fx lo lr D9 D : Addr} (hch : @LT.lt Nat _ cc dO ∧ @LT.lt Nat _ dO ox ∧ @LT.lt Nat _ ox dS ∧ @LT.lt Nat _ dS fx ∧ @LT.lt Nat _ fx lo ∧ @LT.lt Nat _ lo lr ∧ @LT.lt Nat _ lr D9) (hD : @LT.lt Nat _ D9 D) : ∀ b ∈ [lr, dO, D9, fx, dS, ox, cc, lo], b ≠ D := by
  obtain ⟨a1, a2, a3, a4, a5, a6, a7⟩ := hch
  have b7 := Nat.lt_trans a7 hD
  have b6 := Nat.lt_trans a6 b7
  have b5 := Nat.lt_trans a5 b6
  have b4 := Nat.lt_trans a4 b5
  have b3 := Nat.lt_trans a3 b4
  have b2 := Nat.lt_trans a2 b3
  have b1 := Nat.lt_trans a1 b2
  intro b hb
  simp only [List.mem_cons, List.not_mem_nil, or_false] at hb
  rcases hb with rfl | rfl | rfl | rfl | rfl | rfl | rfl | rfl <;> exact Nat.ne_of_lt (by assumption)
theorem turn_app {P : Params} {D9 fx dS ox dO cc lo lr : Addr} {ws9 : List Value} {k1 k2 k3 k4 k5 k6 : Tok} {oc : Obj} {h₀ : Heap} {L : Addr} {m₀ m' : Str → Option Value} {rs : List Row} {vs : List Value} {nn : Nat} {oa l : Addr} {o1 o2 : Obj} {pre : List Int} {n : Int} {k : Nat} {rv : RV} {v : Value} {T D : Addr} {os' : List Value} {t1 t2 tb' tp' : Tok} {b' : Array UInt8} {tl own : List (Addr × Obj)} {h' : Heap} {s₁ : Shared} {tk : Nat}
    (h0 : KdSep own tl [lr, dO, D9, fx, dS, ox, cc, lo]) (F : Fr h₀ L h' m')
    (N : News h₀ L h' ((D, listOf os'.toArray 0) :: (l, o1) :: (T, ({ cls := .type "tuple", data := .seq #[.int k t1, .int (rform rs).length t2, v] } : Obj)) :: (oa, o2) :: (lr, listOf (vs.toArray.push (.ref T)) (nn + 1)) :: (dO, oDict P k5 k6 b' tb' (((rform rs).length + (rv.form k).length : Nat) : Int) tp') :: (D9, listOf ws9.toArray 0) :: (fx, instObj 678 dS) :: (dS, sDict P ox k1 k2 k3 k4) :: (ox, instObj 347 dO) :: (cc, oc) :: (lo, listOf #[] 0) :: (tl ++ own)))
    (hD : @LT.lt Nat _ l D ∧ @LT.lt Nat _ T D ∧ @LT.lt Nat _ oa D ∧ @LT.lt Nat _ lr D ∧ @LT.lt Nat _ dO D ∧ @LT.lt Nat _ D9 D ∧ @LT.lt Nat _ fx D ∧ @LT.lt Nat _ dS D ∧ @LT.lt Nat _ ox D ∧ @LT.lt Nat _ cc D ∧ @LT.lt Nat _ lo D ∧ AllLt D (tl ++ own))
    (hT : @LT.lt Nat _ oa T ∧ @LT.lt Nat _ lr T ∧ @LT.lt Nat _ dO T ∧ @LT.lt Nat _ D9 T ∧ @LT.lt Nat _ fx T ∧ @LT.lt Nat _ dS T ∧ @LT.lt Nat _ ox T ∧ @LT.lt Nat _ cc T ∧ @LT.lt Nat _ lo T ∧ AllLt T (tl ++ own))
    (hch : @LT.lt Nat _ cc dO ∧ @LT.lt Nat _ dO ox ∧ @LT.lt Nat _ ox dS ∧ @LT.lt Nat _ dS fx ∧ @LT.lt Nat _ fx lo ∧ @LT.lt Nat _ lo lr ∧ @LT.lt Nat _ lr D9)
    (e1 : m' (Str.ofString "octets") = some (.ref D)) (e2 : m' (Str.ofString "file") = some (.ref fx)) (hr : ∀ z, z ≠ Str.ofString "cell" → z ≠ Str.ofString "octets" → z ≠ Str.ofString "file" → St1.contains z = false → m' z = m₀ z)
    (hv : DatIn [] v rv.dat) (G : rv.Good k) (hf2 : DatAll (Cst1 P D9 fx dS ox dO cc lo ws9 oc k1 k2 k3 k4 ++ tl) vs (rs.map Row.dat)) (hI : IntsAre os' (rform rs ++ rv.form k)) (hb : KBw.bInts b' = (rform rs).take (rform rs).length ++ rv.form k ++ (rform rs).drop ((rform rs).length + (rv.form k).length)) (hp1 : Laid 0 rs) (hp2 : rs.length ≤ pre.length) :
    InvEndG h₀ L (KdS (Led1 P lr dO k5 k6) (Cst1 P D9 fx dS ox dO cc lo ws9 oc k1 k2 k3 k4) (Ps1 fx) (Fac1 lr dO) (Str.ofString "cell") St1 m₀ Inv1 [lr, dO, D9, fx, dS, ox, cc, lo] (pre ++ [n])) own s₁ { s₁ with heap := h', toks := tk } := by
  have er : rform (rs ++ [⟨k, (rform rs).length, rv⟩]) = rform rs ++ rv.form k := by rw [rform_append, rform_one]; rfl
  refine kd_end (⟨rs ++ [⟨k, (rform rs).length, rv⟩], vs ++ [.ref T], nn + 1, D, os', 0, b', tb', tp'⟩ : C1) [(D, listOf os'.toArray 0), (T, { cls := .type "tuple", data := .seq #[.int k t1, .int (rform rs).length t2, v] })] h0 F N ?_ ?_ rfl ?_ ?_ ?_ ?_ ?_ ?_
  · intro p hp
    simp only [Led1, Cst1, er, List.length_append, ← List.push_toArray, List.cons_append, List.nil_append] at hp
    rcases List.mem_cons.mp hp with rfl | hp
    · exact .tail _ (.tail _ (.tail _ (.tail _ (.head _))))
    rcases List.mem_cons.mp hp with rfl | hp
    · exact .tail _ (.tail _ (.tail _ (.tail _ (.tail _ (.head _)))))
    rcases List.mem_cons.mp hp with rfl | hp
    · exact .tail _ (.tail _ (.tail _ (.tail _ (.tail _ (.tail _ (.head _))))))
    rcases List.mem_cons.mp hp with rfl | hp
    · exact .tail _ (.tail _ (.tail _ (.tail _ (.tail _ (.tail _ (.tail _ (.head _)))))))
    rcases List.mem_cons.mp hp with rfl | hp
    · exact .tail _ (.tail _ (.tail _ (.tail _ (.tail _ (.tail _ (.tail _ (.tail _ (.head _))))))))
    rcases List.mem_cons.mp hp with rfl | hp
    · exact .tail _ (.tail _ (.tail _ (.tail _ (.tail _ (.tail _ (.tail _ (.tail _ (.tail _ (.head _)))))))))
    rcases List.mem_cons.mp hp with rfl | hp
    · exact .tail _ (.tail _ (.tail _ (.tail _ (.tail _ (.tail _ (.tail _ (.tail _ (.tail _ (.tail _ (.head _))))))))))
    rcases List.mem_cons.mp hp with rfl | hp
    · exact .tail _ (.tail _ (.tail _ (.tail _ (.tail _ (.tail _ (.tail _ (.tail _ (.tail _ (.tail _ (.tail _ (.head _)))))))))))
    rcases List.mem_cons.mp hp with rfl | hp
    · exact .head _
    rcases List.mem_cons.mp hp with rfl | hp
    · exact .tail _ (.tail _ (.head _))
    · exact .tail _ (.tail _ (.tail _ (.tail _ (.tail _ (.tail _ (.tail _ (.tail _ (.tail _ (.tail _ (.tail _ (.tail _ (List.mem_append.mpr (.inl hp)))))))))))))
  · exact fun p hp => .tail _ (.tail _ (.tail _ (.tail _ (.tail _ (.tail _ (.tail _ (.tail _ (.tail _ (.tail _ (.tail _ (.tail _ (List.mem_append.mpr (.inr hp)))))))))))))
  · intro q hq b hb9
    rcases List.mem_cons.mp hq with rfl | hq
    · exact adr_apart hch hD.2.2.2.2.2.1 b hb9
    · rw [List.mem_singleton.mp hq]
      exact adr_apart hch hT.2.2.2.1 b hb9
  · intro q hq p hp
    rcases List.mem_cons.mp hq with rfl | hq
    · exact ne_of_allLt hD.2.2.2.2.2.2.2.2.2.2.2 p (List.mem_append.mpr (.inr hp))
    · rw [List.mem_singleton.mp hq]
      exact ne_of_allLt hT.2.2.2.2.2.2.2.2.2 p (List.mem_append.mpr (.inr hp))
  · exact ps2 F e1 e2
  · exact fun z h1 h2 h3 => hr z h1 (h2 _ (.head _)) (h2 _ (.tail _ (.head _))) h3
  · refine ⟨kd_new (.head _), ?_, by rw [er]; exact hI, ?_, ?_, ?_⟩
    · rw [List.map_append]
      exact DatAll.append (DatAll.mono kd_sub hf2) (DatAll.one (DatIn.tuple (vs := [.int k t1, .int (rform rs).length t2, v]) (kd_new (.tail _ (.head _))) (.cons (.int _ _) (.cons (.int _ _) (.cons (hv.mono (List.forall_mem_nil _)) .nil)))))
    · show KBw.bInts b' = rform _
      rw [er, hb, List.take_length, List.drop_eq_nil_of_le (Nat.le_add_right _ _), List.append_nil]
    · exact Nat.ne_of_gt hD.2.2.2.1
    · exact Nat.ne_of_gt hD.2.2.2.2.1
  · refine ⟨laid_snoc hp1 G, ?_⟩
    show (rs ++ [_]).length ≤ _
    rw [List.length_append, List.length_append]
    exact Nat.add_le_add_right hp2 _
theorem ne_dat9 {prog : Program} {w : World} {A : Around} {E : Value → Shared → Prop} {s : Shared} {v v' : Value} {rv : RV} {n1 n2 : List (Addr × Obj)} {Q : Value → Shared → Prop} (h1 : DatIn n1 v rv.dat) (h2 : DatIn n2 v' rv.dat) (h : Q (.bool false) s) : wpAny (model prog w) A (compareOp .NotEq v v') Q E s := by
  cases rv with
  | int n => cases h1; cases h2; exact ne_int (by simpa using h)
  | bytes b => cases h1; cases h2; exact ne_bytes (by simpa using h)
theorem row_open {Kd : List (Addr × Obj)} {v : Value} {r : Row} (h : DatIn Kd v r.dat) : ∃ a t1 t2 x n, v = .ref a ∧ (a, ({ cls := .type "tuple", data := .seq #[.int r.k t1, .int r.z t2, x] n } : Obj)) ∈ Kd ∧ DatIn [] x r.v.dat := by
  obtain ⟨k, z, rv⟩ := r
  cases h with
  | tuple hm hd =>
    cases hd with
    | cons h1 hd =>
      cases hd with
      | cons h2 hd =>
        cases hd with
        | cons h3 hd =>
          cases hd
          cases h1
          cases h2
          refine ⟨_, _, _, _, _, rfl, hm, ?_⟩
          cases rv with
          | int n => cases h3; exact .int _ _
          | bytes b => cases h3; exact .bytes _ _
theorem fr_self {h₀ h : Heap} {L : Addr} {m : Str → Option Value} {x : Str} {v : Value} (F : Fr h₀ L h m) (hm : m x = some v) : Fr h₀ L h (fun y => if y = x then some v else m y) := by
  have e : m = fun y => if y = x then some v else m y := by
    funext y
    by_cases c : y = x
    · rw [if_pos c, c, hm]
    · rw [if_neg c]
  exact e ▸ F
theorem allObj_mono : ∀ {ws : List (Addr × String)} {k k' : List (Addr × Obj) → Prop}, (∀ its, k its → k' its) → AllObj ws k → AllObj ws k'
  | [], _, _, f, h => f [] h
  | _ :: _, _, _, f, h => fun o ho => allObj_mono (fun its hk => f _ hk) (h o ho)
section
variable {prog : Program} {w : World} {A : Around} {E : Value → Shared → Prop} {s : Shared} {env : Env} {h₀ : Heap} {target : PySem.Expr} {body : List Stmt} {Q : Flow → Shared → Prop} {ws : List (Addr × String)} {keep : List (Addr × Obj)}
theorem unr_mono {L : Addr} {its : List (Addr × Obj)} {r r' : (Str → Option Value) → List (Addr × Obj) → Prop} {s₁ s₂ : Shared} {f : Flow} (h : ∀ m n, r m n → r' m n) (u : UnrPostW h₀ L s₁ its r Q f s₂) : UnrPostW h₀ L s₁ its r' Q f s₂ := by
  have up : UnrEndW h₀ L s₁ its r s₂ → UnrEndW h₀ L s₁ its r' s₂ := by
    rintro ⟨h', tk, m', n', e, F, N, o, x⟩
    exact ⟨h', tk, m', n', e, F, N, o, h _ _ x⟩
  cases f with
  | ret v => exact u
  | brk => exact u
  | next => exact up u
  | cont => exact up u
/-- a walk over the rows -/
theorem rows_rest {Kd : List (Addr × Obj)} {J : List Row → (Str → Option Value) → List (Addr × Obj) → Prop} {all : List Row}
    (step : ∀ pre r post v m nw h tk, all = pre ++ r :: post → DatIn Kd v r.dat → J pre m nw → Fr h₀ env.locals h m → AllObj ws (fun its => News h₀ env.locals h (its ++ nw) →
      wpAny (model prog w) A (assign target env v) (fun _ s₂ => wpAny (model prog w) A (execs body env) (UnrPostW h₀ env.locals { s with heap := h, toks := tk } its (fun m' n' => SubL keep n' ∧ J (pre ++ [r]) m' n') Q) E s₂) E { s with heap := h, toks := tk }))
    (done : ∀ m nw h tk, J all m nw → Fr h₀ env.locals h m → News h₀ env.locals h nw → Q .next { s with heap := h, toks := tk }) :
    ∀ (post pre : List Row) (vs : List Value) (m : Str → Option Value) (nw : List (Addr × Obj)), all = pre ++ post → DatAll Kd vs (post.map Row.dat) → J pre m nw → ItemsRest prog w A E h₀ env target body Q s ws keep (vs.map .val) m nw
  | [], pre, vs, m, nw, e, d, j => by
    cases d
    rw [List.append_nil] at e
    subst e
    exact fun h tk F N => done m nw h tk j F N
  | r :: post, pre, vs, m, nw, e, d, j => by
    cases d with
    | cons hd hr =>
      refine ItemsRest.val fun h tk F => ?_
      exact allObj_mono (fun its f N => wpAny_mono (f N) (fun _ _ x => wpAny_mono x (fun fl s' y => unr_mono (fun m' n' ab => ⟨ab.1, rows_rest step done post (pre ++ [r]) _ m' n' (by rw [e, List.append_assoc]; rfl) hr ab.2⟩) y) fun _ _ z => z) fun _ _ z => z) (step pre r post _ m nw h tk e hd j F)
open LCt LCg in
/-- a comprehension whose turns leave the ledger as it was -/
theorem restT_of {ct elt : PySem.Expr} {x : Str} {scope : Scope} {cl : List (Str × Addr)} {S : List (Addr × Obj) → Prop} {P : Nat → Value → Prop} {L : Addr} {m : Str → Option Value} {news : List (Addr × Obj)} {Fin : List Value → List (Addr × Obj) → Prop} {J : Nat → List Value → Prop} {n : Nat}
    (step : ∀ i ys v I oI C oC D m₂ h tk (E' : Value → Shared → Prop), i < n → J i ys → P i v → NsObj oC m₂ → m₂ x = some v → Fr h₀ L h m → News h₀ L h ((I, oI) :: (C, oC) :: (D, lst ys) :: news) → Off3 I C D news → ((@Ne Nat I C) ∧ (@Ne Nat I D) ∧ (@Ne Nat C D)) →
      wpAny (model prog w) A (isTrue ct (compEnvC scope cl C env) (eval ct (compEnvC scope cl C env))) (fun ok s' => if ok = true then
        wpAny (model prog w) A (eval elt (compEnvC scope cl C env)) (CompEnd h₀ L m { s with heap := h, toks := tk } I oI C oC D (lst ys) S (fun y news' => news' = news ∧ J (i + 1) (ys ++ [y]))) E' s'
        else CompEnd h₀ L m { s with heap := h, toks := tk } I oI C oC D (lst ys) S (fun _ news' => news' = news ∧ J (i + 1) ys) Value.none s') E' { s with heap := h, toks := tk })
    (fin : ∀ ys, J n ys → Fin ys news) : ∀ (k i : Nat) (ys : List Value), k + i = n → J i ys → CompRestT prog w A h₀ L m env ct elt x scope cl s S P Fin k i ys news
  | 0, i, ys, e, j => by
    obtain rfl : i = n := by omega
    exact fin ys j
  | k + 1, i, ys, e, j => by
    intro v I oI C oC D m₂ h tk E' hP hn hm F N o3 ne
    refine wpAny_mono (step i ys v I oI C oC D m₂ h tk E' (by omega) j hP hn hm F N o3 ne) (fun ok s' z => ?_) fun _ _ z => z
    cases ok with
    | true =>
      simp only [if_true] at z ⊢
      refine wpAny_mono z (fun y s₂ u => ?_) fun _ _ z => z
      obtain ⟨h', tk', news', e1, F', N', o', hS, rfl, j'⟩ := u
      exact ⟨h', tk', _, e1, F', N', o', hS, restT_of step fin k (i + 1) _ (by omega) j'⟩
    | false =>
      simp only [Bool.false_eq_true, if_false] at z ⊢
      obtain ⟨h', tk', news', e1, F', N', o', hS, rfl, j'⟩ := z
      exact ⟨h', tk', _, e1, F', N', o', hS, restT_of step fin k (i + 1) _ (by omega) j'⟩
end
theorem subL_of : ∀ {l all : List (Addr × Obj)}, (∀ p ∈ l, p ∈ all) → SubL l all
  | [], _, _ => trivial
  | _ :: _, _, h => ⟨h _ (.head _), subL_of fun p hp => h p (.tail _ hp)⟩
theorem offW_one {I : Addr} {oI : Obj} : ∀ {l : List (Addr × Obj)}, (∀ p ∈ l, p.1 ≠ I) → OffW [(I, oI)] l
  | [], _ => trivial
  | _ :: _, h => ⟨⟨.inl (h _ (.head _)), trivial⟩, offW_one fun p hp => h p (.tail _ hp)⟩
theorem rng_small12 {n : Nat} (h : n ≤ 12) : Builtin.Range.small 0 (n : Int) 1 = true ∧ Builtin.Range.rangeSize 0 (n : Int) 1 = (n : Int) := by
  have all : ∀ n : Nat, n < 13 → Builtin.Range.small 0 (n : Int) 1 = true ∧ Builtin.Range.rangeSize 0 (n : Int) 1 = (n : Int) := by decide
  exact all n (Nat.lt_succ_of_le h)
theorem front_of {h₀ : Heap} {L : Addr} {h : Heap} {l : List (Addr × Obj)} {e : Addr × Obj} (N : News h₀ L h l) (he : e ∈ l) : News h₀ L h (e :: l) := fun p hp => (List.mem_cons.mp hp).elim (fun x => x ▸ N _ he) (N p)
theorem datAll_rev {K : List (Addr × Obj)} : ∀ {vs : List Value} {ds : List Dat}, DatAll K vs ds → DatAll K vs.reverse ds.reverse
  | [], _, h => by cases h; exact .nil
  | v :: vs, _, h => by
    cases h with
    | cons h r =>
      rw [List.reverse_cons, List.reverse_cons]
      exact DatAll.append (datAll_rev r) (DatAll.one h)
theorem size12 {vs : List Value} (h : vs.length ≤ 12) : vs.toArray.size ≤ sizeLine := by
  rw [List.size_toArray, sizeLine_eq]; omega
theorem item_at9 {prog : Program} {w : World} {A : Around} {E : Value → Shared → Prop} {s : Shared} {h₀ : Heap} {L l : Addr} {news : List (Addr × Obj)} {value slice : PySem.Expr} {us : List Value} {n i : Nat} {u : Tok} {x : Value} {Q : Value → Shared → Prop} (N : News h₀ L s.heap news) (hm : (l, listOf us.toArray n) ∈ news) (hx : us[i]? = some x) (hfit : us.length ≤ 12) (h : Q x s)
    (hs : subscripted slice false (.ref l) (.int (i : Int) u) = operate [.ref l, .int (i : Int) u] (getItem (.ref l) (.int (i : Int) u)) := by with_unfolding_all rfl) : wpAny (model prog w) A (subscriptTail value slice (.ref l) (.int (i : Int) u)) Q E s := by
  have hl : s.heap.IsList l us.toArray := ⟨_, (N _ hm).1, rfl, n, rfl⟩
  have hi : i < us.length := (List.getElem?_eq_some_iff.mp hx).1
  exact tail_any hl.typeIs slot_list_getitem.lookup (wpAny_getItem_list hl (Int.natCast_nonneg i) (by omega) (by simpa using hx) h) hs
theorem cst_off {P : Params} {D9 fx dS ox dO cc lo : Addr} {ws : List Value} {oc : Obj} {k1 k2 k3 k4 : Tok} {tl : List (Addr × Obj)} {a b : Addr} {o : Obj} {adr : List Addr} (h : (a, o) ∈ Cst1 P D9 fx dS ox dO cc lo ws oc k1 k2 k3 k4 ++ tl) (hoff : OwnOff tl adr) (hb : b ∈ adr)
    (h1 : @Ne Nat D9 b) (h2 : @Ne Nat fx b) (h3 : @Ne Nat dS b) (h4 : @Ne Nat ox b) (h5 : @Ne Nat cc b) (h6 : @Ne Nat lo b) : @Ne Nat a b := by
  rcases List.mem_append.mp h with h | h
  · simp only [Cst1, List.mem_cons, List.not_mem_nil, or_false, Prod.mk.injEq] at h
    rcases h with h | h | h | h | h | h <;> (rw [h.1]; assumption)
  · exact hoff _ h b hb
theorem rows_at {K : List (Addr × Obj)} {vs : List Value} {rs : List Row} {i : Nat} {r : Row} (h : DatAll K vs (rs.map Row.dat)) (hr : rs[i]? = some r) : ∃ a t1 t2 x n, vs[i]? = some (.ref a) ∧ (a, ({ cls := .type "tuple", data := .seq #[.int r.k t1, .int r.z t2, x] n } : Obj)) ∈ K ∧ DatIn [] x r.v.dat := by
  obtain ⟨hi, rfl⟩ := List.getElem?_eq_some_iff.mp hr
  obtain ⟨v, hv, hd⟩ := h.get (k := i) (by rw [List.length_map]; exact hi)
  rw [List.getElem_map] at hd
  obtain ⟨a, t1, t2, x, n, rfl, hm, hx⟩ := row_open hd
  exact ⟨a, t1, t2, x, n, hv, hm, hx⟩
theorem mem_more {α : Type} {x : α} {a b c : List α} (h : x ∈ a ++ b) : x ∈ a ++ (b ++ c) := by
  rcases List.mem_append.mp h with h | h
  · exact List.mem_append.mpr (.inl h)
  · exact List.mem_append.mpr (.inr (List.mem_append.mpr (.inl h)))
theorem eq_nil9 {prog : Program} {w : World} {A : Around} {E : Value → Shared → Prop} {s : Shared} {h₀ : Heap} {L a b : Addr} {news : List (Addr × Obj)} {us : List Value} {ns : List Int} {n n2 : Nat} {Q : Value → Shared → Prop} (N : News h₀ L s.heap news) (ha : (a, listOf us.toArray n) ∈ news) (hb : (b, listOf #[] n2) ∈ news) (hi : IntsAre us ns) (hu : A.units + 64 < cLine) (h : Q (.bool (decide (ns = []))) s) :
    wpAny (model prog w) A (compareOp .Eq (.ref a) (.ref b)) Q E s :=
  ke_eq_ints (ys := []) ⟨_, (N _ ha).1, rfl, _, rfl⟩ ⟨_, (N _ hb).1, rfl, _, rfl⟩ hi .nil hu h
theorem news_drop4 {h₀ : Heap} {L : Addr} {h : Heap} {e1 e2 x1 x2 x3 x4 : Addr × Obj} {l : List (Addr × Obj)} (N : News h₀ L h (e1 :: e2 :: x1 :: x2 :: x3 :: x4 :: l)) : News h₀ L h (e1 :: e2 :: l) := by
  intro p hp
  rcases List.mem_cons.mp hp with rfl | hp
  · exact N _ (.head _)
  rcases List.mem_cons.mp hp with rfl | hp
  · exact N _ (.tail _ (.head _))
  · exact N _ (.tail _ (.tail _ (.tail _ (.tail _ (.tail _ (.tail _ hp))))))
theorem size26 {vs : List Value} {ns : List Int} (h : vs.length = ns.length) (h2 : ns.length ≤ 2640) : vs.toArray.size ≤ sizeLine := by
  rw [List.size_toArray, sizeLine_eq]; omega
theorem setL9 : ∀ {l : List Value} {i : Nat} (v : Value), i < l.length → ki_setL l i v = some (l.set i v)
  | [], _, _, h => absurd h (Nat.not_lt_zero _)
  | _ :: _, 0, _, _ => rfl
  | a :: l, i + 1, v, h => by
    unfold ki_setL
    rw [setL9 v (Nat.lt_of_succ_lt_succ h)]
    rfl
theorem set_at9 {prog : Program} {w : World} {A : Around} {E : Value → Shared → Prop} {s : Shared} {h₀ : Heap} {L D : Addr} {m : Str → Option Value} {news news' : List (Addr × Obj)} {vs : List Value} {n i : Nat} {t : Tok} {v : Value} {Q : Unit → Shared → Prop} (F : Fr h₀ L s.heap m) (N : News h₀ L s.heap news) (hi : i < vs.length) (hfit : vs.length ≤ 12)
    (U : Upd D (listOf vs.toArray n) (listOf (vs.set i v).toArray n) news news') (h : ∀ h', Fr h₀ L h' m → News h₀ L h' news' → Q () { s with heap := h' }) : wpAny (model prog w) A (setItem (.ref D) (.int (i : Int) t) v) Q E s :=
  ki_set F N (Int.natCast_nonneg i) (by omega) (by rw [Int.toNat_natCast]; exact setL9 v hi) U h
theorem item_atI9 {prog : Program} {w : World} {A : Around} {E : Value → Shared → Prop} {s : Shared} {h₀ : Heap} {L l : Addr} {news : List (Addr × Obj)} {value slice : PySem.Expr} {us : List Value} {n : Nat} {k : Int} {u : Tok} {x : Value} {Q : Value → Shared → Prop} (N : News h₀ L s.heap news) (hm : (l, listOf us.toArray n) ∈ news) (hx : us[k.toNat]? = some x) (h0 : 0 ≤ k) (hfit : us.length ≤ 12) (h : Q x s)
    (hs : subscripted slice false (.ref l) (.int k u) = operate [.ref l, .int k u] (getItem (.ref l) (.int k u)) := by with_unfolding_all rfl) : wpAny (model prog w) A (subscriptTail value slice (.ref l) (.int k u)) Q E s := by
  have hl : s.heap.IsList l us.toArray := ⟨_, (N _ hm).1, rfl, n, rfl⟩
  have hi : k.toNat < us.length := (List.getElem?_eq_some_iff.mp hx).1
  exact tail_any hl.typeIs slot_list_getitem.lookup (wpAny_getItem_list hl h0 (by omega) (by simpa using hx) h) hs
theorem pick9 {ys : List Value} {js : List Int} {rs : List Row} {c : Int} (hi : IntsAre ys js) (hl : 0 < js.length) (hjs : ∀ j ∈ js, ∃ q : Nat, j = (q : Int) ∧ ∃ r, rs[q]? = some r ∧ 1 < r.k ∧ r.k < 11) :
    0 ≤ c.fmod (js.length : Int) ∧ ∃ (q : Nat) (t : Tok) (r : Row), ys[(c.fmod (js.length : Int)).toNat]? = some (.int (q : Int) t) ∧ rs[q]? = some r ∧ 1 < r.k ∧ r.k < 11 := by
  have h0 : (0 : Int) < (js.length : Int) := by omega
  have h1 : c.fmod (js.length : Int) = c % (js.length : Int) := Int.fmod_eq_emod_of_nonneg _ (by omega)
  have h2 := Int.emod_nonneg c (show (js.length : Int) ≠ 0 by omega)
  have h3 := Int.emod_lt_of_pos c h0
  rw [h1]
  have hx : (c % (js.length : Int)).toNat < js.length := by omega
  obtain ⟨q, e, r, hr, k1, k2⟩ := hjs _ (List.getElem_mem hx)
  obtain ⟨t, ht⟩ := hi.get _ _ (List.getElem?_eq_getElem hx)
  exact ⟨h2, q, t, r, by rw [ht, e], hr, k1, k2⟩
theorem set_ok {rs : List Row} {q : Nat} {r r' : Row} (h : Laid 0 rs) (hr : rs[q]? = some r) (hz : r'.z = r.z) (g : r'.v.Good r'.k) (hl : r'.form.length = r.form.length) :
    Laid 0 (rs.set q r') ∧ rform (rs.set q r') = (rform rs).take r.z ++ r'.form ++ (rform rs).drop (r.z + r'.form.length) := by
  obtain ⟨hq, _⟩ := List.getElem?_eq_some_iff.mp hr
  have e := part_at hr
  have e2 : rs.set q r' = rs.take q ++ r' :: rs.drop (q + 1) := List.set_eq_take_append_cons_drop.trans (if_pos hq)
  rw [e2]
  have h' : Laid 0 (rs.take q ++ r :: rs.drop (q + 1)) := e ▸ h
  refine ⟨laid_set h' hz g hl, ?_⟩
  have e3 := rform_set (post := rs.drop (q + 1)) (laid_at h').1 hl
  rw [← e] at e3
  exact e3
theorem row_in {rs : List Row} {q : Nat} {r : Row} (h : Laid 0 rs) (hr : rs[q]? = some r) : r.v.Good r.k ∧ r.z + (r.v.form r.k).length ≤ (rform rs).length := by
  have e := part_at hr
  have h' : Laid 0 (rs.take q ++ r :: rs.drop (q + 1)) := e ▸ h
  have h2 := (laid_take h').2
  rw [← e] at h2
  exact ⟨(laid_at h').2, h2⟩
theorem fix_form {k : Nat} {v : RV} (g : v.Good k) (h1 : 1 < k) (h2 : k < 11) : (v.form k).length = spread k := by
  cases v with
  | int n => exact fix_len (by omega) (by omega)
  | bytes b => exact absurd g.1 (by omega)
theorem datAll_set {K : List (Addr × Obj)} : ∀ {vs : List Value} {ds : List Dat} {i : Nat} {v : Value} {d : Dat}, DatAll K vs ds → DatIn K v d → DatAll K (vs.set i v) (ds.set i d)
  | [], _, _, _, _, h, _ => by cases h; exact .nil
  | a :: vs, _, 0, v, d, h, hd => by
    cases h with
    | cons h r => exact .cons hd r
  | a :: vs, _, i + 1, v, d, h, hd => by
    cases h with
    | cons h r => exact .cons h (datAll_set r hd)
noncomputable def Ldg (P : Params) (oa lr dO D9 fx dS ox cc lo : Addr) (os vs ws : List Value) (on nn : Nat) (oc : Obj) (k1 k2 k3 k4 : Tok) (tl : List (Addr × Obj)) (o : Obj) : List (Addr × Obj) :=
  (oa, listOf os.toArray on) :: (lr, listOf vs.toArray nn) :: (dO, o) :: (D9, listOf ws.toArray 0) :: (fx, instObj 678 dS) :: (dS, sDict P ox k1 k2 k3 k4) :: (ox, instObj 347 dO) :: (cc, oc) :: (lo, listOf #[] 0) :: tl
theorem turn_same {P : Params} {D9 fx dS ox dO cc lo lr : Addr} {ws9 : List Value} {k1 k2 k3 k4 k5 k6 : Tok} {oc : Obj} {h₀ : Heap} {L : Addr} {m₀ m' : Str → Option Value} {rs : List Row} {vs os : List Value} {nn on : Nat} {oa l D : Addr} {o0 o1 : Obj} {b : Array UInt8} {tb tp : Tok} {pre : List Int} {n : Int} {tl own : List (Addr × Obj)} {h' : Heap} {s₁ : Shared} {tk : Nat}
    (h0 : KdSep own tl [lr, dO, D9, fx, dS, ox, cc, lo]) (F : Fr h₀ L h' m')
    (N : News h₀ L h' ((l, o1) :: (D, o0) :: Ldg P oa lr dO D9 fx dS ox cc lo os vs ws9 on nn oc k1 k2 k3 k4 (tl ++ own) (oDict P k5 k6 b tb (((rform rs).length : Nat) : Int) tp)))
    (e1 : m' (Str.ofString "octets") = some (.ref oa)) (e2 : m' (Str.ofString "file") = some (.ref fx)) (hr : ∀ z, z ≠ Str.ofString "cell" → z ≠ Str.ofString "octets" → z ≠ Str.ofString "file" → St1.contains z = false → m' z = m₀ z)
    (hf : Fac1 lr dO (Cst1 P D9 fx dS ox dO cc lo ws9 oc k1 k2 k3 k4 ++ tl) ⟨rs, vs, nn, oa, os, on, b, tb, tp⟩) (hp : Inv1 pre ⟨rs, vs, nn, oa, os, on, b, tb, tp⟩) :
    InvEndG h₀ L (KdS (Led1 P lr dO k5 k6) (Cst1 P D9 fx dS ox dO cc lo ws9 oc k1 k2 k3 k4) (Ps1 fx) (Fac1 lr dO) (Str.ofString "cell") St1 m₀ Inv1 [lr, dO, D9, fx, dS, ox, cc, lo] (pre ++ [n])) own s₁ { s₁ with heap := h', toks := tk } := by
  refine kd_end (⟨rs, vs, nn, oa, os, on, b, tb, tp⟩ : C1) [] h0 F N ?_ ?_ rfl (List.forall_mem_nil _) (List.forall_mem_nil _) (ps2 F e1 e2) (fun z h1 h2 h3 => hr z h1 (h2 _ (.head _)) (h2 _ (.tail _ (.head _))) h3) hf ⟨hp.1, ?_⟩
  · intro p hp
    rcases List.mem_cons.mp hp with rfl | hp
    · exact .tail _ (.tail _ (.tail _ (.head _)))
    rcases List.mem_cons.mp hp with rfl | hp
    · exact .tail _ (.tail _ (.tail _ (.tail _ (.head _))))
    · exact .tail _ (.tail _ (.tail _ (.tail _ (.tail _ (mem_more (a := Cst1 P D9 fx dS ox dO cc lo ws9 oc k1 k2 k3 k4) hp)))))
  · intro p hp
    have h9 : p ∈ Cst1 P D9 fx dS ox dO cc lo ws9 oc k1 k2 k3 k4 ++ (tl ++ own) := List.mem_append.mpr (.inr (List.mem_append.mpr (.inr hp)))
    exact .tail _ (.tail _ (.tail _ (.tail _ (.tail _ h9))))
  · rw [List.length_append]
    exact Nat.le_succ_of_le hp.2
theorem turn_set {P : Params} {D9 fx dS ox dO cc lo lr : Addr} {ws9 : List Value} {k1 k2 k3 k4 k5 k6 : Tok} {oc : Obj} {h₀ : Heap} {L : Addr} {m₀ m' : Str → Option Value} {rs : List Row} {vs : List Value} {nn q : Nat} {oa l : Addr} {o1 o2 : Obj} {pre : List Int} {n : Int} {r : Row} {rv : RV} {v : Value} {T D : Addr} {os' : List Value} {t1 t2 tb' tp' : Tok} {b' : Array UInt8} {tl own : List (Addr × Obj)} {h' : Heap} {s₁ : Shared} {tk : Nat}
    (h0 : KdSep own tl [lr, dO, D9, fx, dS, ox, cc, lo]) (F : Fr h₀ L h' m')
    (N : News h₀ L h' ((D, listOf os'.toArray 0) :: (l, o1) :: (T, ({ cls := .type "tuple", data := .seq #[.int r.k t1, .int r.z t2, v] } : Obj)) :: (oa, o2) :: (lr, listOf (vs.set q (.ref T)).toArray nn) :: (dO, oDict P k5 k6 b' tb' (((rform (rs.set q ⟨r.k, r.z, rv⟩)).length : Nat) : Int) tp') :: (D9, listOf ws9.toArray 0) :: (fx, instObj 678 dS) :: (dS, sDict P ox k1 k2 k3 k4) :: (ox, instObj 347 dO) :: (cc, oc) :: (lo, listOf #[] 0) :: (tl ++ own)))
    (hch : @LT.lt Nat _ cc dO ∧ @LT.lt Nat _ dO ox ∧ @LT.lt Nat _ ox dS ∧ @LT.lt Nat _ dS fx ∧ @LT.lt Nat _ fx lo ∧ @LT.lt Nat _ lo lr ∧ @LT.lt Nat _ lr D9) (hD : @LT.lt Nat _ D9 D) (hT : @LT.lt Nat _ D9 T) (aD : AllLt D (tl ++ own)) (aT : AllLt T (tl ++ own))
    (e1 : m' (Str.ofString "octets") = some (.ref D)) (e2 : m' (Str.ofString "file") = some (.ref fx)) (hr : ∀ z, z ≠ Str.ofString "cell" → z ≠ Str.ofString "octets" → z ≠ Str.ofString "file" → St1.contains z = false → m' z = m₀ z)
    (hv : DatIn [] v rv.dat) (hf2 : DatAll (Cst1 P D9 fx dS ox dO cc lo ws9 oc k1 k2 k3 k4 ++ tl) vs (rs.map Row.dat)) (hI : IntsAre os' (rform (rs.set q ⟨r.k, r.z, rv⟩))) (hb : KBw.bInts b' = rform (rs.set q ⟨r.k, r.z, rv⟩)) (hp1 : Laid 0 (rs.set q ⟨r.k, r.z, rv⟩)) (hp2 : rs.length ≤ pre.length) :
    InvEndG h₀ L (KdS (Led1 P lr dO k5 k6) (Cst1 P D9 fx dS ox dO cc lo ws9 oc k1 k2 k3 k4) (Ps1 fx) (Fac1 lr dO) (Str.ofString "cell") St1 m₀ Inv1 [lr, dO, D9, fx, dS, ox, cc, lo] (pre ++ [n])) own s₁ { s₁ with heap := h', toks := tk } := by
  refine kd_end (⟨rs.set q ⟨r.k, r.z, rv⟩, vs.set q (.ref T), nn, D, os', 0, b', tb', tp'⟩ : C1) [(D, listOf os'.toArray 0), (T, { cls := .type "tuple", data := .seq #[.int r.k t1, .int r.z t2, v] })] h0 F N ?_ ?_ rfl ?_ ?_ ?_ ?_ ?_ ?_
  · intro p hp
    simp only [Led1, Cst1, List.cons_append, List.nil_append] at hp
    rcases List.mem_cons.mp hp with rfl | hp
    · exact .tail _ (.tail _ (.tail _ (.tail _ (.head _))))
    rcases List.mem_cons.mp hp with rfl | hp
    · exact .tail _ (.tail _ (.tail _ (.tail _ (.tail _ (.head _)))))
    rcases List.mem_cons.mp hp with rfl | hp
    · exact .tail _ (.tail _ (.tail _ (.tail _ (.tail _ (.tail _ (.head _))))))
    rcases List.mem_cons.mp hp with rfl | hp
    · exact .tail _ (.tail _ (.tail _ (.tail _ (.tail _ (.tail _ (.tail _ (.head _)))))))
    rcases List.mem_cons.mp hp with rfl | hp
    · exact .tail _ (.tail _ (.tail _ (.tail _ (.tail _ (.tail _ (.tail _ (.tail _ (.head _))))))))
    rcases List.mem_cons.mp hp with rfl | hp
    · exact .tail _ (.tail _ (.tail _ (.tail _ (.tail _ (.tail _ (.tail _ (.tail _ (.tail _ (.head _)))))))))
    rcases List.mem_cons.mp hp with rfl | hp
    · exact .tail _ (.tail _ (.tail _ (.tail _ (.tail _ (.tail _ (.tail _ (.tail _ (.tail _ (.tail _ (.head _))))))))))
    rcases List.mem_cons.mp hp with rfl | hp
    · exact .tail _ (.tail _ (.tail _ (.tail _ (.tail _ (.tail _ (.tail _ (.tail _ (.tail _ (.tail _ (.tail _ (.head _)))))))))))
    rcases List.mem_cons.mp hp with rfl | hp
    · exact .head _
    rcases List.mem_cons.mp hp with rfl | hp
    · exact .tail _ (.tail _ (.head _))
    · exact .tail _ (.tail _ (.tail _ (.tail _ (.tail _ (.tail _ (.tail _ (.tail _ (.tail _ (.tail _ (.tail _ (.tail _ (List.mem_append.mpr (.inl hp)))))))))))))
  · exact fun p hp => .tail _ (.tail _ (.tail _ (.tail _ (.tail _ (.tail _ (.tail _ (.tail _ (.tail _ (.tail _ (.tail _ (.tail _ (List.mem_append.mpr (.inr hp)))))))))))))
  · intro q hq b hb9
    rcases List.mem_cons.mp hq with rfl | hq
    · exact adr_apart hch hD b hb9
    · rw [List.mem_singleton.mp hq]
      exact adr_apart hch hT b hb9
  · intro q hq p hp
    rcases List.mem_cons.mp hq with rfl | hq
    · exact ne_of_allLt aD p (List.mem_append.mpr (.inr hp))
    · rw [List.mem_singleton.mp hq]
      exact ne_of_allLt aT p (List.mem_append.mpr (.inr hp))
  · exact ps2 F e1 e2
  · exact fun z h1 h2 h3 => hr z h1 (h2 _ (.head _)) (h2 _ (.tail _ (.head _))) h3
  · refine ⟨kd_new (.head _), ?_, hI, hb, ?_, ?_⟩
    · rw [List.map_set]
      exact datAll_set (DatAll.mono kd_sub hf2) (DatIn.tuple (vs := [.int r.k t1, .int r.z t2, v]) (kd_new (.tail _ (.head _))) (.cons (.int _ _) (.cons (.int _ _) (.cons (hv.mono (List.forall_mem_nil _)) .nil))))
    · exact (adr_apart hch hD _ (.head _)).symm
    · exact (adr_apart hch hD _ (.tail _ (.head _))).symm
  · refine ⟨hp1, ?_⟩
    show (rs.set q _).length ≤ _
    rw [List.length_set, List.length_append]
    exact Nat.le_succ_of_le hp2
theorem news_drop3 {h₀ : Heap} {L : Addr} {h : Heap} {e1 x1 x2 x3 : Addr × Obj} {l : List (Addr × Obj)} (N : News h₀ L h (e1 :: x1 :: x2 :: x3 :: l)) : News h₀ L h (e1 :: l) := by
  intro p hp
  rcases List.mem_cons.mp hp with rfl | hp
  · exact N _ (.head _)
  · exact N _ (.tail _ (.tail _ (.tail _ (.tail _ hp))))
theorem fdiv7 {c : Int} (h0 : 0 ≤ c) (h1 : c < 1000000000000000000000) : 0 ≤ c.fdiv 7 ∧ c.fdiv 7 < 1000000000000000000000 := by
  rw [Int.fdiv_eq_ediv_of_nonneg _ (by decide : (0 : Int) ≤ 7)]
  omega
theorem ldg_off {P : Params} {oa lr dO D9 fx dS ox cc lo : Addr} {os vs ws : List Value} {on nn : Nat} {oc : Obj} {k1 k2 k3 k4 : Tok} {tl : List (Addr × Obj)} {o o' : Obj} {I : Addr} (h : ∀ p ∈ Ldg P oa lr dO D9 fx dS ox cc lo os vs ws on nn oc k1 k2 k3 k4 tl o, p.1 < I) : ∀ p ∈ Ldg P oa lr dO D9 fx dS ox cc lo os vs ws on nn oc k1 k2 k3 k4 tl o', p.1 ≠ I := by
  intro p hp
  rcases List.mem_cons.mp hp with rfl | hp
  · exact Nat.ne_of_lt (h _ (.head _))
  rcases List.mem_cons.mp hp with rfl | hp
  · exact Nat.ne_of_lt (h _ (.tail _ (.head _)))
  rcases List.mem_cons.mp hp with rfl | hp
  · exact Nat.ne_of_lt (h (dO, o) (.tail _ (.tail _ (.head _))))
  · exact Nat.ne_of_lt (h p (.tail _ (.tail _ (.tail _ hp))))

end
end Mine
theorem Mine.off_M1 : True := by w_top off; trivial
set_option maxRecDepth 100000
set_option maxHeartbeats 8000000
open Mine
local macro_rules | `(tactic| walk_at "execs cons") => `(tactic| ((with_reducible refine execs_one ?_); try dsimp only))
local macro_rules | `(tactic| walk_at "and9") => `(tactic| ((iterate 14 (first | done | with_reducible assumption | apply And.right)); done))
local macro_rules | `(tactic| k_ne) => `(tactic| (refine neN ?_; (try dsimp only); first | exact Nat.ne_of_lt (by with_reducible assumption) | exact Nat.ne_of_gt (by with_reducible assumption) | (apply Nat.ne_of_lt; apply And.left; walk_at "and9") | (apply Nat.ne_of_gt; apply And.left; walk_at "and9") | (apply Nat.ne_of_lt; apply And.right; walk_at "and9") | (apply Nat.ne_of_gt; apply And.right; walk_at "and9") | omega))
local macro_rules | `(tactic| walk_at "callWith ref") => `(tactic| (k_here; k_dflt (first | (refine' callWith_K ?k1 ?k2 ?_; (case k1 => with_reducible assumption); (case k2 => k_is); k_whole) | (refine' callWith_K0 ?k1 ?k2 ?_; (case k1 => exact Frag.In.keeps (by with_reducible assumption) (Fr.keep (by with_reducible assumption))); (case k2 => k_is); k_whole))))
local macro_rules | `(tactic| walk_at "call ref") => `(tactic| (k_here; (fail_if_success (rename EMark => y9)); refine halt ?_))
section
local macro_rules | `(tactic| walk_at "exec Expr") => `(tactic| (k_here; (rename Mark4 => y8); (fail_if_success (rename Mark5 => y9)); refine halt ?_))
set_option hygiene true
local macro_rules | `(tactic| walk_at "subscriptTail Name Slice ref ref") => `(tactic| (k_here; (rename Mark4 => y8); (with_reducible show wpAny _ _ (subscriptTail _ (PySem.Expr.Slice (some _) none none _) (Value.ref _) (Value.ref _)) _ _ _); k_dflt (refine' kmk_slice_ints ?F ?N ?l ?p ?q ?i ?m ?c ?_ ?s ?t ?z; (case F => k_asm); (case N => k_asm); (case l => exact News.isList (by k_asm) (by k_mem)); (case p => exact IsPart.int _ _); (case q => exact IsPart.none); (case i => with_reducible assumption); (case m => exact kmk_from (by with_reducible assumption) (Int.add_nonneg (Int.natCast_nonneg _) (Int.natCast_nonneg _))); (case c => exact List.length_drop ..); (case s => with_unfolding_all rfl); (case t => kmk_pure); (case z => exact size26 (by with_reducible assumption) (by with_reducible assumption))); intro D' ws' h' F' N' l1 hI' hC' hL'; (try k_lt l1)))
set_option hygiene false
local macro_rules | `(tactic| walk_at "exec Assign") => `(tactic| (k_here; (with_reducible show wpAny _ _ (exec (Stmt.Assign [PySem.Expr.Name _ _] (PySem.Expr.BinOp (PySem.Expr.BinOp _ _ _ _) _ _ _) _) _) _ _ _); (rename Mark3 => y8); (fail_if_success (rename Mark4 => y9)); refine halt ?_))
set_option hygiene true
local macro_rules | `(tactic| walk_at "setItem ref int") => `(tactic| (k_here; k_dflt (refine' set_at9 ?k1 ?k2 ?k3 ?k4 ?k5 ?_; (case k1 => k_asm); (case k2 => k_asm); (case k3 => with_reducible assumption); (case k4 => omega); (case k5 => k_upd); k_whole); intro h' F' N'; (try dsimp only at N')))
set_option hygiene false
local macro_rules | `(tactic| walk_at "compareOp Eq ref ref") => `(tactic| (k_here; k_dflt (refine' eq_nil9 ?k1 ?k2 ?k3 ?k4 ?k5 ?_; (case k1 => k_asm); (case k2 => k_mem); (case k3 => k_mem); (case k4 => with_reducible assumption); (case k5 => exact Nat.le_of_ble_eq_true rfl))))
local macro_rules | `(tactic| walk_at "exec Assign") => `(tactic| (k_here; (with_reducible show wpAny _ _ (exec (Stmt.Assign [PySem.Expr.Name _ _] (PySem.Expr.Subscript _ _ _) _) _) _ _ _); (rename Mark2 => y8); (fail_if_success (rename Mark3 => y9)); refine halt ?_))
local macro_rules | `(tactic| walk_at "subscriptTail") => `(tactic| (k_here; (with_reducible show wpAny _ _ (subscriptTail _ _ (Value.ref _) (Value.int _ _)) _ _ _); k_dflt (first | (refine' item_at9 ?k1 ?k2 ?k3 ?k4 ?_ ?k7; (case k1 => k_asm); (case k2 => k_mem); (case k3 => with_reducible assumption); (case k4 => omega); (case k7 => with_unfolding_all rfl)) | (refine' item_tupleT ?k1 ?k2 ?k3 ?k4 ?k5 ?_; (case k1 => exact News.isTup (by k_asm) (by k_mem)); (case k2 => decide); (case k3 => decide); (case k4 => rfl); (case k5 => rfl)))))
local macro_rules | `(tactic| walk_at "subscriptTail Name BinOp ref int") => `(tactic| (k_here; k_dflt (refine' item_atI9 ?k1 ?k2 ?k3 ?k4 ?k5 ?_ ?k7; (case k1 => k_asm); (case k2 => k_mem); (case k3 => with_reducible assumption); (case k4 => with_reducible assumption); (case k5 => omega); (case k7 => with_unfolding_all rfl))))
local macro_rules | `(tactic| walk_at "UnrEndW") => `(tactic| (refine halt ?_))
local macro_rules | `(tactic| walk_at "compareOp NotEq") => `(tactic| (k_here; refine' ne_dat9 ?e1 ?e2 ?_; (case e1 => with_reducible assumption); (case e2 => with_reducible assumption)))
set_option hygiene true
local macro_rules | `(tactic| walk_at "subscriptTail Name Slice ref ref") => `(tactic| (k_here; (with_reducible show wpAny _ _ (subscriptTail _ (PySem.Expr.Slice none none (some _) _) (Value.ref _) (Value.ref _)) _ _ _); k_dflt (refine' krv_lit ?F ?N ?l ?k rfl ?_ ?s ?t ?z; (case F => k_asm); (case N => k_asm); (case l => exact News.isList (by k_asm) (by k_mem)); (case k => exact IsPart.int _ _); (case s => with_unfolding_all rfl); (case t => kmk_pure); (case z => exact size12 (by with_reducible assumption))); intro D' h' F' N' l1))
set_option hygiene false
local macro_rules | `(tactic| walk_at "CompSrcT") => `(tactic| (k_here; refine halt ?_))
local macro_rules | `(tactic| walk_at "exec For Tuple") => `(tactic| (k_here; refine halt ?_))
local macro_rules | `(tactic| kba_in) => `(tactic| (with_reducible assumption))
local macro_rules | `(tactic| walk_at "pyIter ref") => `(tactic| (k_here; refine halt ?_))
local macro_rules | `(tactic| walk_at "exec For Name Subscript cons nil") => `(tactic| (k_here; (rename Fr _ _ _ _ => lF'); (with_unfolding_all refine' For_invVF lF' ?k1 ?k2 ?_; (case k1 => exact rfl); (case k2 => exact rfl); k_whole)))
local macro_rules | `(tactic| walk_at "exec Assign cons ListComp") => `(tactic| (k_here; refine halt ?_))
local macro_rules | `(tactic| walk_at "exec Assign") => `(tactic| (k_here; (with_reducible show wpAny _ _ (exec (Stmt.Assign [PySem.Expr.Name _ _] (PySem.Expr.Call _ _ _ _) _) _) _ _ _); (rename Mark => y8); (fail_if_success (rename Mark2 => y9)); refine halt ?_))
local macro_rules | `(tactic| walk_at "call builtin:len") => `(tactic| (k_here; (with_reducible show wpAny _ _ (call (Value.builtin "len") [Value.ref _]) _ _ _); k_dflt (first | (refine' len_ints9 ?k1 ?k2 ?k3 ?k4 ?_; (case k1 => k_asm); (case k2 => k_mem); (case k3 => with_reducible assumption); (case k4 => first | exact Nat.le_trans (by with_reducible assumption) (by decide : (220 : Nat) ≤ 1000000) | exact Nat.le_trans (by with_reducible assumption) (by decide : (2640 : Nat) ≤ 1000000) | exact Nat.le_trans (by with_reducible assumption) (by decide : (11 : Nat) ≤ 1000000) | ((try simp only [List.length_append, List.length_take, List.length_drop]); omega))) | (refine' len_any9 ?k1 ?k2 ?k4 ?_; (case k1 => k_asm); (case k2 => k_mem); (case k4 => omega)))))
set_option hygiene true
local macro_rules | `(tactic| walk_at "call builtin:list.append") => `(tactic| (k_here; (with_reducible show wpAny _ _ (call (Value.builtin _) [Value.ref _, _]) _ _ _); k_dflt (refine' append_K ?k1 ?k2 ?k3 ?_ ?z; (case k1 => k_asm); (case k2 => k_asm); (case k3 => k_upd); (case z => exact size9 (by with_reducible assumption)); k_whole); intro h' F' N'; (try dsimp only at N')))
set_option hygiene false
local macro_rules | `(tactic| kmk_sum) => `(tactic| ((simp only [sizeLine_eq, List.length_append]); omega))
local macro_rules | `(tactic| walk_at "exec If") => `(tactic| (k_here; (fail_if_success (rename Mark => y9)); refine halt ?_))
set_option maxRecDepth 100000 in
set_option maxHeartbeats 8000000 in
theorem PySem.Challenge.cw_iu0050_01_holds : PySem.Challenge.rw_iu0050_01.Holds := by
  refine head_ends hd ?_
  k_go0
  (all_goals try k_fold)
  k_steps
  repeat' (refine go ?_; (first | (k_dflt (first | (refine' FCon.use (c_seek2 ?uH) ?uA ?uI ?_) | (refine' FCon.use (c_seek0) ?uA ?uI ?_) | (refine' FCon.use (c_seek) ?uA ?uI ?_) | (refine' FCon.use (c_tell) ?uA ?uI ?_) | (refine' FCon.use (c_found ?uH) ?uA ?uI ?_) | (refine' FCon.use (c_back ?uH) ?uA ?uI ?_) | (refine' FCon.use (c_laww ?uH) ?uA ?uI ?_) | (refine' LCon.use (c_form ?uH) 220 (good_len (And.right ?uH)) ?uA ?_) | (refine' use_val ?uH ?uA ?_)); k_dflt (case uA => exact ⟨by k_asm, by k_asm, by k_asm, by k_asm, by k_asm, (by first | exact rfl | assumption), (by first | exact Nat.le_of_ble_eq_true rfl | ((try simp only [depth_under_make, depth_under_kw, depth_in1, depth_deeper, depth_caller]); (try dsimp only [ktrTop]); first | ((try simp only [Nat.add_assoc, Nat.reduceAdd, Nat.reduceMul]); exact room9 (by assumption) (by rfl)) | omega)), (by first | exact Nat.le_of_ble_eq_true rfl | ((try simp only [units_in1, units_deeper, Around.mark_units, units_caller]); (try dsimp only [ktrTop]); first | ((try simp only [Nat.add_assoc, Nat.reduceAdd, Nat.reduceMul]); exact room9 (by assumption) (by rfl)) | omega))⟩); k_dflt (try (case uM => k_mem)); k_dflt (try (case uI => (refine' ⟨by k_mem, by k_mem, by k_mem, by k_updF, by assumption, by first | assumption | omega, by first | assumption | omega, by first | assumption | omega⟩))); k_dflt (try (case uH2 => (rw [lawOct_length]; omega))); k_dflt (try (case uH => ((repeat' (with_reducible apply And.intro)) <;> (first | with_reducible assumption | exact Nat.le_of_ble_eq_true rfl | assumption | exact Eq.trans (by assumption) (by assumption) | exact of_decide_eq_true rfl | omega | ((simp only [List.length_append, List.length_take, List.length_drop, List.length_cons, List.length_nil, List.length_reverse, lawOct_length]); omega))))); intros; (rename News _ _ _ _ => N9); (try dsimp only at N9); (try (rename AllLt _ _ => l9; simp only [AllLt] at l9)); (try k_fold)) | ((with_reducible show wpAny _ _ (call (Value.ref _) _) _ _ _); (have mkE : EMark := trivial); walk1; (rename EMark => y9); clear y9)); k_steps; (all_goals (try k_data)))
  refine go ?_
  rename World => w9
  rename Shared => s9
  rename List Int => ns9
  rename_i ox dO _ _ _ z5 z6 _ _ _ _ _ _ _ _ _ _ _ _ _ _ _ _ _ _ _ fx dS _ z29 z30 _ _ _ _ _ _ _ _ _ _ _ _ _ _ _ _ _ _ _ _ _ lo _ z54 lr _ z57 T9 _ z60 _ _ _ oc hcell D9 ws9 _ F9 N9 hI9 _ _ z74
  obtain ⟨k1, k2, k3, k4, k5, k6, tb, tp, N10⟩ : ∃ k1 k2 k3 k4 k5 k6 tb tp, News _ _ _ [(D9, W.listOf ws9.toArray 0), (T9, _), (lr, W.listOf #[] 0), (lo, W.listOf #[] 0), (fx, instObj 678 dS), (dS, sDict w9.params ox k1 k2 k3 k4), (ox, instObj 347 dO), (dO, oDict w9.params k5 k6 #[] tb 0 tp), (s9.heap.objs.size + 1, oc)] := ⟨_, _, _, _, _, _, _, _, N9⟩
  clear N9
  refine' kd_listI (σ := C1) (nn := 0) (ns := List.take 12 ns9) (Led1 w9.params lr dO k5 k6) (Cst1 w9.params D9 fx dS ox dO (s9.heap.objs.size + 1) lo ws9 oc k1 k2 k3 k4) (Ps1 fx) (Fac1 lr dO) St1 Inv1 [lr, dO, D9, fx, dS, ox, s9.heap.objs.size + 1, lo] ⟨[], [], 0, lo, [], 0, #[], tb, tp⟩
    rfl (.head _) hI9 F9 N10 ?yn (fun c => rfl) ?yf ?yk ?yp ?yt ?yd
  case yn =>
    intro q hq
    simp only [Led1, Cst1, List.cons_append, List.nil_append, List.append_nil] at hq
    repeat (rcases List.mem_cons.mp hq with rfl | hq; (focus k_mem))
    cases hq
  case yk => exact ps2 F9 rfl rfl
  case yf => exact ⟨List.mem_append.mpr (.inl (List.mem_of_getElem? (i := 5) rfl)), .nil, .nil, rfl, (by k_ne), (by k_ne)⟩
  case yp => exact ⟨trivial, Nat.le_refl _⟩
  case yt =>
    have hch : @LT.lt Nat _ (s9.heap.objs.size + 1) dO ∧ @LT.lt Nat _ dO ox ∧ @LT.lt Nat _ ox dS ∧ @LT.lt Nat _ dS fx ∧ @LT.lt Nat _ fx lo ∧ @LT.lt Nat _ lo lr ∧ @LT.lt Nat _ lr D9 := by (refine ⟨?_, ?_, ?_, ?_, ?_, ?_, ?_⟩) <;> (first | with_reducible assumption | (apply And.left; walk_at "and9") | omega)
    clear z5 z6 z29 z30 z54 z57 z60 z74
    obtain ⟨q1, q2, q3, q4, q5, q6, q7⟩ := chain_rows hch
    intro c tl pre post n t u h tk own he hm hsep hoff hf hp F1 N1
    obtain ⟨rs, vs, nn, oa, os, on, b, tb, tp⟩ := c
    obtain ⟨hp1, hp2⟩ := hp
    obtain ⟨hf1, hf2, hf3, hf4, hf5, hf6⟩ := hf
    dsimp only [Led1, Cst1, Ps1] at hp1 hp2 hf1 hf3 hf4 hf5 hf6 F1 N1
    dsimp only at hf2
    have N2 := in_front N1 hf1
    have hH1 : Hide _ := hf1
    have hH2 : Hide _ := hf2
    have hz3 : vs.length ≤ 11 := by have h1 := hf2.length; rw [List.length_map] at h1; rw [h1]; exact Nat.le_trans hp2 (turns_le he)
    clear hf1 hf2
    have hz1 : os.length = (rform rs).length := hf3.length
    have hz2 : (rform rs).length ≤ 2640 := Nat.le_trans (laid_len hp1) (Nat.le_trans (Nat.mul_le_mul_left 220 (Nat.le_trans hp2 (turns_le he))) (by decide))
    have hz5 : (rform rs).length ≤ 900000 := Nat.le_trans hz2 (by decide)
    have hz6 : (rform rs).length ≤ 1000000 := Nat.le_trans hz2 (by decide)
    have hz7 : (rform rs).length ≤ 16777216 := Nat.le_trans hz2 (by decide)
    clear N1
    simp only [List.cons_append, List.nil_append] at N2
    simp only [kstB] at F1
    have mkd := kdMark
    k_steps
    repeat' (refine go ?_; (first | (k_dflt (first | (refine' FCon.use (c_seek2 ?uH) ?uA ?uI ?_) | (refine' FCon.use (c_seek0) ?uA ?uI ?_) | (refine' FCon.use (c_seek) ?uA ?uI ?_) | (refine' FCon.use (c_tell) ?uA ?uI ?_) | (refine' FCon.use (c_found ?uH) ?uA ?uI ?_) | (refine' FCon.use (c_back ?uH) ?uA ?uI ?_) | (refine' FCon.use (c_laww ?uH) ?uA ?uI ?_) | (refine' LCon.use (c_form ?uH) 220 (good_len (And.right ?uH)) ?uA ?_) | (refine' use_val ?uH ?uA ?_)); k_dflt (case uA => exact ⟨by k_asm, by k_asm, by k_asm, by k_asm, by k_asm, (by first | exact rfl | assumption), (by first | exact Nat.le_of_ble_eq_true rfl | ((try simp only [depth_under_make, depth_under_kw, depth_in1, depth_deeper, depth_caller]); (try dsimp only [ktrTop]); first | ((try simp only [Nat.add_assoc, Nat.reduceAdd, Nat.reduceMul]); exact room9 (by assumption) (by rfl)) | omega)), (by first | exact Nat.le_of_ble_eq_true rfl | ((try simp only [units_in1, units_deeper, Around.mark_units, units_caller]); (try dsimp only [ktrTop]); first | ((try simp only [Nat.add_assoc, Nat.reduceAdd, Nat.reduceMul]); exact room9 (by assumption) (by rfl)) | omega))⟩); k_dflt (try (case uM => k_mem)); k_dflt (try (case uI => (refine' ⟨by k_mem, by k_mem, by k_mem, by k_updF, by assumption, by first | assumption | omega, by first | assumption | omega, by first | assumption | omega⟩))); k_dflt (try (case uH2 => (rw [lawOct_length]; omega))); k_dflt (try (case uH => ((repeat' (with_reducible apply And.intro)) <;> (first | with_reducible assumption | exact Nat.le_of_ble_eq_true rfl | assumption | exact Eq.trans (by assumption) (by assumption) | exact of_decide_eq_true rfl | omega | ((simp only [List.length_append, List.length_take, List.length_drop, List.length_cons, List.length_nil, List.length_reverse, lawOct_length]); omega))))); intros; (rename News _ _ _ _ => N9); (try dsimp only at N9); (try (rename AllLt _ _ => l9; simp only [AllLt] at l9)); (try k_fold)) | ((with_reducible show wpAny _ _ (call (Value.ref _) _) _ _ _); (have mkE : EMark := trivial); walk1; (rename EMark => y9); clear y9)); k_steps; (all_goals (try k_data)))
    obtain ⟨k, c, e1, e2, h14, hc0, hc1⟩ := cell_ok n
    rename Fr _ _ _ _ => F9
    rw [e1, e2] at F9
    clear e1 e2
    refine go ?_
    have mk9 : Mark := trivial
    k_steps
    repeat' (refine go ?_; (first | (k_dflt (first | (refine' FCon.use (c_seek2 ?uH) ?uA ?uI ?_) | (refine' FCon.use (c_seek0) ?uA ?uI ?_) | (refine' FCon.use (c_seek) ?uA ?uI ?_) | (refine' FCon.use (c_tell) ?uA ?uI ?_) | (refine' FCon.use (c_found ?uH) ?uA ?uI ?_) | (refine' FCon.use (c_back ?uH) ?uA ?uI ?_) | (refine' FCon.use (c_laww ?uH) ?uA ?uI ?_) | (refine' LCon.use (c_form ?uH) 220 (good_len (And.right ?uH)) ?uA ?_) | (refine' use_val ?uH ?uA ?_)); k_dflt (case uA => exact ⟨by k_asm, by k_asm, by k_asm, by k_asm, by k_asm, (by first | exact rfl | assumption), (by first | exact Nat.le_of_ble_eq_true rfl | ((try simp only [depth_under_make, depth_under_kw, depth_in1, depth_deeper, depth_caller]); (try dsimp only [ktrTop]); first | ((try simp only [Nat.add_assoc, Nat.reduceAdd, Nat.reduceMul]); exact room9 (by assumption) (by rfl)) | omega)), (by first | exact Nat.le_of_ble_eq_true rfl | ((try simp only [units_in1, units_deeper, Around.mark_units, units_caller]); (try dsimp only [ktrTop]); first | ((try simp only [Nat.add_assoc, Nat.reduceAdd, Nat.reduceMul]); exact room9 (by assumption) (by rfl)) | omega))⟩); k_dflt (try (case uM => k_mem)); k_dflt (try (case uI => (refine' ⟨by k_mem, by k_mem, by k_mem, by k_updF, by assumption, by first | assumption | omega, by first | assumption | omega, by first | assumption | omega⟩))); k_dflt (try (case uH2 => (rw [lawOct_length]; omega))); k_dflt (try (case uH => ((repeat' (with_reducible apply And.intro)) <;> (first | with_reducible assumption | exact Nat.le_of_ble_eq_true rfl | assumption | exact Eq.trans (by assumption) (by assumption) | exact of_decide_eq_true rfl | omega | ((simp only [List.length_append, List.length_take, List.length_drop, List.length_cons, List.length_nil, List.length_reverse, lawOct_length]); omega))))); intros; (rename News _ _ _ _ => N9); (try dsimp only at N9); (try (rename AllLt _ _ => l9; simp only [AllLt] at l9)); (try k_fold)) | ((with_reducible show wpAny _ _ (call (Value.ref _) _) _ _ _); (have mkE : EMark := trivial); walk1; (rename EMark => y9); clear y9)); k_steps; (all_goals (try k_data)))
    · have mk8 : Mark2 := trivial
      refine go ?_
      k_dflt (refine LCt.Assign_ListComp_T (F₀ := by k_asm) (by rfl) (by with_unfolding_all rfl) (by with_unfolding_all rfl) (by decide) (by rfl) (by decide) (by rfl) (by rfl) (by rfl) ?_)
      k_steps
      repeat' (refine go ?_; (first | (k_dflt (first | (refine' FCon.use (c_seek2 ?uH) ?uA ?uI ?_) | (refine' FCon.use (c_seek0) ?uA ?uI ?_) | (refine' FCon.use (c_seek) ?uA ?uI ?_) | (refine' FCon.use (c_tell) ?uA ?uI ?_) | (refine' FCon.use (c_found ?uH) ?uA ?uI ?_) | (refine' FCon.use (c_back ?uH) ?uA ?uI ?_) | (refine' FCon.use (c_laww ?uH) ?uA ?uI ?_) | (refine' LCon.use (c_form ?uH) 220 (good_len (And.right ?uH)) ?uA ?_) | (refine' use_val ?uH ?uA ?_)); k_dflt (case uA => exact ⟨by k_asm, by k_asm, by k_asm, by k_asm, by k_asm, (by first | exact rfl | assumption), (by first | exact Nat.le_of_ble_eq_true rfl | ((try simp only [depth_under_make, depth_under_kw, depth_in1, depth_deeper, depth_caller]); (try dsimp only [ktrTop]); first | ((try simp only [Nat.add_assoc, Nat.reduceAdd, Nat.reduceMul]); exact room9 (by assumption) (by rfl)) | omega)), (by first | exact Nat.le_of_ble_eq_true rfl | ((try simp only [units_in1, units_deeper, Around.mark_units, units_caller]); (try dsimp only [ktrTop]); first | ((try simp only [Nat.add_assoc, Nat.reduceAdd, Nat.reduceMul]); exact room9 (by assumption) (by rfl)) | omega))⟩); k_dflt (try (case uM => k_mem)); k_dflt (try (case uI => (refine' ⟨by k_mem, by k_mem, by k_mem, by k_updF, by assumption, by first | assumption | omega, by first | assumption | omega, by first | assumption | omega⟩))); k_dflt (try (case uH2 => (rw [lawOct_length]; omega))); k_dflt (try (case uH => ((repeat' (with_reducible apply And.intro)) <;> (first | with_reducible assumption | exact Nat.le_of_ble_eq_true rfl | assumption | exact Eq.trans (by assumption) (by assumption) | exact of_decide_eq_true rfl | omega | ((simp only [List.length_append, List.length_take, List.length_drop, List.length_cons, List.length_nil, List.length_reverse, lawOct_length]); omega))))); intros; (rename News _ _ _ _ => N9); (try dsimp only at N9); (try (rename AllLt _ _ => l9; simp only [AllLt] at l9)); (try k_fold)) | ((with_reducible show wpAny _ _ (call (Value.ref _) _) _ _ _); (have mkE : EMark := trivial); walk1; (rename EMark => y9); clear y9)); k_steps; (all_goals (try k_data)))
      refine go ?_
      rename IsRange _ _ _ _ _ _ _ _ => hR9
      rename News _ _ _ _ => N8
      rename Fr _ _ _ _ => F8
      have hz4 : vs.length ≤ 12 := Nat.le_trans hz3 (by decide)
      have hz5 : vs.length = rs.length := by have h1 := DatAll.length hH2; rw [List.length_map] at h1; exact h1
      refine LCt.CompSrcT.range rfl F8 N8 hR9 (rng_small12 hz4).1 (rng_small12 hz4).2 (by rw [sizeLine_eq]; omega) (fun g => ?_)
      refine restT_of (n := vs.length) (J := fun i ys => ∃ js, IntsAre ys js ∧ js.length ≤ i ∧ ∀ j ∈ js, ∃ q : Nat, j = (q : Int) ∧ ∃ r, rs[q]? = some r ∧ 1 < r.k ∧ r.k < 11) ?st4 ?fn4 vs.length 0 [] rfl ⟨[], .nil, Nat.le_refl _, fun _ h => nomatch h⟩
      case st4 =>
        intro i ys v I oI C oC D m₂ h tk E' hi hj hP hn hm F N o3 ne
        obtain ⟨tq, rfl⟩ := hP
        obtain ⟨js, hys, hjl, hjs⟩ := hj
        rw [Int.zero_add] at hm
        have hr9 := List.getElem?_eq_getElem (show i < rs.length from hz5 ▸ hi)
        obtain ⟨a, t1, t2, x, n9, hva, ha, hx⟩ := rows_at hH2 hr9
        have N3 := front_of N (.tail _ (.tail _ (.tail _ (.tail _ (.tail _ (.tail _ (mem_more (c := own) ha)))))))
        clear N
        k_steps
        repeat' (refine go ?_; (first | (k_dflt (first | (refine' FCon.use (c_seek2 ?uH) ?uA ?uI ?_) | (refine' FCon.use (c_seek0) ?uA ?uI ?_) | (refine' FCon.use (c_seek) ?uA ?uI ?_) | (refine' FCon.use (c_tell) ?uA ?uI ?_) | (refine' FCon.use (c_found ?uH) ?uA ?uI ?_) | (refine' FCon.use (c_back ?uH) ?uA ?uI ?_) | (refine' FCon.use (c_laww ?uH) ?uA ?uI ?_) | (refine' LCon.use (c_form ?uH) 220 (good_len (And.right ?uH)) ?uA ?_) | (refine' use_val ?uH ?uA ?_)); k_dflt (case uA => exact ⟨by k_asm, by k_asm, by k_asm, by k_asm, by k_asm, (by first | exact rfl | assumption), (by first | exact Nat.le_of_ble_eq_true rfl | ((try simp only [depth_under_make, depth_under_kw, depth_in1, depth_deeper, depth_caller]); (try dsimp only [ktrTop]); first | ((try simp only [Nat.add_assoc, Nat.reduceAdd, Nat.reduceMul]); exact room9 (by assumption) (by rfl)) | omega)), (by first | exact Nat.le_of_ble_eq_true rfl | ((try simp only [units_in1, units_deeper, Around.mark_units, units_caller]); (try dsimp only [ktrTop]); first | ((try simp only [Nat.add_assoc, Nat.reduceAdd, Nat.reduceMul]); exact room9 (by assumption) (by rfl)) | omega))⟩); k_dflt (try (case uM => k_mem)); k_dflt (try (case uI => (refine' ⟨by k_mem, by k_mem, by k_mem, by k_updF, by assumption, by first | assumption | omega, by first | assumption | omega, by first | assumption | omega⟩))); k_dflt (try (case uH2 => (rw [lawOct_length]; omega))); k_dflt (try (case uH => ((repeat' (with_reducible apply And.intro)) <;> (first | with_reducible assumption | exact Nat.le_of_ble_eq_true rfl | assumption | exact Eq.trans (by assumption) (by assumption) | exact of_decide_eq_true rfl | omega | ((simp only [List.length_append, List.length_take, List.length_drop, List.length_cons, List.length_nil, List.length_reverse, lawOct_length]); omega))))); intros; (rename News _ _ _ _ => N9); (try dsimp only at N9); (try (rename AllLt _ _ => l9; simp only [AllLt] at l9)); (try k_fold)) | ((with_reducible show wpAny _ _ (call (Value.ref _) _) _ _ _); (have mkE : EMark := trivial); walk1; (rename EMark => y9); clear y9)); k_steps; (all_goals (try k_data)))
        (all_goals (try k_data))
        all_goals (rename Fr _ _ _ _ => F7)
        all_goals (rename News _ _ _ _ => N7)
        all_goals first
          | exact LCg.CompEnd.intro F7 N7 _ (fun p hp => .tail _ hp) o3 trivial ⟨rfl, js, hys, Nat.le_succ_of_le hjl, hjs⟩
          | (refine LCg.CompEnd.intro F7 N7 _ (fun p hp => .tail _ hp) o3 trivial ⟨rfl, js ++ [(i : Int)], hys.append (.cons _ _ .nil), by rw [List.length_append]; exact Nat.succ_le_succ hjl, ?_⟩
             intro j hj
             rcases List.mem_append.mp hj with hj | hj
             · exact hjs j hj
             · exact ⟨i, List.mem_singleton.mp hj, _, hr9, by omega, by omega⟩)
      case fn4 =>
        intro ys hj D h tk F N o1
        obtain ⟨js, hys, hjl, hjs⟩ := hj
        simp only [LCg.Off1] at o1
        have hyl : js.length ≤ 11 := Nat.le_trans hjl hz3
        (try dsimp only)
        k_steps
        repeat' (refine go ?_; (first | (k_dflt (first | (refine' FCon.use (c_seek2 ?uH) ?uA ?uI ?_) | (refine' FCon.use (c_seek0) ?uA ?uI ?_) | (refine' FCon.use (c_seek) ?uA ?uI ?_) | (refine' FCon.use (c_tell) ?uA ?uI ?_) | (refine' FCon.use (c_found ?uH) ?uA ?uI ?_) | (refine' FCon.use (c_back ?uH) ?uA ?uI ?_) | (refine' FCon.use (c_laww ?uH) ?uA ?uI ?_) | (refine' LCon.use (c_form ?uH) 220 (good_len (And.right ?uH)) ?uA ?_) | (refine' use_val ?uH ?uA ?_)); k_dflt (case uA => exact ⟨by k_asm, by k_asm, by k_asm, by k_asm, by k_asm, (by first | exact rfl | assumption), (by first | exact Nat.le_of_ble_eq_true rfl | ((try simp only [depth_under_make, depth_under_kw, depth_in1, depth_deeper, depth_caller]); (try dsimp only [ktrTop]); first | ((try simp only [Nat.add_assoc, Nat.reduceAdd, Nat.reduceMul]); exact room9 (by assumption) (by rfl)) | omega)), (by first | exact Nat.le_of_ble_eq_true rfl | ((try simp only [units_in1, units_deeper, Around.mark_units, units_caller]); (try dsimp only [ktrTop]); first | ((try simp only [Nat.add_assoc, Nat.reduceAdd, Nat.reduceMul]); exact room9 (by assumption) (by rfl)) | omega))⟩); k_dflt (try (case uM => k_mem)); k_dflt (try (case uI => (refine' ⟨by k_mem, by k_mem, by k_mem, by k_updF, by assumption, by first | assumption | omega, by first | assumption | omega, by first | assumption | omega⟩))); k_dflt (try (case uH2 => (rw [lawOct_length]; omega))); k_dflt (try (case uH => ((repeat' (with_reducible apply And.intro)) <;> (first | with_reducible assumption | exact Nat.le_of_ble_eq_true rfl | assumption | exact Eq.trans (by assumption) (by assumption) | exact of_decide_eq_true rfl | omega | ((simp only [List.length_append, List.length_take, List.length_drop, List.length_cons, List.length_nil, List.length_reverse, lawOct_length]); omega))))); intros; (rename News _ _ _ _ => N9); (try dsimp only at N9); (try (rename AllLt _ _ => l9; simp only [AllLt] at l9)); (try k_fold)) | ((with_reducible show wpAny _ _ (call (Value.ref _) _) _ _ _); (have mkE : EMark := trivial); walk1; (rename EMark => y9); clear y9)); k_steps; (all_goals (try k_data)))
        (all_goals (try k_data))
        · rename News _ _ _ _ => N7
          rename Fr _ _ _ _ => F7
          refine turn_same hsep F7 N7 (by kernel_rfl) (by kernel_rfl) ?_ ⟨hH1, hH2, hf3, hf4, hf5, hf6⟩ ⟨hp1, hp2⟩
          intro z g1 g2 g3 g4
          obtain ⟨b1, b2, b3, b4, b5, b6⟩ := st1_ne g4
          simp only [if_neg g1, if_neg g2, if_neg g3, if_neg b1, if_neg b3]
          rw [if_neg (by rw [g4]; decide)]
        · refine go ?_
          have mk7 : Mark3 := trivial
          have hjp : 0 < js.length := List.length_pos_iff.mpr (by assumption)
          obtain ⟨hk0, q, tq, r, hyq, hrq, hr1, hr2⟩ := pick9 (c := c) hys hjp hjs
          obtain ⟨a, t1, t2, x, n9, hva, ha, hx⟩ := rows_at hH2 hrq
          obtain ⟨hg, hzl⟩ := row_in hp1 hrq
          have hz8 := Nat.le_trans (Nat.le_add_right _ _) hzl
          have hql : q < vs.length := (List.getElem?_eq_some_iff.mp hva).1
          have hal : @Ne Nat a lr := cst_off ha hsep.three (.head _) (by k_ne) (by k_ne) (by k_ne) (by k_ne) (by k_ne) (by k_ne)
          have had : @Ne Nat a dO := cst_off ha hsep.three (.tail _ (.head _)) (by k_ne) (by k_ne) (by k_ne) (by k_ne) (by k_ne) (by k_ne)
          have hyl2 : ys.length ≤ 12 := by rw [hys.length]; exact Nat.le_succ_of_le hyl
          have hfl : (r.v.form r.k).length = spread r.k := fix_form hg hr1 hr2
          have hsp : spread r.k ≤ 8 := spread_le _
          obtain ⟨hc7, hc8⟩ := fdiv7 hc0 hc1
          rename News _ _ _ _ => N7
          have hDl : @Ne Nat D lr := by first | exact Ne.symm o1.2.1 | omega
          have hDd : @Ne Nat D dO := by first | exact Ne.symm o1.2.2.1 | omega
          clear o1
          have N8 := front_of N7 (.tail _ (.tail _ (.tail _ (.tail _ (.tail _ (mem_more (c := own) ha))))))
          clear N7
          k_steps
          repeat' (refine go ?_; (first | (k_dflt (first | (refine' FCon.use (c_seek2 ?uH) ?uA ?uI ?_) | (refine' FCon.use (c_seek0) ?uA ?uI ?_) | (refine' FCon.use (c_seek) ?uA ?uI ?_) | (refine' FCon.use (c_tell) ?uA ?uI ?_) | (refine' FCon.use (c_found ?uH) ?uA ?uI ?_) | (refine' FCon.use (c_back ?uH) ?uA ?uI ?_) | (refine' FCon.use (c_laww ?uH) ?uA ?uI ?_) | (refine' LCon.use (c_form ?uH) 220 (good_len (And.right ?uH)) ?uA ?_) | (refine' use_val ?uH ?uA ?_)); k_dflt (case uA => exact ⟨by k_asm, by k_asm, by k_asm, by k_asm, by k_asm, (by first | exact rfl | assumption), (by first | exact Nat.le_of_ble_eq_true rfl | ((try simp only [depth_under_make, depth_under_kw, depth_in1, depth_deeper, depth_caller]); (try dsimp only [ktrTop]); first | ((try simp only [Nat.add_assoc, Nat.reduceAdd, Nat.reduceMul]); exact room9 (by assumption) (by rfl)) | omega)), (by first | exact Nat.le_of_ble_eq_true rfl | ((try simp only [units_in1, units_deeper, Around.mark_units, units_caller]); (try dsimp only [ktrTop]); first | ((try simp only [Nat.add_assoc, Nat.reduceAdd, Nat.reduceMul]); exact room9 (by assumption) (by rfl)) | omega))⟩); k_dflt (try (case uM => k_mem)); k_dflt (try (case uI => (refine' ⟨by k_mem, by k_mem, by k_mem, by k_updF, by assumption, by first | assumption | omega, by first | assumption | omega, by first | assumption | omega⟩))); k_dflt (try (case uH2 => (rw [lawOct_length]; omega))); k_dflt (try (case uH => ((repeat' (with_reducible apply And.intro)) <;> (first | with_reducible assumption | exact Nat.le_of_ble_eq_true rfl | assumption | exact Eq.trans (by assumption) (by assumption) | exact of_decide_eq_true rfl | omega | ((simp only [List.length_append, List.length_take, List.length_drop, List.length_cons, List.length_nil, List.length_reverse, lawOct_length]); omega))))); intros; (rename News _ _ _ _ => N9); (try dsimp only at N9); (try (rename AllLt _ _ => l9; simp only [AllLt] at l9)); (try k_fold)) | ((with_reducible show wpAny _ _ (call (Value.ref _) _) _ _ _); (have mkE : EMark := trivial); walk1; (rename EMark => y9); clear y9)); k_steps; (all_goals (try k_data)))
          (all_goals (try k_data))
          all_goals first
            | (exfalso; omega)
            | refine go ?_
          have mk6 : Mark4 := trivial
          rename News _ _ _ _ => N7
          have N8 := news_drop4 N7
          clear N7
          rename (@LT.lt Nat _ _ _ ∧ _) => y1
          revert y1
          rename (@LT.lt Nat _ _ _ ∧ _) => y2
          revert y2
          rename (@LT.lt Nat _ _ _ ∧ _) => y3
          clear y3
          rename (@LT.lt Nat _ _ _ ∧ _) => y3
          clear y3
          intro y2 y1
          rename RV => rv7
          have hfl2 : (rv7.form r.k).length = spread r.k := fix_form (by with_reducible assumption) hr1 hr2
          obtain ⟨hL1, hL2⟩ := set_ok (r' := ⟨r.k, r.z, rv7⟩) hp1 hrq rfl (by with_reducible assumption) (show (rv7.form r.k).length = (r.v.form r.k).length by rw [hfl2, hfl])
          k_steps
          repeat' (refine go ?_; (first | (k_dflt (first | (refine' FCon.use (c_seek2 ?uH) ?uA ?uI ?_) | (refine' FCon.use (c_seek0) ?uA ?uI ?_) | (refine' FCon.use (c_seek) ?uA ?uI ?_) | (refine' FCon.use (c_tell) ?uA ?uI ?_) | (refine' FCon.use (c_found ?uH) ?uA ?uI ?_) | (refine' FCon.use (c_back ?uH) ?uA ?uI ?_) | (refine' FCon.use (c_laww ?uH) ?uA ?uI ?_) | (refine' LCon.use (c_form ?uH) 220 (good_len (And.right ?uH)) ?uA ?_) | (refine' use_val ?uH ?uA ?_)); k_dflt (case uA => exact ⟨by k_asm, by k_asm, by k_asm, by k_asm, by k_asm, (by first | exact rfl | assumption), (by first | exact Nat.le_of_ble_eq_true rfl | ((try simp only [depth_under_make, depth_under_kw, depth_in1, depth_deeper, depth_caller]); (try dsimp only [ktrTop]); first | ((try simp only [Nat.add_assoc, Nat.reduceAdd, Nat.reduceMul]); exact room9 (by assumption) (by rfl)) | omega)), (by first | exact Nat.le_of_ble_eq_true rfl | ((try simp only [units_in1, units_deeper, Around.mark_units, units_caller]); (try dsimp only [ktrTop]); first | ((try simp only [Nat.add_assoc, Nat.reduceAdd, Nat.reduceMul]); exact room9 (by assumption) (by rfl)) | omega))⟩); k_dflt (try (case uM => k_mem)); k_dflt (try (case uI => (refine' ⟨by k_mem, by k_mem, by k_mem, by k_updF, by assumption, by first | assumption | omega, by first | assumption | omega, by first | assumption | omega⟩))); k_dflt (try (case uH2 => (rw [lawOct_length]; omega))); k_dflt (try (case uH => ((repeat' (with_reducible apply And.intro)) <;> (first | with_reducible assumption | exact Nat.le_of_ble_eq_true rfl | assumption | exact Eq.trans (by assumption) (by assumption) | exact of_decide_eq_true rfl | omega | ((simp only [List.length_append, List.length_take, List.length_drop, List.length_cons, List.length_nil, List.length_reverse, lawOct_length]); omega))))); intros; (rename News _ _ _ _ => N9); (try dsimp only at N9); (try (rename AllLt _ _ => l9; simp only [AllLt] at l9)); (try k_fold)) | ((with_reducible show wpAny _ _ (call (Value.ref _) _) _ _ _); (have mkE : EMark := trivial); walk1; (rename EMark => y9); clear y9)); k_steps; (all_goals (try k_data)))
          refine go ?_
          have mk5 : Mark5 := trivial
          rename IntsAre _ _ => hI7
          rename (KBw.bInts _ = _) => hb7
          rename News _ _ _ _ => N7
          rename (@LT.lt Nat _ _ _ ∧ _) => y5
          have N8 := news_drop3 N7
          clear N7
          have e7 : ((r.z : Nat) : Int).toNat = r.z := Int.toNat_natCast _
          have e8 : (((r.z : Nat) : Int) + (((rv7.form r.k).length : Nat) : Int)).toNat = r.z + (rv7.form r.k).length := by rw [← Int.natCast_add, Int.toNat_natCast]
          have hks : rform (rs.set q ⟨r.k, r.z, rv7⟩) = List.take r.z (rform rs) ++ rv7.form r.k ++ List.drop (r.z + (rv7.form r.k).length) (rform rs) := hL2
          rw [e7, e8, ← hks] at hI7
          rw [← hks] at hb7
          have hk7 : (rform (rs.set q ⟨r.k, r.z, rv7⟩)).length ≤ 2640 := Nat.le_trans (laid_len hL1) (by rw [List.length_set]; exact Nat.le_trans (Nat.mul_le_mul_left 220 (Nat.le_trans hp2 (turns_le he))) (by decide))
          have hk8 : (rform (rs.set q ⟨r.k, r.z, rv7⟩)).length ≤ 1000000 := Nat.le_trans hk7 (by decide)
          k_steps
          repeat' (refine go ?_; (first | (k_dflt (first | (refine' FCon.use (c_seek2 ?uH) ?uA ?uI ?_) | (refine' FCon.use (c_seek0) ?uA ?uI ?_) | (refine' FCon.use (c_seek) ?uA ?uI ?_) | (refine' FCon.use (c_tell) ?uA ?uI ?_) | (refine' FCon.use (c_found ?uH) ?uA ?uI ?_) | (refine' FCon.use (c_back ?uH) ?uA ?uI ?_) | (refine' FCon.use (c_laww ?uH) ?uA ?uI ?_) | (refine' LCon.use (c_form ?uH) 220 (good_len (And.right ?uH)) ?uA ?_) | (refine' use_val ?uH ?uA ?_)); k_dflt (case uA => exact ⟨by k_asm, by k_asm, by k_asm, by k_asm, by k_asm, (by first | exact rfl | assumption), (by first | exact Nat.le_of_ble_eq_true rfl | ((try simp only [depth_under_make, depth_under_kw, depth_in1, depth_deeper, depth_caller]); (try dsimp only [ktrTop]); first | ((try simp only [Nat.add_assoc, Nat.reduceAdd, Nat.reduceMul]); exact room9 (by assumption) (by rfl)) | omega)), (by first | exact Nat.le_of_ble_eq_true rfl | ((try simp only [units_in1, units_deeper, Around.mark_units, units_caller]); (try dsimp only [ktrTop]); first | ((try simp only [Nat.add_assoc, Nat.reduceAdd, Nat.reduceMul]); exact room9 (by assumption) (by rfl)) | omega))⟩); k_dflt (try (case uM => k_mem)); k_dflt (try (case uI => (refine' ⟨by k_mem, by k_mem, by k_mem, by k_updF, by assumption, by first | assumption | omega, by first | assumption | omega, by first | assumption | omega⟩))); k_dflt (try (case uH2 => (rw [lawOct_length]; omega))); k_dflt (try (case uH => ((repeat' (with_reducible apply And.intro)) <;> (first | with_reducible assumption | exact Nat.le_of_ble_eq_true rfl | assumption | exact Eq.trans (by assumption) (by assumption) | exact of_decide_eq_true rfl | omega | ((simp only [List.length_append, List.length_take, List.length_drop, List.length_cons, List.length_nil, List.length_reverse, lawOct_length]); omega))))); intros; (rename News _ _ _ _ => N9); (try dsimp only at N9); (try (rename AllLt _ _ => l9; simp only [AllLt] at l9)); (try k_fold)) | ((with_reducible show wpAny _ _ (call (Value.ref _) _) _ _ _); (have mkE : EMark := trivial); walk1; (rename EMark => y9); clear y9)); k_steps; (all_goals (try k_data)))
          (all_goals (try k_data))
          all_goals first
            | (exfalso; omega)
            | skip
          rename News _ _ _ _ => N7
          rename Fr _ _ _ _ => F7
          refine turn_set hsep F7 N7 hch (by first | (apply And.left; walk_at "and9") | omega) (by first | (apply And.left; walk_at "and9") | omega) y5.2.2.2.2.2.2.2.2.2.2.2.2.2.2 y2.2.2.2.2.2.2.2.2.2.2.2.2.2 (by kernel_rfl) (by kernel_rfl) ?_ (by with_reducible assumption) hH2 hI7 (by with_reducible assumption) hL1 hp2
          intro z g1 g2 g3 g4
          obtain ⟨b1, b2, b3, b4, b5, b6⟩ := st1_ne g4
          simp only [if_neg g1, if_neg g2, if_neg g3, if_neg b1, if_neg b2, if_neg b3, if_neg b4, if_neg b5, if_neg b6]
          rw [if_neg (by rw [g4]; decide)]

    · have mk8 : Mark2 := trivial
      refine go ?_
      k_steps
      repeat' (refine go ?_; (first | (k_dflt (first | (refine' FCon.use (c_seek2 ?uH) ?uA ?uI ?_) | (refine' FCon.use (c_seek0) ?uA ?uI ?_) | (refine' FCon.use (c_seek) ?uA ?uI ?_) | (refine' FCon.use (c_tell) ?uA ?uI ?_) | (refine' FCon.use (c_found ?uH) ?uA ?uI ?_) | (refine' FCon.use (c_back ?uH) ?uA ?uI ?_) | (refine' FCon.use (c_laww ?uH) ?uA ?uI ?_) | (refine' LCon.use (c_form ?uH) 220 (good_len (And.right ?uH)) ?uA ?_) | (refine' use_val ?uH ?uA ?_)); k_dflt (case uA => exact ⟨by k_asm, by k_asm, by k_asm, by k_asm, by k_asm, (by first | exact rfl | assumption), (by first | exact Nat.le_of_ble_eq_true rfl | ((try simp only [depth_under_make, depth_under_kw, depth_in1, depth_deeper, depth_caller]); (try dsimp only [ktrTop]); first | ((try simp only [Nat.add_assoc, Nat.reduceAdd, Nat.reduceMul]); exact room9 (by assumption) (by rfl)) | omega)), (by first | exact Nat.le_of_ble_eq_true rfl | ((try simp only [units_in1, units_deeper, Around.mark_units, units_caller]); (try dsimp only [ktrTop]); first | ((try simp only [Nat.add_assoc, Nat.reduceAdd, Nat.reduceMul]); exact room9 (by assumption) (by rfl)) | omega))⟩); k_dflt (try (case uM => k_mem)); k_dflt (try (case uI => (refine' ⟨by k_mem, by k_mem, by k_mem, by k_updF, by assumption, by first | assumption | omega, by first | assumption | omega, by first | assumption | omega⟩))); k_dflt (try (case uH2 => (rw [lawOct_length]; omega))); k_dflt (try (case uH => ((repeat' (with_reducible apply And.intro)) <;> (first | with_reducible assumption | exact Nat.le_of_ble_eq_true rfl | assumption | exact Eq.trans (by assumption) (by assumption) | exact of_decide_eq_true rfl | omega | ((simp only [List.length_append, List.length_take, List.length_drop, List.length_cons, List.length_nil, List.length_reverse, lawOct_length]); omega))))); intros; (rename News _ _ _ _ => N9); (try dsimp only at N9); (try (rename AllLt _ _ => l9; simp only [AllLt] at l9)); (try k_fold)) | ((with_reducible show wpAny _ _ (call (Value.ref _) _) _ _ _); (have mkE : EMark := trivial); walk1; (rename EMark => y9); clear y9)); k_steps; (all_goals (try k_data)))
      (all_goals (try k_data))
      all_goals first
        | (exfalso; omega)
        | skip
      rename News _ _ _ _ => N8
      rename Fr _ _ _ _ => F8
      refine turn_app hsep F8 N8 (by with_reducible assumption) (by with_reducible assumption) hch (by kernel_rfl) (by kernel_rfl) ?_ (by with_reducible assumption) (by with_reducible assumption) hH2 (by with_reducible assumption) (by with_reducible assumption) hp1 hp2
      intro z g1 g2 g3 g4
      obtain ⟨b1, b2, b3, b4, b5, b6⟩ := st1_ne g4
      simp only [if_neg g1, if_neg g2, if_neg g3, if_neg b1, if_neg b2]
      rw [if_neg (by rw [g4]; decide)]
  case yd =>
    have hch : @LT.lt Nat _ (s9.heap.objs.size + 1) dO ∧ @LT.lt Nat _ dO ox ∧ @LT.lt Nat _ ox dS ∧ @LT.lt Nat _ dS fx ∧ @LT.lt Nat _ fx lo ∧ @LT.lt Nat _ lo lr ∧ @LT.lt Nat _ lr D9 := by (refine ⟨?_, ?_, ?_, ?_, ?_, ?_, ?_⟩) <;> (first | with_reducible assumption | (apply And.left; walk_at "and9") | omega)
    clear z5 z6 z29 z30 z54 z57 z60 z74
    obtain ⟨q1, q2, q3, q4, q5, q6, q7⟩ := chain_rows hch
    intro c tl u h tk hoff hf hp F1 N1
    obtain ⟨rs, vs, nn, oa, os, on, b, tb, tp⟩ := c
    obtain ⟨hp1, hp2⟩ := hp
    obtain ⟨hf1, hf2, hf3, hf4, hf5, hf6⟩ := hf
    dsimp only [Led1, Cst1, Ps1] at hp1 hp2 hf1 hf3 hf4 hf5 hf6 F1 N1
    dsimp only at hf2
    have N2 := in_front2 N1 hf1
    have hz3 : vs.length ≤ 12 := by have h1 := hf2.length; rw [List.length_map] at h1; rw [h1]; exact Nat.le_trans hp2 (List.length_take_le 12 ns9)
    have hH1 : Hide _ := hf1
    have hH2 : Hide _ := hf2
    clear hf1 hf2
    clear N1
    simp only [List.cons_append, List.nil_append] at N2
    simp only [kstB] at F1
    have hz1 : os.length = (rform rs).length := hf3.length
    have hz2 : (rform rs).length ≤ 2640 := Nat.le_trans (laid_len hp1) (Nat.le_trans (Nat.mul_le_mul_left 220 (Nat.le_trans hp2 (List.length_take_le 12 ns9))) (by decide))
    have hz5 : (rform rs).length ≤ 900000 := Nat.le_trans hz2 (by decide)
    have hz6 : (rform rs).length ≤ 1000000 := Nat.le_trans hz2 (by decide)
    have hz7 : (rform rs).length ≤ 16777216 := Nat.le_trans hz2 (by decide)
    have hin : KBa.In (rform rs) := by rw [← hf4]; exact fun k h => KBw.ints_in h
    have hbe : b = byteArr (rform rs) := bInts_inj (hf4.trans (KBa.ints_make hin).symm)
    have mk9 : Mark := trivial
    have mk8 : Mark2 := trivial
    k_steps
    repeat' (refine go ?_; (first | (k_dflt (first | (refine' FCon.use (c_seek2 ?uH) ?uA ?uI ?_) | (refine' FCon.use (c_seek0) ?uA ?uI ?_) | (refine' FCon.use (c_seek) ?uA ?uI ?_) | (refine' FCon.use (c_tell) ?uA ?uI ?_) | (refine' FCon.use (c_found ?uH) ?uA ?uI ?_) | (refine' FCon.use (c_back ?uH) ?uA ?uI ?_) | (refine' FCon.use (c_laww ?uH) ?uA ?uI ?_) | (refine' LCon.use (c_form ?uH) 220 (good_len (And.right ?uH)) ?uA ?_) | (refine' use_val ?uH ?uA ?_)); k_dflt (case uA => exact ⟨by k_asm, by k_asm, by k_asm, by k_asm, by k_asm, (by first | exact rfl | assumption), (by first | exact Nat.le_of_ble_eq_true rfl | ((try simp only [depth_under_make, depth_under_kw, depth_in1, depth_deeper, depth_caller]); (try dsimp only [ktrTop]); first | ((try simp only [Nat.add_assoc, Nat.reduceAdd, Nat.reduceMul]); exact room9 (by assumption) (by rfl)) | omega)), (by first | exact Nat.le_of_ble_eq_true rfl | ((try simp only [units_in1, units_deeper, Around.mark_units, units_caller]); (try dsimp only [ktrTop]); first | ((try simp only [Nat.add_assoc, Nat.reduceAdd, Nat.reduceMul]); exact room9 (by assumption) (by rfl)) | omega))⟩); k_dflt (try (case uM => k_mem)); k_dflt (try (case uI => (refine' ⟨by k_mem, by k_mem, by k_mem, by k_updF, by assumption, by first | assumption | omega, by first | assumption | omega, by first | assumption | omega⟩))); k_dflt (try (case uH2 => (rw [lawOct_length]; omega))); k_dflt (try (case uH => ((repeat' (with_reducible apply And.intro)) <;> (first | with_reducible assumption | exact Nat.le_of_ble_eq_true rfl | assumption | exact Eq.trans (by assumption) (by assumption) | exact of_decide_eq_true rfl | omega | ((simp only [List.length_append, List.length_take, List.length_drop, List.length_cons, List.length_nil, List.length_reverse, lawOct_length]); omega))))); intros; (rename News _ _ _ _ => N9); (try dsimp only at N9); (try (rename AllLt _ _ => l9; simp only [AllLt] at l9)); (try k_fold)) | ((with_reducible show wpAny _ _ (call (Value.ref _) _) _ _ _); (have mkE : EMark := trivial); walk1; (rename EMark => y9); clear y9)); k_steps; (all_goals (try k_data)))
    all_goals first
      | (exfalso; rename ((_ != _) = true) => hx; rw [hbe] at hx; simp at hx; done)
      | refine go ?_
    rename Fr _ _ _ _ => lF9
    with_unfolding_all refine' For_turns lF9 ?_
    k_steps
    repeat' (refine go ?_; (first | (k_dflt (first | (refine' FCon.use (c_seek2 ?uH) ?uA ?uI ?_) | (refine' FCon.use (c_seek0) ?uA ?uI ?_) | (refine' FCon.use (c_seek) ?uA ?uI ?_) | (refine' FCon.use (c_tell) ?uA ?uI ?_) | (refine' FCon.use (c_found ?uH) ?uA ?uI ?_) | (refine' FCon.use (c_back ?uH) ?uA ?uI ?_) | (refine' FCon.use (c_laww ?uH) ?uA ?uI ?_) | (refine' LCon.use (c_form ?uH) 220 (good_len (And.right ?uH)) ?uA ?_) | (refine' use_val ?uH ?uA ?_)); k_dflt (case uA => exact ⟨by k_asm, by k_asm, by k_asm, by k_asm, by k_asm, (by first | exact rfl | assumption), (by first | exact Nat.le_of_ble_eq_true rfl | ((try simp only [depth_under_make, depth_under_kw, depth_in1, depth_deeper, depth_caller]); (try dsimp only [ktrTop]); first | ((try simp only [Nat.add_assoc, Nat.reduceAdd, Nat.reduceMul]); exact room9 (by assumption) (by rfl)) | omega)), (by first | exact Nat.le_of_ble_eq_true rfl | ((try simp only [units_in1, units_deeper, Around.mark_units, units_caller]); (try dsimp only [ktrTop]); first | ((try simp only [Nat.add_assoc, Nat.reduceAdd, Nat.reduceMul]); exact room9 (by assumption) (by rfl)) | omega))⟩); k_dflt (try (case uM => k_mem)); k_dflt (try (case uI => (refine' ⟨by k_mem, by k_mem, by k_mem, by k_updF, by assumption, by first | assumption | omega, by first | assumption | omega, by first | assumption | omega⟩))); k_dflt (try (case uH2 => (rw [lawOct_length]; omega))); k_dflt (try (case uH => ((repeat' (with_reducible apply And.intro)) <;> (first | with_reducible assumption | exact Nat.le_of_ble_eq_true rfl | assumption | exact Eq.trans (by assumption) (by assumption) | exact of_decide_eq_true rfl | omega | ((simp only [List.length_append, List.length_take, List.length_drop, List.length_cons, List.length_nil, List.length_reverse, lawOct_length]); omega))))); intros; (rename News _ _ _ _ => N9); (try dsimp only at N9); (try (rename AllLt _ _ => l9; simp only [AllLt] at l9)); (try k_fold)) | ((with_reducible show wpAny _ _ (call (Value.ref _) _) _ _ _); (have mkE : EMark := trivial); walk1; (rename EMark => y9); clear y9)); k_steps; (all_goals (try k_data)))
    refine go ?_
    rename News _ _ _ _ => N8
    rename Fr _ _ _ _ => F8
    refine iter_listTurns rfl F8 N8 (by k_mem) rfl rfl (fun I hI => ?_)
    refine rows_rest (Kd := Cst1 w9.params D9 fx dS ox dO (s9.heap.objs.size + 1) lo ws9 oc k1 k2 k3 k4 ++ tl) (all := rs) (J := fun pre m nw => m (Str.ofString "file") = some (.ref fx) ∧ ∃ b tb tp, KBw.bInts b = rform rs ∧ nw = Ldg w9.params oa lr dO D9 fx dS ox (s9.heap.objs.size + 1) lo os vs ws9 on nn oc k1 k2 k3 k4 tl (oDict w9.params k5 k6 b tb (((rform pre).length : Nat) : Int) tp)) ?st2 ?dn2 rs [] vs _ _ rfl hH2 ?j2
    case j2 => exact ⟨rfl, _, _, _, by with_reducible assumption, rfl⟩
    case st2 =>
      intro pre r post v m nw h tk e hd hj F
      obtain ⟨hm, b', tb', tp', hb', rfl⟩ := hj
      obtain ⟨a, t1, t2, x, n9, rfl, ha, hx⟩ := row_open hd
      obtain ⟨hz, hg⟩ := laid_at (e ▸ hp1)
      have ht := laid_take (e ▸ hp1)
      rw [← e, hz] at ht
      obtain ⟨ht1, ht2⟩ := ht
      refine AllObj.cons fun oI hcI => AllObj.nil fun N => ?_
      have hT9 := News.isTup N (List.mem_append.mpr (.inr (.tail _ (.tail _ (.tail _ ha)))))
      have hI1 : @LT.lt Nat _ dO I := hI _ (.tail _ (.tail _ (.head _)))
      have N3 := N
      dsimp only [Ldg, List.cons_append, List.nil_append] at N3
      have F3 := fr_self F hm
      clear F N hm hd ha
      have hpl : (rform (pre ++ [r])).length = (rform pre).length + (r.v.form r.k).length := by rw [rform_append, rform_one, List.length_append]; rfl
      k_steps
      repeat' (refine go ?_; (first | (k_dflt (first | (refine' FCon.use (c_seek2 ?uH) ?uA ?uI ?_) | (refine' FCon.use (c_seek0) ?uA ?uI ?_) | (refine' FCon.use (c_seek) ?uA ?uI ?_) | (refine' FCon.use (c_tell) ?uA ?uI ?_) | (refine' FCon.use (c_found ?uH) ?uA ?uI ?_) | (refine' FCon.use (c_back ?uH) ?uA ?uI ?_) | (refine' FCon.use (c_laww ?uH) ?uA ?uI ?_) | (refine' LCon.use (c_form ?uH) 220 (good_len (And.right ?uH)) ?uA ?_) | (refine' use_val ?uH ?uA ?_)); k_dflt (case uA => exact ⟨by k_asm, by k_asm, by k_asm, by k_asm, by k_asm, (by first | exact rfl | assumption), (by first | exact Nat.le_of_ble_eq_true rfl | ((try simp only [depth_under_make, depth_under_kw, depth_in1, depth_deeper, depth_caller]); (try dsimp only [ktrTop]); first | ((try simp only [Nat.add_assoc, Nat.reduceAdd, Nat.reduceMul]); exact room9 (by assumption) (by rfl)) | omega)), (by first | exact Nat.le_of_ble_eq_true rfl | ((try simp only [units_in1, units_deeper, Around.mark_units, units_caller]); (try dsimp only [ktrTop]); first | ((try simp only [Nat.add_assoc, Nat.reduceAdd, Nat.reduceMul]); exact room9 (by assumption) (by rfl)) | omega))⟩); k_dflt (try (case uM => k_mem)); k_dflt (try (case uI => (refine' ⟨by k_mem, by k_mem, by k_mem, by k_updF, by assumption, by first | assumption | omega, by first | assumption | omega, by first | assumption | omega⟩))); k_dflt (try (case uH2 => (rw [lawOct_length]; omega))); k_dflt (try (case uH => ((repeat' (with_reducible apply And.intro)) <;> (first | with_reducible assumption | exact Nat.le_of_ble_eq_true rfl | assumption | exact Eq.trans (by assumption) (by assumption) | exact of_decide_eq_true rfl | omega | ((simp only [List.length_append, List.length_take, List.length_drop, List.length_cons, List.length_nil, List.length_reverse, lawOct_length]); omega))))); intros; (rename News _ _ _ _ => N9); (try dsimp only at N9); (try (rename AllLt _ _ => l9; simp only [AllLt] at l9)); (try k_fold)) | ((with_reducible show wpAny _ _ (call (Value.ref _) _) _ _ _); (have mkE : EMark := trivial); walk1; (rename EMark => y9); clear y9)); k_steps; (all_goals (try k_data)))
      (all_goals (try k_data))
      all_goals first
        | (exfalso; omega)
        | skip
      refine go ?_
      rename News _ _ _ _ => N8
      rename Fr _ _ _ _ => F8
      refine UnrEndW.intro F8 N8 (Ldg w9.params oa lr dO D9 fx dS ox (s9.heap.objs.size + 1) lo os vs ws9 on nn oc k1 k2 k3 k4 tl _) ⟨.head _, trivial⟩ (subL_of fun p hp => .tail _ hp) (offW_one (ldg_off hI)) ⟨⟨.tail _ (.head _), trivial⟩, rfl, _, _, _, by with_reducible assumption, congrArg (fun q : Nat => Ldg w9.params oa lr dO D9 fx dS ox (s9.heap.objs.size + 1) lo os vs ws9 on nn oc k1 k2 k3 k4 tl (oDict w9.params k5 k6 _ _ ((q : Nat) : Int) _)) hpl.symm⟩
    case dn2 =>
      intro m nw h tk hj F N
      obtain ⟨hm, b', tb', tp', hb', rfl⟩ := hj
      dsimp only [Ldg] at N
      have F3 := fr_self F hm
      clear F hm
      (try dsimp only)
      k_steps
      repeat' (refine go ?_; (first | (k_dflt (first | (refine' FCon.use (c_seek2 ?uH) ?uA ?uI ?_) | (refine' FCon.use (c_seek0) ?uA ?uI ?_) | (refine' FCon.use (c_seek) ?uA ?uI ?_) | (refine' FCon.use (c_tell) ?uA ?uI ?_) | (refine' FCon.use (c_found ?uH) ?uA ?uI ?_) | (refine' FCon.use (c_back ?uH) ?uA ?uI ?_) | (refine' FCon.use (c_laww ?uH) ?uA ?uI ?_) | (refine' LCon.use (c_form ?uH) 220 (good_len (And.right ?uH)) ?uA ?_) | (refine' use_val ?uH ?uA ?_)); k_dflt (case uA => exact ⟨by k_asm, by k_asm, by k_asm, by k_asm, by k_asm, (by first | exact rfl | assumption), (by first | exact Nat.le_of_ble_eq_true rfl | ((try simp only [depth_under_make, depth_under_kw, depth_in1, depth_deeper, depth_caller]); (try dsimp only [ktrTop]); first | ((try simp only [Nat.add_assoc, Nat.reduceAdd, Nat.reduceMul]); exact room9 (by assumption) (by rfl)) | omega)), (by first | exact Nat.le_of_ble_eq_true rfl | ((try simp only [units_in1, units_deeper, Around.mark_units, units_caller]); (try dsimp only [ktrTop]); first | ((try simp only [Nat.add_assoc, Nat.reduceAdd, Nat.reduceMul]); exact room9 (by assumption) (by rfl)) | omega))⟩); k_dflt (try (case uM => k_mem)); k_dflt (try (case uI => (refine' ⟨by k_mem, by k_mem, by k_mem, by k_updF, by assumption, by first | assumption | omega, by first | assumption | omega, by first | assumption | omega⟩))); k_dflt (try (case uH2 => (rw [lawOct_length]; omega))); k_dflt (try (case uH => ((repeat' (with_reducible apply And.intro)) <;> (first | with_reducible assumption | exact Nat.le_of_ble_eq_true rfl | assumption | exact Eq.trans (by assumption) (by assumption) | exact of_decide_eq_true rfl | omega | ((simp only [List.length_append, List.length_take, List.length_drop, List.length_cons, List.length_nil, List.length_reverse, lawOct_length]); omega))))); intros; (rename News _ _ _ _ => N9); (try dsimp only at N9); (try (rename AllLt _ _ => l9; simp only [AllLt] at l9)); (try k_fold)) | ((with_reducible show wpAny _ _ (call (Value.ref _) _) _ _ _); (have mkE : EMark := trivial); walk1; (rename EMark => y9); clear y9)); k_steps; (all_goals (try k_data)))
      refine go ?_
      rename Fr _ _ _ _ => lF9
      with_unfolding_all refine' For_turns lF9 ?_
      k_steps
      repeat' (refine go ?_; (first | (k_dflt (first | (refine' FCon.use (c_seek2 ?uH) ?uA ?uI ?_) | (refine' FCon.use (c_seek0) ?uA ?uI ?_) | (refine' FCon.use (c_seek) ?uA ?uI ?_) | (refine' FCon.use (c_tell) ?uA ?uI ?_) | (refine' FCon.use (c_found ?uH) ?uA ?uI ?_) | (refine' FCon.use (c_back ?uH) ?uA ?uI ?_) | (refine' FCon.use (c_laww ?uH) ?uA ?uI ?_) | (refine' LCon.use (c_form ?uH) 220 (good_len (And.right ?uH)) ?uA ?_) | (refine' use_val ?uH ?uA ?_)); k_dflt (case uA => exact ⟨by k_asm, by k_asm, by k_asm, by k_asm, by k_asm, (by first | exact rfl | assumption), (by first | exact Nat.le_of_ble_eq_true rfl | ((try simp only [depth_under_make, depth_under_kw, depth_in1, depth_deeper, depth_caller]); (try dsimp only [ktrTop]); first | ((try simp only [Nat.add_assoc, Nat.reduceAdd, Nat.reduceMul]); exact room9 (by assumption) (by rfl)) | omega)), (by first | exact Nat.le_of_ble_eq_true rfl | ((try simp only [units_in1, units_deeper, Around.mark_units, units_caller]); (try dsimp only [ktrTop]); first | ((try simp only [Nat.add_assoc, Nat.reduceAdd, Nat.reduceMul]); exact room9 (by assumption) (by rfl)) | omega))⟩); k_dflt (try (case uM => k_mem)); k_dflt (try (case uI => (refine' ⟨by k_mem, by k_mem, by k_mem, by k_updF, by assumption, by first | assumption | omega, by first | assumption | omega, by first | assumption | omega⟩))); k_dflt (try (case uH2 => (rw [lawOct_length]; omega))); k_dflt (try (case uH => ((repeat' (with_reducible apply And.intro)) <;> (first | with_reducible assumption | exact Nat.le_of_ble_eq_true rfl | assumption | exact Eq.trans (by assumption) (by assumption) | exact of_decide_eq_true rfl | omega | ((simp only [List.length_append, List.length_take, List.length_drop, List.length_cons, List.length_nil, List.length_reverse, lawOct_length]); omega))))); intros; (rename News _ _ _ _ => N9); (try dsimp only at N9); (try (rename AllLt _ _ => l9; simp only [AllLt] at l9)); (try k_fold)) | ((with_reducible show wpAny _ _ (call (Value.ref _) _) _ _ _); (have mkE : EMark := trivial); walk1; (rename EMark => y9); clear y9)); k_steps; (all_goals (try k_data)))
      refine go ?_
      rename_i D7 h7 F7 N7 l7
      refine iter_listTurns rfl F7 N7 (.head _) rfl rfl (fun I hI => ?_)
      refine rows_rest (Kd := Cst1 w9.params D9 fx dS ox dO (s9.heap.objs.size + 1) lo ws9 oc k1 k2 k3 k4 ++ tl) (all := rs.reverse) (J := fun pre m nw => m (Str.ofString "file") = some (.ref fx) ∧ ∃ b tb tp, ∃ p : Nat, KBw.bInts b = rform rs ∧ nw = (D7, W.listOf vs.reverse.toArray 0) :: Ldg w9.params oa lr dO D9 fx dS ox (s9.heap.objs.size + 1) lo os vs ws9 on nn oc k1 k2 k3 k4 tl (oDict w9.params k5 k6 b tb ((p : Nat) : Int) tp)) ?st3 ?dn3 rs.reverse [] vs.reverse _ _ rfl (by rw [List.map_reverse]; exact datAll_rev hH2) ?j3
      case j3 => exact ⟨rfl, _, _, _, _, by with_reducible assumption, rfl⟩
      case st3 =>
        intro pre r post v m nw h tk e hd hj F
        obtain ⟨hm, b', tb', tp', p', hb', rfl⟩ := hj
        obtain ⟨a, t1, t2, x, n9, rfl, ha, hx⟩ := row_open hd
        have e' : rs = post.reverse ++ r :: pre.reverse := by
          have e1 := congrArg List.reverse e
          rw [List.reverse_reverse, List.reverse_append, List.reverse_cons, List.append_assoc] at e1
          exact e1
        obtain ⟨_, hg⟩ := laid_at (e' ▸ hp1)
        have ht := laid_take (e' ▸ hp1)
        rw [← e'] at ht
        obtain ⟨ht1, ht2⟩ := ht
        refine AllObj.cons fun oI hcI => AllObj.nil fun N => ?_
        have hT9 := News.isTup N (List.mem_append.mpr (.inr (.tail _ (.tail _ (.tail _ (.tail _ ha))))))
        have hI1 : @LT.lt Nat _ dO I := hI _ (.tail _ (.tail _ (.tail _ (.head _))))
        have hI2 : @LT.lt Nat _ dO D7 := l7 _ (.tail _ (.tail _ (.head _)))
        have N3 := N
        dsimp only [Ldg, List.cons_append, List.nil_append] at N3
        have F3 := fr_self F hm
        clear F N hm hd ha
        k_steps
        repeat' (refine go ?_; (first | (k_dflt (first | (refine' FCon.use (c_seek2 ?uH) ?uA ?uI ?_) | (refine' FCon.use (c_seek0) ?uA ?uI ?_) | (refine' FCon.use (c_seek) ?uA ?uI ?_) | (refine' FCon.use (c_tell) ?uA ?uI ?_) | (refine' FCon.use (c_found ?uH) ?uA ?uI ?_) | (refine' FCon.use (c_back ?uH) ?uA ?uI ?_) | (refine' FCon.use (c_laww ?uH) ?uA ?uI ?_) | (refine' LCon.use (c_form ?uH) 220 (good_len (And.right ?uH)) ?uA ?_) | (refine' use_val ?uH ?uA ?_)); k_dflt (case uA => exact ⟨by k_asm, by k_asm, by k_asm, by k_asm, by k_asm, (by first | exact rfl | assumption), (by first | exact Nat.le_of_ble_eq_true rfl | ((try simp only [depth_under_make, depth_under_kw, depth_in1, depth_deeper, depth_caller]); (try dsimp only [ktrTop]); first | ((try simp only [Nat.add_assoc, Nat.reduceAdd, Nat.reduceMul]); exact room9 (by assumption) (by rfl)) | omega)), (by first | exact Nat.le_of_ble_eq_true rfl | ((try simp only [units_in1, units_deeper, Around.mark_units, units_caller]); (try dsimp only [ktrTop]); first | ((try simp only [Nat.add_assoc, Nat.reduceAdd, Nat.reduceMul]); exact room9 (by assumption) (by rfl)) | omega))⟩); k_dflt (try (case uM => k_mem)); k_dflt (try (case uI => (refine' ⟨by k_mem, by k_mem, by k_mem, by k_updF, by assumption, by first | assumption | omega, by first | assumption | omega, by first | assumption | omega⟩))); k_dflt (try (case uH2 => (rw [lawOct_length]; omega))); k_dflt (try (case uH => ((repeat' (with_reducible apply And.intro)) <;> (first | with_reducible assumption | exact Nat.le_of_ble_eq_true rfl | assumption | exact Eq.trans (by assumption) (by assumption) | exact of_decide_eq_true rfl | omega | ((simp only [List.length_append, List.length_take, List.length_drop, List.length_cons, List.length_nil, List.length_reverse, lawOct_length]); omega))))); intros; (rename News _ _ _ _ => N9); (try dsimp only at N9); (try (rename AllLt _ _ => l9; simp only [AllLt] at l9)); (try k_fold)) | ((with_reducible show wpAny _ _ (call (Value.ref _) _) _ _ _); (have mkE : EMark := trivial); walk1; (rename EMark => y9); clear y9)); k_steps; (all_goals (try k_data)))
        (all_goals (try k_data))
        refine go ?_
        rename News _ _ _ _ => N8
        rename Fr _ _ _ _ => F8
        refine UnrEndW.intro F8 N8 ((D7, W.listOf vs.reverse.toArray 0) :: Ldg w9.params oa lr dO D9 fx dS ox (s9.heap.objs.size + 1) lo os vs ws9 on nn oc k1 k2 k3 k4 tl _) ⟨.tail _ (.head _), trivial⟩ (subL_of fun p hp => .tail _ (.tail _ hp)) (offW_one ?_) ⟨⟨.head _, trivial⟩, rfl, _, _, _, _, by with_reducible assumption, rfl⟩
        intro p hp
        rcases List.mem_cons.mp hp with rfl | hp
        · exact Nat.ne_of_lt (hI _ (.head _))
        · exact ldg_off (fun q hq => hI q (.tail _ hq)) p hp
      case dn3 =>
        intro m nw h tk hj F N
        (try dsimp only)
        k_steps
        repeat' (refine go ?_; (first | (k_dflt (first | (refine' FCon.use (c_seek2 ?uH) ?uA ?uI ?_) | (refine' FCon.use (c_seek0) ?uA ?uI ?_) | (refine' FCon.use (c_seek) ?uA ?uI ?_) | (refine' FCon.use (c_tell) ?uA ?uI ?_) | (refine' FCon.use (c_found ?uH) ?uA ?uI ?_) | (refine' FCon.use (c_back ?uH) ?uA ?uI ?_) | (refine' FCon.use (c_laww ?uH) ?uA ?uI ?_) | (refine' LCon.use (c_form ?uH) 220 (good_len (And.right ?uH)) ?uA ?_) | (refine' use_val ?uH ?uA ?_)); k_dflt (case uA => exact ⟨by k_asm, by k_asm, by k_asm, by k_asm, by k_asm, (by first | exact rfl | assumption), (by first | exact Nat.le_of_ble_eq_true rfl | ((try simp only [depth_under_make, depth_under_kw, depth_in1, depth_deeper, depth_caller]); (try dsimp only [ktrTop]); first | ((try simp only [Nat.add_assoc, Nat.reduceAdd, Nat.reduceMul]); exact room9 (by assumption) (by rfl)) | omega)), (by first | exact Nat.le_of_ble_eq_true rfl | ((try simp only [units_in1, units_deeper, Around.mark_units, units_caller]); (try dsimp only [ktrTop]); first | ((try simp only [Nat.add_assoc, Nat.reduceAdd, Nat.reduceMul]); exact room9 (by assumption) (by rfl)) | omega))⟩); k_dflt (try (case uM => k_mem)); k_dflt (try (case uI => (refine' ⟨by k_mem, by k_mem, by k_mem, by k_updF, by assumption, by first | assumption | omega, by first | assumption | omega, by first | assumption | omega⟩))); k_dflt (try (case uH2 => (rw [lawOct_length]; omega))); k_dflt (try (case uH => ((repeat' (with_reducible apply And.intro)) <;> (first | with_reducible assumption | exact Nat.le_of_ble_eq_true rfl | assumption | exact Eq.trans (by assumption) (by assumption) | exact of_decide_eq_true rfl | omega | ((simp only [List.length_append, List.length_take, List.length_drop, List.length_cons, List.length_nil, List.length_reverse, lawOct_length]); omega))))); intros; (rename News _ _ _ _ => N9); (try dsimp only at N9); (try (rename AllLt _ _ => l9; simp only [AllLt] at l9)); (try k_fold)) | ((with_reducible show wpAny _ _ (call (Value.ref _) _) _ _ _); (have mkE : EMark := trivial); walk1; (rename EMark => y9); clear y9)); k_steps; (all_goals (try k_data)))
end
