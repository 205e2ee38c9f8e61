import PyProof.Rows.All
import Wide.All
import OpenK.AllK
import Wide.FinOn
import Lean
import PySem.Challenge.RW_bg0002_01
open PySem PySem.W PySem.Spec PySem.Calls PyProof.Rows
set_option Elab.async false
set_option maxRecDepth 100000
set_option maxHeartbeats 8000000
set_option linter.unusedVariables false
namespace Mine
section
local macro_rules | `(tactic| o_head $_) => `(tactic| assumption)
/-- the part of the heap that stands before the law's call, as the kit writes it -/
theorem frag (h : OpenRow.Holds PySem.Challenge.rw_bg0002_01.row) : OpenRow.Holds PySem.Challenge.rw_bg0002_01.row := by k_head
end
theorem poison : Str.ofString "zzq1" ≠ Str.ofString "zzq2" := by decide +kernel
/-- the same part, borne so that no twin of it is laid -/
noncomputable def K39 (P : Params) : Frag := (fun (_ : Str.ofString "zzq1" ≠ Str.ofString "zzq2") => by
  refine (?f : frag.heap_1 P = ?x → Frag) ?p
  case p => (delta frag.heap_1; exact rfl)
  case f => exact fun _ => ?x) poison
section
local macro_rules | `(tactic| k_head) => `(tactic| o_head (kmHook K39 [2, 3, 33, 35, 36, 38, 39, 40, 43, 48, 49, 50, 51, 53, 54, 56, 57, 58, 60, 61, 63, 64, 65, 66, 68, 69, 71, 72, 73, 74, 75, 76, 79, 81, 82, 84, 85, 86, 87, 89, 90, 92, 93, 94, 96, 97, 99, 100, 101, 103,
104, 106, 107, 108, 110, 111, 113, 114, 122, 123, 125, 126, 128, 129, 130, 132, 133, 135, 136, 137, 139, 140, 142, 143, 144, 146, 147, 148, 149, 150, 151, 152, 155, 157, 158, 160, 161, 169, 170, 172,
173, 175, 176, 177, 179, 180, 182, 183, 184, 186, 187, 189, 190, 191, 193, 194, 196, 197, 198, 200, 201, 203, 204, 205, 207, 208, 210, 211, 212, 214, 215, 217, 218, 219, 221, 222, 224, 225, 226, 228,
229, 231, 232, 233, 235, 236, 238, 239, 240, 242, 243, 245, 246, 247, 249, 250, 252, 253, 254, 256, 257, 259, 260, 261, 263, 264, 266, 267, 268, 270, 271, 273, 274, 275, 277, 278, 280, 281, 282, 284,
285, 287, 288, 289, 291, 292, 294, 295, 296, 298, 299, 301, 302, 303, 304, 305, 306, 307, 310, 313, 318, 319, 321, 322, 324, 325, 326, 327, 328, 329, 332, 333, 335, 336, 338, 339, 340, 342, 343, 345,
346, 347, 349, 350, 352, 353, 354, 356, 357, 359, 360, 361, 363, 364, 366, 367, 368, 370, 371, 373, 374, 375, 377, 378, 380, 381, 382, 384, 385, 387, 388, 389, 391, 392, 394, 395, 396, 398, 399, 401,
402, 410, 411, 412, 413, 415, 416, 418, 419, 420, 422, 423, 425, 426, 427, 428, 430, 431, 433, 434, 435, 436, 437, 438, 439, 442, 445, 450, 451, 453, 454, 456, 457, 458, 459, 460, 461, 464, 467, 472,
473, 475, 476, 478, 479, 480, 481, 482, 483, 486, 489, 494, 495, 497, 498, 500, 501, 502, 503, 504, 505, 508, 509, 510, 512, 513, 515, 516, 517, 518, 520, 521, 523, 524, 525, 526, 528, 529, 531, 532,
533, 534, 536, 537, 539, 540, 541, 544, 545, 553, 554, 557, 558, 559, 561, 562, 564, 565, 566, 567, 569, 570, 572, 573, 574, 576, 577, 579, 580, 581, 583, 584, 586, 587, 588, 590, 591, 593, 594, 595,
597, 598, 600, 601, 602, 604, 605, 607, 608, 609, 611, 612, 614, 615, 616, 618, 619, 621, 622, 623, 625, 626, 628, 629, 630, 632, 633, 635, 636, 637, 639, 640, 642, 643, 644, 646, 647, 649, 650, 651,
653, 654, 656, 657, 658, 660, 661, 663, 664, 665, 667, 668, 670, 671, 672, 674, 675, 677, 678, 679, 680, 681, 682, 683, 693, 694, 696, 697, 699, 700, 701, 703, 704, 706, 707, 708, 709, 711, 712, 714,
715, 716, 717, 718, 719, 720, 723, 725, 726, 728, 729, 730, 733, 734] (fun _ => by kernel_rfl) [52, 80, 88]))
open_top hd for PySem.Challenge.rw_bg0002_01
end
end Mine
namespace Mine
noncomputable abbrev loose0 : List Str := looseW hd.view_39
    [Str.ofString "CandidateSet", Str.ofString "str_set_of_candidates", Str.ofString "combinations",
      Str.ofString "get_marginal_scorefct", Str.ofString "Rule", Str.ofString "available_algorithms",
      Str.ofString "compute_thiele_method", Str.ofString "_thiele_methods_bruteforce",
      Str.ofString "_thiele_methods_branchandbound", Str.ofString "compute_pav", Str.ofString "Profile"]
abbrev PP : Program := PySem.Challenge.rw_bg0002_01.row.prog
abbrev Keep (h h' : Heap) : Prop := ∀ b o, h.get? b = some o → h'.get? b = some o
theorem Keep.rfl' {h : Heap} : Keep h h := fun _ _ e => e
theorem none_of_keep {h h' : Heap} {a : Addr} (k : Keep h h') (z : h'.get? a = none) : h.get? a = none := by
  cases q : h.get? a with
  | none => rfl
  | some o => rw [k _ _ q] at z; cases z
theorem Keep.trans {a b c : Heap} (x : Keep a b) (y : Keep b c) : Keep a c := fun _ _ e => y _ _ (x _ _ e)
/-- what every heap of the run bears: the written part, and the top's names -/
structure Good (w : World) (mg mb : Str → Option Value) (h : Heap) : Prop where
  X : (K39 w.params).In h
  T : TopRead hd.view_39 loose0 mg mb h
theorem Good.keeps {w : World} {mg mb : Str → Option Value} {h h' : Heap} (G : Good w mg mb h) (k : Keep h h') : Good w mg mb h' := ⟨G.X.keeps k, G.T.keeps k⟩
abbrev never : Value → Shared → Prop := fun _ _ => False

abbrev aro (dp un : Nat) (fr : Option (List Env)) (gd : Option (List Code)) : Around := { handled := none, depth := dp, frames := fr, guards := gd, units := un }
theorem under_make {dp un : Nat} {fr : Option (List Env)} {gd : Option (List Code)} {C : Addr} {rest : List Value} {kw : List (Str × Value)} :
    (aro dp un fr gd).under (.builtin "type.__call__" ⟨.ref C :: rest, kw⟩) = aro (dp + 1) (un + 1) fr gd := rfl
section
variable {prog : Program} {w : World} {A : Around} {s : Shared} {K : Frag} {mg mb : Str → Option Value} {p : Program} {loose : List Str}
/-- a def of the text is entered; what stands in led may be changed, the rest is the new frame's base -/
theorem enterL {R : Result → Shared → Prop} {name qual : Str} {params : Arguments} {body : List Stmt} {scope : Scope} {dV kV doc pm cdv ct oc : Value} {an od : Option Addr} {osl : Array (Option Value)} {f : Addr} {args : Args} {binds : List (Str × Value)}
    (led : List (Addr × Obj)) (hled : ∀ q ∈ led, s.heap.get? q.1 = some q.2)
    (X : K.In (hideAll s.heap (led.map (·.1)))) (T : TopRead p loose mg mb (hideAll s.heap (led.map (·.1))))
    (ho : K.lookup f = some ⟨oc, od, .func (fnOf name qual params body scope dV kV doc pm an cdv ct), osl⟩) (hcd : codeIn K cdv qual = true) (hroom : A.depth < recursionLimit)
    (hbind : BindsTo s (fnOf name qual params body scope dV kV doc pm an cdv ct) args binds) (hloc : ∀ y ∈ binds, scope.names.lookup y.1 = some .local)
    (h : ∀ g L' h₁, g = hideAll s.heap (led.map (·.1)) → L' = s.heap.objs.size → Fr g L' h₁ (fun y => binds.reverse.lookup y) → News g L' h₁ led → K.In g → TopRead p loose mg mb g →
      wpAny (model prog w) (A.deeper (envOf qual scope L' f cdv)) (execs body (envOf qual scope L' f cdv))
        (fun fl s' => R (.ok (.ret (match fl with | .ret v => v | _ => .none))) s') never { s with heap := h₁, toks := s.toks + binds.length })
    (hco : scope.isCoroutine = false) (hgen : scope.isGenerator = false) (hk : scope.kind = .function)
    (hcell : ∀ x ∈ scope.names, x.2 ≠ .cell) : codeAny (model prog w) A (.call (.ref f) args) R s := by
  have k : Keep (hideAll s.heap (led.map (·.1))) s.heap := fun b o e => of_hideAll _ e
  refine codeAny_call_def (fd := fnOf name qual params body scope dV kV doc pm an cdv ct) (body := body) (binds := binds) hroom (k _ _ (X _ _ ho)) rfl (T.nolimit.keeps k) (codeRec_of (X.keeps k) hcd) rfl hbind hcell hloc (fun h₁ hns hk₁ => ?_) hco hgen hk
  refine wpAny_mono (h _ s.heap.objs.size h₁ rfl rfl ⟨hns, fun b o e => hk₁ b o (k _ _ e), Nat.le_of_eq (hideAll_size _ _)⟩ (fun q hq => ⟨hk₁ _ _ (hled q hq), Nat.ne_of_lt (Heap.lt_size (hled q hq)), hideAll_none _ (List.mem_map_of_mem hq)⟩) X T) (fun _ _ x => x) fun _ _ x => x.elim

theorem makeL {dp un : Nat} {fr : Option (List Env)} {gd : Option (List Code)} {rest : List Value} {kw : List (Str × Value)} {C fI : Addr} {R : Result → Shared → Prop} (X : K.In s.heap) (hm : makesIn K C = true)
    (hi : findIn K (.ref C) "__init__" = some (some (.ref fI))) (hf : isFn K (.ref fI) = true)
    (h : ∀ (x dx : Nat) h₁, x = dx + 1 → dx = s.heap.objs.size → h₁ = (s.heap.push emptyDict).push (instObj C dx) → h₁.get? x = some (instObj C dx) → h₁.get? dx = some (dictOf [] 0) → s.heap.get? x = none → s.heap.get? dx = none → Keep s.heap (hideAll h₁ [x, dx]) →
      codeAny (model prog w) (aro (dp + 1) (un + 1) fr gd) (.call (.ref fI) ⟨.ref x :: rest, kw⟩) (InitBack x R) { s with heap := h₁ }) :
    codeAny (model prog w) (aro dp un fr gd) (.call (.ref C) ⟨rest, kw⟩) R s := by
  obtain ⟨hh, g, d, t, os⟩ := s
  refine make_core (makes_of X hm) (looks_findIn X hi) (fun self => bind_fn X self (beq_iff_eq.mp hf)) (.inl rfl) ?_
  refine h (hh.objs.size + 1) hh.objs.size _ rfl rfl rfl ?_ ?_ ?_ ?_ ?_
  · have : ((hh.push emptyDict).push (instObj C hh.objs.size)).get? (hh.push emptyDict).objs.size = some (instObj C hh.objs.size) := Heap.get?_push_size _ rfl
    rwa [Heap.size_push] at this
  · exact Heap.get?_push_of_some _ (Heap.get?_push_size _ rfl)
  · exact Heap.get?_none_of_le (Nat.le_succ _)
  · exact Heap.get?_none_of_le (Nat.le_refl _)
  · intro b o e
    refine hideAll_get _ (Heap.get?_push_of_some _ (Heap.get?_push_of_some _ e)) ?_
    have := Heap.lt_size e
    simp only [List.mem_cons, List.not_mem_nil, or_false, not_or]
    exact ⟨Nat.ne_of_lt (Nat.lt_succ_of_lt this), Nat.ne_of_lt this⟩
end

section
variable {h₀ h h' : Heap} {L : Addr} {m : Str → Option Value} {news : List (Addr × Obj)}
theorem Fr.kept (F : Fr h₀ L h m) (k : Keep h h') : Fr h₀ L h' m := ⟨F.ns.at' fun _ e => k _ _ e, fun b o e => k _ _ (F.keep b o e), F.above⟩
theorem News.kept (N : News h₀ L h news) (k : Keep h h') : News h₀ L h' news := fun p hp => ⟨k _ _ (N p hp).1, (N p hp).2⟩
theorem News.more1 {v : Addr} {o : Obj} (F : Fr h₀ L h m) (N : News h₀ L h news) (k : Keep h h') (e : h'.get? v = some o) (n : h.get? v = none) : News h₀ L h' ((v, o) :: news) := by
  obtain ⟨oL, _, _, hL, _⟩ := F.ns
  intro p hp
  rcases List.mem_cons.mp hp with rfl | hp
  · refine ⟨e, fun z => ?_, ?_⟩
    · have z' : v = L := z
      subst z'; rw [hL] at n; cases n
    · show h₀.get? v = none
      cases q : h₀.get? v with
      | none => rfl
      | some o' => rw [F.keep _ _ q] at n; cases n
  · exact News.kept N k p hp
theorem News.off {v : Addr} (N : News h₀ L h news) (n : h.get? v = none) : ∀ p ∈ news, p.1 ≠ v := fun p hp z => by
  have := (N p hp).1; rw [z, n] at this; cases this
end
def Stop (P : Prop) : Prop := P
theorem stopHere {P : Prop} (h : Stop P) : P := h
theorem map2 {β : Type} {x y : Str} {a b : β} {m0 m1 : Str → β} (h : ∀ z, z ≠ x → z ≠ y → m1 z = m0 z) : (fun z => if z = x then a else if z = y then b else m1 z) = fun z => if z = x then a else if z = y then b else m0 z := by
  funext z
  by_cases h1 : z = x
  · simp [h1]
  · by_cases h2 : z = y
    · simp [h2]
    · simp [h1, h2, h z h1 h2]
/-- what a turn of a while that turns two ints must end in -/
def While2 (h₀ : Heap) (L : Addr) (news : List (Addr × Obj)) (x y : Str) (m0 : Str → Option Value) (I : Int → Int → Prop) (me : Int → Int → Nat) (k : Nat) (s s' : Shared) : Prop :=
  ∃ d r td tr h tk, s' = { s with heap := h, toks := tk } ∧ Fr h₀ L h (fun z => if z = x then some (.int d td) else if z = y then some (.int r tr) else m0 z) ∧ News h₀ L h news ∧ I d r ∧ me d r < k
theorem While2.intro {h₀ : Heap} {L : Addr} {news news' : List (Addr × Obj)} {x y : Str} {m0 m1 : Str → Option Value} {I : Int → Int → Prop} {me : Int → Int → Nat} {k : Nat} {s : Shared} {d r : Int} {td tr : Tok} {h : Heap} {tk : Nat}
    (F : Fr h₀ L h (fun z => if z = x then some (.int d td) else if z = y then some (.int r tr) else m1 z)) (N : News h₀ L h news') (hs : ∀ p ∈ news, p ∈ news') (hm : ∀ z, z ≠ x → z ≠ y → m1 z = m0 z) (hI : I d r) (hk : me d r < k) :
    While2 h₀ L news x y m0 I me k s { s with heap := h, toks := tk } := ⟨d, r, td, tr, h, tk, rfl, by rw [← map2 hm]; exact F, fun p hp => N p (hs p hp), hI, hk⟩
theorem while_two {prog : Program} {w : World} {A : Around} {s : Shared} {env : Env} {h₀ : Heap} {L : Addr} {news : List (Addr × Obj)} {x y : Str} {m0 : Str → Option Value} {d r : Int} {td tr : Tok} {test : Expr} {body : List Stmt} {pos : Pos} {Q : Flow → Shared → Prop}
    (I : Int → Int → Prop) (me : Int → Int → Nat)
    (F : Fr h₀ L s.heap (fun z => if z = x then some (.int d td) else if z = y then some (.int r tr) else m0 z)) (N : News h₀ L s.heap news) (hI : I d r)
    (turn : ∀ d r td tr h tk, I d r → Fr h₀ L h (fun z => if z = x then some (.int d td) else if z = y then some (.int r tr) else m0 z) → News h₀ L h news →
      wpAny (model prog w) A (isTrue test env (eval test env)) (fun b s₂ =>
        if b then wpAny (model prog w) A (execs body env) (fun f s₃ => match f with
            | .next | .cont => While2 h₀ L news x y m0 I me (me d r) s s₃
            | .brk => Q .next s₃
            | .ret v => Q (.ret v) s₃) never s₂
        else Q .next s₂) never { s with heap := h, toks := tk }) :
    wpAny (model prog w) A (exec (.While test body [] pos) env) Q never s := by
  refine wpAny_While (codeAny_whileLoop (fun k s' => While2 h₀ L news x y m0 I me (k + 1) s s' ∧ ∃ d r td tr h tk, s' = { s with heap := h, toks := tk } ∧ Fr h₀ L h (fun z => if z = x then some (.int d td) else if z = y then some (.int r tr) else m0 z) ∧ News h₀ L h news ∧ I d r ∧ me d r = k) (fun k s' hs => ?_) (me d r) ⟨⟨d, r, td, tr, s.heap, s.toks, rfl, F, N, hI, Nat.lt_succ_self _⟩, d, r, td, tr, s.heap, s.toks, rfl, F, N, hI, rfl⟩)
  obtain ⟨_, d, r, td, tr, h, tk, rfl, F, N, hI, rfl⟩ := hs
  refine wpAny_mono (turn d r td tr h tk hI F N) (fun b s₂ hb => ?_) fun _ _ x => x.elim
  cases b with
  | false => exact wpAny_execs_nil hb
  | true =>
    refine wpAny_mono (hb : wpAny _ _ _ _ _ _) (fun f s₃ h₃ => ?_) fun _ _ x => x.elim
    have next : While2 h₀ L news x y m0 I me (me d r) s s₃ → ∃ m, m < me d r ∧ (While2 h₀ L news x y m0 I me (m + 1) s s₃ ∧ ∃ d r td tr h tk, s₃ = { s with heap := h, toks := tk } ∧ Fr h₀ L h (fun z => if z = x then some (.int d td) else if z = y then some (.int r tr) else m0 z) ∧ News h₀ L h news ∧ I d r ∧ me d r = m) := by
      rintro ⟨d', r', td', tr', h', tk', rfl, F', N', hI', hm⟩
      exact ⟨_, hm, ⟨d', r', td', tr', h', tk', rfl, F', N', hI', Nat.lt_succ_self _⟩, d', r', td', tr', h', tk', rfl, F', N', hI', rfl⟩
    cases f with
    | next => exact next h₃
    | cont => exact next h₃
    | brk => exact h₃
    | ret v => exact h₃
theorem InstAt.keeps' {h h' : Heap} {x C : Addr} {ox : Obj} {od : Option Obj} (I : InstAt h x ox C od) (k : Keep h h') : InstAt h' x ox C od := by
  refine ⟨k _ _ I.at_, I.cls, I.no, ?_⟩
  have := I.dict
  split at this
  · exact k _ _ this
  · trivial
  · exact this
abbrev tupOf (vs : List Value) : Obj := { cls := .type "tuple", data := .seq vs.toArray }

theorem fill_it (w : World) (h : Heap) (X : (K39 w.params).In h) : PySem.Challenge.rw_bg0002_01.row.prog = PySem.Challenge.rw_bg0002_01.row.prog ∧ (K39 w.params).In h := by
  k_fill
  exact ⟨rfl, X⟩
section
variable {w : World} {mg mb : Str → Option Value}
local macro_rules | `(tactic| k_inst) => `(tactic| assumption)
local macro_rules | `(tactic| k_inst) => `(tactic| exact InstAt.keeps' (by assumption) (Fr.keep (by assumption)))
local macro_rules | `(tactic| k_room) => `(tactic| ((try simp only [depth_under_make, depth_under_kw, depth_in1, depth_deeper, depth_caller]); omega))
local macro_rules | `(tactic| k_units) => `(tactic| ((try simp only [units_in1, units_deeper, Around.mark_units, units_caller]); omega))
local macro_rules | `(tactic| walk_at "m_around") => `(tactic| (show _ < _; (try simp only [depth_under_make, depth_under_kw, depth_in1, depth_deeper, depth_caller, units_in1, units_deeper, Around.mark_units, units_caller]); omega))
local macro_rules | `(tactic| walk_at "m_cases") => `(tactic| ((case k6 => k_is); (case k7 => k_is); (case k8 => k_room); (case k9 => first | exact BindsTo.of_eq rfl | exact binds_K (by k_in) rfl (by k_is) rfl rfl rfl | fail "m_enter: no rule for these arguments"); (case c5 => decide); (case kB => exact locs rfl); (case c2 => exact rfl); (case c3 => exact rfl); (case c4 => exact rfl)))
section
abbrev frEs (h1 : Int) (a1 : Tok) (n : Int) (t1 : Tok) (h2 : Int) (a2 : Tok) (d : Int) (t2 : Tok) : List DictEntry := [⟨h1, .str (Str.ofString "numerator") a1, .int n t1⟩, ⟨h2, .str (Str.ofString "denominator") a2, .int d t2⟩]
def FracAt (h : Heap) (x : Addr) (n d : Int) : Prop :=
  ∃ dx h1 a1 t1 h2 a2 t2 c, h.get? x = some (instObj 305 dx) ∧ h.get? dx = some (dictOf (frEs h1 a1 n t1 h2 a2 d t2) c)
theorem FracAt.keeps {h h' : Heap} {x : Addr} {n d : Int} (I : FracAt h x n d) (k : Keep h h') : FracAt h' x n d :=
  let ⟨dx, h1, a1, t1, h2, a2, t2, c, e1, e2⟩ := I; ⟨dx, h1, a1, t1, h2, a2, t2, c, k _ _ e1, k _ _ e2⟩
theorem parts_frac {dp un : Nat} {fr : Option (List Env)} {gd : Option (List Code)} {s : Shared} {Q : Value → Shared → Prop} {x : Addr} {n d : Int}
    (hd : dp + 3 < recursionLimit) (hu : un + 40 < cLine) (G : Good w mg mb s.heap) (I : FracAt s.heap x n d)
    (h : ∀ v h' tk t1 t2, Keep s.heap h' → h'.get? v = some (tupOf [.int n t1, .int d t2]) → s.heap.get? v = none → Q (.ref v) { s with heap := h', toks := tk }) :
    wpAny (model PP w) (aro dp un fr gd) (call (.ref 161) [.ref x]) Q never s := by
  have X := G.X
  have T := G.T
  obtain ⟨dx, h1, a1, t1, h2, a2, t2, c, i1, i2⟩ := I
  have I : InstAt s.heap x (instObj 305 dx) 305 (some (dictOf (frEs h1 a1 n t1 h2 a2 d t2) c)) := ⟨i1, rfl, rfl, i2⟩
  refine wpAny_call ?_
  refine' enterL (binds := [(Str.ofString "number", .ref x)]) [] (List.forall_mem_nil _) X T ?k6 ?k7 ?k8 ?k9 ?kB ?_ ?c2 ?c3 ?c4 ?c5
  walk_at "m_cases"
  intro g' L' h' hg' hL' F' N' X' T'
  obtain rfl : g' = s.heap := hg'
  k_steps
  rename_i F'' N'' _
  exact h _ _ _ _ _ F''.keep (N'' _ (.head _)).1 (N'' _ (.head _)).2.2
theorem parts_int {dp un : Nat} {fr : Option (List Env)} {gd : Option (List Code)} {s : Shared} {Q : Value → Shared → Prop} {n : Int} {t : Tok}
    (hd : dp + 3 < recursionLimit) (hu : un + 40 < cLine) (G : Good w mg mb s.heap)
    (h : ∀ v h' tk t1 t2, Keep s.heap h' → h'.get? v = some (tupOf [.int n t1, .int 1 t2]) → s.heap.get? v = none → Q (.ref v) { s with heap := h', toks := tk }) :
    wpAny (model PP w) (aro dp un fr gd) (call (.ref 161) [.int n t]) Q never s := by
  have X := G.X
  have T := G.T
  refine wpAny_call ?_
  refine' enterL (binds := [(Str.ofString "number", .int n t)]) [] (List.forall_mem_nil _) X T ?k6 ?k7 ?k8 ?k9 ?kB ?_ ?c2 ?c3 ?c4 ?c5
  walk_at "m_cases"
  intro g' L' h' hg' hL' F' N' X' T'
  obtain rfl : g' = s.heap := hg'
  k_steps
  rename_i F'' N'' _
  exact h _ _ _ _ _ F''.keep (N'' _ (.head _)).1 (N'' _ (.head _)).2.2
section
variable {h₀ : Heap} {L : Addr} {m : Str → Option Value} {news : List (Addr × Obj)} {dp un : Nat} {fr : Option (List Env)} {gd : Option (List Code)} {s : Shared} {Q E : Value → Shared → Prop}
theorem parts_intK {n : Int} {t : Tok} (X : (K39 w.params).In h₀) (T : TopRead hd.view_39 loose0 mg mb h₀) (F : Fr h₀ L s.heap m) (N : News h₀ L s.heap news)
    (hd : dp + 3 < recursionLimit) (hu : un + 40 < cLine)
    (h : ∀ v h' tk t1 t2, Fr h₀ L h' m → News h₀ L h' ((v, tupOf [.int n t1, .int 1 t2]) :: news) → (∀ p ∈ news, p.1 ≠ v) → Q (.ref v) { s with heap := h', toks := tk }) :
    wpAny (model PP w) (aro dp un fr gd) (call (.ref 161) [.int n t]) Q E s :=
  wpAny_mono (parts_int hd hu ⟨X.keeps F.keep, T.keeps F.keep⟩ fun v h' tk t1 t2 k e z => h v h' tk t1 t2 (Fr.kept F k) (News.more1 F N k e z) (News.off N z)) (fun _ _ x => x) fun _ _ x => x.elim
theorem parts_fracK {x : Addr} {n d : Int} (X : (K39 w.params).In h₀) (T : TopRead hd.view_39 loose0 mg mb h₀) (F : Fr h₀ L s.heap m) (N : News h₀ L s.heap news)
    (I : FracAt s.heap x n d) (hd : dp + 3 < recursionLimit) (hu : un + 40 < cLine)
    (h : ∀ v h' tk t1 t2, Fr h₀ L h' m → News h₀ L h' ((v, tupOf [.int n t1, .int d t2]) :: news) → (∀ p ∈ news, p.1 ≠ v) → Q (.ref v) { s with heap := h', toks := tk }) :
    wpAny (model PP w) (aro dp un fr gd) (call (.ref 161) [.ref x]) Q E s :=
  wpAny_mono (parts_frac hd hu ⟨X.keeps F.keep, T.keeps F.keep⟩ I fun v h' tk t1 t2 k e z => h v h' tk t1 t2 (Fr.kept F k) (News.more1 F N k e z) (News.off N z)) (fun _ _ x => x) fun _ _ x => x.elim
end
local macro_rules | `(tactic| walk_at "call ref") => `(tactic| ((with_reducible show wpAny _ _ (call (Value.ref 161) [Value.int _ _]) _ _ _); k_dflt (refine' parts_intK ?X ?T ?F ?N ?d ?u ?_; (case X => k_asm); (case T => k_asm); (case F => k_asm); (case N => k_asm); (case d => walk_at "m_around"); (case u => walk_at "m_around"); k_whole); intro v' h' tk' t1' t2' F' N' l1; (try (simp only [List.forall_mem_cons, List.not_mem_nil, false_implies, implies_true, and_true] at l1)); (try k_sweep)))

theorem gcd_mod (a b : Int) : Int.gcd b (a % b) = Int.gcd a b := by
  rw [Int.emod_def, Int.gcd_sub_mul_left_right, Int.gcd_comm]
local macro_rules | `(tactic| walk_at "exec While Name cons nil") => `(tactic| refine stopHere ?_)
theorem frac_new {dp un : Nat} {fr : Option (List Env)} {gd : Option (List Code)} {s : Shared} {Q : Value → Shared → Prop} {a b : Int} {ta tb : Tok}
    (hd : dp + 8 < recursionLimit) (hu : un + 100 < cLine) (G : Good w mg mb s.heap) (hb : 0 < b) (hb2 : b < 1073741824)
    (h : ∀ (x dx : Nat) h' tk h1 a1 t1 h2 a2 t2 c, Keep s.heap h' → h'.get? x = some (instObj 305 dx) → h'.get? dx = some (dictOf (frEs h1 a1 (a / (Int.gcd a b : Int)) t1 h2 a2 (b / (Int.gcd a b : Int)) t2) c) → s.heap.get? x = none → s.heap.get? dx = none → dx < x → Q (.ref x) { s with heap := h', toks := tk }) :
    wpAny (model PP w) (aro dp un fr gd) (call (.ref 305) [.int a ta, .int b tb]) Q never s := by
  refine wpAny_call (makeL G.X (by k_is) (by k_is) (by k_is) fun x dx h₁ hx hdx hh₁ e1 e2 n1 n2 kk => ?_)
  have X := G.X.keeps kk
  have T := G.T.keeps kk
  have X1 : (K39 w.params).In h₁ := X.keeps fun b o e => of_hideAll _ e
  refine' enterL (binds := [(Str.ofString "self", .ref x), (Str.ofString "numerator", .int a ta), (Str.ofString "denominator", .int b tb)]) [(x, instObj 305 dx), (dx, dictOf [] 0)] ?hled X T ?k6 ?k7 ?k8 ?k9 ?kB ?_ ?c2 ?c3 ?c4 ?c5
  case hled => intro q hq; simp only [List.mem_cons, List.not_mem_nil, or_false] at hq; rcases hq with rfl | rfl <;> assumption
  walk_at "m_cases"
  intro g' L' h' hg' hL' F' N' X' T'
  have hgcd : 0 < (Int.gcd a b : Int) := by
    have : 0 < Int.gcd a b := Int.gcd_pos_of_ne_zero_right a (by omega)
    omega
  k_steps
  rename Fr _ _ _ _ => F1
  rename News _ _ _ _ => N1
  show wpAny _ _ _ _ _ _
  have N2 := cb_drop (news := [(x, instObj 305 dx), (dx, dictOf [] 0)]) N1 (by intro p hp; simp only [List.mem_cons, List.not_mem_nil, or_false] at hp ⊢; rcases hp with rfl | rfl <;> simp)
  refine while_two (x := Str.ofString "divisor") (y := Str.ofString "rest") (fun d r => 0 < d ∧ d ≤ b ∧ 0 ≤ r ∧ r < d ∧ Int.gcd d r = Int.gcd a b) (fun _ r => r.toNat) F1 N2 ?_ ?_
  · have e : (a * 1).fmod (b * 1) = a % b := by rw [Int.mul_one, Int.mul_one, Int.fmod_eq_emod_of_nonneg _ (by omega)]
    rw [e]
    have h1 := Int.emod_nonneg a (show b ≠ 0 by omega)
    have h2 := Int.emod_lt_of_pos a hb
    refine ⟨by omega, by omega, h1, by omega, ?_⟩
    rw [Int.mul_one, gcd_mod]
  · clear F1 N1 N2
    intro d r td tr h3 tk3 hI F1 N1
    obtain ⟨i1, i2, i3, i4, i5⟩ := hI
    have i6 : d ≠ 0 := by omega
    k_steps
    · rename Fr _ _ _ _ => F2
      rename News _ _ _ _ => N2
      rename ¬ (r = 0) => hr0
      have e : d.fmod r = d % r := Int.fmod_eq_emod_of_nonneg _ i3
      have h1 := Int.emod_nonneg d hr0
      have h2 := Int.emod_lt_of_pos d (show 0 < r by omega)
      refine While2.intro F2 N2 (fun p hp => List.mem_cons_of_mem _ hp) (fun z h1 h2 => by simp only [if_neg h1, if_neg h2]) ?_ ?_
      · rw [e]
        exact ⟨by omega, by omega, h1, h2, by rw [gcd_mod, i5]⟩
      · rw [e]; omega
    · rename Fr _ _ _ _ => F2
      rename News _ _ _ _ => N2
      rename r = 0 => hr0
      subst hr0
      have hdg : d = (Int.gcd a b : Int) := by
        rw [← i5, Int.gcd_zero_right]
        omega
      have ea : (a * 1).fdiv d = a / (Int.gcd a b : Int) := by rw [Int.mul_one, ← hdg, Int.fdiv_eq_ediv_of_nonneg _ (by omega)]
      have eb : (b * 1).fdiv d = b / (Int.gcd a b : Int) := by rw [Int.mul_one, ← hdg, Int.fdiv_eq_ediv_of_nonneg _ (by omega)]
      rw [ea, eb] at N2
      refine ⟨rfl, ?_⟩
      refine h x dx _ _ _ _ _ _ _ _ _ (fun b' o e => F2.keep _ _ ?_) (N2 _ (.head _)).1 (N2 _ (.tail _ (.head _))).1 n1 n2 (by omega)
      rw [hg']
      exact kk _ _ e

end
section
theorem dvd_of_cop {k m n : Int} (h : k ∣ m * n) (hc : Int.gcd k n = 1) : k ∣ m := by
  have h' := Int.natAbs_dvd_natAbs.mpr h
  rw [Int.natAbs_mul] at h'
  exact Int.natAbs_dvd_natAbs.mp (Nat.Coprime.dvd_of_dvd_mul_right (show Nat.Coprime k.natAbs n.natAbs from hc) h')
/-- n / d in lowest terms is a sixth of S -/
def Sx (S n d : Int) : Prop := 6 * n = S * d ∧ 0 < d ∧ Int.gcd n d = 1 ∧ d ≤ 6
theorem Sx.norm {S a b : Int} (hb : 0 < b) (h : 6 * a = S * b) : Sx S (a / (Int.gcd a b : Int)) (b / (Int.gcd a b : Int)) := by
  have hg : 0 < Int.gcd a b := Int.gcd_pos_of_ne_zero_right a (by omega)
  have hg' : (0 : Int) < (Int.gcd a b : Int) := by omega
  obtain ⟨u, hu⟩ := Int.gcd_dvd_left a b
  obtain ⟨v, hv⟩ := Int.gcd_dvd_right a b
  have e1 : a / (Int.gcd a b : Int) = u := by
    conv => lhs; arg 1; rw [hu]
    exact Int.mul_ediv_cancel_left _ (by omega)
  have e2 : b / (Int.gcd a b : Int) = v := by
    conv => lhs; arg 1; rw [hv]
    exact Int.mul_ediv_cancel_left _ (by omega)
  have hv0 : 0 < v := by
    rcases Int.lt_or_le 0 v with q | q
    · exact q
    · have : (Int.gcd a b : Int) * v ≤ 0 := Int.mul_nonpos_of_nonneg_of_nonpos (by omega) q
      omega
  have hc : Int.gcd u v = 1 := by
    have := Int.gcd_ediv_gcd_ediv_gcd (i := a) (j := b) hg
    rwa [e1, e2] at this
  have hS : 6 * u = S * v := by
    have : (Int.gcd a b : Int) * (6 * u) = (Int.gcd a b : Int) * (S * v) := by
      calc (Int.gcd a b : Int) * (6 * u) = 6 * ((Int.gcd a b : Int) * u) := by rw [Int.mul_left_comm]
        _ = 6 * a := by rw [← hu]
        _ = S * b := h
        _ = S * ((Int.gcd a b : Int) * v) := by rw [← hv]
        _ = (Int.gcd a b : Int) * (S * v) := by rw [Int.mul_left_comm]
    exact Int.eq_of_mul_eq_mul_left (by omega) this
  rw [e1, e2]
  refine ⟨hS, hv0, hc, ?_⟩
  have hd : v ∣ 6 * u := ⟨S, by rw [hS, Int.mul_comm]⟩
  have hd6 : v ∣ 6 := dvd_of_cop hd (by rw [Int.gcd_comm]; exact hc)
  exact Int.le_of_dvd (by decide) hd6
theorem Sx.inj {S T n d : Int} (h1 : Sx S n d) (h2 : Sx T n d) : S = T := by
  have : d * S = d * T := by rw [Int.mul_comm d S, Int.mul_comm d T, ← h1.1, ← h2.1]
  exact Int.eq_of_mul_eq_mul_left (by have := h1.2.1; omega) this
theorem Sx.small {S n d : Int} (h : Sx S n d) (hS : S.natAbs ≤ 1000) : n.natAbs ≤ 1000 := by
  obtain ⟨h1, h2, _, h4⟩ := h
  have : d = 1 ∨ d = 2 ∨ d = 3 ∨ d = 4 ∨ d = 5 ∨ d = 6 := by omega
  rcases this with rfl | rfl | rfl | rfl | rfl | rfl <;> omega
theorem Sx.cases {S n d : Int} (h : Sx S n d) : 6 * n = S * d ∧ (d = 1 ∨ d = 2 ∨ d = 3 ∨ d = 4 ∨ d = 5 ∨ d = 6) := by
  obtain ⟨h1, h2, _, h4⟩ := h
  exact ⟨h1, by omega⟩
/-- equal sixths have one shape -/
theorem Sx.uniq {S n d n' d' : Int} (h : Sx S n d) (h' : Sx S n' d') : n = n' ∧ d = d' := by
  obtain ⟨a1, a2, a3, a4⟩ := h
  obtain ⟨b1, b2, b3, b4⟩ := h'
  have e : n * d' = n' * d := by
    have : 6 * (n * d') = 6 * (n' * d) := by
      calc 6 * (n * d') = (6 * n) * d' := by rw [Int.mul_assoc]
        _ = S * d * d' := by rw [a1]
        _ = S * d' * d := by rw [Int.mul_assoc, Int.mul_comm d d', ← Int.mul_assoc]
        _ = 6 * n' * d := by rw [b1]
        _ = 6 * (n' * d) := by rw [Int.mul_assoc]
    omega
  have d1 : d ∣ d' := dvd_of_cop (n := n) ⟨n', by rw [Int.mul_comm, e, Int.mul_comm]⟩ (by rw [Int.gcd_comm]; exact a3)
  have d2 : d' ∣ d := dvd_of_cop (n := n') ⟨n, by rw [Int.mul_comm, ← e, Int.mul_comm]⟩ (by rw [Int.gcd_comm]; exact b3)
  have hd : d = d' := Int.le_antisymm (Int.le_of_dvd b2 d1) (Int.le_of_dvd a2 d2)
  subst hd
  exact ⟨Int.eq_of_mul_eq_mul_right (by omega) e, rfl⟩
structure NewFrac (h h' : Heap) (x dx : Nat) (S : Int) : Prop where
  keep : Keep h h'
  ex : h'.get? x = some (instObj 305 dx)
  ed : ∃ h1 a1 n t1 h2 a2 d t2 c, h'.get? dx = some (dictOf (frEs h1 a1 n t1 h2 a2 d t2) c) ∧ Sx S n d
  zx : h.get? x = none
  zd : h.get? dx = none
  lt : dx < x
def FracS (h : Heap) (x : Addr) (S : Int) : Prop := ∃ n d, FracAt h x n d ∧ Sx S n d
theorem FracS.keeps {h h' : Heap} {x : Addr} {S : Int} (I : FracS h x S) (k : Keep h h') : FracS h' x S := let ⟨n, d, a, b⟩ := I; ⟨n, d, a.keeps k, b⟩
theorem NewFrac.at {h h' : Heap} {x dx : Nat} {S : Int} (I : NewFrac h h' x dx S) : FracS h' x S :=
  let ⟨h1, a1, n, t1, h2, a2, d, t2, c, e, q⟩ := I.ed; ⟨n, d, ⟨dx, h1, a1, t1, h2, a2, t2, c, I.ex, e⟩, q⟩
theorem frac_newS {dp un : Nat} {fr : Option (List Env)} {gd : Option (List Code)} {s : Shared} {Q : Value → Shared → Prop} {a b S : Int} {ta tb : Tok}
    (hdp : dp + 8 < recursionLimit) (hu : un + 100 < cLine) (G : Good w mg mb s.heap) (hb : 0 < b) (hb2 : b < 1073741824) (hS : 6 * a = S * b)
    (h : ∀ (x dx : Nat) h' tk, NewFrac s.heap h' x dx S → Q (.ref x) { s with heap := h', toks := tk }) :
    wpAny (model PP w) (aro dp un fr gd) (call (.ref 305) [.int a ta, .int b tb]) Q never s :=
  frac_new hdp hu G hb hb2 fun x dx h' tk h1 a1 t1 h2 a2 t2 c k e1 e2 z1 z2 l => h x dx h' tk ⟨k, e1, ⟨h1, a1, _, t1, h2, a2, _, t2, c, e2, Sx.norm hb hS⟩, z1, z2, l⟩
section
variable {h₀ : Heap} {L : Addr} {m : Str → Option Value} {news : List (Addr × Obj)} {dp un : Nat} {fr : Option (List Env)} {gd : Option (List Code)} {s : Shared} {Q E : Value → Shared → Prop}
theorem NewFrac.frm {h h' : Heap} {x dx : Nat} {S : Int} (I : NewFrac h h' x dx S) (F : Fr h₀ L h m) : Fr h₀ L h' m := Fr.kept F I.keep
theorem NewFrac.nw {h h' : Heap} {x dx : Nat} {S : Int} (I : NewFrac h h' x dx S) (F : Fr h₀ L h m) (N : News h₀ L h news) :
    ∃ h1 a1 n t1 h2 a2 d t2 c, News h₀ L h' ((x, instObj 305 dx) :: (dx, dictOf (frEs h1 a1 n t1 h2 a2 d t2) c) :: news) ∧ Sx S n d ∧ (∀ p ∈ news, p.1 ≠ x) ∧ (∀ p ∈ news, p.1 ≠ dx) := by
  obtain ⟨h1, a1, n, t1, h2, a2, d, t2, c, e, q⟩ := I.ed
  refine ⟨h1, a1, n, t1, h2, a2, d, t2, c, fun p hp => ?_, q, News.off N I.zx, News.off N I.zd⟩
  rcases List.mem_cons.mp hp with rfl | hp
  · exact (News.more1 F N I.keep I.ex I.zx) _ (.head _)
  · exact (News.more1 F N I.keep e I.zd) p hp
theorem frac_newK {a b S : Int} {ta tb : Tok} (X : (K39 w.params).In h₀) (T : TopRead hd.view_39 loose0 mg mb h₀) (F : Fr h₀ L s.heap m)
    (hb : 0 < b) (hb2 : b < 1073741824) (hS : 6 * a = S * b) (hdp : dp + 8 < recursionLimit) (hu : un + 100 < cLine)
    (h : ∀ (x dx : Nat) h' tk, NewFrac s.heap h' x dx S → Q (.ref x) { s with heap := h', toks := tk }) :
    wpAny (model PP w) (aro dp un fr gd) (call (.ref 305) [.int a ta, .int b tb]) Q E s :=
  wpAny_mono (frac_newS hdp hu ⟨X.keeps F.keep, T.keeps F.keep⟩ hb hb2 hS h) (fun _ _ x => x) fun _ _ x => x.elim
end
theorem mulOk_left {a b : Int} (h : a.natAbs ≤ 1000000) : IntMulOk a b := IntMulOk.of_left (intBits_le_64 (by omega) (by omega))
theorem mulOk_right {a b : Int} (h : b.natAbs ≤ 1000000) : IntMulOk a b := IntMulOk.of_right (intBits_le_64 (by omega) (by omega))
local macro_rules | `(tactic| walk_at "call ref") => `(tactic| ((with_reducible show wpAny _ _ (call (Value.ref 161) [Value.int _ _]) _ _ _); k_dflt (refine' parts_intK ?X ?T ?F ?N ?d ?u ?_; (case X => k_asm); (case T => k_asm); (case F => k_asm); (case N => k_asm); (case d => walk_at "m_around"); (case u => walk_at "m_around"); k_whole); intro v' h' tk' t1' t2' F' N' l1; (try (simp only [List.forall_mem_cons, List.not_mem_nil, false_implies, implies_true, and_true] at l1)); (try k_sweep)))
local macro_rules | `(tactic| walk_at "call ref") => `(tactic| ((with_reducible show wpAny _ _ (call (Value.ref 161) [Value.ref _]) _ _ _); k_dflt (refine' parts_fracK ?X ?T ?F ?N ?I ?d ?u ?_; (case X => k_asm); (case T => k_asm); (case F => k_asm); (case N => k_asm); (case I => first | assumption | exact FracAt.keeps (by assumption) (Fr.keep (by assumption))); (case d => walk_at "m_around"); (case u => walk_at "m_around"); k_whole); intro v' h' tk' t1' t2' F' N' l1; (try (simp only [List.forall_mem_cons, List.not_mem_nil, false_implies, implies_true, and_true] at l1)); (try k_sweep)))
local macro_rules | `(tactic| walk_at "call ref") => `(tactic| ((with_reducible show wpAny _ _ (call (Value.ref 305) [Value.int _ _, Value.int _ _]) _ _ _); refine stopHere ?_))
local macro_rules | `(tactic| walk_at "binaryOp Mult int int") => `(tactic| (refine mul_int ?_ (by assumption)))
theorem frac_mul {dp un : Nat} {fr : Option (List Env)} {gd : Option (List Code)} {s : Shared} {Q : Value → Shared → Prop} {x : Addr} {S k : Int} {tk : Tok}
    (hdp : dp + 10 < recursionLimit) (hu : un + 110 < cLine) (G : Good w mg mb s.heap) (I : FracS s.heap x S) (hk : S.natAbs ≤ 1000 ∨ k.natAbs ≤ 1000)
    (h : ∀ (x dx : Nat) h' tk, NewFrac s.heap h' x dx (S * k) → Q (.ref x) { s with heap := h', toks := tk }) :
    wpAny (model PP w) (aro dp un fr gd) (call (.ref 246) [.ref x, .int k tk]) Q never s := by
  have X := G.X
  have T := G.T
  obtain ⟨n, d, ⟨dx, h1, a1, t1, h2, a2, t2, c, i1, i2⟩, q⟩ := I
  have I : InstAt s.heap x (instObj 305 dx) 305 (some (dictOf (frEs h1 a1 n t1 h2 a2 d t2) c)) := ⟨i1, rfl, rfl, i2⟩
  refine wpAny_call ?_
  refine' enterL (binds := [(Str.ofString "self", .ref x), (Str.ofString "other", .int k tk)]) [] (List.forall_mem_nil _) X T ?k6 ?k7 ?k8 ?k9 ?kB ?_ ?c2 ?c3 ?c4 ?c5
  walk_at "m_cases"
  intro g' L' h' hg' hL' F' N' X' T'
  obtain rfl : g' = s.heap := hg'
  have hm2 : IntMulOk d 1 := IntMulOk.of_right (by decide)
  have hm : IntMulOk n k := by
    rcases hk with q' | q'
    · exact mulOk_left (by have := q.small q'; omega)
    · exact mulOk_right (by omega)
  k_steps
  rename Fr _ _ _ _ => F1
  refine frac_newK (S := S * k) X' T' F1 (by have := q.2.1; omega) (by have := q.2.2.2; omega) ?_ (by walk_at "m_around") (by walk_at "m_around") fun x' dx' h3 tk3 Z => h x' dx' h3 tk3 ⟨Keep.trans F1.keep Z.keep, Z.ex, Z.ed, ?_, ?_, Z.lt⟩
  · rw [Int.mul_one, ← Int.mul_assoc, q.1, Int.mul_assoc, Int.mul_comm d k, Int.mul_assoc]
  · exact none_of_keep F1.keep Z.zx
  · exact none_of_keep F1.keep Z.zd

end
section
local macro_rules | `(tactic| walk_at "call ref") => `(tactic| ((with_reducible show wpAny _ _ (call (Value.ref 161) [Value.int _ _]) _ _ _); k_dflt (refine' parts_intK ?X ?T ?F ?N ?d ?u ?_; (case X => k_asm); (case T => k_asm); (case F => k_asm); (case N => k_asm); (case d => walk_at "m_around"); (case u => walk_at "m_around"); k_whole); intro v' h' tk' t1' t2' F' N' l1; (try (simp only [List.forall_mem_cons, List.not_mem_nil, false_implies, implies_true, and_true] at l1)); (try k_sweep)))
local macro_rules | `(tactic| walk_at "call ref") => `(tactic| ((with_reducible show wpAny _ _ (call (Value.ref 161) [Value.ref _]) _ _ _); k_dflt (refine' parts_fracK ?X ?T ?F ?N ?I ?d ?u ?_; (case X => k_asm); (case T => k_asm); (case F => k_asm); (case N => k_asm); (case I => first | assumption | exact FracAt.keeps (by assumption) (Fr.keep (by assumption))); (case d => walk_at "m_around"); (case u => walk_at "m_around"); k_whole); intro v' h' tk' t1' t2' F' N' l1; (try (simp only [List.forall_mem_cons, List.not_mem_nil, false_implies, implies_true, and_true] at l1)); (try k_sweep)))
local macro_rules | `(tactic| walk_at "call ref") => `(tactic| ((with_reducible show wpAny _ _ (call (Value.ref 305) [Value.int _ _, Value.int _ _]) _ _ _); refine stopHere ?_))
local macro_rules | `(tactic| walk_at "binaryOp Mult int int") => `(tactic| (refine mul_int ?_ (by assumption)))

theorem frac_addF {dp un : Nat} {fr : Option (List Env)} {gd : Option (List Code)} {s : Shared} {Q : Value → Shared → Prop} {x y : Addr} {S U : Int}
    (hdp : dp + 10 < recursionLimit) (hu : un + 110 < cLine) (G : Good w mg mb s.heap) (I : FracS s.heap x S) (J : FracS s.heap y U)
    (h : ∀ (x dx : Nat) h' tk, NewFrac s.heap h' x dx (S + U) → Q (.ref x) { s with heap := h', toks := tk }) :
    wpAny (model PP w) (aro dp un fr gd) (call (.ref 218) [.ref x, .ref y]) Q never s := by
  have X := G.X
  have T := G.T
  obtain ⟨n, d, ⟨dx, h1, a1, t1, h2, a2, t2, c, i1, i2⟩, q⟩ := I
  obtain ⟨n', d', J, q'⟩ := J
  have I : InstAt s.heap x (instObj 305 dx) 305 (some (dictOf (frEs h1 a1 n t1 h2 a2 d t2) c)) := ⟨i1, rfl, rfl, i2⟩
  refine wpAny_call ?_
  refine' enterL (binds := [(Str.ofString "self", .ref x), (Str.ofString "other", .ref y)]) [] (List.forall_mem_nil _) X T ?k6 ?k7 ?k8 ?k9 ?kB ?_ ?c2 ?c3 ?c4 ?c5
  walk_at "m_cases"
  intro g' L' h' hg' hL' F' N' X' T'
  obtain rfl : g' = s.heap := hg'
  have q2 := q.2.2.2; have q3 := q.2.1; have q4 := q'.2.2.2; have q5 := q'.2.1
  have hm1 : IntMulOk n d' := mulOk_right (by omega)
  have hm2 : IntMulOk n' d := mulOk_right (by omega)
  have hm3 : IntMulOk d d' := mulOk_right (by omega)
  k_steps
  rename Fr _ _ _ _ => F1
  have hpos : 0 < d * d' := Int.mul_pos q3 q5
  have hle : d * d' ≤ 6 * 6 := Int.mul_le_mul q2 q4 (by omega) (by decide)
  refine frac_newK (S := S + U) X' T' F1 hpos (by omega) ?_ (by walk_at "m_around") (by walk_at "m_around") fun x' dx' h3 tk3 Z => h x' dx' h3 tk3 ⟨Keep.trans F1.keep Z.keep, Z.ex, Z.ed, none_of_keep F1.keep Z.zx, none_of_keep F1.keep Z.zd, Z.lt⟩
  rw [Int.mul_add, ← Int.mul_assoc, ← Int.mul_assoc, q.1, q'.1, Int.add_mul, Int.mul_assoc, Int.mul_assoc, Int.mul_comm d' d]
theorem frac_addI {dp un : Nat} {fr : Option (List Env)} {gd : Option (List Code)} {s : Shared} {Q : Value → Shared → Prop} {x : Addr} {S k : Int} {tk : Tok}
    (hdp : dp + 10 < recursionLimit) (hu : un + 110 < cLine) (G : Good w mg mb s.heap) (I : FracS s.heap x S)
    (h : ∀ (x dx : Nat) h' tk, NewFrac s.heap h' x dx (S + 6 * k) → Q (.ref x) { s with heap := h', toks := tk }) :
    wpAny (model PP w) (aro dp un fr gd) (call (.ref 218) [.ref x, .int k tk]) Q never s := by
  have X := G.X
  have T := G.T
  obtain ⟨n, d, ⟨dx, h1, a1, t1, h2, a2, t2, c, i1, i2⟩, q⟩ := I
  have I : InstAt s.heap x (instObj 305 dx) 305 (some (dictOf (frEs h1 a1 n t1 h2 a2 d t2) c)) := ⟨i1, rfl, rfl, i2⟩
  refine wpAny_call ?_
  refine' enterL (binds := [(Str.ofString "self", .ref x), (Str.ofString "other", .int k tk)]) [] (List.forall_mem_nil _) X T ?k6 ?k7 ?k8 ?k9 ?kB ?_ ?c2 ?c3 ?c4 ?c5
  walk_at "m_cases"
  intro g' L' h' hg' hL' F' N' X' T'
  obtain rfl : g' = s.heap := hg'
  have q2 := q.2.2.2; have q3 := q.2.1
  have hm1 : IntMulOk n 1 := mulOk_right (by omega)
  have hm2 : IntMulOk k d := mulOk_right (by omega)
  have hm3 : IntMulOk d 1 := mulOk_right (by omega)
  k_steps
  rename Fr _ _ _ _ => F1
  refine frac_newK (S := S + 6 * k) X' T' F1 (by omega) (by omega) ?_ (by walk_at "m_around") (by walk_at "m_around") fun x' dx' h3 tk3 Z => h x' dx' h3 tk3 ⟨Keep.trans F1.keep Z.keep, Z.ex, Z.ed, none_of_keep F1.keep Z.zx, none_of_keep F1.keep Z.zd, Z.lt⟩
  rw [Int.mul_add, Int.mul_one, q.1, Int.mul_one, Int.add_mul, Int.mul_assoc]
theorem Sx.cross {S U n d n' d' : Int} (q : Sx S n d) (q' : Sx U n' d') : 6 * (n * d') = S * (d * d') ∧ 6 * (n' * d) = U * (d * d') ∧ 0 < d * d' := by
  refine ⟨?_, ?_, Int.mul_pos q.2.1 q'.2.1⟩
  · rw [← Int.mul_assoc, q.1, Int.mul_assoc]
  · rw [← Int.mul_assoc, q'.1, Int.mul_assoc, Int.mul_comm d' d]
theorem Sx.le_iff {S U n d n' d' : Int} (q : Sx S n d) (q' : Sx U n' d') : n * d' ≤ n' * d ↔ S ≤ U := by
  obtain ⟨a, b, c⟩ := q.cross q'
  constructor
  · intro h
    have : S * (d * d') ≤ U * (d * d') := by omega
    exact Int.le_of_mul_le_mul_right this c
  · intro h
    have := Int.mul_le_mul_of_nonneg_right h (Int.le_of_lt c)
    omega
theorem Sx.lt_iff {S U n d n' d' : Int} (q : Sx S n d) (q' : Sx U n' d') : n * d' < n' * d ↔ S < U := by
  have := q'.le_iff q
  omega
theorem Sx.ofInt (k : Int) : Sx (6 * k) k 1 := ⟨by omega, by decide, Int.gcd_one_right k, by decide⟩
theorem Sx.eq_iff {S U n d n' d' : Int} (q : Sx S n d) (q' : Sx U n' d') : (n = n' ∧ d = d') ↔ S = U :=
  ⟨fun ⟨a, b⟩ => by subst a; subst b; exact q.inj q', fun e => by subst e; exact q.uniq q'⟩
theorem frac_leF {dp un : Nat} {fr : Option (List Env)} {gd : Option (List Code)} {s : Shared} {Q : Value → Shared → Prop} {x y : Addr} {S U : Int}
    (hdp : dp + 10 < recursionLimit) (hu : un + 110 < cLine) (G : Good w mg mb s.heap) (I : FracS s.heap x S) (J : FracS s.heap y U)
    (h : ∀ h' tk, Keep s.heap h' → Q (.bool (decide (S ≤ U))) { s with heap := h', toks := tk }) :
    wpAny (model PP w) (aro dp un fr gd) (call (.ref 288) [.ref x, .ref y]) Q never s := by
  have X := G.X
  have T := G.T
  obtain ⟨n, d, ⟨dx, h1, a1, t1, h2, a2, t2, c, i1, i2⟩, q⟩ := I
  obtain ⟨n', d', J, q'⟩ := J
  have I : InstAt s.heap x (instObj 305 dx) 305 (some (dictOf (frEs h1 a1 n t1 h2 a2 d t2) c)) := ⟨i1, rfl, rfl, i2⟩
  refine wpAny_call ?_
  refine' enterL (binds := [(Str.ofString "self", .ref x), (Str.ofString "other", .ref y)]) [] (List.forall_mem_nil _) X T ?k6 ?k7 ?k8 ?k9 ?kB ?_ ?c2 ?c3 ?c4 ?c5
  walk_at "m_cases"
  intro g' L' h' hg' hL' F' N' X' T'
  obtain rfl : g' = s.heap := hg'
  have q2 := q.2.2.2; have q3 := q.2.1; have q4 := q'.2.2.2; have q5 := q'.2.1
  have hm1 : IntMulOk n d' := mulOk_right (by omega)
  have hm2 : IntMulOk n' d := mulOk_right (by omega)
  k_steps
  rename Fr _ _ _ _ => F1
  rw [decide_eq_decide.mpr (q.le_iff q')]
  exact h _ _ F1.keep
theorem frac_leI {dp un : Nat} {fr : Option (List Env)} {gd : Option (List Code)} {s : Shared} {Q : Value → Shared → Prop} {x : Addr} {S k : Int} {tk : Tok}
    (hdp : dp + 10 < recursionLimit) (hu : un + 110 < cLine) (G : Good w mg mb s.heap) (I : FracS s.heap x S)
    (h : ∀ h' tk, Keep s.heap h' → Q (.bool (decide (S ≤ 6 * k))) { s with heap := h', toks := tk }) :
    wpAny (model PP w) (aro dp un fr gd) (call (.ref 288) [.ref x, .int k tk]) Q never s := by
  have X := G.X
  have T := G.T
  obtain ⟨n, d, ⟨dx, h1, a1, t1, h2, a2, t2, c, i1, i2⟩, q⟩ := I
  have I : InstAt s.heap x (instObj 305 dx) 305 (some (dictOf (frEs h1 a1 n t1 h2 a2 d t2) c)) := ⟨i1, rfl, rfl, i2⟩
  refine wpAny_call ?_
  refine' enterL (binds := [(Str.ofString "self", .ref x), (Str.ofString "other", .int k tk)]) [] (List.forall_mem_nil _) X T ?k6 ?k7 ?k8 ?k9 ?kB ?_ ?c2 ?c3 ?c4 ?c5
  walk_at "m_cases"
  intro g' L' h' hg' hL' F' N' X' T'
  obtain rfl : g' = s.heap := hg'
  have q2 := q.2.2.2; have q3 := q.2.1
  have hm1 : IntMulOk n 1 := mulOk_right (by omega)
  have hm2 : IntMulOk k d := mulOk_right (by omega)
  k_steps
  rename Fr _ _ _ _ => F1
  rw [decide_eq_decide.mpr (q.le_iff (Sx.ofInt k))]
  exact h _ _ F1.keep
theorem frac_ltI {dp un : Nat} {fr : Option (List Env)} {gd : Option (List Code)} {s : Shared} {Q : Value → Shared → Prop} {x : Addr} {S k : Int} {tk : Tok}
    (hdp : dp + 10 < recursionLimit) (hu : un + 110 < cLine) (G : Good w mg mb s.heap) (I : FracS s.heap x S)
    (h : ∀ h' tk, Keep s.heap h' → Q (.bool (decide (S < 6 * k))) { s with heap := h', toks := tk }) :
    wpAny (model PP w) (aro dp un fr gd) (call (.ref 281) [.ref x, .int k tk]) Q never s := by
  have X := G.X
  have T := G.T
  obtain ⟨n, d, ⟨dx, h1, a1, t1, h2, a2, t2, c, i1, i2⟩, q⟩ := I
  have I : InstAt s.heap x (instObj 305 dx) 305 (some (dictOf (frEs h1 a1 n t1 h2 a2 d t2) c)) := ⟨i1, rfl, rfl, i2⟩
  refine wpAny_call ?_
  refine' enterL (binds := [(Str.ofString "self", .ref x), (Str.ofString "other", .int k tk)]) [] (List.forall_mem_nil _) X T ?k6 ?k7 ?k8 ?k9 ?kB ?_ ?c2 ?c3 ?c4 ?c5
  walk_at "m_cases"
  intro g' L' h' hg' hL' F' N' X' T'
  obtain rfl : g' = s.heap := hg'
  have q2 := q.2.2.2; have q3 := q.2.1
  have hm1 : IntMulOk n 1 := mulOk_right (by omega)
  have hm2 : IntMulOk k d := mulOk_right (by omega)
  k_steps
  rename Fr _ _ _ _ => F1
  rw [decide_eq_decide.mpr (q.lt_iff (Sx.ofInt k))]
  exact h _ _ F1.keep
theorem frac_eqF {dp un : Nat} {fr : Option (List Env)} {gd : Option (List Code)} {s : Shared} {Q : Value → Shared → Prop} {x y : Addr} {S U : Int}
    (hdp : dp + 10 < recursionLimit) (hu : un + 110 < cLine) (G : Good w mg mb s.heap) (I : FracS s.heap x S) (J : FracS s.heap y U)
    (h : ∀ h' tk, Keep s.heap h' → Q (.bool (decide (S = U))) { s with heap := h', toks := tk }) :
    wpAny (model PP w) (aro dp un fr gd) (call (.ref 274) [.ref x, .ref y]) Q never s := by
  have X := G.X
  have T := G.T
  obtain ⟨n, d, I1, q⟩ := I
  obtain ⟨n', d', J, q'⟩ := J
  obtain ⟨dx, h1, a1, t1, h2, a2, t2, c, i1, i2⟩ := id J
  have I : InstAt s.heap y (instObj 305 dx) 305 (some (dictOf (frEs h1 a1 n' t1 h2 a2 d' t2) c)) := ⟨i1, rfl, rfl, i2⟩
  clear i1 i2
  refine wpAny_call ?_
  refine' enterL (binds := [(Str.ofString "self", .ref x), (Str.ofString "other", .ref y)]) [] (List.forall_mem_nil _) X T ?k6 ?k7 ?k8 ?k9 ?kB ?_ ?c2 ?c3 ?c4 ?c5
  walk_at "m_cases"
  intro g' L' h' hg' hL' F' N' X' T'
  obtain rfl : g' = s.heap := hg'
  k_steps
  rename Fr _ _ _ _ => F1
  have e : (n == n' && d == d') = decide (S = U) := by
    rw [Bool.eq_iff_iff, decide_eq_true_eq, Bool.and_eq_true, beq_iff_eq, beq_iff_eq]
    exact q.eq_iff q'
  rw [e]
  exact h _ _ F1.keep
theorem frac_eqI {dp un : Nat} {fr : Option (List Env)} {gd : Option (List Code)} {s : Shared} {Q : Value → Shared → Prop} {x : Addr} {S k : Int} {tk : Tok}
    (hdp : dp + 10 < recursionLimit) (hu : un + 110 < cLine) (G : Good w mg mb s.heap) (I : FracS s.heap x S)
    (h : ∀ h' tk, Keep s.heap h' → Q (.bool (decide (S = 6 * k))) { s with heap := h', toks := tk }) :
    wpAny (model PP w) (aro dp un fr gd) (call (.ref 274) [.ref x, .int k tk]) Q never s := by
  have X := G.X
  have T := G.T
  obtain ⟨n, d, I1, q⟩ := I
  refine wpAny_call ?_
  refine' enterL (binds := [(Str.ofString "self", .ref x), (Str.ofString "other", .int k tk)]) [] (List.forall_mem_nil _) X T ?k6 ?k7 ?k8 ?k9 ?kB ?_ ?c2 ?c3 ?c4 ?c5
  walk_at "m_cases"
  intro g' L' h' hg' hL' F' N' X' T'
  obtain rfl : g' = s.heap := hg'
  k_steps
  rename Fr _ _ _ _ => F1
  have e : (n == k && d == 1) = decide (S = 6 * k) := by
    rw [Bool.eq_iff_iff, decide_eq_true_eq, Bool.and_eq_true, beq_iff_eq, beq_iff_eq]
    exact q.eq_iff (Sx.ofInt k)
  rw [e]
  exact h _ _ F1.keep

local macro_rules | `(tactic| walk_at "call ref") => `(tactic| ((with_reducible show wpAny _ _ (call (Value.ref 288) [Value.ref _, _]) _ _ _); refine stopHere ?_))
theorem frac_gtF {dp un : Nat} {fr : Option (List Env)} {gd : Option (List Code)} {s : Shared} {Q : Value → Shared → Prop} {x y : Addr} {S U : Int}
    (hdp : dp + 12 < recursionLimit) (hu : un + 130 < cLine) (G : Good w mg mb s.heap) (I : FracS s.heap x S) (J : FracS s.heap y U)
    (h : ∀ h' tk, Keep s.heap h' → Q (.bool (decide (U < S))) { s with heap := h', toks := tk }) :
    wpAny (model PP w) (aro dp un fr gd) (call (.ref 295) [.ref x, .ref y]) Q never s := by
  have X := G.X
  have T := G.T
  obtain ⟨n, d, ⟨dx, h1, a1, t1, h2, a2, t2, c, i1, i2⟩, q⟩ := id I
  obtain ⟨n', d', ⟨dx', h1', a1', t1', h2', a2', t2', c', i1', i2'⟩, q'⟩ := id J
  have I1 : InstAt s.heap x (instObj 305 dx) 305 (some (dictOf (frEs h1 a1 n t1 h2 a2 d t2) c)) := ⟨i1, rfl, rfl, i2⟩
  have J1 : InstAt s.heap y (instObj 305 dx') 305 (some (dictOf (frEs h1' a1' n' t1' h2' a2' d' t2') c')) := ⟨i1', rfl, rfl, i2'⟩
  clear i1 i2 i1' i2'
  refine wpAny_call ?_
  refine' enterL (binds := [(Str.ofString "self", .ref x), (Str.ofString "other", .ref y)]) [] (List.forall_mem_nil _) X T ?k6 ?k7 ?k8 ?k9 ?kB ?_ ?c2 ?c3 ?c4 ?c5
  walk_at "m_cases"
  intro g' L' h' hg' hL' F' N' X' T'
  obtain rfl : g' = s.heap := hg'
  k_steps
  rename Fr _ _ _ _ => F1
  show wpAny _ _ _ _ _ _
  refine frac_leF (mg := mg) (mb := mb) (S := S) (U := U) (by walk_at "m_around") (by walk_at "m_around") ⟨X'.keeps F1.keep, T'.keeps F1.keep⟩ (I.keeps F1.keep) (J.keeps F1.keep) fun h3 tk3 k3 => ?_
  show wpAny _ _ (unaryOp UnaryOp.Not _) _ _ _
  refine not_value (wpAny_truthy_bool ?_)
  rw [show (!decide (S ≤ U)) = decide (U < S) from by rw [Bool.eq_iff_iff, Bool.not_eq_true', decide_eq_false_iff_not, decide_eq_true_eq]; omega]
  exact h _ _ (Keep.trans F1.keep k3)
theorem frac_gtI {dp un : Nat} {fr : Option (List Env)} {gd : Option (List Code)} {s : Shared} {Q : Value → Shared → Prop} {x : Addr} {S k : Int} {tk : Tok}
    (hdp : dp + 12 < recursionLimit) (hu : un + 130 < cLine) (G : Good w mg mb s.heap) (I : FracS s.heap x S)
    (h : ∀ h' tk, Keep s.heap h' → Q (.bool (decide (6 * k < S))) { s with heap := h', toks := tk }) :
    wpAny (model PP w) (aro dp un fr gd) (call (.ref 295) [.ref x, .int k tk]) Q never s := by
  have X := G.X
  have T := G.T
  obtain ⟨n, d, ⟨dx, h1, a1, t1, h2, a2, t2, c, i1, i2⟩, q⟩ := id I
  have I1 : InstAt s.heap x (instObj 305 dx) 305 (some (dictOf (frEs h1 a1 n t1 h2 a2 d t2) c)) := ⟨i1, rfl, rfl, i2⟩
  clear i1 i2
  refine wpAny_call ?_
  refine' enterL (binds := [(Str.ofString "self", .ref x), (Str.ofString "other", .int k tk)]) [] (List.forall_mem_nil _) X T ?k6 ?k7 ?k8 ?k9 ?kB ?_ ?c2 ?c3 ?c4 ?c5
  walk_at "m_cases"
  intro g' L' h' hg' hL' F' N' X' T'
  obtain rfl : g' = s.heap := hg'
  k_steps
  rename Fr _ _ _ _ => F1
  show wpAny _ _ _ _ _ _
  refine frac_leI (mg := mg) (mb := mb) (S := S) (k := k) (by walk_at "m_around") (by walk_at "m_around") ⟨X'.keeps F1.keep, T'.keeps F1.keep⟩ (I.keeps F1.keep) fun h3 tk3 k3 => ?_
  show wpAny _ _ (unaryOp UnaryOp.Not _) _ _ _
  refine not_value (wpAny_truthy_bool ?_)
  rw [show (!decide (S ≤ 6 * k)) = decide (6 * k < S) from by rw [Bool.eq_iff_iff, Bool.not_eq_true', decide_eq_false_iff_not, decide_eq_true_eq]; omega]
  exact h _ _ (Keep.trans F1.keep k3)
local macro_rules | `(tactic| walk_at "call ref") => `(tactic| ((with_reducible show wpAny _ _ (call (Value.ref 218) [Value.ref _, _]) _ _ _); refine stopHere ?_))
local macro_rules | `(tactic| walk_at "call ref") => `(tactic| ((with_reducible show wpAny _ _ (call (Value.ref 246) [Value.ref _, _]) _ _ _); refine stopHere ?_))
theorem frac_radd {dp un : Nat} {fr : Option (List Env)} {gd : Option (List Code)} {s : Shared} {Q : Value → Shared → Prop} {x : Addr} {S k : Int} {tk : Tok}
    (hdp : dp + 12 < recursionLimit) (hu : un + 130 < cLine) (G : Good w mg mb s.heap) (I : FracS s.heap x S)
    (h : ∀ (x dx : Nat) h' tk, NewFrac s.heap h' x dx (S + 6 * k) → Q (.ref x) { s with heap := h', toks := tk }) :
    wpAny (model PP w) (aro dp un fr gd) (call (.ref 225) [.ref x, .int k tk]) Q never s := by
  have X := G.X
  have T := G.T
  obtain ⟨n, d, ⟨dx, h1, a1, t1, h2, a2, t2, c, i1, i2⟩, q⟩ := id I
  have I1 : InstAt s.heap x (instObj 305 dx) 305 (some (dictOf (frEs h1 a1 n t1 h2 a2 d t2) c)) := ⟨i1, rfl, rfl, i2⟩
  clear i1 i2
  refine wpAny_call ?_
  refine' enterL (binds := [(Str.ofString "self", .ref x), (Str.ofString "other", .int k tk)]) [] (List.forall_mem_nil _) X T ?k6 ?k7 ?k8 ?k9 ?kB ?_ ?c2 ?c3 ?c4 ?c5
  walk_at "m_cases"
  intro g' L' h' hg' hL' F' N' X' T'
  obtain rfl : g' = s.heap := hg'
  k_steps
  rename Fr _ _ _ _ => F1
  show wpAny _ _ _ _ _ _
  refine frac_addI (mg := mg) (mb := mb) (S := S) (k := k) (by walk_at "m_around") (by walk_at "m_around") ⟨X'.keeps F1.keep, T'.keeps F1.keep⟩ (I.keeps F1.keep) fun x3 dx3 h3 tk3 Z => ?_
  exact h x3 dx3 _ _ ⟨Keep.trans F1.keep Z.keep, Z.ex, Z.ed, none_of_keep F1.keep Z.zx, none_of_keep F1.keep Z.zd, Z.lt⟩
theorem frac_rmul {dp un : Nat} {fr : Option (List Env)} {gd : Option (List Code)} {s : Shared} {Q : Value → Shared → Prop} {x : Addr} {S k : Int} {tk : Tok}
    (hdp : dp + 12 < recursionLimit) (hu : un + 130 < cLine) (G : Good w mg mb s.heap) (I : FracS s.heap x S) (hk : S.natAbs ≤ 1000 ∨ k.natAbs ≤ 1000)
    (h : ∀ (x dx : Nat) h' tk, NewFrac s.heap h' x dx (S * k) → Q (.ref x) { s with heap := h', toks := tk }) :
    wpAny (model PP w) (aro dp un fr gd) (call (.ref 253) [.ref x, .int k tk]) Q never s := by
  have X := G.X
  have T := G.T
  obtain ⟨n, d, ⟨dx, h1, a1, t1, h2, a2, t2, c, i1, i2⟩, q⟩ := id I
  have I1 : InstAt s.heap x (instObj 305 dx) 305 (some (dictOf (frEs h1 a1 n t1 h2 a2 d t2) c)) := ⟨i1, rfl, rfl, i2⟩
  clear i1 i2
  refine wpAny_call ?_
  refine' enterL (binds := [(Str.ofString "self", .ref x), (Str.ofString "other", .int k tk)]) [] (List.forall_mem_nil _) X T ?k6 ?k7 ?k8 ?k9 ?kB ?_ ?c2 ?c3 ?c4 ?c5
  walk_at "m_cases"
  intro g' L' h' hg' hL' F' N' X' T'
  obtain rfl : g' = s.heap := hg'
  k_steps
  rename Fr _ _ _ _ => F1
  show wpAny _ _ _ _ _ _
  refine frac_mul (mg := mg) (mb := mb) (S := S) (k := k) (by walk_at "m_around") (by walk_at "m_around") ⟨X'.keeps F1.keep, T'.keeps F1.keep⟩ (I.keeps F1.keep) hk fun x3 dx3 h3 tk3 Z => ?_
  exact h x3 dx3 _ _ ⟨Keep.trans F1.keep Z.keep, Z.ex, Z.ed, none_of_keep F1.keep Z.zx, none_of_keep F1.keep Z.zd, Z.lt⟩

end
section
section
variable {prog : Program} {A : Around} {E : Value → Shared → Prop} {s : Shared} {K : Frag} {x y C f : Addr} {ox : Obj} {od : Option Obj} {a : Int} {t : Tok}
/-- the ints' own slots decline an object of an own class -/
theorem int_declines {id nm : String} {dn : Str} {fn : Int → Int → Sem PySem.Fin} {Q : Value → Shared → Prop} (hs : Slot "int" dn id) (he : entryFor table id = some (Builtin.Int.intBinary nm fn)) (ha : argsOk id ⟨[.int a t, .ref x], []⟩)
    (ho : s.heap.get? x = some ox) (hd : ox.data = .plain) (h : Q .notImplemented s) : wpAny (model prog w) A (call (.builtin id) [.int a t, .ref x]) Q E s := by
  refine wpAny_call_entry hs (typeIs_int s a t) he ?_ ha
  show wpAny _ _ (load x >>= _) _ _ s
  obtain ⟨oc, od, da, sl⟩ := ox
  subst hd
  refine wpAny_bind (wpAny_load ho ?_)
  show wpAny _ _ (rule _ >>= _) _ _ s
  exact wpAny_bind (wpAny_rule (wpAny_pure ⟨_, rfl, h⟩))
theorem try_declines {id nm : String} {dn : Str} {fn : Int → Int → Sem PySem.Fin} {Q : Option Value → Shared → Prop} (hs : Slot "int" dn id) (he : entryFor table id = some (Builtin.Int.intBinary nm fn)) (ha : argsOk id ⟨[.int a t, .ref x], []⟩)
    (ho : s.heap.get? x = some ox) (hd : ox.data = .plain) (h : Q none s) : wpAny (model prog w) A (tryMethod (.int a t) dn (.ref x)) Q E s := by
  simp only [tryMethod]
  refine wpAny_bind (wpAny_callSpecial?_slot (typeIs_int s a t) hs (int_declines hs he ha ho hd ?_))
  exact wpAny_pure h
theorem tryC_declines {id nm : String} {dn : Str} {fn : Int → Int → Sem PySem.Fin} {Q : Option Value → Shared → Prop} (hs : Slot "int" dn id) (he : entryFor table id = some (Builtin.Int.intBinary nm fn)) (ha : argsOk id ⟨[.int a t, .ref x], []⟩)
    (ho : s.heap.get? x = some ox) (hd : ox.data = .plain) (h : Q none s) : wpAny (model prog w) A (tryCompare (.int a t) dn (.ref x)) Q E s :=
  wpAny_tryCompare_declines (typeIs_int s a t) hs (int_declines hs he ha ho hd ⟨rfl, h⟩)
/-- an int and an object of an own class: its class's reflected def answers -/
theorem bin1_refl {nm id nm' : String} {fn : Int → Int → Sem PySem.Fin} {r : Addr} {cd : ClassData} {rest : List Value} {Q : Option Value → Shared → Prop} (X : K.In s.heap) (I : InstAt s.heap x ox C od) (hd : ox.data = .plain)
    (hc : clsIn K C = some cd) (hm : cd.mro = .ref C :: rest) (h1 : findIn K (.ref C) (PySem.dunder nm) = some (some (.ref f))) (h2 : findIn K (.ref C) (dunderR nm) = some (some (.ref r))) (hf : isFn K (.ref r) = true)
    (hsub : subIn K (.ref C) (.type "int") = some false) (hfill : fillsNumberSlot (.type "int") nm = pure true)
    (hs : Slot "int" (PySem.dunder nm) id) (he : entryFor table id = some (Builtin.Int.intBinary nm' fn)) (ha : argsOk id ⟨[.int a t, .ref x], []⟩)
    (h : wpAny (model prog w) A (call (.ref r) [.ref x, .int a t]) (W.CmpBack fun v => Q (some v)) E s) : wpAny (model prog w) A (binaryOp1 nm (.int a t) (.ref x)) Q E s := by
  have one : wpAny (model prog w) A (tryMethod (.ref x) (dunderR nm) (.int a t)) (fun r s' => ∃ v, r = some v ∧ Q (some v) s') E s := by
    unfold tryMethod
    refine wpAny_bind (special_fn X I h2 (beq_iff_eq.mp hf) (wpAny_mono h (fun v s' hv => ?_) fun _ _ e => e))
    cases v <;> first | exact hv.elim | exact wpAny_pure ⟨_, rfl, hv⟩
  obtain ⟨hh, g, d, tt, os⟩ := s
  have L1 : Looks (model prog w) hh (typeOf (.ref x)) (.ref C) := I.type
  have L2 : Looks (model prog w) hh (typeOf (.int a t)) (.type "int") := Looks.of_pure rfl
  have L3 : Looks (model prog w) hh (fillsNumberSlot (.ref C) nm) true := fills_K X hc hm h1
  have L4 : Looks (model prog w) hh (fillsNumberSlot (.type "int") nm) true := Looks.of_pure hfill
  have L5 : Looks (model prog w) hh (isSubtype (.ref C) (.type "int")) false := looks_subIn X hsub
  have L7 : Looks (model prog w) hh (numberSlotInPython (.type "int") nm) false := Looks.of_pure rfl
  have hne : (Value.type "int" == Value.ref C) = false := Bool.eq_false_iff.mpr fun q => by cases beq_iff_eq.mp q
  unfold binaryOp1
  refine wpAny_bind (L2.at (wpAny_bind (L1.at (wpAny_bind (L4.at ?_)))))
  simp only [hne, Bool.false_eq_true, if_false]
  ksp_lk
  refine try_declines hs he ha I.at_ hd ?_
  ksp_lk
  refine wpAny_mono one (fun r s' hr' => ?_) fun _ _ e => e
  obtain ⟨v, rfl, hq⟩ := hr'
  ksp_lk
  exact hq
theorem bin_refl {op : Operator} {id nm' : String} {fn : Int → Int → Sem PySem.Fin} {r : Addr} {cd : ClassData} {rest : List Value} {Q : Value → Shared → Prop} (X : K.In s.heap) (I : InstAt s.heap x ox C od) (hd : ox.data = .plain)
    (hc : clsIn K C = some cd) (hm : cd.mro = .ref C :: rest) (h1 : findIn K (.ref C) (PySem.dunder op.info.2) = some (some (.ref f))) (h2 : findIn K (.ref C) (dunderR op.info.2) = some (some (.ref r))) (hf : isFn K (.ref r) = true)
    (hsub : subIn K (.ref C) (.type "int") = some false) (hfill : fillsNumberSlot (.type "int") op.info.2 = pure true)
    (hs : Slot "int" (PySem.dunder op.info.2) id) (he : entryFor table id = some (Builtin.Int.intBinary nm' fn)) (ha : argsOk id ⟨[.int a t, .ref x], []⟩)
    (h : wpAny (model prog w) A (call (.ref r) [.ref x, .int a t]) (W.CmpBack Q) E s) : wpAny (model prog w) A (binaryOp op (.int a t) (.ref x)) Q E s := by
  rcases hi : op.info with ⟨sym, nm⟩
  rw [hi] at h1 h2 hfill hs
  simp only [binaryOp, hi]
  refine wpAny_holding (wpAny_bind (bin1_refl X I hd hc hm h1 h2 hf hsub hfill hs he ha (wpAny_mono h (fun v s' hv => ?_) fun _ _ e => e)))
  cases v <;> first | exact hv.elim | exact wpAny_pure hv
/-- in place, where the left type has no such def: as the plain operator -/
theorem inpl_of_bin1 {op : Operator} {u v tu : Value} {Q : Value → Shared → Prop} (L1 : Looks (model prog w) s.heap (typeOf u) tu) (L2 : Looks (model prog w) s.heap (fillsInplaceSlot tu op.info.2 (op == .Add)) false)
    (h : wpAny (model prog w) A (binaryOp1 op.info.2 u v) (fun r s' => ∃ z, r = some z ∧ Q z s') E s) : wpAny (model prog w) A (inplaceOp op u v) Q E s := by
  unfold inplaceOp
  refine wpAny_holding (wpAny_bind (L1.here (wpAny_bind (L2.here ?_))))
  refine wpAny_bind (wpAny_mono h (fun r s' hr => ?_) fun _ _ e => e)
  obtain ⟨z, rfl, hq⟩ := hr
  exact wpAny_pure hq
/-- an int compared with an object of an own class: its class's reflected def answers -/
theorem cmp_refl {op : CmpOp} {id nm' : String} {fn : Int → Int → Sem PySem.Fin} {Q : Value → Shared → Prop} (hu : A.units < cLine) (X : K.In s.heap) (I : InstAt s.heap x ox C od) (hd : ox.data = .plain)
    (h2 : findIn K (.ref C) (cmpInfo op).2.2 = some (some (.ref f))) (hf : isFn K (.ref f) = true) (hsub : subIn K (.ref C) (.type "int") = some false)
    (hs : Slot "int" (cmpInfo op).2.1 id) (he : entryFor table id = some (Builtin.Int.intBinary nm' fn)) (ha : argsOk id ⟨[.int a t, .ref x], []⟩)
    (h : wpAny (model prog w) A (call (.ref f) [.ref x, .int a t]) (W.CmpBack Q) E s) : wpAny (model prog w) A (richCompare op (.int a t) (.ref x)) Q E s := by
  have one : wpAny (model prog w) A (tryCompare (.ref x) (cmpInfo op).2.2 (.int a t)) (fun r s' => ∃ v, r = some v ∧ Q v s') E s := by
    unfold tryCompare
    refine wpAny_bind (ifBound_K X I h2 hf (wpAny_mono h (fun v s' hv => ?_) fun _ _ e => e))
    cases v <;> first | exact hv.elim | exact wpAny_pure ⟨_, rfl, hv⟩
  have hne : (Value.type "int" != Value.ref C) = true := by simp
  rcases hi : cmpInfo op with ⟨sym, fq, rq⟩
  rw [hi] at one hs
  simp only [richCompare, hi, (typeIs_int s a t).oneThing_none]
  refine wpAny_holding (wpAny_bind (wpAny_cRoomFor hu ?_))
  refine wpAny_bind (wpAny_typeOf (typeIs_int s a t) (wpAny_bind (I.type.here ?_)))
  simp only [hne, if_true]
  refine wpAny_bind ((looks_subIn X hsub).here ?_)
  simp only [Bool.false_eq_true, if_false, Bool.not_false, if_true]
  refine wpAny_bind (m := tryCompare (.int a t) _ (.ref x)) (tryC_declines hs he ha I.at_ hd ?_)
  dsimp only
  refine wpAny_bind (wpAny_mono one (fun r s' z => ?_) fun _ _ e => e)
  obtain ⟨v, rfl, hq⟩ := z
  exact wpAny_pure hq
end
section
variable {prog : Program} {A : Around} {E : Value → Shared → Prop} {s : Shared} {K : Frag} {x y C f : Addr} {ox oy : Obj} {od od' : Option Obj} {b tb : Value}
theorem cmp_own {op : CmpOp} {Q : Value → Shared → Prop} (hu : A.units < cLine) (X : K.In s.heap) (I : InstAt s.heap x ox C od) (hb : Looks (model prog w) s.heap (typeOf b) tb) (hn : notFirst K C tb = true)
    (hs : findIn K (.ref C) (cmpInfo op).2.1 = some (some (.ref f))) (hf : isFn K (.ref f) = true)
    (h : wpAny (model prog w) A (call (.ref f) [.ref x, b]) (W.CmpBack Q) E s) : wpAny (model prog w) A (richCompare op (.ref x) b) Q E s := by
  have one : wpAny (model prog w) A (tryCompare (.ref x) (cmpInfo op).2.1 b) (fun r s' => ∃ v, r = some v ∧ Q v s') E s := by
    unfold tryCompare
    refine wpAny_bind (ifBound_K X I hs hf (wpAny_mono h (fun v s' hv => ?_) fun _ _ e => e))
    cases v <;> first | exact hv.elim | exact wpAny_pure ⟨_, rfl, hv⟩
  unfold richCompare
  simp only [oneThing_ref]
  refine wpAny_holding (wpAny_bind (wpAny_cRoomFor hu ?_))
  refine wpAny_bind (I.type.here (wpAny_bind (hb.here ?_)))
  split
  · rename_i q
    have e : subIn K tb (.ref C) = some false := by
      rcases Bool.or_eq_true_iff.mp hn with e | e
      · rw [beq_iff_eq.mp e] at q; simp at q
      · exact beq_iff_eq.mp e
    refine wpAny_bind ((looks_subIn X e).here ?_)
    simp only [Bool.false_eq_true, if_false]
    refine wpAny_bind (wpAny_mono one (fun r s' z => ?_) fun _ _ e => e)
    obtain ⟨v, rfl, hq⟩ := z
    exact wpAny_pure hq
  · refine wpAny_bind (wpAny_pure ?_)
    simp only [Bool.false_eq_true, if_false]
    refine wpAny_bind (wpAny_mono one (fun r s' z => ?_) fun _ _ e => e)
    obtain ⟨v, rfl, hq⟩ := z
    exact wpAny_pure hq
/-- two instances of one class: the left one's own def answers -/
theorem bin1_own {nm : String} {cd : ClassData} {rest : List Value} {Q : Option Value → Shared → Prop} (X : K.In s.heap) (I : InstAt s.heap x ox C od) (J : InstAt s.heap y oy C od')
    (hc : clsIn K C = some cd) (hm : cd.mro = .ref C :: rest) (h1 : findIn K (.ref C) (PySem.dunder nm) = some (some (.ref f))) (hf : isFn K (.ref f) = true)
    (h : wpAny (model prog w) A (call (.ref f) [.ref x, .ref y]) (W.CmpBack fun v => Q (some v)) E s) : wpAny (model prog w) A (binaryOp1 nm (.ref x) (.ref y)) Q E s := by
  have one : wpAny (model prog w) A (tryMethod (.ref x) (PySem.dunder nm) (.ref y)) (fun r s' => ∃ v, r = some v ∧ Q (some v) s') E s := by
    unfold tryMethod
    refine wpAny_bind (special_fn X I h1 (beq_iff_eq.mp hf) (wpAny_mono h (fun v s' hv => ?_) fun _ _ e => e))
    cases v <;> first | exact hv.elim | exact wpAny_pure ⟨_, rfl, hv⟩
  obtain ⟨hh, g, d, tt, os⟩ := s
  have L1 : Looks (model prog w) hh (typeOf (.ref x)) (.ref C) := I.type
  have L2 : Looks (model prog w) hh (typeOf (.ref y)) (.ref C) := J.type
  have L3 : Looks (model prog w) hh (fillsNumberSlot (.ref C) nm) true := fills_K X hc hm h1
  have hne : (Value.ref C == Value.ref C) = true := by simp
  unfold binaryOp1
  refine wpAny_bind (L1.at (wpAny_bind (L2.at (wpAny_bind (L3.at ?_)))))
  simp only [hne, if_true]
  ksp_lk
  refine wpAny_mono one (fun r s' hr' => ?_) fun _ _ e => e
  obtain ⟨v, rfl, hq⟩ := hr'
  ksp_lk
  exact hq
theorem bin1_ownT {nm T : String} {cd : ClassData} {rest : List Value} {fo ro rc : Option Value} {Q : Option Value → Shared → Prop} (X : K.In s.heap) (I : InstAt s.heap x ox C od) (hb : typeOf b = pure (.type T))
    (hc : clsIn K C = some cd) (hm : cd.mro = .ref C :: rest) (hs : findIn K (.ref C) (PySem.dunder nm) = some (some (.ref f))) (hf : isFn K (.ref f) = true) (hr : findIn K (.ref C) (dunderR nm) = some rc) (hp : rc = none ∨ ∃ g : Addr, rc = some (.ref g))
    (h1 : findIn K (.type T) (PySem.dunder nm) = some fo) (h2 : findIn K (.type T) (dunderR nm) = some ro) (hsub : subIn K (.type T) (.ref C) = some false)
    (h : wpAny (model prog w) A (call (.ref f) [.ref x, b]) (W.CmpBack fun v => Q (some v)) E s) : wpAny (model prog w) A (binaryOp1 nm (.ref x) b) Q E s := by
  have one : wpAny (model prog w) A (tryMethod (.ref x) (PySem.dunder nm) b) (fun r s' => ∃ v, r = some v ∧ Q (some v) s') E s := by
    unfold tryMethod
    refine wpAny_bind (special_fn X I hs (beq_iff_eq.mp hf) (wpAny_mono h (fun v s' hv => ?_) fun _ _ e => e))
    cases v <;> first | exact hv.elim | exact wpAny_pure ⟨_, rfl, hv⟩
  obtain ⟨hh, g, d, tt, os⟩ := s
  have L1 : Looks (model prog w) hh (typeOf (.ref x)) (.ref C) := I.type
  have L2 : Looks (model prog w) hh (typeOf b) (.type T) := Looks.of_pure hb
  have L3 : Looks (model prog w) hh (fillsNumberSlot (.ref C) nm) true := fills_K X hc hm hs
  have L4 : Looks (model prog w) hh (fillsNumberSlot (.type T) nm) ((fo.isSome && !isSeqSlot fo) || (ro.isSome && !isSeqSlot ro)) := ksp_fillsT X h1 h2
  have L5 : Looks (model prog w) hh (isSubtype (.type T) (.ref C)) false := looks_subIn X hsub
  have L6 : Looks (model prog w) hh (numberSlotInPython (.ref C) nm) true := ksp_inPy X hs hr hp
  have L7 : Looks (model prog w) hh (numberSlotInPython (.type T) nm) false := Looks.of_pure rfl
  have L8 : Looks (model prog w) hh (typeLookup (.type T) (dunderR nm)) ro := looks_findIn X h2
  generalize ((fo.isSome && !isSeqSlot fo) || (ro.isSome && !isSeqSlot ro)) = right at L4
  have hne : (Value.ref C == Value.type T) = false := Bool.eq_false_iff.mpr fun q => by cases beq_iff_eq.mp q
  unfold binaryOp1
  refine wpAny_bind (L1.at (wpAny_bind (L2.at (wpAny_bind (L3.at ?_)))))
  simp only [hne, Bool.false_eq_true, if_false]
  cases right with
  | false =>
    ksp_lk
    refine wpAny_mono one (fun r s' hr' => ?_) fun _ _ e => e
    obtain ⟨v, rfl, hq⟩ := hr'
    ksp_lk
    exact hq
  | true =>
    ksp_lk
    refine wpAny_mono one (fun r s' hr' => ?_) fun _ _ e => e
    obtain ⟨v, rfl, hq⟩ := hr'
    ksp_lk
    exact hq
theorem bin_of1 {op : Operator} {u v : Value} {Q : Value → Shared → Prop} (h : wpAny (model prog w) A (binaryOp1 op.info.2 u v) (fun r s' => ∃ z, r = some z ∧ Q z s') E s) : wpAny (model prog w) A (binaryOp op u v) Q E s := by
  rcases hi : op.info with ⟨sym, nm⟩
  rw [hi] at h
  simp only [binaryOp, hi]
  refine wpAny_holding (wpAny_bind (wpAny_mono h (fun r s' hr => ?_) fun _ _ e => e))
  obtain ⟨z, rfl, hq⟩ := hr
  exact wpAny_pure hq
/-- a class without the in-place def -/
theorem noI_K {h : Heap} {nm : String} {cd : ClassData} {add : Bool} (X : K.In h) (hc : clsIn K C = some cd) (hm : cd.mro = [.ref C, .type "object"]) (h1 : findIn K (.ref C) (dunderI nm) = some none) (h2 : findIn K (.type "object") (dunderI nm) = some none) :
    Looks (model prog w) h (fillsInplaceSlot (.ref C) nm add) false := by
  intro A Q E s k q
  have Lm : Looks (model prog w) h (mroOf (.ref C)) cd.mro := (looks_clsIn X hc).andThen (f := fun cd => pure cd.mro) .now
  have Lm' := Lm.keeps k
  obtain ⟨hh, g, d, tt, os⟩ := s
  have X' : K.In hh := X.keeps k
  have L1 : Looks (model prog w) hh (typeLookup (.ref C) (dunderI nm)) none := looks_findIn X' h1
  have L2 : Looks (model prog w) hh (typeLookup (.type "object") (dunderI nm)) none := looks_findIn X' h2
  unfold fillsInplaceSlot
  refine wpAny_bind (Lm'.at ?_)
  rw [hm, List.anyM_cons]
  refine wpAny_bind (wpAny_bind (L1.at ?_))
  dsimp only
  refine wpAny_pure ?_
  simp only [Bool.false_eq_true, if_false]
  rw [List.anyM_cons]
  refine wpAny_bind (wpAny_bind (L2.at ?_))
  dsimp only
  refine wpAny_pure ?_
  simp only [Bool.false_eq_true, if_false, List.anyM_nil]
  exact wpAny_pure q
end

end
section
theorem fc_first : selfFirst (K39 w.params) 305 = true := by k_is
def mroIs (K : Frag) (C : Addr) : Bool := match clsIn K C with
  | some cd => (match cd.mro with | [a, b] => a == .ref C && b == .type "object" | _ => false)
  | none => false
theorem fc_mro : mroIs (K39 w.params) 305 = true := by kernel_rfl
theorem fc_cls : ∃ cd, clsIn (K39 w.params) 305 = some cd ∧ cd.mro = [.ref 305, .type "object"] := by
  have h := fc_mro (w := w)
  unfold mroIs at h
  split at h
  · rename_i cd hc
    refine ⟨cd, hc, ?_⟩
    split at h
    · rename_i a b e
      rw [Bool.and_eq_true] at h
      rw [e, beq_iff_eq.mp h.1, beq_iff_eq.mp h.2]
    · cases h
  · cases h
theorem fc_mul : findIn (K39 w.params) (.ref 305) (PySem.dunder "mul") = some (some (.ref 246)) := by k_is
theorem fc_rmul : findIn (K39 w.params) (.ref 305) (dunderR "mul") = some (some (.ref 253)) := by k_is
theorem fc_add : findIn (K39 w.params) (.ref 305) (PySem.dunder "add") = some (some (.ref 218)) := by k_is
theorem fc_radd : findIn (K39 w.params) (.ref 305) (dunderR "add") = some (some (.ref 225)) := by k_is
theorem fc_iadd : findIn (K39 w.params) (.ref 305) (dunderI "add") = some none := by k_is
theorem fc_oiadd : findIn (K39 w.params) (.type "object") (dunderI "add") = some none := by k_is
theorem fc_imul : findIn (K39 w.params) (.type "int") (PySem.dunder "mul") = some (some (.builtin "int.__mul__")) := by k_is
theorem fc_irmul : findIn (K39 w.params) (.type "int") (dunderR "mul") = some (some (.builtin "int.__rmul__")) := by k_is
theorem fc_eq : findIn (K39 w.params) (.ref 305) (cmpInfo .Eq).2.1 = some (some (.ref 274)) := by k_is
theorem fc_lt : findIn (K39 w.params) (.ref 305) (cmpInfo .Lt).2.1 = some (some (.ref 281)) := by k_is
theorem fc_gt : findIn (K39 w.params) (.ref 305) (cmpInfo .Gt).2.1 = some (some (.ref 295)) := by k_is
theorem fc_ne : findIn (K39 w.params) (.ref 305) (cmpInfo .NotEq).2.1 = some (some (.builtin "object.__ne__")) := by k_is
theorem fc_sub : subIn (K39 w.params) (.ref 305) (.type "int") = some false := by k_is
theorem fc_nfi : notFirst (K39 w.params) 305 (.type "int") = true := by k_is
theorem fc_nff : notFirst (K39 w.params) 305 (.ref 305) = true := by k_is
theorem fc_isub : subIn (K39 w.params) (.type "int") (.ref 305) = some false := by k_is
theorem ff_rmul : isFn (K39 w.params) (.ref 253) = true := by k_is
theorem ff_mul : isFn (K39 w.params) (.ref 246) = true := by k_is
theorem ff_add : isFn (K39 w.params) (.ref 218) = true := by k_is
theorem ff_radd : isFn (K39 w.params) (.ref 225) = true := by k_is
theorem ff_eq : isFn (K39 w.params) (.ref 274) = true := by k_is
theorem ff_lt : isFn (K39 w.params) (.ref 281) = true := by k_is
theorem ff_gt : isFn (K39 w.params) (.ref 295) = true := by k_is

def NumS (h : Heap) (v : Value) (S : Int) : Prop := (∃ k t, v = .int k t ∧ S = 6 * k) ∨ (∃ x, v = .ref x ∧ FracS h x S)
theorem NumS.keeps {h h' : Heap} {v : Value} {S : Int} (I : NumS h v S) (k : Keep h h') : NumS h' v S := by
  rcases I with ⟨a, t, e, q⟩ | ⟨x, e, q⟩
  · exact .inl ⟨a, t, e, q⟩
  · exact .inr ⟨x, e, q.keeps k⟩
theorem NewFrac.num {h h' : Heap} {x dx : Nat} {S : Int} (I : NewFrac h h' x dx S) : NumS h' (.ref x) S := .inr ⟨x, rfl, I.at⟩
theorem FracS.inst {h : Heap} {x : Addr} {S : Int} (I : FracS h x S) : ∃ dx od, InstAt h x (instObj 305 dx) 305 od := by
  obtain ⟨n, d, ⟨dx, h1, a1, t1, h2, a2, t2, c, i1, i2⟩, q⟩ := I
  exact ⟨dx, some (dictOf (frEs h1 a1 n t1 h2 a2 d t2) c), i1, rfl, rfl, i2⟩
section
variable {dp un : Nat} {fr : Option (List Env)} {gd : Option (List Code)} {s : Shared} {Q : Value → Shared → Prop} {x y : Addr} {S U k : Int} {u v : Value} {t tk : Tok}
theorem int_mul_frac (hdp : dp + 20 < recursionLimit) (hu : un + 150 < cLine) (G : Good w mg mb s.heap) (I : FracS s.heap x S) (hk : S.natAbs ≤ 1000 ∨ k.natAbs ≤ 1000)
    (h : ∀ (x dx : Nat) h' tk, NewFrac s.heap h' x dx (S * k) → Q (.ref x) { s with heap := h', toks := tk }) : wpAny (model PP w) (aro dp un fr gd) (binaryOp .Mult (.int k t) (.ref x)) Q never s := by
  obtain ⟨dx, od, J⟩ := I.inst
  obtain ⟨cd, hc, hm⟩ := fc_cls (w := w)
  refine bin_refl (nm' := "__mul__") (id := "int.__mul__") G.X J rfl hc hm fc_mul fc_rmul ff_rmul fc_sub F.fills_int_mul F.slot_int_mul F.entry_int_mul (F.args_int_mul_2 _ _) ?_
  exact frac_rmul (by omega) (by omega) G I hk fun x dx h' tk z => h x dx h' tk z
theorem noI_int {M : Model} {h : Heap} {b : Bool} : Looks M h (fillsInplaceSlot (.type "int") "add" b) false := Looks.of_pure (by simp only [fillsInplaceSlot]; rw [F.noI_int_add]; rfl)
theorem iadd_frac (hdp : dp + 20 < recursionLimit) (hu : un + 150 < cLine) (G : Good w mg mb s.heap) (I : NumS s.heap u S) (J : FracS s.heap y U)
    (h : ∀ (x dx : Nat) h' tk, NewFrac s.heap h' x dx (S + U) → Q (.ref x) { s with heap := h', toks := tk }) : wpAny (model PP w) (aro dp un fr gd) (inplaceOp .Add u (.ref y)) Q never s := by
  obtain ⟨dy, od, Jy⟩ := J.inst
  obtain ⟨cd, hc, hm⟩ := fc_cls (w := w)
  rcases I with ⟨k, t, rfl, rfl⟩ | ⟨x, rfl, I⟩
  · refine inpl_of_bin1 (tu := .type "int") ?c1 ?c2 ?c3
    case c1 => exact Looks.of_pure rfl
    case c2 => exact noI_int
    show wpAny _ _ (binaryOp1 "add" _ _) _ _ _
    refine bin1_refl (nm := "add") (nm' := "__add__") (id := "int.__add__") G.X Jy rfl hc hm fc_add fc_radd ff_radd fc_sub F.fills_int_add F.slot_int_add F.entry_int_add (F.args_int_add_2 _ _) ?_
    refine frac_radd (by omega) (by omega) G J fun x dx h' tk z => ⟨_, rfl, h x dx h' tk ?_⟩
    rw [Int.add_comm]; exact z
  · obtain ⟨dx, od', Jx⟩ := I.inst
    refine inpl_of_bin1 (tu := .ref 305) Jx.type (noI_K (nm := "add") G.X hc hm fc_iadd fc_oiadd) ?_
    show wpAny _ _ (binaryOp1 "add" _ _) _ _ _
    refine bin1_own (nm := "add") G.X Jx Jy hc hm fc_add ff_add ?_
    exact frac_addF (by omega) (by omega) G I J fun x dx h' tk z => ⟨_, rfl, h x dx h' tk z⟩
theorem gt_num (hdp : dp + 20 < recursionLimit) (hu : un + 150 < cLine) (G : Good w mg mb s.heap) (I : NumS s.heap u S) (J : NumS s.heap v U)
    (h : ∀ h' tk, Keep s.heap h' → Q (.bool (decide (U < S))) { s with heap := h', toks := tk }) : wpAny (model PP w) (aro dp un fr gd) (richCompare .Gt u v) Q never s := by
  have hu' : (aro dp un fr gd).units < cLine := by show un < _; omega
  rcases I with ⟨k, t, rfl, rfl⟩ | ⟨x, rfl, I⟩
  · rcases J with ⟨l, t', rfl, rfl⟩ | ⟨y, rfl, J⟩
    · show wpAny _ _ (compareOp .Gt _ _) _ _ _
      refine gt_int ?_
      have := h s.heap s.toks Keep.rfl'
      rw [decide_eq_decide.mpr (show 6 * l < 6 * k ↔ l < k by omega)] at this
      exact this
    · obtain ⟨dy, od, Jy⟩ := J.inst
      refine cmp_refl (op := .Gt) (nm' := "__gt__") (id := "int.__gt__") hu' G.X Jy rfl fc_lt ff_lt fc_sub F.slot_int_gt F.entry_int_gt (F.args_int_gt_2 _ _) ?_
      exact frac_ltI (by omega) (by omega) G J fun h' tk z => h h' tk z
  · obtain ⟨dx, od', Jx⟩ := I.inst
    rcases J with ⟨l, t', rfl, rfl⟩ | ⟨y, rfl, J⟩
    · refine cmp_own hu' G.X Jx (Looks.of_pure rfl) fc_nfi fc_gt ff_gt ?_
      exact frac_gtI (by omega) (by omega) G I fun h' tk z => h h' tk z
    · obtain ⟨dy, od, Jy⟩ := J.inst
      refine cmp_own hu' G.X Jx Jy.type fc_nff fc_gt ff_gt ?_
      exact frac_gtF (by omega) (by omega) G I J fun h' tk z => h h' tk z
theorem eq_num (hdp : dp + 20 < recursionLimit) (hu : un + 150 < cLine) (G : Good w mg mb s.heap) (I : NumS s.heap u S) (J : NumS s.heap v U)
    (h : ∀ h' tk, Keep s.heap h' → Q (.bool (decide (S = U))) { s with heap := h', toks := tk }) : wpAny (model PP w) (aro dp un fr gd) (richCompare .Eq u v) Q never s := by
  have hu' : (aro dp un fr gd).units < cLine := by show un < _; omega
  rcases I with ⟨k, t, rfl, rfl⟩ | ⟨x, rfl, I⟩
  · rcases J with ⟨l, t', rfl, rfl⟩ | ⟨y, rfl, J⟩
    · show wpAny _ _ (compareOp .Eq _ _) _ _ _
      refine PyProof.Rows.eq_int ?_
      have := h s.heap s.toks Keep.rfl'
      rw [decide_eq_decide.mpr (show 6 * k = 6 * l ↔ k = l by omega)] at this
      exact this
    · obtain ⟨dy, od, Jy⟩ := J.inst
      refine cmp_refl (op := .Eq) (nm' := "__eq__") (id := "int.__eq__") hu' G.X Jy rfl fc_eq ff_eq fc_sub F.slot_int_eq F.entry_int_eq (F.args_int_eq_2 _ _) ?_
      refine frac_eqI (by omega) (by omega) G J fun h' tk z => ?_
      have := h h' tk z
      rwa [decide_eq_decide.mpr (show 6 * k = U ↔ U = 6 * k by omega)] at this
  · obtain ⟨dx, od', Jx⟩ := I.inst
    rcases J with ⟨l, t', rfl, rfl⟩ | ⟨y, rfl, J⟩
    · refine cmp_own hu' G.X Jx (Looks.of_pure rfl) fc_nfi fc_eq ff_eq ?_
      exact frac_eqI (by omega) (by omega) G I fun h' tk z => h h' tk z
    · obtain ⟨dy, od, Jy⟩ := J.inst
      refine cmp_own hu' G.X Jx Jy.type fc_nff fc_eq ff_eq ?_
      exact frac_eqF (by omega) (by omega) G I J fun h' tk z => h h' tk z
end

end
section
section
variable {prog : Program} {M : Model} {A : Around} {E : Value → Shared → Prop} {s : Shared} {K : Frag} {x C f : Addr} {ox : Obj} {od : Option Obj} {rest args : List Value} {id owner n : String} {name : Str}
theorem ifBound_bi {Q : Option Value → Shared → Prop} (X : K.In s.heap) (I : InstAt s.heap x ox C od) (hs : findIn K (.ref C) name = some (some (.builtin id))) (hb : ∀ self, bindSpecial (.builtin id) self = pure (.builtin id, [self]))
    (h : wpAny M A (call (.builtin id) (.ref x :: args)) (fun v => Q (some v)) E s) : wpAny M A (callSpecialIfBound? (.ref x) name args) Q E s := by
  simp only [callSpecialIfBound?, bindSpecialIfBound?]
  refine wpAny_holding (wpAny_bind (wpAny_bind (wpAny_bind (I.type.here ((looks_findIn X hs).here ?_)))))
  refine wpAny_bind (wpAny_askSetting (wpAny_ite ?_))
  have fin : wpAny M A (call (.builtin id) ([.ref x] ++ args) >>= fun v => pure (some v)) Q E s := wpAny_bind (wpAny_mono h (fun v s' h' => wpAny_pure h') fun _ _ h' => h')
  simp only [hb]
  split
  · exact wpAny_bind (wpAny_pure (wpAny_pure (by exact fin)))
  · exact wpAny_tryCatch (wpAny_bind (wpAny_pure (wpAny_pure (by exact fin))))
/-- a builtin slot of a base is called on an object of an own class of an own class -/
theorem call_bi {b : Builtin} {Q : Value → Shared → Prop} (X : K.In s.heap) (I : InstAt s.heap x ox C od) (hk : builtinKind id = some .slot) (hs : splitId id = some (owner, n)) (hp : plainId id = true) (he : entryFor table id = some b)
    (ha : argsOk id ⟨.ref x :: rest, []⟩) (hm : mroIn K C (.type owner) = some true)
    (h : wpAny (model prog w) A.in1 (b ⟨.ref x :: rest, []⟩) (fun fin s' => ∃ v, fin = .done (.ret v) ∧ Q v s') E s) : wpAny (model prog w) A (call (.builtin id) (.ref x :: rest)) Q E s := by
  refine wpAny_call (codeAny_call_builtin hp he (check_slot hk hs (I.type.andThen (looks_mroIn X hm)) ha (wpAny_mono h (fun fin s' h' => ?_) fun _ _ h' => h')))
  obtain ⟨v, rfl, hv⟩ := h'; exact hv
def BoolRes (Q : Value → Shared → Prop) (v : Value) (s' : Shared) : Prop := ∃ b, v = .bool b ∧ Q (.bool (!b)) s'
/-- != of an object of an own class whose class has an == of its own and no != -/
theorem ne_own {b tb : Value} {Q : Value → Shared → Prop} (hu : A.units + 1 < cLine) (X : K.In s.heap) (I : InstAt s.heap x ox C od) (hb : Looks (model prog w) s.heap (typeOf b) tb) (hn : notFirst K C tb = true)
    (hs : findIn K (.ref C) (cmpInfo .NotEq).2.1 = some (some (.builtin "object.__ne__"))) (he : findIn K (.ref C) "__eq__" = some (some (.ref f))) (hf : isFn K (.ref f) = true) (hm : mroIn K C (.type "object") = some true)
    (h : wpAny (model prog w) A.in1 (call (.ref f) [.ref x, b]) (BoolRes Q) E s) : wpAny (model prog w) A (richCompare .NotEq (.ref x) b) Q E s := by
  have one : wpAny (model prog w) A (tryCompare (.ref x) (cmpInfo .NotEq).2.1 b) (fun r s' => ∃ v, r = some v ∧ Q v s') E s := by
    unfold tryCompare
    refine wpAny_bind (ifBound_bi X I hs (CmpFacts.ne F.cmp_object).bind (call_bi X I F.cmpKind_ne F.cmpSplit_ne (CmpFacts.ne F.cmp_object).plain F.cmpEntry_ne (F.cmpArgs_ne _ _) hm ?_))
    unfold Builtin.«object.__ne__»
    refine wpAny_bind (m := slotArgs "__ne__" 1 _) (wpAny_pure ?_)
    refine wpAny_bind (m := cRoomFor _ _) (wpAny_cRoomFor hu ?_)
    refine wpAny_bind (m := callSpecialIfBound? (.ref x) (Str.ofString "__eq__") _) (ifBound_K X I he hf (wpAny_mono h (fun r s' hr => ?_) fun _ _ y => y))
    obtain ⟨c, rfl, hq⟩ := hr
    refine wpAny_bind (wpAny_truthy_bool ?_)
    exact wpAny_pure ⟨_, rfl, wpAny_pure ⟨_, rfl, hq⟩⟩
  unfold richCompare
  simp only [oneThing_ref]
  refine wpAny_holding (wpAny_bind (wpAny_cRoomFor (Nat.lt_of_succ_lt hu) ?_))
  refine wpAny_bind (I.type.here (wpAny_bind (hb.here ?_)))
  split
  · rename_i q
    have e : subIn K tb (.ref C) = some false := by
      rcases Bool.or_eq_true_iff.mp hn with e | e
      · rw [beq_iff_eq.mp e] at q; simp at q
      · exact beq_iff_eq.mp e
    refine wpAny_bind ((looks_subIn X e).here ?_)
    simp only [Bool.false_eq_true, if_false]
    refine wpAny_bind (wpAny_mono one (fun r s' z => ?_) fun _ _ e => e)
    obtain ⟨v, rfl, hq⟩ := z
    exact wpAny_pure hq
  · refine wpAny_bind (wpAny_pure ?_)
    simp only [Bool.false_eq_true, if_false]
    refine wpAny_bind (wpAny_mono one (fun r s' z => ?_) fun _ _ e => e)
    obtain ⟨v, rfl, hq⟩ := z
    exact wpAny_pure hq
end
theorem fc_mobj : mroIn (K39 w.params) 305 (.type "object") = some true := by k_is
theorem fc_radd' : True := trivial
section
variable {dp un : Nat} {fr : Option (List Env)} {gd : Option (List Code)} {s : Shared} {Q : Value → Shared → Prop} {x y : Addr} {S U k : Int} {u v : Value} {t tk : Tok}
theorem ne_num_int (hdp : dp + 20 < recursionLimit) (hu : un + 150 < cLine) (G : Good w mg mb s.heap) (I : NumS s.heap u S)
    (h : ∀ h' tk, Keep s.heap h' → Q (.bool (!decide (S = 6 * k))) { s with heap := h', toks := tk }) : wpAny (model PP w) (aro dp un fr gd) (compareOp .NotEq u (.int k t)) Q never s := by
  rcases I with ⟨l, t', rfl, rfl⟩ | ⟨x, rfl, I⟩
  · refine ne_int ?_
    have := h s.heap s.toks Keep.rfl'
    rw [decide_eq_decide.mpr (show 6 * l = 6 * k ↔ l = k by omega)] at this
    first | exact this | simpa using this
  · obtain ⟨dx, od', Jx⟩ := I.inst
    show wpAny _ _ (richCompare .NotEq _ _) _ _ _
    refine ne_own (by show un + 1 < _; omega) G.X Jx (Looks.of_pure rfl) fc_nfi fc_ne fc_eq ff_eq fc_mobj ?_
    exact frac_eqI (dp := dp) (un := un + 1) (fr := fr) (gd := gd) (by omega) (by omega) G I fun h' tk z => ⟨_, rfl, h h' tk z⟩
theorem num_mul_int (hdp : dp + 20 < recursionLimit) (hu : un + 150 < cLine) (G : Good w mg mb s.heap) (I : NumS s.heap u S) (hk : k.natAbs ≤ 1000)
    (h : ∀ z h' tk, Keep s.heap h' → NumS h' z (S * k) → Q z { s with heap := h', toks := tk }) : wpAny (model PP w) (aro dp un fr gd) (binaryOp .Mult u (.int k t)) Q never s := by
  rcases I with ⟨l, t', rfl, rfl⟩ | ⟨x, rfl, I⟩
  · refine mul_int ?_ (mulOk_right (by omega))
    exact h _ s.heap _ Keep.rfl' (.inl ⟨_, _, rfl, Int.mul_assoc ..⟩)
  · obtain ⟨dx, od, Jx⟩ := I.inst
    obtain ⟨cd, hc, hm⟩ := fc_cls (w := w)
    refine bin_of1 (op := .Mult) ?_
    show wpAny _ _ (binaryOp1 "mul" _ _) _ _ _
    refine bin1_ownT (nm := "mul") (T := "int") G.X Jx rfl hc hm fc_mul ff_mul fc_rmul (.inr ⟨_, rfl⟩) fc_imul fc_irmul fc_isub ?_
    exact frac_mul (by omega) (by omega) G I (.inr hk) fun x dx h' tk z => ⟨_, rfl, h _ h' tk z.keep z.num⟩
end

end
section
/-- the sixteen sets of candidates, each in order -/
def sub4 : List (List Nat) := [[], [0], [1], [0, 1], [2], [0, 2], [1, 2], [0, 1, 2], [3], [0, 3], [1, 3], [0, 1, 3], [2, 3], [0, 2, 3], [1, 2, 3], [0, 1, 2, 3]]
theorem sub4_cases {p : List Nat → Prop} {S : List Nat} (h : S ∈ sub4) (hp : ∀ S ∈ sub4, p S) : p S := hp S h
def ins4 (k : Nat) (S : List Nat) : List Nat := S.filter (· < k) ++ k :: S.filter (k < ·)
def cEs (S : List Nat) (tf : Nat → Tok) : Array (Int × Value) := (S.map fun k : Nat => ((k : Int), Value.int (k : Int) (tf k))).toArray
def cTb (S : List Nat) (led : Bool) : SetTable := { mask := 7, place := S.toArray, dummies := #[], finger := 0, led, moves := 0, plain := true }
def updT (tf : Nat → Tok) (k : Nat) (t : Tok) : Nat → Tok := fun i => if i = k then t else tf i
/-- a set of candidates as an object; the reader's order of a set may be told by the world -/
def CObj (w : World) (c : Value) (d : Option Addr) (S : List Nat) (o : Obj) : Prop :=
  S ∈ sub4 ∧ ∃ tf ep led, o = { cls := c, dict := d, data := .set (cEs S tf) ep (cTb S led) } ∧ (w.params.followText "set-order" = false → led = true)
theorem cTb_fits {S : List Nat} {tf : Nat → Tok} {led : Bool} (h : S ∈ sub4) : (cTb S led).fits (cEs S tf).size = true := by
  simp only [sub4, List.mem_cons, List.not_mem_nil, or_false] at h
  rcases h with rfl | rfl | rfl | rfl | rfl | rfl | rfl | rfl | rfl | rfl | rfl | rfl | rfl | rfl | rfl | rfl <;> rfl
theorem cEs_size {S : List Nat} {tf : Nat → Tok} : (cEs S tf).size = S.length := by simp [cEs]
theorem sub4_le {S : List Nat} (h : S ∈ sub4) : S.length ≤ 4 := by
  have : ∀ S ∈ sub4, S.length ≤ 4 := by decide
  exact this S h
theorem ins4_mem {S : List Nat} {k : Nat} (h : S ∈ sub4) (hk : k < 4) (hn : k ∉ S) : ins4 k S ∈ sub4 := by
  have : ∀ S ∈ sub4, ∀ k < 4, k ∉ S → ins4 k S ∈ sub4 := by decide
  exact this S h k hk hn
theorem layNew_c {S : List Nat} {tf : Nat → Tok} {led : Bool} {k : Nat} {t : Tok} (h : S ∈ sub4) (hk : k < 4) (hn : k ∉ S) :
    layNew (cTb S led) (cEs S tf) k (.int k t) = (cEs (ins4 k S) (updT tf k t), cTb (ins4 k S) led, false, false) := by
  have h4 : k = 0 ∨ k = 1 ∨ k = 2 ∨ k = 3 := by omega
  simp only [sub4, List.mem_cons, List.not_mem_nil, or_false] at h
  rcases h with rfl | rfl | rfl | rfl | rfl | rfl | rfl | rfl | rfl | rfl | rfl | rfl | rfl | rfl | rfl | rfl <;> rcases h4 with rfl | rfl | rfl | rfl <;>
    first | exact absurd (by decide) hn | kernel_rfl
theorem cTb_full {S : List Nat} {led : Bool} (h : S ∈ sub4) : (cTb S led).tooFull = false := by
  simp only [sub4, List.mem_cons, List.not_mem_nil, or_false] at h
  rcases h with rfl | rfl | rfl | rfl | rfl | rfl | rfl | rfl | rfl | rfl | rfl | rfl | rfl | rfl | rfl | rfl <;> rfl
theorem cEs_mem {S : List Nat} {tf : Nat → Tok} {e : Int × Value} : e ∈ (cEs S tf).toList ↔ ∃ k : Nat, k ∈ S ∧ e = ((k : Int), Value.int (k : Int) (tf k)) := by
  simp only [cEs, List.mem_map]
  exact ⟨fun ⟨k, a, b⟩ => ⟨k, a, b.symm⟩, fun ⟨k, a, b⟩ => ⟨k, a, b.symm⟩⟩
theorem hash4 {prog : Program} {k : Nat} (hk : k < 4) : (intKind prog w).hash (k : Int) = (k : Int) := by
  have h4 : k = 0 ∨ k = 1 ∨ k = 2 ∨ k = 3 := by omega
  rcases h4 with rfl | rfl | rfl | rfl <;> rfl
theorem sub4_lt {S : List Nat} {k : Nat} (h : S ∈ sub4) (hk : k ∈ S) : k < 4 := by
  have : ∀ S ∈ sub4, ∀ k ∈ S, k < 4 := by decide
  exact this S h k hk
theorem cEs_elems {prog : Program} {S : List Nat} {tf : Nat → Tok} (h : S ∈ sub4) : ElemsOf (intKind prog w) (cEs S tf).toList := by
  intro e he
  obtain ⟨k, hk, rfl⟩ := cEs_mem.mp he
  exact ⟨⟨(k : Int), intKind_is _ _ _ _, (hash4 (sub4_lt h hk)).symm⟩, rfl⟩
section
variable {prog : Program} {A : Around} {E : Value → Shared → Prop} {s : Shared} {a : Addr} {c : Value} {d : Option Addr} {S : List Nat} {o : Obj} {tf : Nat → Tok} {ep : Nat} {led : Bool}
abbrev cObj (c : Value) (d : Option Addr) (S : List Nat) (tf : Nat → Tok) (ep : Nat) (led : Bool) : Obj := { cls := c, dict := d, data := .set (cEs S tf) ep (cTb S led) }
theorem state_c {Q : (Array (Int × Value) × Nat × SetTable) → Shared → Prop} (hS : S ∈ sub4) (ho : s.heap.get? a = some (cObj c d S tf ep led)) (h : Q (cEs S tf, ep, cTb S led) s) : wpAny (model prog w) A (setState a) Q E s :=
  wpAny_setState_of ho rfl (cTb_fits hS) h
theorem findIdx_c {prog : Program} {k : Nat} (hS : S ∈ sub4) (hk : k < 4) : ((cEs S tf).toList.findIdx? (fun e => (intKind prog w).is (k : Int) e.2)).isSome = decide (k ∈ S) := by
  rw [Bool.eq_iff_iff, decide_eq_true_eq, List.findIdx?_isSome, List.any_eq_true]
  constructor
  · rintro ⟨e, he, hp⟩
    obtain ⟨j, hj, rfl⟩ := cEs_mem.mp he
    have := (intKind prog w).inj _ _ _ hp (intKind_is _ _ _ _)
    have : k = j := by omega
    rwa [this]
  · intro hk
    exact ⟨_, cEs_mem.mpr ⟨k, hk, rfl⟩, intKind_is _ _ _ _⟩
theorem scan_c {k : Nat} {t : Tok} {adding : Bool} {Q : ScanMet → Shared → Prop} (hS : S ∈ sub4) (hk : k < 4) (ho : s.heap.get? a = some (cObj c d S tf ep led))
    (h : Q (match (cEs S tf).toList.findIdx? (fun e => (intKind prog w).is (k : Int) e.2) with | some j => .found (0 + j) | none => .absent) s) :
    wpAny (model prog w) A (setScan a (.int k t) k adding (cEs S tf)) Q E s := by
  have := wpAny_setScan_of (prog := prog) (w := w) (knd := intKind prog w) (k := (k : Int)) (A := A) (E := E) (x := .int k t) (adding := adding) (s := s) (a := a) (Q := Q) (intKind_is _ _ _ _) ho rfl (cTb_fits hS) (cEs_elems hS) h
  rwa [hash4 hk] at this
theorem find_c {k : Nat} {t : Tok} {Q : Option Nat → Shared → Prop} (hS : S ∈ sub4) (hk : k < 4) (ho : s.heap.get? a = some (cObj c d S tf ep led))
    (h : ∀ r : Option Nat, r.isSome = decide (k ∈ S) → Q r s) : wpAny (model prog w) A (setFind a (.int k t) k) Q E s := by
  unfold setFind setFindIn
  refine wpAny_bind (state_c hS ho ?_)
  dsimp only
  rw [byScan_of (knd := intKind prog w) rfl (by rw [cEs_size]; have := sub4_le hS; unfold scanBound; omega) (cEs_elems hS)]
  simp only [↓reduceIte]
  refine wpAny_bind (wpAny_rule ?_)
  refine wpAny_bind (scan_c hS hk ho ?_)
  have := findIdx_c (tf := tf) (prog := prog) (w := w) hS hk
  cases hr : List.findIdx? (fun e => (intKind prog w).is (k : Int) e.2) (cEs S tf).toList with
  | none => rw [hr] at this; exact wpAny_pure (h none this)
  | some j => rw [hr] at this; exact wpAny_pure (h (some (0 + j)) this)
theorem add_c {k : Nat} {t : Tok} {Q : Bool → Shared → Prop} (hS : S ∈ sub4) (hk : k < 4) (ho : s.heap.get? a = some (cObj c d S tf ep led))
    (h1 : k ∈ S → Q false s) (h2 : k ∉ S → ∀ h' tf', Heap.SameBut a s.heap h' → h'.get? a = some (cObj c d (ins4 k S) tf' (ep + 1) led) → Q true { s with heap := h' }) :
    wpAny (model prog w) A (setAddHashed a (.int k t) k) Q E s := by
  unfold setAddHashed setAddHashedIn
  refine wpAny_holding (wpAny_bind (state_c hS ho ?_))
  dsimp only
  rw [byScan_of (knd := intKind prog w) rfl (by rw [cEs_size]; have := sub4_le hS; unfold scanBound; omega) (cEs_elems hS)]
  simp only [↓reduceIte]
  unfold setAddByScan
  refine wpAny_bind ?_
  refine wpAny_bind (wpAny_rule ?_)
  refine wpAny_bind (scan_c hS hk ho ?_)
  have hf := findIdx_c (tf := tf) (prog := prog) (w := w) hS hk
  cases hr : List.findIdx? (fun e => (intKind prog w).is (k : Int) e.2) (cEs S tf).toList with
  | some j =>
    rw [hr] at hf
    exact wpAny_pure (wpAny_pure (h1 (of_decide_eq_true hf.symm)))
  | none =>
    rw [hr] at hf
    have hn : k ∉ S := of_decide_eq_false hf.symm
    dsimp only
    rw [layNew_c hS hk hn]
    dsimp only
    refine wpAny_bind (wpAny_pure ?_)
    show wpAny _ _ (if (cTb (ins4 k S) led).plain = true then _ else _) _ _ _
    rw [if_pos (show (cTb (ins4 k S) led).plain = true from rfl)]
    refine wpAny_bind ?_
    rw [hashByValue_scannable 8 rfl]
    refine wpAny_pure ?_
    show wpAny _ _ (storeSet _ _ (if plainKind _ = true then _ else _) >>= _) _ _ _
    rw [if_pos (show plainKind (.int k t) = true from rfl)]
    refine wpAny_bind (wpAny_storeSet_of ho rfl ?_ (by rw [cEs_size]; have := sub4_le (ins4_mem hS hk hn); rw [sizeLine_eq]; omega))
    rw [cTb_full (ins4_mem hS hk hn)]
    simp only [Bool.not_false, Bool.and_false, Bool.false_eq_true, ↓reduceIte]
    refine wpAny_pure (wpAny_pure (h2 hn _ (updT tf k t) (Heap.SameBut.update ..) ?_))
    have := Heap.get?_update_self (Obj.putSet (cEs (ins4 k S) (updT tf k t)) (cTb (ins4 k S) led)) ho (by rw [putSet_of _ _ rfl]; rfl)
    rw [putSet_of _ _ rfl] at this
    exact this
end

end
section
theorem eraseIdx_map' {α β : Type} (f : α → β) : ∀ (l : List α) (i : Nat), (l.map f).eraseIdx i = (l.eraseIdx i).map f
  | [], _ => rfl
  | _ :: _, 0 => rfl
  | a :: l, i + 1 => by simp [List.eraseIdx_cons_succ, eraseIdx_map' f l i]
theorem cons_eraseIdx_perm {α : Type} : ∀ (l : List α) (i : Nat) (h : i < l.length), (l[i] :: l.eraseIdx i).Perm l
  | _ :: _, 0, _ => .rfl
  | a :: l, i + 1, h => by
    simp only [List.getElem_cons_succ, List.eraseIdx_cons_succ]
    exact (List.Perm.swap _ _ _).trans ((cons_eraseIdx_perm l i (by simpa using h)).cons a)
theorem go_map {α β : Type} (f : α → β) (next : Nat → Nat) : ∀ (fuel k : Nat) (left : List α) (out : Array α), pickOrder.go next fuel k (left.map f) (out.map f) = (pickOrder.go next fuel k left out).map f
  | 0, _, _, _ => rfl
  | fuel + 1, k, left, out => by
    unfold pickOrder.go
    rw [List.length_map, List.getElem?_map]
    cases left[next k % left.length]? with
    | none => rfl
    | some x =>
      simp only [Option.map_some]
      rw [← go_map f next fuel (k + 1), Array.map_push, eraseIdx_map']
theorem go_perm {α : Type} (next : Nat → Nat) : ∀ (fuel k : Nat) (left : List α) (out : Array α), left.length ≤ fuel → (pickOrder.go next fuel k left out).toList.Perm (out.toList ++ left)
  | 0, _, left, out, h => by
    have : left = [] := List.length_eq_zero_iff.mp (Nat.le_zero.mp h)
    subst this
    simp [pickOrder.go]
  | fuel + 1, k, left, out, h => by
    unfold pickOrder.go
    cases hx : left[next k % left.length]? with
    | none =>
      have : left = [] := by
        cases left with
        | nil => rfl
        | cons a l =>
          rw [List.getElem?_eq_none_iff] at hx
          exact absurd (Nat.mod_lt (next k) (show 0 < (a :: l).length by simp)) (Nat.not_lt.mpr hx)
      subst this
      simp
    | some x =>
      dsimp only
      have hlt : next k % left.length < left.length := (List.getElem?_eq_some_iff.mp hx).1
      have hxx : left[next k % left.length] = x := (List.getElem?_eq_some_iff.mp hx).2
      refine (go_perm next fuel (k + 1) _ _ (by rw [List.length_eraseIdx_of_lt hlt]; omega)).trans ?_
      rw [Array.toList_push, List.append_assoc]
      refine List.Perm.append_left _ ?_
      have := cons_eraseIdx_perm left _ hlt
      rw [hxx] at this
      exact this
/-- the order in which a set of candidates is walked -/
def ordW (w : World) (a : Addr) (ep : Nat) (S : List Nat) : List Nat := if w.params.followText "set-order" then (pickOrder (w.params.setOrder a ep) S.toArray).toList else S
theorem ordW_perm {a : Addr} {ep : Nat} {S : List Nat} : (ordW w a ep S).Perm S := by
  unfold ordW
  split
  · have := go_perm (w.params.setOrder a ep) S.length 0 S #[] (Nat.le_refl _)
    simpa [pickOrder] using this
  · exact .rfl
theorem ordW_es {a : Addr} {ep : Nat} {S : List Nat} {tf : Nat → Tok} (h : w.params.followText "set-order" = true) : pickOrder (w.params.setOrder a ep) (cEs S tf) = cEs (ordW w a ep S) tf := by
  have := go_map (fun k : Nat => ((k : Int), Value.int (k : Int) (tf k))) (w.params.setOrder a ep) S.length 0 S #[]
  unfold ordW
  rw [if_pos h]
  simp only [pickOrder, cEs]
  rw [List.size_toArray, List.length_map]
  simp only [List.map_toArray, List.map_nil, Array.map_empty] at this
  rw [this]
  apply Array.ext'
  simp
section
variable {prog : Program} {A : Around} {E : Value → Shared → Prop} {s : Shared} {a : Addr} {c : Value} {d : Option Addr} {S : List Nat} {o : Obj} {tf : Nat → Tok} {ep : Nat} {led : Bool}
theorem text_c {Q : Bool → Shared → Prop} (h : Q (w.params.followText "set-order") s) : wpAny (model prog w) A setsByText Q E s := by
  unfold setsByText
  exact wpAny_bind (wpAny_askSetting (wpAny_pure h))
theorem walk_c {Q : Array (Int × Value) → Shared → Prop} (hS : S ∈ sub4) (ho : s.heap.get? a = some (cObj c d S tf ep led)) (hl : w.params.followText "set-order" = false → led = true)
    (h : Q (cEs (ordW w a ep S) tf) s) : wpAny (model prog w) A (setWalk a) Q E s := by
  unfold setWalk
  refine wpAny_bind (state_c hS ho ?_)
  dsimp only
  refine wpAny_bind (text_c ?_)
  cases ht : w.params.followText "set-order" with
  | true =>
    simp only [if_true]
    refine wpAny_bind (wpAny_askSetting ?_)
    show wpAny _ _ (pure (pickOrder (w.params.setOrder a ep) (cEs S tf))) _ _ _
    rw [ordW_es ht]
    exact wpAny_pure h
  | false =>
    have := hl ht
    subst this
    rw [show ordW w a ep S = S by unfold ordW; rw [if_neg (by rw [ht]; decide)]] at h
    simp only [Bool.false_eq_true, if_false]
    exact wpAny_pure h
theorem unseen_c {others : List Addr} {filled : Option Addr} {Q : Array (Int × Value) → Shared → Prop} (hS : S ∈ sub4) (ho : s.heap.get? a = some (cObj c d S tf ep led)) (hl : w.params.followText "set-order" = false → led = true)
    (h : Q (cEs (ordW w a ep S) tf) s) : wpAny (model prog w) A (setWalkUnseen a others filled) Q E s := by
  unfold setWalkUnseen
  refine wpAny_bind (state_c hS ho ?_)
  dsimp only
  refine wpAny_bind (text_c ?_)
  have : (w.params.followText "set-order" || ((cTb S led).led && (cTb S led).plain) || decide ((cEs S tf).size ≤ 1)) = true := by
    cases ht : w.params.followText "set-order" with
    | true => rfl
    | false => rw [hl ht]; rfl
  rw [this]
  simp only [if_true]
  exact walk_c hS ho hl h
end

end
section
/-- what a class of sets answers: the builtin one, and the program's own -/
structure SetCls (w : World) (h : Heap) (c : Value) : Prop where
  look : ∀ (prog : Program) name id, (name, id) ∈ [("__iter__", "set.__iter__"), ("__len__", "set.__len__"), ("__and__", "set.__and__")] → Looks (model prog w) h (typeLookup c (Str.ofString name)) (some (.builtin id))
  sub : ∀ (prog : Program), Looks (model prog w) h (isSubtype c (.type "set")) true
  ref : ∀ T, T ≠ "set" → c ≠ .type T
theorem SetCls.keeps {h h' : Heap} {c : Value} (C : SetCls w h c) (k : Keep h h') : SetCls w h' c := ⟨fun p n i m => (C.look p n i m).keeps k, fun p => (C.sub p).keeps k, C.ref⟩
theorem setCls_set {h : Heap} : SetCls w h (.type "set") where
  look := fun p n i m => by
    simp only [List.mem_cons, Prod.mk.injEq, List.not_mem_nil, or_false] at m
    rcases m with ⟨rfl, rfl⟩ | ⟨rfl, rfl⟩ | ⟨rfl, rfl⟩
    · exact Looks.of_pure F.slot_set_iter.lookup
    · exact Looks.of_pure F.slot_set_len.lookup
    · exact Looks.of_pure F.slot_set_and.lookup
  sub := fun p => Looks.of_pure sub_set_self
  ref := fun T hT e => hT (by injection e with e; exact e.symm)
theorem cc_iter : findIn (K39 w.params) (.ref 75) "__iter__" = some (some (.builtin "set.__iter__")) := by k_is
theorem cc_len : findIn (K39 w.params) (.ref 75) "__len__" = some (some (.builtin "set.__len__")) := by k_is
theorem cc_and : findIn (K39 w.params) (.ref 75) "__and__" = some (some (.builtin "set.__and__")) := by k_is
theorem cc_sub : mroIn (K39 w.params) 75 (.type "set") = some true := by k_is
theorem setCls_own {h : Heap} (X : (K39 w.params).In h) : SetCls w h (.ref 75) where
  look := fun p n i m => by
    simp only [List.mem_cons, Prod.mk.injEq, List.not_mem_nil, or_false] at m
    rcases m with ⟨rfl, rfl⟩ | ⟨rfl, rfl⟩ | ⟨rfl, rfl⟩
    · exact looks_findIn X cc_iter
    · exact looks_findIn X cc_len
    · exact looks_findIn X cc_and
  sub := fun p => looks_mroIn X cc_sub
  ref := fun T _ e => by cases e
section
variable {prog : Program} {A : Around} {E : Value → Shared → Prop} {s : Shared} {a : Addr} {c : Value} {d : Option Addr} {S : List Nat} {o : Obj} {tf : Nat → Tok} {ep : Nat} {led : Bool} {rest args : List Value} {id owner n : String} {name : Str}
theorem type_c {M : Model} {h : Heap} (ho : h.get? a = some o) : Looks M h (typeOf (.ref a)) o.cls := (Looks.ld ho).andThen .now
theorem special_c {M : Model} {h : Heap} {r : Option Value} (ho : h.get? a = some o) (L : Looks M h (typeLookup o.cls name) r) : Looks M h (specialOf (.ref a) name) r := (type_c ho).andThen L
theorem unless_c {refuse : Sem Value} {Q : Option Value → Shared → Prop} (ho : s.heap.get? a = some o) (L : Looks (model prog w) s.heap (typeLookup o.cls name) (some (.builtin id))) (hb : ∀ self, bindSpecial (.builtin id) self = pure (.builtin id, [self]))
    (hc : wpAny (model prog w) A (call (.builtin id) [.ref a]) (fun v => Q (some v)) E s) : wpAny (model prog w) A (callSpecialIfBoundUnlessNone? (.ref a) name refuse) Q E s := by
  simp only [callSpecialIfBoundUnlessNone?, bindSpecialIfBound?]
  refine wpAny_holding (wpAny_bind (wpAny_bind ((special_c ho L).here ?_)))
  simp only [hb]
  refine wpAny_bind (wpAny_askSetting (wpAny_ite ?_))
  have fin : wpAny (model prog w) A (if (Value.builtin id == Value.none) = true then (refuse >>= fun v => pure (some v)) else (call (.builtin id) [.ref a] >>= fun v => pure (some v))) Q E s := by
    simp only [builtin_beq_none, Bool.false_eq_true, if_false]
    exact wpAny_bind (wpAny_mono hc (fun v s' h' => wpAny_pure h') fun _ _ h' => h')
  split
  · exact wpAny_bind (wpAny_pure (wpAny_pure fin))
  · exact wpAny_tryCatch (wpAny_bind (wpAny_pure (wpAny_pure fin)))
theorem callSp_c {Q : Option Value → Shared → Prop} (ho : s.heap.get? a = some o) (L : Looks (model prog w) s.heap (typeLookup o.cls name) (some (.builtin id))) (hb : ∀ self, bindSpecial (.builtin id) self = pure (.builtin id, [self]))
    (hc : wpAny (model prog w) A (call (.builtin id) (.ref a :: args)) (fun v => Q (some v)) E s) : wpAny (model prog w) A (callSpecial? (.ref a) name args) Q E s :=
  wpAny_bind ((special_c ho L).here (wpAny_holding (wpAny_bind ((Looks.of_pure (hb _)).here (wpAny_bind (wpAny_mono hc (fun _ _ z => wpAny_pure z) fun _ _ z => z))))))
theorem call_c {b : Builtin} {Q : Value → Shared → Prop} (ho : s.heap.get? a = some o) (hk : builtinKind id = some .slot) (hs : splitId id = some (owner, n)) (hp : plainId id = true) (he : entryFor table id = some b)
    (ha : argsOk id ⟨.ref a :: rest, []⟩) (hm : Looks (model prog w) s.heap (isSubtype o.cls (.type owner)) true)
    (h : wpAny (model prog w) A.in1 (b ⟨.ref a :: rest, []⟩) (fun fin s' => ∃ v, fin = .done (.ret v) ∧ Q v s') E s) : wpAny (model prog w) A (call (.builtin id) (.ref a :: rest)) Q E s := by
  refine wpAny_call (codeAny_call_builtin hp he (check_slot hk hs ((type_c ho).andThen hm) ha (wpAny_mono h (fun fin s' h' => ?_) fun _ _ h' => h')))
  obtain ⟨v, rfl, hv⟩ := h'; exact hv
theorem entry_set_iter' : entryFor table "set.__iter__" = some Builtin.«frozenset.__iter__» :=
  entryFor_alias (id' := "frozenset.__iter__") (by rw [fastTable_eq_tree]; kernel_rfl) rfl (by decide +kernel) (by rw [fastTable_eq_tree]; kernel_rfl)
theorem slot_siter_next : Slot "set_iterator" "__next__" "set_iterator.__next__" :=
  .of (owner := "set_iterator") (n := "__next__") (by rw [typeLookup_type, builtinLookup_eq_fast]; kernel_rfl) (by decide +kernel) (by decide +kernel) (by decide +kernel)
    (by first | exact .inl (by decide +kernel) | exact .inr (by decide +kernel)) (by rw [isSubtype_type]; kernel_rfl)
theorem entry_siter_next : entryFor table "set_iterator.__next__" = some Builtin.«set_iterator.__next__» := entryFor_of_tree (by kernel_rfl)
theorem args_siter_next (a : Value) : argsOk "set_iterator.__next__" ⟨[a], []⟩ := by unfold argsOk; kernel_rfl
theorem slot_siter_iter : ∃ id, Slot "set_iterator" "__iter__" id ∧ id = "set_iterator.__iter__" :=
  ⟨_, .of (owner := "set_iterator") (n := "__iter__") (by rw [typeLookup_type, builtinLookup_eq_fast]; kernel_rfl) (by decide +kernel) (by decide +kernel) (by decide +kernel)
    (by first | exact .inl (by decide +kernel) | exact .inr (by decide +kernel)) (by rw [isSubtype_type]; kernel_rfl), rfl⟩
abbrev siObj (a : Addr) (n ep slot i : Nat) : Obj := { cls := .type "set_iterator", data := .fields #[.int slot 0, .int i 0, .ref a, .int n 0, .int ep 0] }
theorem drawn_c {Q : Bool → Shared → Prop} (hS : S ∈ sub4) (ho : s.heap.get? a = some (cObj c d S tf ep led)) (h : Q false s) : wpAny (model prog w) A (setDrawn a) Q E s := by
  unfold setDrawn
  refine wpAny_bind (state_c hS ho ?_)
  dsimp only
  refine wpAny_bind (text_c (wpAny_pure ?_))
  have : (!w.params.followText "set-order" && (!(cTb S led).plain && decide ((cEs S tf).size > 1))) = false := by simp [cTb]
  first | exact (this ▸ h) | (show Q (!w.params.followText "set-order" && (!(cTb S led).plain && decide ((cEs S tf).size > 1))) s; rw [this]; exact h)
theorem size_c {Q : Nat → Shared → Prop} (hS : S ∈ sub4) (ho : s.heap.get? a = some (cObj c d S tf ep led)) (h : Q S.length s) : wpAny (model prog w) A (Builtin.Frozenset.sizeOf a) Q E s := by
  unfold Builtin.Frozenset.sizeOf setEntries
  refine wpAny_bind (wpAny_bind (state_c hS ho (wpAny_pure (wpAny_pure ?_))))
  show Q (cEs S tf).size s
  rw [cEs_size]; exact h
theorem epoch_c {Q : Nat → Shared → Prop} (hS : S ∈ sub4) (ho : s.heap.get? a = some (cObj c d S tf ep led)) (h : Q ep s) : wpAny (model prog w) A (setEpoch a) Q E s := by
  unfold setEpoch
  exact wpAny_bind (state_c hS ho (wpAny_pure h))
theorem iter_c {Q : Value → Shared → Prop} (hS : S ∈ sub4) (ho : s.heap.get? a = some (cObj c d S tf ep led)) (C : SetCls w s.heap c)
    (h : Q (.ref s.heap.objs.size) { s with heap := s.heap.push (siObj a S.length ep 0 0) }) : wpAny (model prog w) A (pyIter (.ref a)) Q E s := by
  unfold pyIter
  refine wpAny_bind ((special_c ho (C.look _ _ _ (.head _))).here ?_)
  dsimp only
  refine wpAny_bind (unless_c ho (C.look _ _ _ (.head _)) F.slot_set_iter.bind (call_c (owner := "set") (n := "__iter__") ho (by decide +kernel) (by decide +kernel) F.slot_set_iter.plain entry_set_iter' (F.args_set_iter_1 _) (C.sub _) ?_))
  unfold Builtin.«frozenset.__iter__» Builtin.Frozenset.slot0
  refine wpAny_bind (wpAny_bind (wpAny_pure (wpAny_pure ?_)))
  refine wpAny_bind (size_c hS ho ?_)
  refine wpAny_bind (drawn_c hS ho ?_)
  simp only [Bool.false_eq_true, if_false]
  refine wpAny_bind (wpAny_pure ?_)
  refine wpAny_bind (epoch_c hS ho ?_)
  refine wpAny_bind (wpAny_newObj_type (wpAny_pure ⟨_, rfl, ?_⟩))
  refine wpAny_bind ((special_c (Heap.get?_push_size _ rfl) (Looks.of_pure slot_siter_next.lookup)).here (wpAny_pure ?_))
  exact h
end

end
section
def slotAt (w : World) (S : List Nat) (i : Nat) : Nat := if w.params.followText "set-order" then 0 else if i = 0 then 0 else S.getD (i - 1) 0 + 1
theorem below_c {S : List Nat} {i : Nat} (hS : S ∈ sub4) (hi : i ≤ S.length) : SetTable.below S.toArray (if i = 0 then 0 else S.getD (i - 1) 0 + 1) = i := by
  have : ∀ S ∈ sub4, ∀ i ≤ S.length, SetTable.below S.toArray (if i = 0 then 0 else S.getD (i - 1) 0 + 1) = i := by decide +kernel
  exact this S hS i hi
section
variable {prog : Program} {A : Around} {E : Value → Shared → Prop} {s : Shared} {a I : Addr} {c : Value} {d : Option Addr} {S : List Nat} {o : Obj} {tf : Nat → Tok} {ep : Nat} {led : Bool}
theorem cEs_get {i : Nat} : (cEs S tf)[i]? = S[i]?.map fun k : Nat => ((k : Int), Value.int (k : Int) (tf k)) := by simp [cEs]
theorem ordW_length : (ordW w a ep S).length = S.length := ordW_perm.length_eq
theorem next_c {i : Nat} {Q : Option (Value × Nat) → Shared → Prop} (hS : S ∈ sub4) (hi : i ≤ S.length) (ho : s.heap.get? a = some (cObj c d S tf ep led)) (hl : w.params.followText "set-order" = false → led = true)
    (h : Q ((ordW w a ep S)[i]?.map fun k : Nat => (Value.int (k : Int) (tf k), slotAt w S (i + 1))) s) : wpAny (model prog w) A (setNext a (slotAt w S i) i ep) Q E s := by
  unfold setNext
  refine wpAny_bind (state_c hS ho ?_)
  dsimp only
  refine wpAny_bind (text_c ?_)
  cases ht : w.params.followText "set-order" with
  | true =>
    have hsl : ∀ j, slotAt w S j = 0 := fun j => by unfold slotAt; rw [ht]; rfl
    simp only [if_true, bne_self_eq_false, Bool.false_eq_true, if_false]
    refine wpAny_bind (walk_c hS ho hl (wpAny_pure ?_))
    rw [cEs_get]
    simp only [hsl] at h ⊢
    rw [Option.map_map]
    exact h
  | false =>
    have hle := hl ht
    subst hle
    have ho' : ordW w a ep S = S := by unfold ordW; rw [if_neg (by rw [ht]; decide)]
    rw [ho'] at h
    have hsl : ∀ j, slotAt w S j = if j = 0 then 0 else S.getD (j - 1) 0 + 1 := fun j => by unfold slotAt; rw [ht]; rfl
    simp only [Bool.false_eq_true, if_false]
    show wpAny _ _ (pure _) _ _ _
    refine wpAny_pure ?_
    show Q (match (cEs S tf)[SetTable.below S.toArray (slotAt w S i)]?, S.toArray[SetTable.below S.toArray (slotAt w S i)]? with | some (_, x), some j => some (x, j + 1) | _, _ => none) s
    rw [hsl i, below_c hS hi, cEs_get, List.getElem?_toArray]
    rw [hsl (i + 1)] at h
    cases hg : S[i]? with
    | none => rw [hg] at h; exact h
    | some k =>
      rw [hg] at h
      have : S.getD (i + 1 - 1) 0 = k := by rw [Nat.add_sub_cancel, List.getD_eq_getElem?_getD, hg]; rfl
      simp only [Option.map_some, if_neg (Nat.succ_ne_zero i), this] at h ⊢
      exact h
theorem siObj_set {n slot i v : Nat} {h : Heap} (ho : h.get? I = some (siObj a n ep slot i)) :
    ((h.update I (Obj.mapFields (·.setIfInBounds 0 (rawInt v)))).update I (Obj.mapFields (·.setIfInBounds 1 (rawInt ((i : Int) + 1))))).get? I = some (siObj a n ep v (i + 1)) := by
  have h1 := Heap.get?_update_self (Obj.mapFields (·.setIfInBounds 0 (rawInt v))) ho (by rfl)
  have h2 := Heap.get?_update_self (Obj.mapFields (·.setIfInBounds 1 (rawInt ((i : Int) + 1)))) h1 (by rfl)
  exact h2
theorem item_c {i : Nat} {Q : Option Value → Shared → Prop} (hS : S ∈ sub4) (hi : i < S.length) (hI : s.heap.get? I = some (siObj a S.length ep (slotAt w S i) i)) (ho : s.heap.get? a = some (cObj c d S tf ep led))
    (hl : w.params.followText "set-order" = false → led = true)
    (h : ∀ k h', (ordW w a ep S)[i]? = some k → h'.get? I = some (siObj a S.length ep (slotAt w S (i + 1)) (i + 1)) → (∀ b o, b ≠ I → s.heap.get? b = some o → h'.get? b = some o) → Q (some (.int (k : Int) (tf k))) { s with heap := h' }) :
    wpAny (model prog w) A (pyNext (.ref I)) Q E s := by
  obtain ⟨k, hk⟩ : ∃ k, (ordW w a ep S)[i]? = some k := ⟨_, List.getElem?_eq_getElem (by rw [ordW_length]; exact hi)⟩
  unfold pyNext
  have hT : s.TypeIs (.ref I) "set_iterator" := ⟨_, hI, rfl⟩
  refine wpAny_bind (wpAny_attempt (wpAny_callSpecial?_slot (name := Str.ofString "__next__") hT slot_siter_next (wpAny_call_entry slot_siter_next hT entry_siter_next ?_ (args_siter_next _))))
  unfold Builtin.«set_iterator.__next__»
  refine wpAny_bind (m := slotArgs "__next__" 0 _) (wpAny_pure ?_)
  refine wpAny_bind (wpAny_bind (wpAny_load hI (wpAny_pure ?_)))
  dsimp only
  unfold setEntries
  refine wpAny_bind (wpAny_bind (state_c hS ho (wpAny_pure ?_)))
  dsimp only
  have hb : (((cEs S tf).size : Nat) : Int) = (S.length : Int) := by rw [cEs_size]
  rw [hb]
  simp only [bne_self_eq_false, Bool.false_eq_true, if_false, Int.toNat_natCast]
  refine wpAny_bind (next_c hS (Nat.le_of_lt hi) ho hl ?_)
  rw [hk]
  dsimp only [Option.map_some]
  refine wpAny_bind (wpAny_setField hI rfl (by simp) ?_)
  refine wpAny_bind (wpAny_setField (Heap.get?_update_self _ hI (by rfl)) rfl (by simp) ?_)
  refine wpAny_pure ⟨_, rfl, wpAny_pure (h k _ hk (siObj_set hI) fun b o hb e => ?_)⟩
  exact ((Heap.SameBut.update _ I _).trans (Heap.SameBut.update _ I _)).extBut b o hb e
theorem entry_siter_iter : entryFor table "set_iterator.__iter__" = some Builtin.«dict_keyiterator.__iter__» :=
  entryFor_alias (id' := "dict_keyiterator.__iter__") (by rw [fastTable_eq_tree]; kernel_rfl) rfl (by decide +kernel) (by rw [fastTable_eq_tree]; kernel_rfl)
theorem args_siter_iter (a : Value) : argsOk "set_iterator.__iter__" ⟨[a], []⟩ := by unfold argsOk; kernel_rfl
theorem done_c {i : Nat} {Q : Option Value → Shared → Prop} (hh : A.handled = none) (hS : S ∈ sub4) (hi : i = S.length) (hI : s.heap.get? I = some (siObj a S.length ep (slotAt w S i) i)) (ho : s.heap.get? a = some (cObj c d S tf ep led))
    (hl : w.params.followText "set-order" = false → led = true)
    (h : ∀ h', (∀ b o, b ≠ I → s.heap.get? b = some o → h'.get? b = some o) → Q none { s with heap := h' }) :
    wpAny (model prog w) A (pyNext (.ref I)) Q E s := by
  have hk : (ordW w a ep S)[i]? = none := List.getElem?_eq_none (by rw [ordW_length]; omega)
  unfold pyNext
  have hT : s.TypeIs (.ref I) "set_iterator" := ⟨_, hI, rfl⟩
  refine wpAny_bind (wpAny_attempt (wpAny_callSpecial?_slot (name := Str.ofString "__next__") hT slot_siter_next (wpAny_call_entry slot_siter_next hT entry_siter_next ?_ (args_siter_next _))))
  unfold Builtin.«set_iterator.__next__»
  refine wpAny_bind (m := slotArgs "__next__" 0 _) (wpAny_pure ?_)
  refine wpAny_bind (wpAny_bind (wpAny_load hI (wpAny_pure ?_)))
  dsimp only
  unfold setEntries
  refine wpAny_bind (wpAny_bind (state_c hS ho (wpAny_pure ?_)))
  dsimp only
  have hb : (((cEs S tf).size : Nat) : Int) = (S.length : Int) := by rw [cEs_size]
  rw [hb]
  simp only [bne_self_eq_false, Bool.false_eq_true, if_false, Int.toNat_natCast]
  refine wpAny_bind (next_c hS (Nat.le_of_eq hi) ho hl ?_)
  rw [hk]
  dsimp only [Option.map_none]
  refine wpAny_bind (wpAny_setField hI rfl (by simp) ?_)
  show wpAny _ _ (newExc (.type "StopIteration") [] >>= _) _ _ _
  refine wpAny_bind ?_
  simp only [newExc, newTuple]
  refine wpAny_bind (wpAny_newObj_type ?_ (by size_fits))
  refine wpAny_bind (m := firstArgMember _ _) (wpAny_of_eq (a := Value.none) (by first | rfl | (simp only [firstArgMember]; rfl)) ?_)
  refine wpAny_newObj_type ?_ (by size_fits)
  simp only [raiseNew]
  refine wpAny_bind (wpAny_handled ?_)
  rw [show A.in1.handled = none from hh]
  refine wpAny_bind (wpAny_pure (wpAny_throw ?_))
  refine wpAny_bind (wpAny_isInstance (T := "StopIteration") (b := true) ⟨_, Heap.get?_push_size _ rfl, rfl⟩ isSubtype_stop ?_)
  exact wpAny_pure (h _ (((Heap.SameBut.update ..).extBut.push _).push _))
theorem Walks.cset (hh : A.handled = none) (I a : Addr) (hne : a ≠ I) (hS : S ∈ sub4) (hl : w.params.followText "set-order" = false → led = true) :
    Walks prog w A I [I, a] [I] S.length (fun i v => ∃ k, (ordW w a ep S)[i]? = some k ∧ v = .int (k : Int) (tf k)) (fun i h => h.get? I = some (siObj a S.length ep (slotAt w S i) i) ∧ h.get? a = some (cObj c d S tf ep led)) where
  sub := fun b hb => by simp at hb; simp [hb]
  frame := fun _ _ _ st hk => ⟨hk I (by simp) _ st.1, hk a (by simp) _ st.2⟩
  item := fun i s Q E hi st hQ => item_c hS hi st.1 st.2 hl fun k h' hk hI' ex => hQ _ h' s.toks ⟨k, hk, rfl⟩ ⟨hI', ex _ _ hne st.2⟩ fun b o hb e => ex b o (fun h => hb (by simp [h])) e
  done := fun s Q E st hQ => done_c hh hS rfl st.1 st.2 hl fun h' ex => hQ h' s.toks fun b o hb e => ex b o (fun h => hb (by simp [h])) e
  self := fun i s Q E st hQ => by
    obtain ⟨id, hs, rfl⟩ := slot_siter_iter
    have hT : s.TypeIs (.ref I) "set_iterator" := ⟨_, st.1, rfl⟩
    refine wpAny_pyIter_slot hT hs (wpAny_call_entry hs hT entry_siter_iter ?_ (args_siter_iter _))
    show wpAny _ _ (ret (.ref I)) _ _ s
    exact wpAny_pure ⟨_, rfl, "set_iterator", _, hT, slot_siter_next.lookup, hQ⟩
end

end
section
theorem take_c {l : List Nat} {i : Nat} (hl : l ∈ sub4) (hi : i < l.length) : l.take i ∈ sub4 ∧ l.getD i 0 < 4 ∧ l.getD i 0 ∉ l.take i ∧ ins4 (l.getD i 0) (l.take i) = l.take (i + 1) := by
  have : ∀ l ∈ sub4, ∀ i < l.length, l.take i ∈ sub4 ∧ l.getD i 0 < 4 ∧ l.getD i 0 ∉ l.take i ∧ ins4 (l.getD i 0) (l.take i) = l.take (i + 1) := by decide +kernel
  exact this l hl i hi
theorem hash_c {prog : Program} {A : Around} {E : Value → Shared → Prop} {s : Shared} {k : Nat} {t : Tok} {Q : Int → Shared → Prop} (hk : k < 4) (h : Q (k : Int) { s with toks := s.toks + 1 }) : wpAny (model prog w) A (pyHash (.int (k : Int) t)) Q E s :=
  (intKind prog w).pyHash (k := (k : Int)) (intKind_is _ _ _ _) (by rw [hash4 hk]; exact h)
section
variable {prog : Program} {A : Around} {E : Value → Shared → Prop} {s : Shared} {a I sa : Addr} {c : Value} {d : Option Addr} {S : List Nat} {o : Obj} {tf : Nat → Tok} {ep : Nat} {led : Bool} {fp wr : List Addr} {n : Nat} {P : Nat → Value → Prop} {St : Nat → Heap → Prop} {l : List Nat}
theorem update_c {R : Result → Shared → Prop} (W : Walks prog w A.in1 I fp wr n P St) (hSf : sa ∉ fp) (hl : l ∈ sub4) (hn : n = l.length) (hval : ∀ i v, P i v → ∃ t, v = .int (l.getD i 0 : Nat) t) :
    ∀ (k i : Nat) (s : Shared) (tf : Nat → Tok) (ep : Nat), n - i = k → i ≤ n → St i s.heap → s.heap.get? sa = some (cObj c d (l.take i) tf ep led) →
      (∀ h' tk tf' ep', (∀ b o, b ≠ sa → b ∉ wr → s.heap.get? b = some o → h'.get? b = some o) → h'.get? sa = some (cObj c d l tf' ep' led) → R (.ok (.ret .none)) { s with heap := h', toks := tk }) →
      codeAny (model prog w) A (.builtin "set.update.loop" ⟨[.ref sa, .ref I], []⟩) R s := by
  have hSw : sa ∉ wr := fun h => hSf (W.sub _ h)
  intro k
  induction k with
  | zero =>
    intro i s tf ep hk hi hst hS hR
    have hin : i = n := by omega
    subst hin
    refine codeAny_builtin F.entry_set_update_loop ?_
    rw [Around.under_plainId F.plain_set_update_loop _]
    show wpAny _ A.in1 (pyNext (.ref I) >>= _) _ _ s
    refine wpAny_bind (W.done s _ _ hst fun h' tk hm => ?_)
    show wpAny _ A.in1 (ret Value.none) _ _ _
    refine wpAny_pure (hR h' tk tf ep (fun b o _ hb e => hm b o hb e) ?_)
    rw [List.take_of_length_le (Nat.le_of_eq hn.symm)] at hS
    exact hm _ _ hSw hS
  | succ k ih =>
    intro i s tf ep hk hi hst hS hR
    have hlt : i < n := by omega
    obtain ⟨q1, q2, q3, q4⟩ := take_c hl (i := i) (by omega)
    refine codeAny_builtin F.entry_set_update_loop ?_
    rw [Around.under_plainId F.plain_set_update_loop _]
    show wpAny _ A.in1 (pyNext (.ref I) >>= _) _ _ s
    refine wpAny_bind (W.item i s _ _ hlt hst fun v h' tk hP hst' hm => ?_)
    obtain ⟨t, rfl⟩ := hval i v hP
    have hS' := hm _ _ hSw hS
    show wpAny _ A.in1 (holding [Value.int _ t] (setAdd sa (.int _ t)) >>= _) _ _ _
    refine wpAny_bind (wpAny_holding ?_)
    unfold setAdd
    refine wpAny_holding ?_
    refine wpAny_bind (hash_c q2 ?_)
    refine add_c q1 q2 (by exact hS') (fun hm => absurd hm q3) fun _ h2 tf' hsb hg => ?_
    rw [q4] at hg
    refine wpAny_pure ⟨plainId_quiet F.plain_set_update_loop _, ih (i + 1) _ tf' (ep + 1) (by omega) hlt (W.frame _ h' _ hst' fun b hb o e => hsb.extBut b o (fun h => hSf (h ▸ hb)) e) hg fun h3 tk3 tf3 ep3 hk3 hg3 => ?_⟩
    exact hR h3 tk3 tf3 ep3 (fun b o hb hw e => hk3 b o hb hw (hsb.extBut b o hb (hm b o hw e))) hg3
theorem isSet_c {Q : Bool → Shared → Prop} (ho : s.heap.get? a = some o) (C : SetCls w s.heap o.cls) (h : Q true s) : wpAny (model prog w) A (Builtin.Frozenset.isAnySet (.ref a)) Q E s := by
  unfold Builtin.Frozenset.isAnySet
  show wpAny _ _ (isInstance (.ref a) (.type "set") >>= _) _ _ _
  refine wpAny_bind (((type_c ho).andThen (C.sub prog)).here ?_)
  exact wpAny_pure h
theorem notSet_c {T : String} {Q : Bool → Shared → Prop} (ho : s.heap.get? a = some o) (hc : o.cls = .type T) (h1 : isSubtype (.type T) (.type "set") = pure false) (h2 : isSubtype (.type T) (.type "frozenset") = pure false) (h : Q false s) : wpAny (model prog w) A (Builtin.Frozenset.isAnySet (.ref a)) Q E s := by
  unfold Builtin.Frozenset.isAnySet
  show wpAny _ _ (isInstance (.ref a) (.type "set") >>= _) _ _ _
  have ht := type_c (M := model prog w) ho
  rw [hc] at ht
  refine wpAny_bind ((ht.andThen (Looks.of_pure h1)).here ?_)
  show wpAny _ _ (isInstance (.ref a) (.type "frozenset")) _ _ _
  exact (ht.andThen (Looks.of_pure h2)).here h
theorem merge_c {y : Addr} {cy : Value} {dy : Option Addr} {tfy : Nat → Tok} {epy : Nat} {ledy : Bool} {each : Sem Unit} {Q : Unit → Shared → Prop} (hne : sa ≠ y) (hS : S ∈ sub4) (hs : s.heap.get? sa = some (cObj c d [] tf ep led)) (hy : s.heap.get? y = some (cObj cy dy S tfy epy ledy))
    (h : ∀ h' tf' ep' led', Heap.SameBut sa s.heap h' → h'.get? sa = some (cObj c d S tf' ep' led') → (led = true → ledy = true → led' = true) → Q () { s with heap := h' }) : wpAny (model prog w) A (setMerge sa y each) Q E s := by
  have h0 : ([] : List Nat) ∈ sub4 := by decide
  unfold setMerge
  rw [if_neg (by simpa using hne)]
  refine wpAny_bind (state_c hS hy ?_)
  dsimp only
  by_cases he : S = []
  · subst he
    rw [if_pos (by rfl)]
    refine wpAny_pure ?_
    have := h s.heap tf ep led (Heap.SameBut.refl _ _) hs (fun a _ => a)
    exact this
  · rw [if_neg (by simp [cEs, he])]
    refine wpAny_bind ?_
    unfold setRoomFor
    refine wpAny_bind (state_c h0 hs ?_)
    dsimp only
    have hr : (cTb [] led).roomFor (cEs S tfy).size = none := by
      rw [cEs_size]
      have := sub4_le hS
      show (if (0 + S.length) * 5 ≥ 7 * 3 then some ((0 + S.length) * 2) else none) = none
      rw [if_neg (by omega)]
    rw [hr]
    refine wpAny_pure ?_
    refine wpAny_bind (state_c h0 hs ?_)
    dsimp only
    have hrd : (cTb [] led).road (cTb S ledy) = .slotForSlot := by rfl
    rw [hrd]
    dsimp only
    refine wpAny_storeSet_of hs rfl ?_ (by rw [cEs_size]; have := sub4_le hS; rw [sizeLine_eq]; omega)
    refine h _ tfy (ep + 1) (led && ledy) (Heap.SameBut.update ..) ?_ (fun a b => by rw [a, b]; rfl)
    have := Heap.get?_update_self (Obj.putSet (cEs S tfy) { (cTb S ledy) with finger := (cTb [] led).finger, led := (cTb [] led).led && (cTb S ledy).led, moves := (cTb [] led).moves, plain := (cTb [] led).plain && (cTb S ledy).plain }) hs (by rw [putSet_of _ _ rfl]; rfl)
    rw [putSet_of _ _ rfl] at this
    exact this
theorem fill_set {y : Addr} {cy : Value} {dy : Option Addr} {tfy : Nat → Tok} {epy : Nat} {ledy : Bool} {id : String} {Q : Unit → Shared → Prop} (hne : sa ≠ y) (hS : S ∈ sub4) (hs : s.heap.get? sa = some (cObj c d [] tf ep led)) (hy : s.heap.get? y = some (cObj cy dy S tfy epy ledy)) (C : SetCls w s.heap cy)
    (h : ∀ h' tf' ep' led', Heap.SameBut sa s.heap h' → h'.get? sa = some (cObj c d S tf' ep' led') → (led = true → ledy = true → led' = true) → Q () { s with heap := h' }) : wpAny (model prog w) A (Builtin.Frozenset.updateFrom id sa (.ref y)) Q E s := by
  unfold Builtin.Frozenset.updateFrom
  refine wpAny_bind (isSet_c hy C ?_)
  simp only [if_true]
  refine wpAny_bind (wpAny_pure ?_)
  unfold Builtin.Frozenset.merge
  refine wpAny_bind (epoch_c hS hy ?_)
  exact merge_c hne hS hs hy h
theorem fill_walk {T id : String} {x : Addr} {ox : Obj} {Q : Unit → Shared → Prop} (hx : s.heap.get? x = some ox) (hc : ox.cls = .type T) (h1 : isSubtype (.type T) (.type "set") = pure false) (h2 : isSubtype (.type T) (.type "frozenset") = pure false) (h3 : (Value.type T == .type "dict") = false)
    (hl : l ∈ sub4) (hs : s.heap.get? sa = some (cObj c d [] tf ep led))
    (hit : wpAny (model prog w) A (pyIter (.ref x)) (fun it s₁ => ∃ I fp wr n P St, it = .ref I ∧ Walks prog w A.in1 I fp wr n P St ∧ sa ∉ fp ∧ n = l.length ∧ (∀ i v, P i v → ∃ t, v = .int (l.getD i 0 : Nat) t) ∧ St 0 s₁.heap ∧ (∀ b ∈ wr, s.heap.get? b = none) ∧ ∃ h₁ tk₁, s₁ = { s with heap := h₁, toks := tk₁ } ∧ Keep s.heap h₁) E s)
    (h : ∀ h' tk tf' ep', (∀ b o, b ≠ sa → s.heap.get? b = some o → h'.get? b = some o) → h'.get? sa = some (cObj c d l tf' ep' led) → Q () { s with heap := h', toks := tk }) : wpAny (model prog w) A (Builtin.Frozenset.updateFrom id sa (.ref x)) Q E s := by
  unfold Builtin.Frozenset.updateFrom
  refine wpAny_bind (notSet_c hx hc h1 h2 ?_)
  simp only [Bool.false_eq_true, if_false]
  have ht := type_c (M := model prog w) hx
  rw [hc] at ht
  refine wpAny_bind (ht.here ?_)
  rw [h3]
  simp only [Bool.false_eq_true, if_false]
  refine wpAny_bind (wpAny_mono hit (fun it s₁ hq => ?_) fun _ _ e => e)
  obtain ⟨I, fp, wr, n, P, St, rfl, W, hSf, hn, hval, hst, hwr, h₁, tk₁, rfl, k₁⟩ := hq
  refine wpAny_bind (wpAny_runValue (update_c W hSf hl hn hval (n - 0) 0 _ tf ep rfl (Nat.zero_le _) hst (k₁ _ _ hs) fun h' tk tf' ep' hk hg => ?_))
  exact wpAny_pure (h h' tk tf' ep' (fun b o hb e => hk b o hb (fun hw => by rw [hwr b hw] at e; cases e) (k₁ _ _ e)) hg)
end

end
section
abbrev LedOk (w : World) (led : Bool) : Prop := w.params.followText "set-order" = false → led = true
/-- x holds the candidates of l, and a new set can be filled from it -/
def Fills (w : World) (h : Heap) (x : Addr) (l : List Nat) : Prop :=
  l ∈ sub4 ∧ ∀ (prog : Program) (A : Around) (E : Value → Shared → Prop) (s : Shared) (Q : Unit → Shared → Prop) (sa : Addr) (c : Value) (d : Option Addr) (tf : Nat → Tok) (ep : Nat) (led : Bool) (id : String),
    A.handled = none → Keep h s.heap → h.get? sa = none → s.heap.get? sa = some (cObj c d [] tf ep led) → LedOk w led →
    (∀ h' tk tf' ep' led', (∀ b o, b ≠ sa → s.heap.get? b = some o → h'.get? b = some o) → h'.get? sa = some (cObj c d l tf' ep' led') → LedOk w led' → Q () { s with heap := h', toks := tk }) →
    wpAny (model prog w) A (Builtin.Frozenset.updateFrom id sa (.ref x)) Q E s
theorem Fills.keeps {h h' : Heap} {x : Addr} {l : List Nat} (H : Fills w h x l) (k : Keep h h') : Fills w h' x l :=
  ⟨H.1, fun prog A E s Q sa c d tf ep led id hh k' z => H.2 prog A E s Q sa c d tf ep led id hh (Keep.trans k k') (none_of_keep k z)⟩
theorem ne_of_none {h : Heap} {a b : Addr} {o : Obj} (z : h.get? a = none) (e : h.get? b = some o) : a ≠ b := fun q => by rw [q, e] at z; cases z
theorem fills_set {h : Heap} {y : Addr} {cy : Value} {dy : Option Addr} {S : List Nat} {tf : Nat → Tok} {ep : Nat} {led : Bool} (hS : S ∈ sub4) (hy : h.get? y = some (cObj cy dy S tf ep led)) (C : SetCls w h cy) (hl : LedOk w led) : Fills w h y S :=
  ⟨hS, fun prog A E s Q sa c d tf' ep' led' id hh k z hs hl' hQ => fill_set (ne_of_none z hy) hS hs (k _ _ hy) (C.keeps k) fun h' tf'' ep'' led'' sb hg hle => hQ h' s.toks tf'' ep'' led'' (fun b o hb e => sb.extBut b o hb e) hg fun t => hle (hl' t) (hl t)⟩
theorem fills_list {h : Heap} {x : Addr} {items : Array Value} {l : List Nat} (hl : l ∈ sub4) (hx : h.IsList x items) (hn : items.size = l.length) (hv : ∀ i (v : Value), items[i]? = some v → ∃ t, v = .int (l.getD i 0 : Nat) t) : Fills w h x l :=
  ⟨hl, fun prog A E s Q sa c d tf ep led id hh k z hs hl' hQ => by
    obtain ⟨o, ho, hc, n, hd⟩ := hx
    refine fill_walk (k _ _ ho) hc F.sub_list_set F.sub_list_frozenset (by decide) hl hs ?_ fun h' tk tf' ep' hk hg => hQ h' tk tf' ep' led hk hg hl'
    have hx' : s.heap.IsList x items := ⟨o, k _ _ ho, hc, n, hd⟩
    refine wpAny_pyIter_list hx' ?_
    have hlt : x < s.heap.objs.size := Heap.lt_size (k _ _ ho)
    refine ⟨s.heap.objs.size, _, _, _, _, _, rfl, Walks.list (A := A.in1) hh s.heap.objs.size x (Nat.ne_of_lt hlt) items, ?_, hn, hv, ⟨⟨_, Heap.get?_push_size _ rfl, rfl, rfl⟩, hx'.push _⟩, ?_, _, _, rfl, fun b o e => Heap.get?_push_of_some _ e⟩
    · simp only [List.mem_cons, List.not_mem_nil, or_false, not_or]
      exact ⟨Nat.ne_of_lt (Heap.lt_size hs), ne_of_none z ho⟩
    · intro b hb
      rw [List.mem_singleton] at hb
      subst hb
      exact Heap.get?_none_of_le (Nat.le_refl _)⟩
theorem sub_tuple_set : isSubtype (.type "tuple") (.type "set") = pure false := by rw [isSubtype_type]; kernel_rfl
theorem sub_tuple_frozenset : isSubtype (.type "tuple") (.type "frozenset") = pure false := by rw [isSubtype_type]; kernel_rfl
theorem fills_tuple {h : Heap} {x : Addr} {items : Array Value} {l : List Nat} (hl : l ∈ sub4) (hx : h.IsTuple x items) (hn : items.size = l.length) (hv : ∀ i (v : Value), items[i]? = some v → ∃ t, v = .int (l.getD i 0 : Nat) t) : Fills w h x l :=
  ⟨hl, fun prog A E s Q sa c d tf ep led id hh k z hs hl' hQ => by
    obtain ⟨o, ho, hc, n, hd⟩ := hx
    refine fill_walk (k _ _ ho) hc sub_tuple_set sub_tuple_frozenset (by decide) hl hs ?_ fun h' tk tf' ep' hk hg => hQ h' tk tf' ep' led hk hg hl'
    have hx' : s.heap.IsTuple x items := ⟨o, k _ _ ho, hc, n, hd⟩
    refine wpAny_pyIter_tuple hx' ?_
    have hlt : x < s.heap.objs.size := Heap.lt_size (k _ _ ho)
    refine ⟨s.heap.objs.size, _, _, _, _, _, rfl, Walks.tuple (A := A.in1) hh s.heap.objs.size x (Nat.ne_of_lt hlt) items, ?_, hn, hv, ⟨⟨_, Heap.get?_push_size _ rfl, rfl, rfl⟩, ⟨o, Heap.get?_push_of_some _ (k _ _ ho), hc, n, hd⟩⟩, ?_, _, _, rfl, fun b o e => Heap.get?_push_of_some _ e⟩
    · simp only [List.mem_cons, List.not_mem_nil, or_false, not_or]
      exact ⟨Nat.ne_of_lt (Heap.lt_size hs), ne_of_none z ho⟩
    · intro b hb
      rw [List.mem_singleton] at hb
      subst hb
      exact Heap.get?_none_of_le (Nat.le_refl _)⟩
section
variable {prog : Program} {A : Around} {E : Value → Shared → Prop} {s : Shared} {x : Addr} {l : List Nat}
theorem newSet_c {Q : Value → Shared → Prop}
    (h : ∀ led : Bool, LedOk w led → Q (.ref s.heap.objs.size) { s with heap := s.heap.push (cObj (.type "set") none [] (fun _ => 0) 0 led) }) : wpAny (model prog w) A (newSet (.type "set")) Q E s := by
  unfold newSet
  refine wpAny_bind (text_c ?_)
  dsimp only
  simp only [newObj]
  refine wpAny_bind (wpAny_alloc (wpAny_pure ?_))
  exact h (!w.params.followText "set-order") fun e => by rw [e]; rfl
theorem code_newset_c {Q₁ : Value → Shared → Prop} {a : Value}
    (h : ∀ led : Bool, LedOk w led → Q₁ (.ref s.heap.objs.size) { s with heap := s.heap.push (cObj (.type "set") none [] (fun _ => 0) 0 led) }) :
    codeAny (model prog w) A (.call (.builtin "set.__new__") ⟨[.type "set", a], []⟩) (wants Q₁ E) s := by
  refine codeAny_of_tree ?_
  show wpAny _ A.in1 (do checkBuiltinCall "set.__new__" ⟨[.type "set", a], []⟩; again (.builtin "set.__new__" ⟨[.type "set", a], []⟩)) _ _ s
  refine wpAny_bind (wpAny_of_eq (F.newCall_set_1 a) (wpAny_pure ⟨plainId_quiet F.plain_set_new _, codeAny_builtin F.entry_set_new ?_⟩))
  rw [Around.under_plainId F.plain_set_new _]
  unfold Builtin.«set.__new__» Builtin.Frozenset.newClass
  have hsub := sub_set_self
  obtain ⟨hp, g, d, tk, os⟩ := s
  dsimp only
  wp_walk
  refine wpAny_askSetting (wpAny_pure ?_)
  dsimp only
  simp only [newObj]
  refine wpAny_bind (wpAny_alloc (wpAny_pure ?_))
  exact wpAny_pure (h (!w.params.followText "set-order") fun e => by rw [e]; rfl)
/-- the body of set.__init__, given the class's name -/
theorem init_c {Q : Shared → Prop} {sa : Addr} {c : Value} {d : Option Addr} {tf : Nat → Tok} {ep : Nat} {led : Bool} {h₀ : Heap} (hh : A.handled = none) (H : Fills w h₀ x l) (k : Keep h₀ s.heap) (z : h₀.get? sa = none)
    (hs : s.heap.get? sa = some (cObj c d [] tf ep led)) (hl : LedOk w led) (hn : ∀ (Q' : String → Shared → Prop), (∀ n, Q' n s) → wpAny (model prog w) A (typeNameOfCut 200 (.ref sa)) Q' E s)
    (h : ∀ h' tk tf' ep' led', (∀ b o, b ≠ sa → s.heap.get? b = some o → h'.get? b = some o) → h'.get? sa = some (cObj c d l tf' ep' led') → LedOk w led' → Q { s with heap := h', toks := tk }) :
    wpAny (model prog w) A (Builtin.«set.__init__» ⟨[.ref sa, .ref x], []⟩) (fun fin s' => ∃ v, fin = .done (.ret v) ∧ v = .none ∧ Q s') E s := by
  have h0 : ([] : List Nat) ∈ sub4 := by decide
  unfold Builtin.«set.__init__» noKeywords
  refine wpAny_bind (wpAny_pure ?_)
  dsimp only
  refine wpAny_bind (hn _ fun n => ?_)
  refine wpAny_bind (m := checkCount _ _ _ _) (wpAny_pure ?_)
  refine wpAny_bind (m := Builtin.Frozenset.addrOf _) (wpAny_pure ?_)
  unfold setUsed
  refine wpAny_bind (wpAny_bind (state_c h0 hs (wpAny_pure ?_)))
  show wpAny _ _ (if false = true then _ else _) _ _ _
  rw [if_neg (by decide)]
  refine wpAny_bind (H.2 prog A E s _ sa c d tf ep led _ hh k z hs hl fun h' tk tf' ep' led' hk hg hl' => ?_)
  exact wpAny_pure ⟨_, rfl, rfl, h h' tk tf' ep' led' hk hg hl'⟩
/-- set(x) -/
theorem call_set_c {Q : Value → Shared → Prop} (hh : A.handled = none) (H : Fills w s.heap x l)
    (h : ∀ h' tk tf ep led, Keep s.heap h' → h'.get? s.heap.objs.size = some (cObj (.type "set") none l tf ep led) → LedOk w led → Q (.ref s.heap.objs.size) { s with heap := h', toks := tk }) :
    wpAny (model prog w) A (call (.type "set") [.ref x]) Q E s := by
  obtain ⟨c, tl, hmro⟩ := F.called_set.mro
  have hmade := F.called_set.made
  have hsub := F.called_set.sub
  refine wpAny_call (codeAny_of_tree ?_)
  show wpAny _ _ (callAny (.type "set") _) _ _ _
  refine wpAny_pure ⟨Code.quiet_builtin _ (by decide +kernel), codeAny_builtin F.entry_type_call ?_⟩
  rw [Around.under_plain (weight_type_call_type "set" [.ref x] []) rfl]
  have h1 := F.called_set.notType
  have h2 := F.called_set.canCreate
  have hct := F.typeCall_set_1 (.ref x)
  repeat (any_goals (first | assumption | wp_step))
  refine codeAny_mono (code_newset_c (a := .ref x) (E := E) (Q₁ := fun obj s₁ => ∃ led : Bool, LedOk w led ∧ obj = .ref s.heap.objs.size ∧ s₁ = { s with heap := s.heap.push (cObj (.type "set") none [] (fun _ => 0) 0 led) }) fun led hl => ⟨led, hl, rfl, rfl⟩) fun r s₁ hr => ?_
  rcases r with e | (obj | _ | _ | _) <;> first | exact hr | exact hr.elim | skip
  obtain ⟨led, hl, rfl, rfl⟩ := hr
  have hS : (s.heap.push (cObj (.type "set") none [] (fun _ => 0) 0 led)).get? s.heap.objs.size = some (cObj (.type "set") none [] (fun _ => 0) 0 led) := Heap.get?_push_size _ rfl
  have hT : Shared.TypeIs { s with heap := s.heap.push (cObj (.type "set") none [] (fun _ => 0) 0 led) } (.ref s.heap.objs.size) "set" := ⟨_, hS, rfl⟩
  have hli := F.called_set.init.lookup
  have hbi := F.called_set.init.bind (.ref s.heap.objs.size)
  repeat (any_goals (first | assumption | wp_step))
  refine codeAny_mono (codeAny_call_builtin (R := wants (fun r s₂ => r = .none ∧ Q (.ref s.heap.objs.size) s₂) E) F.called_set.init.plain F.entry_set_init (check_set_init_1 hT ?_)) fun r₂ s₂ hr₂ => ?_
  · refine wpAny_mono (init_c (Q := fun s₂ => Q (.ref s.heap.objs.size) s₂) hh H (fun b o e => Heap.get?_push_of_some _ e) (Heap.get?_none_of_le (Nat.le_refl _)) hS hl (fun Q' hq => wpAny_bind (wpAny_bind (wpAny_typeOf hT ?_))) fun h' tk tf' ep' led' hk hg hl' => h h' tk tf' ep' led' (fun b o e => hk b o (Nat.ne_of_lt (Heap.lt_size e)) (Heap.get?_push_of_some _ e)) hg hl') (fun fin s' hv => ?_) fun _ _ e => e
    · exact wpAny_pure (wpAny_pure (hq _))
    · obtain ⟨v, rfl, rfl, hq⟩ := hv
      exact ⟨rfl, hq⟩
  · rcases r₂ with e | (r | _ | _ | _) <;> first | exact hr₂ | exact hr₂.elim | skip
    obtain ⟨rfl, hq⟩ := hr₂
    repeat (any_goals (first | assumption | wp_step))
end

end
section
def inter4 (S U : List Nat) : List Nat := S.filter fun k => decide (k ∈ U)
theorem sub4_ext {R R' : List Nat} (h : R ∈ sub4) (h' : R' ∈ sub4) (e : ∀ k < 4, k ∈ R ↔ k ∈ R') : R = R' := by
  have : ∀ R ∈ sub4, ∀ R' ∈ sub4, (∀ k < 4, k ∈ R ↔ k ∈ R') → R = R' := by decide +kernel
  exact this R h R' h' e
theorem inter4_mem {S U : List Nat} (h : S ∈ sub4) (h' : U ∈ sub4) : inter4 S U ∈ sub4 := by
  have : ∀ S ∈ sub4, ∀ U ∈ sub4, inter4 S U ∈ sub4 := by decide +kernel
  exact this S h U h'
theorem ins4_iff {S : List Nat} {k j : Nat} : j ∈ ins4 k S ↔ j = k ∨ j ∈ S := by
  simp only [ins4, List.mem_append, List.mem_filter, List.mem_cons, decide_eq_true_eq]
  constructor
  · rintro (⟨h, _⟩ | h | ⟨h, _⟩)
    · exact .inr h
    · exact .inl h
    · exact .inr h
  · rintro (h | h)
    · exact .inr (.inl h)
    · rcases Nat.lt_trichotomy j k with q | q | q
      · exact .inl ⟨h, q⟩
      · exact .inr (.inl q)
      · exact .inr (.inr ⟨h, q⟩)
abbrev entT (tf : Nat → Tok) (k : Nat) : Int × Value := ((k : Int), Value.int (k : Int) (tf k))
def InterInv (s : Shared) (r : Addr) (K : List Nat) (led : Bool) (tfw : Nat → Tok) (ord : List Nat) (rest : List (Int × Value)) (s' : Shared) : Prop :=
  ∃ done rl R tf ep h', rest = rl.map (entT tfw) ∧ ord = done ++ rl ∧ R ∈ sub4 ∧ (∀ k < 4, k ∈ R ↔ k ∈ done ∧ k ∈ K) ∧ s' = { s with heap := h' } ∧ (∀ b o, b ≠ r → s.heap.get? b = some o → h'.get? b = some o) ∧ h'.get? r = some (cObj (.type "set") none R tf ep led)
section
variable {prog : Program} {A : Around} {E : Value → Shared → Prop} {s : Shared} {a b r : Addr} {ca cb : Value} {da db : Option Addr} {S U : List Nat} {tfa tfb : Nat → Tok} {epa epb : Nat} {leda ledb ledr : Bool}
theorem inter_loop {id : String} {Q : Unit → Shared → Prop} {wk ak : Addr} {cw ck : Value} {dw dk : Option Addr} {W K : List Nat} {tfw tfk : Nat → Tok} {epw epk : Nat} {ledw ledk : Bool}
    (hw : s.heap.get? wk = some (cObj cw dw W tfw epw ledw)) (hk : s.heap.get? ak = some (cObj ck dk K tfk epk ledk)) (hW : W ∈ sub4) (hK : K ∈ sub4) (hrw : r ≠ wk) (hrk : r ≠ ak)
    (hr : s.heap.get? r = some (cObj (.type "set") none [] (fun _ => 0) 0 ledr)) {ord : List Nat} (ho : ord.Perm W) (hnd : ord.Nodup)
    (h : ∀ h' tf ep R, R ∈ sub4 → (∀ k < 4, k ∈ R ↔ k ∈ W ∧ k ∈ K) → (∀ b o, b ≠ r → s.heap.get? b = some o → h'.get? b = some o) → h'.get? r = some (cObj (.type "set") none R tf ep ledr) → Q () { s with heap := h' }) :
    wpAny (model prog w) A (forIn (cEs ord tfw) PUnit.unit fun x _ => match x with
      | (h, x) => do
        holding [x] do
          if (← setFind ak x h).isSome then do
            let _ ← setAddHashed r x h
            pure ()
          else pure ()
        Builtin.Frozenset.unchanged id wk epw
        pure (ForInStep.yield PUnit.unit)) Q E s := by
  have hlt : ∀ k ∈ ord, k < 4 := fun k hk => sub4_lt hW (ho.mem_iff.mp hk)
  rw [show cEs ord tfw = (ord.map (entT tfw)).toArray from rfl, List.forIn_toArray]
  refine wpAny_forIn_list _ (fun rest _ s' => InterInv s r K ledr tfw ord rest s') _ ?_ ?_ _ _ ⟨[], ord, [], fun _ => 0, 0, s.heap, rfl, rfl, by decide, (fun k _ => by simp), rfl, (fun _ _ _ e => e), hr⟩
  · rintro x rest _ _ ⟨done, rl, R, tf, ep, h', hrl, hord, hR, hm, rfl, ke, hg⟩
    cases rl with
    | nil => cases hrl
    | cons k rl =>
      injection hrl with hx hrest
      subst hx
      subst hrest
      have hk4 : k < 4 := hlt k (by rw [hord]; simp)
      have hkd : k ∉ done := by
        rw [hord] at hnd
        intro hkd
        exact (List.nodup_append.mp hnd).2.2 k hkd k (by simp) rfl
      have hkR : k ∉ R := fun q => hkd ((hm k hk4).mp q).1
      dsimp only
      refine wpAny_bind (wpAny_holding ?_)
      refine wpAny_bind (find_c hK hk4 (ke _ _ (Ne.symm hrk) hk) fun f hf => ?_)
      rw [hf]
      have fin : ∀ R' tf' ep' h'', R' ∈ sub4 → (∀ j < 4, j ∈ R' ↔ j ∈ done ++ [k] ∧ j ∈ K) → (∀ b o, b ≠ r → s.heap.get? b = some o → h''.get? b = some o) → h''.get? r = some (cObj (.type "set") none R' tf' ep' ledr) →
          wpAny (model prog w) A (Builtin.Frozenset.unchanged id wk epw >>= fun _ => pure (ForInStep.yield PUnit.unit)) (fun x s' => match x with
            | .yield _ => InterInv s r K ledr tfw ord (rl.map (entT tfw)) s'
            | .done b' => Q b' s') E { s with heap := h'' } := by
        intro R' tf' ep' h'' hR' hm' ke' hg'
        refine wpAny_bind ?_
        unfold Builtin.Frozenset.unchanged
        refine wpAny_bind (epoch_c hW (ke' _ _ (Ne.symm hrw) hw) ?_)
        simp only [bne_self_eq_false, Bool.false_eq_true, if_false]
        exact wpAny_pure (wpAny_pure ⟨done ++ [k], rl, R', tf', ep', h'', rfl, by rw [hord]; simp, hR', hm', rfl, ke', hg'⟩)
      by_cases hkK : k ∈ K
      · rw [decide_eq_true hkK]
        simp only [if_true]
        refine wpAny_bind (add_c hR hk4 hg (fun q => absurd q hkR) fun _ h2 tf2 sb hg2 => ?_)
        refine wpAny_pure ?_
        refine wpAny_mono (fin (ins4 k R) tf2 _ h2 (ins4_mem hR hk4 hkR) (fun j hj => ?_) (fun b o hb e => sb.extBut b o hb (ke b o hb e)) hg2) (fun x s' hx => by cases x <;> exact hx) fun _ _ e => e
        rw [ins4_iff, hm j hj, List.mem_append, List.mem_singleton]
        constructor
        · rintro (rfl | ⟨p, q⟩)
          · exact ⟨.inr rfl, hkK⟩
          · exact ⟨.inl p, q⟩
        · rintro ⟨p | rfl, q⟩
          · exact .inr ⟨p, q⟩
          · exact .inl rfl
      · rw [decide_eq_false hkK]
        simp only [Bool.false_eq_true, if_false]
        refine wpAny_pure ?_
        refine wpAny_mono (fin R tf ep h' hR (fun j hj => ?_) ke hg) (fun x s' hx => by cases x <;> exact hx) fun _ _ e => e
        rw [hm j hj, List.mem_append, List.mem_singleton]
        constructor
        · rintro ⟨p, q⟩
          exact ⟨.inl p, q⟩
        · rintro ⟨p | rfl, q⟩
          · exact ⟨p, q⟩
          · exact absurd q hkK
  · rintro _ _ ⟨done, rl, R, tf, ep, h', hrl, hord, hR, hm, rfl, ke, hg⟩
    have : rl = [] := by
      cases rl with
      | nil => rfl
      | cons a l => cases hrl
    subst this
    rw [List.append_nil] at hord
    subst hord
    exact h h' tf ep R hR (fun k hk => by rw [hm k hk, ho.mem_iff]) ke hg
theorem inter_c {id : String} {Q : Value → Shared → Prop} (hs : s.heap.get? a = some (cObj ca da S tfa epa leda)) (hb : s.heap.get? b = some (cObj cb db U tfb epb ledb)) (hS : S ∈ sub4) (hU : U ∈ sub4) (hab : a ≠ b)
    (Ca : SetCls w s.heap ca) (Cb : SetCls w s.heap cb) (hla : LedOk w leda) (hlb : LedOk w ledb)
    (h : ∀ h' tf ep led, Keep s.heap h' → h'.get? s.heap.objs.size = some (cObj (.type "set") none (inter4 S U) tf ep led) → LedOk w led → Q (.ref s.heap.objs.size) { s with heap := h' }) :
    wpAny (model prog w) A (Builtin.Frozenset.intersection id a (.ref b)) Q E s := by
  unfold Builtin.Frozenset.intersection
  rw [if_neg (by simpa using fun e : b = a => hab e.symm)]
  refine wpAny_bind ?_
  unfold Builtin.Frozenset.baseOf
  refine wpAny_bind (((type_c hs).andThen (Ca.sub prog)).here (wpAny_pure ?_))
  simp only [if_true]
  refine wpAny_bind (newSet_c fun led hl => ?_)
  refine wpAny_bind (wpAny_pure ?_)
  refine wpAny_bind (wpAny_holding ?_)
  have k1 : Keep s.heap (s.heap.push (cObj (.type "set") none [] (fun _ => 0) 0 led)) := fun b o e => Heap.get?_push_of_some _ e
  refine wpAny_bind (isSet_c (k1 _ _ hb) (Cb.keeps k1) ?_)
  simp only [if_true]
  refine wpAny_bind (wpAny_pure ?_)
  refine wpAny_bind (size_c hU (k1 _ _ hb) ?_)
  refine wpAny_bind (size_c hS (k1 _ _ hs) ?_)
  have hr : (s.heap.push (cObj (.type "set") none [] (fun _ => 0) 0 led)).get? s.heap.objs.size = some (cObj (.type "set") none [] (fun _ => 0) 0 led) := Heap.get?_push_size _ rfl
  have na : s.heap.objs.size ≠ a := Nat.ne_of_gt (Heap.lt_size hs)
  have nb : s.heap.objs.size ≠ b := Nat.ne_of_gt (Heap.lt_size hb)
  have hnd : ∀ {x : List Nat}, x ∈ sub4 → x.Nodup := fun {x} hx => by
    have : ∀ x ∈ sub4, x.Nodup := by decide
    exact this x hx
  have back : ∀ {R : List Nat} {h' : Heap} {tf ep}, R ∈ sub4 → (∀ k < 4, k ∈ R ↔ k ∈ S ∧ k ∈ U) → (∀ b o, b ≠ s.heap.objs.size → (s.heap.push (cObj (.type "set") none [] (fun _ => 0) 0 led)).get? b = some o → h'.get? b = some o) →
      h'.get? s.heap.objs.size = some (cObj (.type "set") none R tf ep led) → Q (.ref s.heap.objs.size) { s with heap := h' } := by
    intro R h' tf ep hR hm ke hg
    have : R = inter4 S U := sub4_ext hR (inter4_mem hS hU) fun k hk => by rw [hm k hk]; simp [inter4]
    subst this
    exact h h' tf ep led (fun b o e => ke b o (Nat.ne_of_lt (Heap.lt_size e)) (k1 _ _ e)) hg hl
  by_cases hgt : U.length > S.length
  · simp only [if_pos hgt]
    refine wpAny_bind (epoch_c hS (k1 _ _ hs) ?_)
    refine wpAny_bind (unseen_c hS (k1 _ _ hs) hla ?_)
    refine wpAny_bind (inter_loop (wk := a) (ak := b) (k1 _ _ hs) (k1 _ _ hb) hS hU na nb hr ordW_perm (ordW_perm.nodup_iff.mpr (hnd hS)) fun h' tf ep R hR hm ke hg => ?_)
    exact wpAny_pure (wpAny_pure (back hR hm ke hg))
  · simp only [if_neg hgt]
    refine wpAny_bind (epoch_c hU (k1 _ _ hb) ?_)
    refine wpAny_bind (unseen_c hU (k1 _ _ hb) hlb ?_)
    refine wpAny_bind (inter_loop (wk := b) (ak := a) (k1 _ _ hb) (k1 _ _ hs) hU hS nb na hr ordW_perm (ordW_perm.nodup_iff.mpr (hnd hU)) fun h' tf ep R hR hm ke hg => ?_)
    exact wpAny_pure (wpAny_pure (back hR (fun k hk => (hm k hk).trans and_comm) ke hg))
end

end
section
def mroSet (K : Frag) (C : Addr) : Bool := match clsIn K C with
  | some cd => (match cd.mro with | [a, b, c] => a == .ref C && b == .type "set" && c == .type "object" | _ => false)
  | none => false
theorem cc_mro : mroSet (K39 w.params) 75 = true := by kernel_rfl
theorem cc_cls : ∃ cd, clsIn (K39 w.params) 75 = some cd ∧ cd.mro = [.ref 75, .type "set", .type "object"] := by
  have h := cc_mro (w := w)
  unfold mroSet at h
  split at h
  · rename_i cd hc
    refine ⟨cd, hc, ?_⟩
    split at h
    · rename_i a b c e
      rw [Bool.and_eq_true, Bool.and_eq_true] at h
      rw [e, beq_iff_eq.mp h.1.1, beq_iff_eq.mp h.1.2, beq_iff_eq.mp h.2]
    · cases h
  · cases h
theorem cc_rand : findIn (K39 w.params) (.ref 75) (dunderR "and") = some (some (.builtin "set.__rand__")) := by k_is
theorem cc_dand : findIn (K39 w.params) (.ref 75) (PySem.dunder "and") = some (some (.builtin "set.__and__")) := by k_is
theorem set_and_own : ownNameWrapper (.builtin "set.__and__") (PySem.dunder "and") = true := by decide +kernel
theorem entry_set_and' : entryFor table "set.__and__" = some Builtin.«frozenset.__and__» :=
  entryFor_alias (id' := "frozenset.__and__") (by rw [fastTable_eq_tree]; kernel_rfl) rfl (by decide +kernel) (by rw [fastTable_eq_tree]; kernel_rfl)
section
variable {prog : Program} {A : Around} {E : Value → Shared → Prop} {s : Shared} {a b : Addr} {h : Heap} {S U : List Nat} {tfa tfb : Nat → Tok} {epa epb : Nat} {leda ledb : Bool} {da db : Option Addr}
theorem seq_75 (X : (K39 w.params).In h) : Looks (model prog w) h (inheritsSeqSlot (.ref 75) (PySem.dunder "and")) false := by
  intro A Q E s k q
  obtain ⟨cd, hc, hm⟩ := cc_cls (w := w)
  have Lm : Looks (model prog w) h (mroOf (.ref 75)) cd.mro := (looks_clsIn X hc).andThen (f := fun cd => pure cd.mro) .now
  unfold inheritsSeqSlot
  refine wpAny_bind (Lm A _ E s k ?_)
  rw [hm, List.anyM_cons]
  refine wpAny_bind (wpAny_pure ?_)
  simp only [Bool.false_eq_true, if_false]
  rw [List.anyM_cons]
  have e1 : typeLookup (.type "set") (PySem.dunder "and") = pure (some (.builtin "set.__and__")) := F.slot_set_and.lookup
  simp only [e1]
  refine wpAny_bind (wpAny_bind (wpAny_pure (wpAny_pure ?_)))
  rw [show isSeqSlot (some (.builtin "set.__and__")) = false by decide +kernel]
  simp only [Bool.false_eq_true, if_false]
  rw [List.anyM_cons]
  have e2 : typeLookup (.type "object") (PySem.dunder "and") = pure none := by rw [typeLookup_type, builtinLookup_eq_fast]; kernel_rfl
  simp only [e2]
  refine wpAny_bind (wpAny_bind (wpAny_pure (wpAny_pure ?_)))
  simp only [isSeqSlot, Bool.false_eq_true, if_false, List.anyM_nil]
  exact wpAny_pure q
theorem fills_75 (X : (K39 w.params).In h) : Looks (model prog w) h (fillsNumberSlot (.ref 75) "and") true := by
  intro A Q E s k q
  obtain ⟨cd, hc, hm⟩ := cc_cls (w := w)
  have Lm : Looks (model prog w) h (mroOf (.ref 75)) cd.mro := (looks_clsIn X hc).andThen (f := fun cd => pure cd.mro) .now
  unfold fillsNumberSlot
  refine wpAny_bind (Lm A _ E s k ?_)
  rw [hm, List.anyM_cons]
  refine wpAny_bind ?_
  show wpAny _ A (List.anyM _ [PySem.dunder "and", dunderR "and"]) _ _ _
  rw [List.anyM_cons]
  refine wpAny_bind (wpAny_bind (looks_findIn X cc_dand A _ E s k ?_))
  dsimp only
  rw [set_and_own]
  simp only [Bool.not_true, Bool.false_eq_true, if_false]
  refine wpAny_bind (seq_75 X A _ E s k (wpAny_pure ?_))
  simp only [Bool.not_false, if_true]
  exact wpAny_pure (wpAny_pure q)
/-- set & CandidateSet -/
theorem and_c {Q : Value → Shared → Prop} (X : (K39 w.params).In s.heap) (hs : s.heap.get? a = some (cObj (.type "set") da S tfa epa leda)) (hb : s.heap.get? b = some (cObj (.ref 75) db U tfb epb ledb)) (hS : S ∈ sub4) (hU : U ∈ sub4)
    (hla : LedOk w leda) (hlb : LedOk w ledb)
    (h : ∀ h' tf ep led, Keep s.heap h' → h'.get? s.heap.objs.size = some (cObj (.type "set") none (inter4 S U) tf ep led) → LedOk w led → Q (.ref s.heap.objs.size) { s with heap := h' }) :
    wpAny (model prog w) A (binaryOp .BitAnd (.ref a) (.ref b)) Q E s := by
  have hab : a ≠ b := fun e => by rw [e, hb] at hs; cases hs
  have Ca : SetCls w s.heap (.type "set") := setCls_set
  have Cb : SetCls w s.heap (.ref 75) := setCls_own X
  refine bin_of1 (op := .BitAnd) ?_
  show wpAny _ _ (binaryOp1 "and" _ _) _ _ _
  have one : wpAny (model prog w) A (tryMethod (.ref a) (PySem.dunder "and") (.ref b)) (fun r s' => ∃ z, r = some z ∧ Q z s') E s := by
    unfold tryMethod
    have hT : s.TypeIs (.ref a) "set" := ⟨_, hs, rfl⟩
    refine wpAny_bind (wpAny_callSpecial?_slot hT F.slot_set_and (wpAny_call_entry F.slot_set_and hT entry_set_and' ?_ (F.args_set_and_2 _ _)))
    show wpAny _ _ (Builtin.Frozenset.slot1 "__and__" _ >>= _) _ _ _
    unfold Builtin.Frozenset.slot1
    refine wpAny_bind (wpAny_bind (wpAny_pure (wpAny_pure ?_)))
    dsimp only
    show wpAny _ _ (((Builtin.Frozenset.isAnySet (.ref a)) <&&> (Builtin.Frozenset.isAnySet (.ref b))) >>= _) _ _ _
    refine wpAny_bind ?_
    show wpAny _ _ (Builtin.Frozenset.isAnySet (.ref a) >>= _) _ _ _
    refine wpAny_bind (isSet_c hs Ca ?_)
    refine isSet_c hb Cb ?_
    simp only [Bool.not_true, Bool.false_eq_true, if_false]
    refine wpAny_bind (wpAny_pure ?_)
    refine wpAny_bind (inter_c hs hb hS hU hab Ca Cb hla hlb fun h' tf ep led k hg hl => ?_)
    exact wpAny_pure ⟨_, rfl, wpAny_pure ⟨_, rfl, h h' tf ep led k hg hl⟩⟩
  obtain ⟨hh, g, d, tt, os⟩ := s
  have L1 : Looks (model prog w) hh (typeOf (.ref a)) (.type "set") := type_c hs
  have L2 : Looks (model prog w) hh (typeOf (.ref b)) (.ref 75) := type_c hb
  have L3 : Looks (model prog w) hh (fillsNumberSlot (.type "set") "and") true := Looks.of_pure F.fills_set_and
  have L4 : Looks (model prog w) hh (fillsNumberSlot (.ref 75) "and") true := fills_75 X
  have L5 : Looks (model prog w) hh (isSubtype (.ref 75) (.type "set")) true := looks_mroIn X cc_sub
  have L6 : Looks (model prog w) hh (reflectedDiffers (.type "set") (.ref 75) "and") false := by
    intro A Q E s k q
    unfold reflectedDiffers
    refine wpAny_bind (wpAny_pure ?_)
    simp only [Bool.not_false, if_true]
    refine wpAny_bind (looks_findIn X cc_rand A _ E s k ?_)
    have e1 : typeLookup (.type "set") (dunderR "and") = pure (some (.builtin "set.__rand__")) := F.slot_set_rand.lookup
    rw [e1]
    refine wpAny_bind (wpAny_pure ?_)
    rw [show ((some (Value.builtin "set.__rand__")).isSome && some (Value.builtin "set.__rand__") != some (Value.builtin "set.__rand__")) = false by simp]
    exact wpAny_pure q
  have L7 : Looks (model prog w) hh (numberSlotInPython (.type "set") "and") false := Looks.of_pure rfl
  have hne : (Value.type "set" == Value.ref 75) = false := Bool.eq_false_iff.mpr fun q => by cases beq_iff_eq.mp q
  unfold binaryOp1
  refine wpAny_bind (L1.at (wpAny_bind (L2.at (wpAny_bind (L3.at ?_)))))
  simp only [hne, Bool.false_eq_true, if_false]
  ksp_lk
  refine wpAny_mono one (fun r s' hr' => ?_) fun _ _ e => e
  obtain ⟨z, rfl, hq⟩ := hr'
  ksp_lk
  exact ⟨_, rfl, hq⟩
end

end
section
def slot4 (K : Frag) (C : Addr) : Bool := match K.lookup C with
  | some ⟨_, _, .cls cd, sl⟩ => !cd.abstract && !cd.hasDel && (sl.toList[4]?).join == some (.builtin "set.__new__")
  | _ => false
theorem cc_slot4 : slot4 (K39 w.params) 75 = true := by kernel_rfl
theorem cc_call : specialIn (K39 w.params) (.ref 75) "__call__" = some (some (.builtin "type.__call__")) := by k_is
theorem cc_type : instIn (K39 w.params) (.ref 75) (.type "type") = some true := by k_is
theorem cc_self : mroIn (K39 w.params) 75 (.ref 75) = some true := by k_is
theorem cc_init : findIn (K39 w.params) (.ref 75) "__init__" = some (some (.ref 57)) := by k_is
theorem cc_initF : isFn (K39 w.params) (.ref 57) = true := by k_is
theorem cc_obj {h : Heap} (X : (K39 w.params).In h) : ∃ oc od cd sl, h.get? 75 = some ⟨oc, od, .cls cd, sl⟩ ∧ clsIn (K39 w.params) 75 = some cd ∧ cd.abstract = false ∧ cd.hasDel = false ∧ (sl.toList[4]?).join = some (.builtin "set.__new__") ∧ cd.mro = [.ref 75, .type "set", .type "object"] := by
  have h := cc_slot4 (w := w)
  unfold slot4 at h
  split at h
  · rename_i oc od cd sl ho
    simp only [Bool.and_eq_true, Bool.not_eq_true', beq_iff_eq] at h
    obtain ⟨cd', hc, hm⟩ := cc_cls (w := w)
    have hc' : clsIn (K39 w.params) 75 = some cd := by unfold clsIn; rw [ho]
    rw [hc'] at hc
    cases hc
    exact ⟨oc, od, cd, sl, X _ _ ho, hc', h.1.1, h.1.2, h.2, hm⟩
  · cases h
theorem sn_split : splitId "set.__new__" = some ("set", "__new__") := by decide +kernel
theorem sn_kind : builtinKind "set.__new__" = some .builtinFn := by decide +kernel
def snRow : Manifest.Signature := ⟨.any, "set", "set", .cls, [⟨"args", .varPos, false⟩, ⟨"kwargs", .varKw, false⟩]⟩
theorem sn_row : Manifest.signature? "set.__new__" = some snRow := by
  rw [signature?_of (id := "set.__new__") (n := ['_', '_', 'w', 'e', 'n', '_', '_']) (o := ['t', 'e', 's']) (by kernel_rfl) F.owner_set]; kernel_rfl
theorem sn_quiet : ("set.__new__").startsWith "lifetime." = false := by decide +kernel
section
variable {prog : Program} {A : Around} {E : Value → Shared → Prop} {h : Heap} {g : Array GenState} {d : Drawn} {t : Nat} {os : OsState} {R : Result → Shared → Prop}
theorem made_75 (X : (K39 w.params).In h) : Looks (model prog w) h (Bind.madeBy (.ref 75)) (some "set.__new__") := by
  intro A Q E s k q
  obtain ⟨oc, od, cd, sl, ho, hc, e1, e2, e3, hm⟩ := cc_obj X
  have Lm : Looks (model prog w) h (mroOf (.ref 75)) cd.mro := (looks_clsIn X hc).andThen (f := fun cd => pure cd.mro) .now
  unfold Bind.madeBy
  refine wpAny_bind (Lm A _ E s k ?_)
  rw [hm, List.forIn_cons]
  refine wpAny_bind (wpAny_bind (wpAny_bind (wpAny_bind (wpAny_loadPart (k _ _ ho) (wpAny_pure ?_)))))
  dsimp only
  rw [← Array.getElem?_toList, e3]
  exact wpAny_pure (wpAny_pure (wpAny_pure q))
theorem base_75 (X : (K39 w.params).In h) : Looks (model prog w) h (Bind.staticBase (.ref 75)) (.ref 75) := by
  intro A Q E s k q
  obtain ⟨oc, od, cd, sl, ho, hc, e1, e2, e3, hm⟩ := cc_obj X
  have Lm : Looks (model prog w) h (mroOf (.ref 75)) cd.mro := (looks_clsIn X hc).andThen (f := fun cd => pure cd.mro) .now
  unfold Bind.staticBase
  refine wpAny_bind (Lm A _ E s k ?_)
  rw [hm, List.forIn_cons]
  exact wpAny_bind (wpAny_bind (wpAny_bind (made_75 X A _ E s k (wpAny_pure (wpAny_pure (wpAny_pure q))))))
abbrev csObj (dx : Addr) (S : List Nat) (tf : Nat → Tok) (ep : Nat) (led : Bool) : Obj := cObj (.ref 75) (some dx) S tf ep led
theorem newset_75 {Q : Value → Shared → Prop} (X : (K39 w.params).In h)
    (hq : ∀ led, LedOk w led → Q (.ref (h.objs.size + 1)) ⟨(h.push emptyDict).push (csObj h.objs.size [] (fun _ => 0) 0 led), g, d, t, os⟩) : wpAny (model prog w) A (newSet (.ref 75)) Q E ⟨h, g, d, t, os⟩ := by
  obtain ⟨oc, od, cd, sl, ho, hc, e1, e2, e3, hm⟩ := cc_obj X
  unfold newSet
  refine wpAny_bind (text_c ?_)
  dsimp only
  refine wpAny_bind (wpAny_alloc ?_)
  show wpAny _ _ (newObjAsIs _ _ _) _ _ _
  unfold newObjAsIs classHasDel
  refine wpAny_bind (wpAny_alloc (wpAny_bind (wpAny_bind (wpAny_load (Heap.get?_push_of_some _ (Heap.get?_push_of_some _ ho)) (wpAny_pure ?_)))))
  rw [e2]
  refine wpAny_pure ?_
  have := hq (!w.params.followText "set-order") fun e => by rw [e]; rfl
  rw [Heap.size_push]
  exact this
theorem new_75 {rest : List Value} {kw : List (Str × Value)} (X : (K39 w.params).In h)
    (hq : ∀ led, LedOk w led → R (.ok (.ret (.ref (h.objs.size + 1)))) ⟨(h.push emptyDict).push (csObj h.objs.size [] (fun _ => 0) 0 led), g, d, t, os⟩) :
    codeAny (model prog w) A (.call (.builtin "set.__new__") ⟨.ref 75 :: rest, kw⟩) R ⟨h, g, d, t, os⟩ := by
  refine codeAny_call_builtin_code (Code.quiet_builtin _ sn_quiet) ?_
  have hargs : Bind.checkArgs "set.__new__" snRow ⟨.ref 75 :: rest, kw⟩ = pure () := by kernel_rfl
  simp only [checkBuiltinCall, sn_kind, sn_split, sn_row]
  obtain ⟨oc, od, cd, sl, ho, hc, e1, e2, e3, hm⟩ := cc_obj X
  have sub : Looks (model prog w) h (isSubtype (.ref 75) (.type "set")) true := looks_mroIn X cc_sub
  have base := base_75 (prog := prog) X
  have made := made_75 (prog := prog) X
  rw [hargs]
  repeat (first | simp only [bne_self_eq_false, Bool.false_eq_true, if_false] | lk)
  refine codeAny_builtin F.entry_set_new ?_
  rw [Around.under_plainId F.plain_set_new _]
  unfold Builtin.«set.__new__» Builtin.Frozenset.newClass
  refine wpAny_bind (wpAny_bind ?_)
  repeat (first | simp only [Bool.false_eq_true, if_false, Bool.not_true] | lk)
  refine nd_load (Heap.get?_push_of_some _ (Heap.get?_push_of_some _ ho)) ?_
  try dsimp only
  refine wpAny_pure ?_
  simp only [e2, Bool.false_eq_true, if_false]
  refine wpAny_pure (wpAny_pure ?_)
  have := hq (!w.params.followText "set-order") fun e => by rw [e]; rfl
  rw [Heap.size_push]
  exact wpAny_pure this
/-- CandidateSet(x, ..): the new object, and its __init__ -/
theorem make_75 {rest : List Value} {kw : List (Str × Value)} (X : (K39 w.params).In h)
    (hq : ∀ led h₁, LedOk w led → h₁ = (h.push emptyDict).push (csObj h.objs.size [] (fun _ => 0) 0 led) →
      codeAny (model prog w) (A.under (.builtin "type.__call__" ⟨.ref 75 :: rest, kw⟩)) (.call (.ref 57) ⟨.ref (h.objs.size + 1) :: rest, kw⟩) (InitBack (h.objs.size + 1) R) ⟨h₁, g, d, t, os⟩) :
    codeAny (model prog w) A (.call (.ref 75) ⟨rest, kw⟩) R ⟨h, g, d, t, os⟩ := by
  obtain ⟨oc, od, cd, sl, hC, hc, e1, e2, e3, hmr⟩ := cc_obj X
  have call : Looks (model prog w) h (specialOf (.ref 75) "__call__") (some (.builtin "type.__call__")) := looks_specialIn X cc_call
  have typ : Looks (model prog w) h (isInstance (.ref 75) (.type "type")) true := looks_instIn X cc_type
  have made := made_75 (prog := prog) X
  have self : Looks (model prog w) h (isSubtype (.ref 75) (.ref 75)) true := looks_mroIn X cc_self
  have e4 : cd.mro.isEmpty = false := by rw [hmr]; rfl
  refine codeAny_of_tree ?_
  show wpAny _ _ (callAny (.ref 75) _) _ _ _
  refine nd_load hC ?_
  show wpAny _ _ (callAny.viaDunder (.ref 75) _) _ _ _
  unfold callAny.viaDunder
  refine wpAny_bind (call.at ?_)
  dsimp only
  rw [tc_bind]
  refine wpAny_bind (wpAny_pure (wpAny_bind (wpAny_pure ?_)))
  refine wpAny_pure (a := PySem.Fin.again (.call (.builtin "type.__call__") ⟨.ref 75 :: rest, kw⟩)) (And.intro rfl ?_)
  refine codeAny_call_builtin_at (Code.quiet_builtin _ (by decide +kernel)) entry_typeCall (check_slot tc_kind tc_split typ (tc_args _ _ _) ?_)
  unfold Builtin.«type.__call__»
  have hm : Looks (model prog w) h (mroOf (.ref 75)) cd.mro := ((Looks.ld (part := none) hC).andThen .now).andThen .now
  repeat (first | simp only [e4, Bool.false_eq_true, if_false] | with_reducible refine wpAny_call ?_ | lk)
  refine new_75 X fun led hl => ?_
  have k : ∀ b o, h.get? b = some o → ((h.push emptyDict).push (csObj h.objs.size [] (fun _ => 0) 0 led)).get? b = some o := fun b o e => Heap.get?_push_of_some _ (Heap.get?_push_of_some _ e)
  have hx : ((h.push emptyDict).push (csObj h.objs.size [] (fun _ => 0) 0 led)).get? (h.objs.size + 1) = some (csObj h.objs.size [] (fun _ => 0) 0 led) := by
    have : ((h.push emptyDict).push (csObj h.objs.size [] (fun _ => 0) 0 led)).get? (h.push emptyDict).objs.size = some (csObj h.objs.size [] (fun _ => 0) 0 led) := Heap.get?_push_size _ rfl
    rwa [Heap.size_push] at this
  have t1 : Looks (model prog w) ((h.push emptyDict).push (csObj h.objs.size [] (fun _ => 0) 0 led)) (typeOf (.ref (h.objs.size + 1))) (.ref 75) := (Looks.ld hx).andThen .now
  have s1 := self.keeps k
  have i1 : Looks (model prog w) ((h.push emptyDict).push (csObj h.objs.size [] (fun _ => 0) 0 led)) (typeLookup (.ref 75) "__init__") (some (.ref 57)) := (looks_findIn X cc_init).keeps k
  have b1 := (bind_fn (M := model prog w) X (.ref (h.objs.size + 1)) (beq_iff_eq.mp cc_initF)).keeps k
  have hq' := hq led _ hl rfl
  unfold isInstance callSpecial? specialOf
  repeat (first | with_reducible refine wpAny_call ?_ | lk)
  refine codeAny_mono hq' fun r s' z => ?_
  rcases r with e | (v | _ | _ | _) <;> first | exact z | exact z.elim | skip
  obtain ⟨rfl, z⟩ := z
  exact wpAny_pure (wpAny_pure z)
end

end
section
/-- the env of a call of a def with one cell of its own -/
def envC (fd : FuncData) (L f : Addr) (cn : Str) : Env :=
  { scope := fd.scope, locals := L, globals := fd.globals, cells := (cn, L + 1) :: fd.closure, qual := fd.qualname ++ ".<locals>.", func := some f, code := fd.code, frame := some L, builtins := fd.builtins }
abbrev cellObj (v : Option Value) : Obj := { cls := .type "cell", data := .cell v }
theorem nsCongr {h : Heap} {a : Addr} {m m' : Str → Option Value} (hn : h.Ns a m) (e : ∀ x, m x = m' x) : h.Ns a m' := by
  have : m = m' := funext e
  subst this
  exact hn
section
variable {prog : Program} {A : Around} {s : Shared}
theorem storeLocals {M : Model} {E : Value → Shared → Prop} {env : Env} (f : Str × Value → PUnit → Sem (ForInStep PUnit)) (hf : ∀ n v u, f (n, v) u = (do storeName env n v; pure (.yield ⟨⟩))) (hk : env.scope.kind = .function) (rest : List (Str × Value)) :
    ∀ (lb : List (Str × Value)) (m : Str → Option Value) (s : Shared) (Q : PUnit → Shared → Prop), s.heap.Ns env.locals m → (∀ y ∈ lb, env.kindOf y.1 = some .local) →
      (∀ h', h'.Ns env.locals (fun x => (lb.reverse.lookup x).or (m x)) → Heap.SameBut env.locals s.heap h' → wpAny M A (forIn rest ⟨⟩ f) Q E { s with heap := h', toks := s.toks + lb.length }) → wpAny M A (forIn (lb ++ rest) ⟨⟩ f) Q E s
  | [], m, s, Q, hn, _, h => by
    have := h s.heap (by simpa using hn) (Heap.SameBut.refl _ _)
    exact this
  | (n, v) :: r, m, s, Q, hn, hl, h => by
    rw [List.cons_append, List.forIn_cons, hf]
    refine wpAny_bind (wpAny_bind (wpAny_storeName_local (hl _ List.mem_cons_self) hn (fun h' hn' hs' => ?_) (by rw [hk]; rfl)))
    refine wpAny_pure ?_
    refine storeLocals f hf hk rest r _ _ _ hn' (fun y hy => hl y (List.mem_cons_of_mem _ hy)) fun h'' hn'' hs'' => ?_
    have := h h'' ?_ (hs'.trans hs'')
    · rw [List.length_cons, Nat.add_comm r.length 1, ← Nat.add_assoc] at this
      exact this
    · refine nsCongr hn'' fun x => ?_
      rw [List.reverse_cons, List.lookup_append]
      cases hx : r.reverse.lookup x with
      | some z => rfl
      | none =>
        simp only [Option.or, List.lookup_cons, List.lookup_nil]
        by_cases e : x = n
        · subst e; simp
        · have : (x == n) = false := by simpa using e
          rw [if_neg e, this]
theorem enterC {R : Result → Shared → Prop} {f : Addr} {o : Obj} {fd : FuncData} {body : List Stmt} {args : Args} {lb : List (Str × Value)} {cn : Str} {v : Value}
    (hroom : A.depth < recursionLimit) (ho : s.heap.get? f = some o) (hdata : o.data = .func fd) (hlim : s.heap.NoLimit) (hcd : s.heap.CodeRec fd.code fd.qualname) (hbody : fd.body = .stmts body)
    (hbind : BindsTo s fd args (lb ++ [(cn, v)])) (hcells : ∀ n acc, cellsFrom n fd.scope.names acc = (cn, n) :: acc) (hpush : ∀ h, pushCells h fd.scope.names = h.push (cellObj none))
    (hloc : ∀ y ∈ lb, fd.scope.names.lookup y.1 = some .local) (hc : fd.scope.names.lookup cn = some .cell)
    (h : ∀ h₁, h₁.Ns s.heap.objs.size (fun x => lb.reverse.lookup x) → h₁.IsCell (s.heap.objs.size + 1) (some v) → Keep s.heap h₁ →
      PySem.wpAt (model prog w) (A.deeper (envC fd s.heap.objs.size f cn)) (.func body (envC fd s.heap.objs.size f cn)) (execs body (envC fd s.heap.objs.size f cn)) (fun fl s' => R (.ok (.ret (match fl with | .ret v => v | _ => .none))) s') never { s with heap := h₁, toks := s.toks + lb.length })
    (hco : fd.scope.isCoroutine = false := by rfl) (hgen : fd.scope.isGenerator = false := by rfl) (hk : fd.scope.kind = .function := by rfl) :
    codeAny (model prog w) A (.call (.ref f) args) R s := by
  refine codeAny_call_function hroom ho hdata hco hgen hbody hcd (hbind _ _ _ _ ?_)
  simp only [newFunctionEnv, Option.isSome_none, Bool.false_eq_true, if_false]
  refine wpAny_bind (wpAny_alloc ?_)
  refine wpAny_bind (wpAny_layCells _ (fun name kind cells => by cases hkc : kind == NameKind.cell <;> simp [hkc]) _ _ _ _ ?_)
  rw [hcells, hpush, show ({ s with heap := s.heap.push { cls := .type "frame", data := .dict #[] } } : Shared).heap.objs.size = s.heap.objs.size + 1 from Heap.size_push ..]
  have hn0 : ((s.heap.push { cls := .type "frame", data := .dict #[] }).push (cellObj none)).Ns s.heap.objs.size fun _ => none := (Heap.Ns.new s.heap (.type "frame")).keeps fun b o e => Heap.get?_push_of_some _ e
  have hc0 : ((s.heap.push { cls := .type "frame", data := .dict #[] }).push (cellObj none)).get? (s.heap.objs.size + 1) = some (cellObj none) := by
    have : ((s.heap.push { cls := .type "frame", data := .dict #[] }).push (cellObj none)).get? (s.heap.push { cls := .type "frame", data := .dict #[] }).objs.size = some (cellObj none) := Heap.get?_push_size _ rfl
    rwa [Heap.size_push] at this
  refine wpAny_bind (storeLocals (env := envC fd s.heap.objs.size f cn) _ (fun _ _ _ => rfl) hk [(cn, v)] lb (fun _ => none) _ _ hn0 hloc fun h' hn' hs' => ?_)
  rw [List.forIn_cons]
  have hc1 : h'.IsCell (s.heap.objs.size + 1) none := ⟨_, hs'.extBut _ _ (Nat.ne_of_gt (Nat.lt_succ_self _)) hc0, rfl⟩
  refine wpAny_bind (wpAny_bind (wpAny_storeName_cell (env := envC fd s.heap.objs.size f cn) (c := s.heap.objs.size + 1) hk hc (by show List.lookup cn ((cn, s.heap.objs.size + 1) :: fd.closure) = _; simp) hc1 fun h'' hc'' hs'' => ?_))
  refine wpAny_pure ?_
  dsimp only
  rw [List.forIn_nil]
  refine wpAny_pure (wpAny_pure ?_)
  have kk : Keep s.heap h'' := fun b o e => by
    have hb := Heap.lt_size e
    exact hs''.extBut b o (Nat.ne_of_lt (Nat.lt_succ_of_lt hb)) (hs'.extBut b o (Nat.ne_of_lt hb) (Heap.get?_push_of_some _ (Heap.get?_push_of_some _ e)))
  refine ⟨hlim.keeps kk, ks_codeAny_funcAt (ks_wpAt_mono (h h'' ?_ hc'' kk) (fun _ _ x => x) fun _ _ x => x.elim)⟩
  exact nsCongr (hn'.sameBut hs'' (Nat.ne_of_lt (Nat.lt_succ_self _))) fun x => by simp
end

end
section
abbrev fnOfC (name qual : Str) (params : Arguments) (body : List Stmt) (scope : Scope) (clo : List (Str × Addr)) (dV kV doc pm : Value) (an : Option Addr) (cdv ct : Value) : FuncData :=
  { name, qualname := qual, params, body := .stmts body, scope, globals := mainGlobals, closure := clo, defaults := dV, kwdefaults := kV, doc, pyModule := pm, annotations := an, code := cdv, closureTuple := ct, builtins := builtinsNs }
section
variable {prog : Program} {A : Around} {s : Shared} {K : Frag} {mg mb : Str → Option Value} {p : Program} {loose : List Str}
theorem enterCK {R : Result → Shared → Prop} {name qual : Str} {params : Arguments} {body : List Stmt} {scope : Scope} {clo : List (Str × Addr)} {dV kV doc pm cdv ct oc : Value} {an od : Option Addr} {osl : Array (Option Value)} {f : Addr} {args : Args} {lb : List (Str × Value)} {cn : Str} {v : Value}
    (X : K.In s.heap) (hlim : s.heap.NoLimit) (hroom : A.depth < recursionLimit)
    (ho : K.lookup f = some ⟨oc, od, .func (fnOfC name qual params body scope clo dV kV doc pm an cdv ct), osl⟩) (hcd : codeIn K cdv qual = true)
    (hbind : BindsTo s (fnOfC name qual params body scope clo dV kV doc pm an cdv ct) args (lb ++ [(cn, v)])) (hcells : ∀ n acc, cellsFrom n scope.names acc = (cn, n) :: acc) (hpush : ∀ h, pushCells h scope.names = h.push (cellObj none))
    (hloc : ∀ y ∈ lb, scope.names.lookup y.1 = some .local) (hc : scope.names.lookup cn = some .cell)
    (hco : scope.isCoroutine = false) (hgen : scope.isGenerator = false) (hk : scope.kind = .function)
    (h : ∀ L h₁, L = s.heap.objs.size → Fr s.heap L h₁ (fun x => lb.reverse.lookup x) → h₁.IsCell (L + 1) (some v) →
      PySem.wpAt (model prog w) (A.deeper (envC (fnOfC name qual params body scope clo dV kV doc pm an cdv ct) L f cn)) (.func body (envC (fnOfC name qual params body scope clo dV kV doc pm an cdv ct) L f cn)) (execs body (envC (fnOfC name qual params body scope clo dV kV doc pm an cdv ct) L f cn)) (fun fl s' => R (.ok (.ret (match fl with | .ret v => v | _ => .none))) s') never { s with heap := h₁, toks := s.toks + lb.length }) :
    codeAny (model prog w) A (.call (.ref f) args) R s :=
  enterC (fd := fnOfC name qual params body scope clo dV kV doc pm an cdv ct) hroom (X _ _ ho) rfl hlim (codeRec_of X hcd) rfl hbind hcells hpush hloc hc (fun h₁ hn hcl k => h _ h₁ rfl ⟨hn, k, Nat.le_refl _⟩ hcl) hco hgen hk
end

end
section
theorem cc_opaque : nsIn (K39 w.params) cStatics "thirdparty.any" = some none := by k_is
theorem wd_slot : Slot "wrapper_descriptor" "__get__" "wrapper_descriptor.__get__" := .of (owner := "wrapper_descriptor") (n := "__get__") (by rw [typeLookup_type, builtinLookup_eq_fast]; kernel_rfl) (by decide +kernel) (by decide +kernel) (by decide +kernel)
  (by first | exact .inl (by decide +kernel) | exact .inr (by decide +kernel)) (by rw [isSubtype_type]; kernel_rfl)
theorem wd_entry : entryFor table "wrapper_descriptor.__get__" = some Builtin.«wrapper_descriptor.__get__» := entryFor_of_tree (by kernel_rfl)
theorem wd_args (a b c : Value) : argsOk "wrapper_descriptor.__get__" ⟨[a, b, c], []⟩ := by unfold argsOk; kernel_rfl
theorem si_type : typeOf (.builtin "set.__init__") = pure (.type "wrapper_descriptor") := by show builtinType _ = _; rw [builtinType_eq_fast]; kernel_rfl
theorem si_own : builtinOwn "set" (Str.ofString "__init__") = some (.builtin "set.__init__") := by rw [builtinOwn_eq_fast]; kernel_rfl
abbrev mwObj (f x : Value) : Obj := { cls := .type "method-wrapper", data := .fields #[f, x] }
section
variable {prog : Program} {A : Around} {E : Value → Shared → Prop} {h : Heap} {g : Array GenState} {d : Drawn} {t : Nat} {os : OsState} {so x : Addr} {ox : Obj}
theorem super_ga {tk : Tok} {Q : PySem.Fin → Shared → Prop} (X : (K39 w.params).In h) (hso : h.get? so = some (ks_superObj 75 x 75)) (hx : h.get? x = some ox) (hxc : ox.cls = .ref 75) (hnc : ∀ c, ox.data ≠ .cls c)
    (hq : Q (.done (.ret (.ref h.objs.size))) ⟨h.push (mwObj (.builtin "set.__init__") (.ref x)), g, d, t, os⟩) :
    wpAny (model prog w) A (Builtin.«super.__getattribute__» ⟨[.ref so, .str (Str.ofString "__init__") tk], []⟩) Q E ⟨h, g, d, t, os⟩ := by
  obtain ⟨cd, hc, hm⟩ := cc_cls (w := w)
  have hno : Looks (model prog w) h (opaqueClassAbove (.ref 75)) none := looks_opaque X cc_opaque
  have hC : Looks (model prog w) h (mroOf (.ref 75)) [.ref 75, .type "set", .type "object"] := by
    rw [← hm]; exact (looks_clsIn X hc).andThen (f := fun cd => pure cd.mro) .now
  have hdt : (ks_superObj 75 x 75).data = .fields #[.ref 75, .ref x, .ref 75] := rfl
  have f0 : (#[.ref 75, .ref x, .ref 75] : Array Value)[0]? = some (.ref 75) := rfl
  have f1 : (#[.ref 75, .ref x, .ref 75] : Array Value)[1]? = some (.ref x) := rfl
  have f2 : (#[.ref 75, .ref x, .ref 75] : Array Value)[2]? = some (.ref 75) := rfl
  have hx75 : x ≠ 75 := by
    rintro rfl
    obtain ⟨oc, od, cd', sl, ho, _⟩ := cc_obj X
    rw [ho] at hx
    cases hx
    exact hnc _ rfl
  have hl : (([.ref 75, .type "set", .type "object"] : List Value).dropWhile (· != .ref 75)).drop 1 = [.type "set", .type "object"] := by simp [List.dropWhile]
  have hne : (Value.ref x == Value.ref 75) = false := by simp [hx75]
  have hf : alongIn (K39 w.params) (Str.ofString "__init__") [.type "set", .type "object"] = some (some (.builtin "set.__init__")) := by kernel_rfl
  have hlk := wd_slot.lookup
  unfold Builtin.«super.__getattribute__»
  repeat (first
    | (with_reducible refine wpAny_field hso hdt f0 ?_) | (with_reducible refine wpAny_field hso hdt f1 ?_) | (with_reducible refine wpAny_field hso hdt f2 ?_)
    | (with_reducible refine ks_wpAny_notOpaque hno ?_)
    | (with_reducible refine Looks.at hC ?_; rw [hl]; refine stopHere ?_)
    | wp_step
    | dsimp only)
  show wpAny _ _ _ _ _ _
  rw [List.forIn_cons]
  refine wpAny_bind (wpAny_bind (wpAny_bind (wpAny_pure ?_)))
  rw [si_own]
  dsimp only
  refine wpAny_bind (wpAny_of_eq si_type (wpAny_bind (wpAny_of_eq wd_slot.lookup ?_)))
  dsimp only
  refine wpAny_bind (wpAny_holding ?_)
  rw [hne, if_neg (by decide)]
  refine wpAny_call_entry wd_slot (show Shared.TypeIs _ (.builtin "set.__init__") "wrapper_descriptor" from si_type) wd_entry ?_ (wd_args _ _ _)
  show wpAny _ _ (Builtin.«wrapper_descriptor.__get__» _) _ _ _
  have hT : Looks (model prog w) h (typeOf (.ref x)) (.ref 75) := hxc ▸ type_c hx
  have hS : Looks (model prog w) h (isSubtype (.ref 75) (.type (".".intercalate ("set.__init__".cutAt '.').dropLast))) true := by
    rw [show ".".intercalate ("set.__init__".cutAt '.').dropLast = "set" by decide +kernel]; exact looks_mroIn X cc_sub
  unfold Builtin.«wrapper_descriptor.__get__»
  repeat lk
  refine ⟨_, rfl, wpAny_bind (wpAny_pure (wpAny_pure (wpAny_pure (wpAny_pure ?_))))⟩
  exact hq
theorem super_method {pl : Sem Bool} {Q : Value × List Value → Shared → Prop} (X : (K39 w.params).In h) (hso : h.get? so = some (ks_superObj 75 x 75)) (hx : h.get? x = some ox) (hxc : ox.cls = .ref 75) (hnc : ∀ c, ox.data ≠ .cls c)
    (hq : Q (.ref h.objs.size, []) ⟨h.push (mwObj (.builtin "set.__init__") (.ref x)), g, d, t + 1, os⟩) :
    wpAny (model prog w) A (getMethod (.ref so) (Str.ofString "__init__") pl) Q E ⟨h, g, d, t, os⟩ := by
  have hlk := F.ks_slot_super_ga.lookup
  have hcan := F.ks_canon_super_ga
  have hT : ∀ t', (⟨h, g, d, t', os⟩ : Shared).TypeIs (.ref so) "super" := fun _ => ⟨_, hso, rfl⟩
  unfold getMethod
  refine wpAny_bind (wpAny_specialOf (hT _) hlk ?_)
  show wpAny _ _ (if (Manifest.canonical "super.__getattribute__" != "object.__getattribute__") = true then _ else _) _ _ _
  rw [if_pos hcan]
  unfold getAttr getAttrBy
  refine wpAny_bind (wpAny_bind (wpAny_mkText (wpAny_holding (wpAny_bind (wpAny_typeOf (hT _) (wpAny_bind (wpAny_of_eq hlk ?_)))))))
  show wpAny _ _ (getAttrByItsOwn (.ref so) (.str (Str.ofString "__init__") t) (.type "super") (.builtin "super.__getattribute__") true false) _ _ _
  unfold getAttrByItsOwn hookBefore callGetattribute boundAndCalled
  refine wpAny_bind (wpAny_of_eq (show (if onTheHeap (.type "super") then typeLookup (.type "super") "__getattr__" else pure none) = pure none from rfl) ?_)
  refine wpAny_bind (wpAny_attempt (wpAny_holding ?_))
  show wpAny _ _ (bindSpecial (.builtin "super.__getattribute__") (.ref so) >>= _) _ _ _
  refine wpAny_bind (wpAny_of_eq (F.ks_slot_super_ga.bind _) ?_)
  refine wpAny_mono (Q := fun v s' => v = .ref h.objs.size ∧ s' = ⟨h.push (mwObj (.builtin "set.__init__") (.ref x)), g, d, t + 1, os⟩) (E := fun _ _ => False)
    (wpAny_call_entry F.ks_slot_super_ga (hT _) F.ks_entry_super_ga (super_ga X hso hx hxc hnc ⟨_, rfl, rfl, rfl⟩) (F.ks_gaArgs_super _ _)) (fun v s' hv => ?_) fun _ _ z => z.elim
  obtain ⟨rfl, rfl⟩ := hv
  exact wpAny_pure (wpAny_pure hq)
end
section
variable {prog : Program} {A : Around} {E : Value → Shared → Prop} {s : Shared} {q x : Addr} {args : List Value}
/-- the bound __init__ of set is called -/
theorem call_mw {b : Builtin} {Q : Value → Shared → Prop} (hq : s.heap.get? q = some (mwObj (.builtin "set.__init__") (.ref x))) (hp : plainId "set.__init__" = true) (he : entryFor table "set.__init__" = some b)
    (hck : ∀ (Q' : Unit → Shared → Prop), Q' () s → wpAny (model prog w) A.in1 (checkBoundCall "set.__init__" ⟨.ref x :: args, []⟩) Q' E s)
    (h : wpAny (model prog w) A.in1 (b ⟨.ref x :: args, []⟩) (fun fin s' => ∃ v, fin = .done (.ret v) ∧ Q v s') E s) : wpAny (model prog w) A (call (.ref q) args) Q E s := by
  refine wpAny_call (codeAny_of_tree ?_)
  show wpAny _ A.in1 (callAny (.ref q) _) _ _ _
  unfold callAny
  refine wpAny_bind (wpAny_load hq ?_)
  show wpAny _ _ (checkBoundCall "set.__init__" ⟨.ref x :: args, []⟩ >>= _) _ _ _
  refine wpAny_bind (hck _ ?_)
  refine wpAny_pure ⟨plainId_quiet hp _, codeAny_builtin he ?_⟩
  rw [Around.under_plainId hp _]
  refine wpAny_mono h (fun fin s' hv => ?_) fun _ _ e => e
  obtain ⟨v, rfl, hv⟩ := hv
  exact hv
end

end
section
def shortIn (K : Frag) (C : Addr) : Bool := match clsIn K C with
  | some cd => decide (cd.name.cps.foldl (fun k c => k + (Str.utf8Of c).length) 0 ≤ 200)
  | none => false
theorem cc_shortB : shortIn (K39 w.params) 75 = true := by kernel_rfl
theorem cc_short {cd : ClassData} (hc : clsIn (K39 w.params) 75 = some cd) : cd.name.cps.foldl (fun k c => k + (Str.utf8Of c).length) 0 ≤ 200 := by
  have h := cc_shortB (w := w)
  unfold shortIn at h
  rw [hc] at h
  exact of_decide_eq_true h
section
variable {prog : Program} {A : Around} {E : Value → Shared → Prop} {s : Shared} {x y : Addr} {ox : Obj}
theorem check_75 {Q : Unit → Shared → Prop} (X : (K39 w.params).In s.heap) (hx : s.heap.get? x = some ox) (hxc : ox.cls = .ref 75) (h : Q () s) :
    wpAny (model prog w) A (checkBoundCall "set.__init__" ⟨[.ref x, .ref y], []⟩) Q E s := by
  have hT : Looks (model prog w) s.heap (typeOf (.ref x)) (.ref 75) := hxc ▸ type_c hx
  obtain ⟨oc, od, cd, sl, ho, hc, e1, e2, e3, hm⟩ := cc_obj X
  unfold checkBoundCall
  rw [sig_set_init]
  dsimp only
  rw [kind_set_init]
  dsimp only
  rw [if_pos (by decide)]
  unfold Bind.checkArgs
  dsimp only
  refine wpAny_bind (m := Bind.printed "set" true _ _) (PyProof.Rows.printed_name (by decide) ?_)
  have hstar : ∀ (Q' : String → Shared → Prop), (∀ n, Q' n s) → wpAny (model prog w) A (Bind.printed "*" false ⟨.positional, "set", "*", .self, [⟨"iterable", .posOnly, false⟩]⟩ (some (.ref x))) Q' E s := by
    intro Q' hq
    unfold Bind.printed Bind.receiverType
    rw [if_neg (by decide)]
    dsimp only
    refine wpAny_bind (m := (if (Manifest.Receiver.self == Manifest.Receiver.cls) = true then pure (Value.ref x) else typeOf (.ref x))) ?_
    rw [if_neg (by decide)]
    refine hT.here (wpAny_bind ?_)
    unfold typeNameWhole
    refine wpAny_bind ((looks_clsIn X hc).here (wpAny_pure (wpAny_pure (hq _))))
  refine wpAny_bind (hstar _ fun short => ?_)
  have hrn : (Manifest.Receiver.self == Manifest.Receiver.none) = false := by decide
  have hn : (if (Manifest.Receiver.self == Manifest.Receiver.none) = true then [Value.ref x, Value.ref y].length else [Value.ref x, Value.ref y].length - 1) = 1 := by simp [hrn]
  rw [hn]
  simp only [List.map_nil]
  have hk1 : (Manifest.ParamKind.posOnly == Manifest.ParamKind.posOnly) = true := by decide
  have hk2 : (Manifest.ParamKind.posOnly == Manifest.ParamKind.posOrKw) = false := by decide
  have hk3 : (Manifest.ParamKind.posOnly == Manifest.ParamKind.varPos) = false := by decide
  have hcc : Bind.check ⟨.positional, "set", "*", .self, [⟨"iterable", .posOnly, false⟩]⟩ "set" short 1 [] = pure () := by
    simp [Bind.check, Bind.checkCount, Bind.isPositional, hk1, hk2, hk3]
  rw [hcc]
  exact wpAny_pure h
theorem name_75 {Q : String → Shared → Prop} (X : (K39 w.params).In s.heap) (hx : s.heap.get? x = some ox) (hxc : ox.cls = .ref 75) (h : ∀ n, Q n s) :
    wpAny (model prog w) A (typeNameOfCut 200 (.ref x)) Q E s := by
  have hT : Looks (model prog w) s.heap (typeOf (.ref x)) (.ref 75) := hxc ▸ type_c hx
  obtain ⟨oc, od, cd, sl, ho, hc, e1, e2, e3, hm⟩ := cc_obj X
  unfold typeNameOfCut shownTypeOf
  refine wpAny_bind (wpAny_bind (hT.here ?_))
  rw [if_neg (by simp)]
  refine wpAny_pure ?_
  unfold typeNameCut
  refine wpAny_bind ((looks_clsIn X hc).here ?_)
  rw [if_pos (cc_short hc)]
  exact wpAny_pure (h _)
end

end
section
section
variable {M : Model} {A : Around} {E : Value → Shared → Prop} {s : Shared} {env : Env} {x : Str} {pos : Pos} {v : Value} {Q : Value → Shared → Prop} {K : Frag} {p : Program} {loose : List Str} {mg mb m : Str → Option Value} {h₀ : Heap}
theorem nameL (hn : s.heap.Ns env.locals m) (hv : m x = some v) (hk : env.scope.kind = .function) (hl : env.kindOf x = some .local) (hd : (x == ("__debug__" : Str)) = false) (h : Q v s) : wpAny M A (eval (.Name x pos) env) Q E s :=
  wpAny_Name (wpAny_loadName_local hk hl hn hv h) hd
theorem nameC {c : Addr} (hc : env.cells.lookup x = some c) (hv : s.heap.IsCell c (some v)) (hk : env.scope.kind = .function) (hl : env.kindOf x = some .cell) (hd : (x == ("__debug__" : Str)) = false) (h : Q v s) : wpAny M A (eval (.Name x pos) env) Q E s :=
  wpAny_Name (wpAny_loadName_cell hk hl hc hv h) hd
theorem loadB (k : Keep h₀ s.heap) (X : K.In h₀) (T : TopRead p loose mg mb h₀) (hg : env.globals = mainGlobals) (hb : env.builtins = builtinsNs) (e : nsIn K mainGlobals x = some none) (hv : bootBuiltins x = some v) (hn : x ≠ "__name__")
    (hk : env.scope.kind = .function) (hl : env.kindOf x = some .globalImplicit) (h : Q v s) : wpAny M A (loadName env x) Q E s :=
  ks_loadName_global hk hl (loadGlobal_builtin (hg ▸ T.g.keeps k) (mg_none_of X T.g e) (hb ▸ T.b.keeps k) ((T.builtins x hn).trans hv) h)
theorem nameB (k : Keep h₀ s.heap) (X : K.In h₀) (T : TopRead p loose mg mb h₀) (hg : env.globals = mainGlobals) (hb : env.builtins = builtinsNs) (e : nsIn K mainGlobals x = some none) (hv : bootBuiltins x = some v) (hn : x ≠ "__name__")
    (hk : env.scope.kind = .function) (hl : env.kindOf x = some .globalImplicit) (hd : (x == ("__debug__" : Str)) = false) (h : Q v s) : wpAny M A (eval (.Name x pos) env) Q E s :=
  wpAny_Name (loadB k X T hg hb e hv hn hk hl h) hd
end
def sc57 : Scope := { kind := .function, names := [(Str.ofString "self", .local), (Str.ofString "candidates", .local), (Str.ofString "num_cand", .cell), (Str.ofString "cand", .local), (Str.ofString "__class__", .free), (Str.ofString "super", .globalImplicit),
  (Str.ofString "len", .globalImplicit), (Str.ofString "ValueError", .globalImplicit), (Str.ofString "isinstance", .globalImplicit), (Str.ofString "int", .globalImplicit), (Str.ofString "TypeError", .globalImplicit), (Str.ofString "str", .globalImplicit),
  (Str.ofString "type", .globalImplicit), (Str.ofString "all", .globalImplicit), (Str.ofString "any", .globalImplicit)], isGenerator := false, isCoroutine := false }
def env57 (L : Addr) : Env := { scope := sc57, locals := L, globals := mainGlobals, cells := [(Str.ofString "num_cand", L + 1), (Str.ofString "__class__", 43)], qual := Str.ofString "CandidateSet.__init__" ++ ".<locals>.", func := some 57, code := .ref 56, frame := some L, builtins := builtinsNs }
theorem cc_fn57 : ∃ oc od fd osl ar, (K39 w.params).lookup 57 = some ⟨oc, od, .func fd, osl⟩ ∧ (fd.params.posonlyargs ++ fd.params.args).head? = some ar ∧ ar.arg = Str.ofString "self" := by
  refine ⟨_, _, _, _, _, by k_is, rfl, rfl⟩
theorem cc_code56 : ∃ oc od vs osl file tf, (K39 w.params).lookup 56 = some ⟨oc, od, .fields vs, osl⟩ ∧ vs[2]? = some (.str file tf) ∧ ((PP.main.file : Str) == file) = true := by
  refine ⟨_, _, _, _, _, _, by k_is, rfl, by first | rfl | decide +kernel⟩
theorem cc_cell43 : ∃ oc od osl, (K39 w.params).lookup 43 = some ⟨oc, od, .cell (some (.ref 75)), osl⟩ := by
  refine ⟨_, _, _, by k_is⟩
theorem cc_super : nsIn (K39 w.params) mainGlobals "super" = some none := by k_is
theorem cc_len_n : nsIn (K39 w.params) mainGlobals "len" = some none := by k_is
theorem cc_isinst_n : nsIn (K39 w.params) mainGlobals "isinstance" = some none := by k_is
theorem cc_int_n : nsIn (K39 w.params) mainGlobals "int" = some none := by k_is
theorem cc_all_n : nsIn (K39 w.params) mainGlobals "all" = some none := by k_is
theorem cc_any_n : nsIn (K39 w.params) mainGlobals "any" = some none := by k_is
theorem PP_super : (PP.main.scope.names.lookup (Str.ofString "super")).isSome = false := by decide +kernel
section
variable {A : Around} {s : Shared} {L x sa dx : Addr} {h₀ hF : Heap} {m : Str → Option Value} {l : List Nat} {tf : Nat → Tok} {ep : Nat} {led : Bool} {p0 p1 p3 p5 : Pos} {body : List Stmt} {E : Value → Shared → Prop}
/-- super().__init__(candidates) -/
theorem st1_57 {Q : Flow → Shared → Prop} (hh : A.handled = none) (X : (K39 w.params).In h₀) (T : TopRead hd.view_39 loose0 mg mb h₀) (k₀ : Keep h₀ s.heap) (hn : s.heap.Ns L m) (h1 : m (Str.ofString "self") = some (.ref sa)) (h2 : m (Str.ofString "candidates") = some (.ref x))
    (hs : s.heap.get? sa = some (csObj dx [] tf ep led)) (hle : LedOk w led) (H : Fills w hF x l) (kF : Keep hF s.heap) (zF : hF.get? sa = none)
    (h : ∀ h' tk tf' ep' led', (∀ b o, b ≠ sa → s.heap.get? b = some o → h'.get? b = some o) → h'.get? sa = some (csObj dx l tf' ep' led') → LedOk w led' → Q .next { s with heap := h', toks := tk }) :
    PySem.wpAt (model PP w) A (.func body (env57 L)) (exec (.Expr (.Call (.Attribute (.Call (.Name (Str.ofString "super") p0) [] [] p1) (Str.ofString "__init__") ⟨9, 8, 9, 24⟩) [.Name (Str.ofString "candidates") p3] [] ⟨9, 8, 9, 36⟩) p5) (env57 L)) Q E s := by
  have Xs := X.keeps k₀
  obtain ⟨oc, od, fd, osl, ar, f1, f2, f3⟩ := cc_fn57 (w := w)
  obtain ⟨oc', od', vs, osl', file, tfl, c1, c2, c3⟩ := cc_code56 (w := w)
  obtain ⟨oc3, od3, osl3, e1⟩ := cc_cell43 (w := w)
  obtain ⟨oc4, od4, cd, sl, hD, hcd, e4, e5, e6, hmro⟩ := cc_obj Xs
  have hnc : ∀ c, (csObj dx [] tf ep led).data ≠ .cls c := fun c e => by cases e
  refine ks_wpAt_Expr_any (ks_wpAt_MethodCall ?_)
  refine ks_wpAt_super_base (env := env57 L) rfl rfl (by decide) rfl (Xs _ _ f1) rfl f2 rfl (Xs _ _ c1) rfl c2 c3 PP_super ?_
  refine loadB k₀ X T rfl rfl cc_super (by first | boot_by_name | rfl | kernel_rfl) (by decide) rfl rfl ⟨rfl, ?_⟩
  refine wpAny_loadName_free rfl rfl rfl ⟨_, Xs _ _ e1, rfl⟩ ?_
  rw [f3]
  refine wpAny_loadName_local rfl rfl hn h1 ?_
  obtain ⟨hh', g, d, t, os⟩ := s
  refine ks_wpAny_isType_cls hD rfl ⟨rfl, ?_⟩
  refine ks_wpAny_call_super hD rfl hs rfl hnc (looks_mroIn Xs cc_self) (fun h' e k => ?_)
  refine super_method (Xs.keeps k) e (k _ _ hs) rfl hnc ?_
  have kq : Keep hh' (h'.push (mwObj (.builtin "set.__init__") (.ref sa))) := fun b o e => Heap.get?_push_of_some _ (k b o e)
  refine callWith_of (P := fun h => h.get? h'.objs.size = some (mwObj (.builtin "set.__init__") (.ref sa))) rfl (fun h hq => ⟨.machine, .inr (.inl rfl), (Looks.ld hq).andThen .now⟩) (evalArgs_plain ?_)
  refine spliced_more (nameL (hn.keeps kq) h2 rfl rfl (by decide) (spliced_none ⟨Heap.get?_push_size _ rfl, ?_⟩))
  refine call_mw (b := Builtin.«set.__init__») (Heap.get?_push_size _ rfl) F.called_set.init.plain F.entry_set_init (fun Q' hq => check_75 (Xs.keeps kq) (kq _ _ hs) rfl hq) ?_
  refine wpAny_mono (init_c (Q := fun s' => Q .next s') hh H (Keep.trans kF kq) zF (kq _ _ hs) hle (fun Q' hq => name_75 (Xs.keeps kq) (kq _ _ hs) rfl hq) fun h2 tk tf' ep' led' hk hg hl' => ?_) (fun fin s' hv => ?_) fun _ _ e => e
  · exact h h2 tk tf' ep' led' (fun b o hb e => hk b o hb (kq _ _ e)) hg hl'
  · obtain ⟨v, rfl, rfl, hq⟩ := hv
    exact ⟨_, rfl, hq⟩
end

end
section
/-- what gives candidates: l in order to a set; some order of l to a walk -/
structure Src (w : World) (h : Heap) (x : Addr) (l : List Nat) : Prop where
  live : ∃ o, h.get? x = some o
  fills : Fills w h x l
  len : ∀ (prog : Program) (A : Around) (E : Value → Shared → Prop) (s : Shared) (Q : Value → Shared → Prop), Keep h s.heap → (∀ t tk, Q (.int (l.length : Nat) t) { s with toks := tk }) → wpAny (model prog w) A (call (.builtin "len") [.ref x]) Q E s
  iter : ∀ (prog : Program) (A : Around) (E : Value → Shared → Prop) (s : Shared) (Q : Value → Shared → Prop), Keep h s.heap →
    (∀ I P St h₁ (ord : List Nat), I = s.heap.objs.size → I ≠ x → x < s.heap.objs.size → (∀ A' : Around, A'.handled = none → Walks prog w A' I [I, x] [I] l.length P St) → ord.Perm l → (∀ i v, P i v → i < l.length ∧ ∃ t, v = .int (ord.getD i 0 : Nat) t) → St 0 h₁ → (∃ o, h₁.get? I = some o) → Keep s.heap h₁ → Q (.ref I) { s with heap := h₁ }) →
    wpAny (model prog w) A (pyIter (.ref x)) Q E s
theorem Src.keeps {h h' : Heap} {x : Addr} {l : List Nat} (H : Src w h x l) (k : Keep h h') : Src w h' x l :=
  ⟨let ⟨o, e⟩ := H.live; ⟨o, k _ _ e⟩, H.fills.keeps k, fun p A E s Q k' => H.len p A E s Q (Keep.trans k k'), fun p A E s Q k' => H.iter p A E s Q (Keep.trans k k')⟩
theorem src_list {h : Heap} {x : Addr} {items : Array Value} {l : List Nat} (hl : l ∈ sub4) (hx : h.IsList x items) (hn : items.size = l.length) (hv : ∀ i (v : Value), items[i]? = some v → ∃ t, v = .int (l.getD i 0 : Nat) t) : Src w h x l where
  live := let ⟨o, ho, _⟩ := hx; ⟨o, ho⟩
  fills := fills_list hl hx hn hv
  len := fun prog A E s Q k hQ => by
    obtain ⟨o, ho, hc, n, hd⟩ := hx
    have h4 := sub4_le hl
    refine PySem.Calls.call_len_list (items := items) ⟨o, k _ _ ho, hc, n, hd⟩ (by rw [hn]; exact Int.lt_of_le_of_lt (Int.ofNat_le.mpr h4) (by decide)) ?_
    rw [hn]
    exact hQ _ _
  iter := fun prog A E s Q k hQ => by
    obtain ⟨o, ho, hc, n, hd⟩ := hx
    have hx' : s.heap.IsList x items := ⟨o, k _ _ ho, hc, n, hd⟩
    have hlt : x < s.heap.objs.size := Heap.lt_size (k _ _ ho)
    refine wpAny_pyIter_list hx' ?_
    refine hQ s.heap.objs.size _ _ _ l rfl (Nat.ne_of_gt hlt) hlt (fun A' ha => hn ▸ Walks.list ha s.heap.objs.size x (Nat.ne_of_lt hlt) items) .rfl (fun i v e => ⟨hn ▸ (Array.getElem?_eq_some_iff.mp e).1, hv i v e⟩) ⟨⟨_, Heap.get?_push_size _ rfl, rfl, rfl⟩, hx'.push _⟩ ⟨_, Heap.get?_push_size _ rfl⟩ (fun b o e => Heap.get?_push_of_some _ e)
theorem src_tuple {h : Heap} {x : Addr} {items : Array Value} {l : List Nat} (hl : l ∈ sub4) (hx : h.IsTuple x items) (hn : items.size = l.length) (hv : ∀ i (v : Value), items[i]? = some v → ∃ t, v = .int (l.getD i 0 : Nat) t) : Src w h x l where
  live := let ⟨o, ho, _⟩ := hx; ⟨o, ho⟩
  fills := fills_tuple hl hx hn hv
  len := fun prog A E s Q k hQ => by
    obtain ⟨o, ho, hc, n, hd⟩ := hx
    have h4 := sub4_le hl
    have hT : s.TypeIs (.ref x) "tuple" := ⟨o, k _ _ ho, hc⟩
    have hf : ((items.size : Nat) : Int) < 2 ^ 63 := by rw [hn]; exact Int.lt_of_le_of_lt (Int.ofNat_le.mpr h4) (by decide)
    refine PySem.Calls.call_function_entry kind_len plain_len entry_len (args_len1 _) (len_entry_tuple (items := items) ⟨o, k _ _ ho, hc, n, hd⟩ hf ?_)
    rw [hn]
    exact hQ _ _
  iter := fun prog A E s Q k hQ => by
    obtain ⟨o, ho, hc, n, hd⟩ := hx
    have hx' : s.heap.IsTuple x items := ⟨o, k _ _ ho, hc, n, hd⟩
    have hlt : x < s.heap.objs.size := Heap.lt_size (k _ _ ho)
    refine wpAny_pyIter_tuple hx' ?_
    refine hQ s.heap.objs.size _ _ _ l rfl (Nat.ne_of_gt hlt) hlt (fun A' ha => hn ▸ Walks.tuple ha s.heap.objs.size x (Nat.ne_of_lt hlt) items) .rfl (fun i v e => ⟨hn ▸ (Array.getElem?_eq_some_iff.mp e).1, hv i v e⟩) ⟨⟨_, Heap.get?_push_size _ rfl, rfl, rfl⟩, ⟨o, Heap.get?_push_of_some _ (k _ _ ho), hc, n, hd⟩⟩ ⟨_, Heap.get?_push_size _ rfl⟩ (fun b o e => Heap.get?_push_of_some _ e)
theorem src_set {h : Heap} {x : Addr} {c : Value} {d : Option Addr} {S : List Nat} {tf : Nat → Tok} {ep : Nat} {led : Bool} (hS : S ∈ sub4) (hx : h.get? x = some (cObj c d S tf ep led)) (C : SetCls w h c) (hl : LedOk w led) : Src w h x S where
  live := ⟨_, hx⟩
  fills := fills_set hS hx C hl
  len := fun prog A E s Q k hQ => by
    have h4 := sub4_le hS
    refine Calls.call_function_entry kind_len plain_len entry_len (args_len1 _) ?_
    unfold Builtin.«len»
    refine wpAny_bind (m := oneArg "len" _) (wpAny_pure ?_)
    refine wpAny_bind (m := callSpecial? (.ref x) (Str.ofString "__len__")) (callSp_c (k _ _ hx) ((C.keeps k).look _ _ _ (.tail _ (.head _))) F.slot_set_len.bind
      (call_c (owner := "set") (n := "__len__") (k _ _ hx) (by decide +kernel) (by decide +kernel) F.slot_set_len.plain entry_set_len (F.args_set_len_1 _) ((C.keeps k).sub _) ?_))
    unfold Builtin.«frozenset.__len__» Builtin.Frozenset.slot0
    refine wpAny_bind (wpAny_bind (wpAny_pure (wpAny_pure ?_)))
    refine wpAny_bind (size_c hS (k _ _ hx) ?_)
    show wpAny _ _ (retInt _) _ _ _
    unfold retInt
    refine wpAny_bind (wpAny_mkInt (wpAny_pure ⟨_, rfl, ?_⟩))
    refine wpAny_bind (wpAny_holding (wpAny_pure ?_))
    refine wpAny_bind (wpAny_letGo ?_)
    have hf : ((S.length : Nat) : Int) < 2 ^ 63 := Int.lt_of_le_of_lt (Int.ofNat_le.mpr h4) (by decide)
    show wpAny _ _ (if ((S.length : Nat) : Int) < 0 then _ else _) _ _ _
    rw [if_neg (by omega)]
    show wpAny _ _ (if ((S.length : Nat) : Int) ≥ 2 ^ 63 then _ else _) _ _ _
    rw [if_neg (by omega)]
    exact wpAny_bind (wpAny_mkInt (wpAny_pure ⟨_, rfl, hQ _ _⟩))
  iter := fun prog A E s Q k hQ => by
    have hlt : x < s.heap.objs.size := Heap.lt_size (k _ _ hx)
    refine iter_c hS (k _ _ hx) (C.keeps k) ?_
    have h0 : slotAt w S 0 = 0 := by unfold slotAt; split <;> rfl
    refine hQ s.heap.objs.size _ _ _ (ordW w x ep S) rfl (Nat.ne_of_gt hlt) hlt (fun A' ha => Walks.cset ha s.heap.objs.size x (Nat.ne_of_lt hlt) hS hl) ordW_perm (fun i v hv => ?_) ⟨?_, Heap.get?_push_of_some _ (k _ _ hx)⟩ ⟨_, Heap.get?_push_size _ rfl⟩ (fun b o e => Heap.get?_push_of_some _ e)
    · obtain ⟨j, hj, rfl⟩ := hv
      refine ⟨by have := (List.getElem?_eq_some_iff.mp hj).1; rwa [ordW_length] at this, tf j, ?_⟩
      rw [List.getD_eq_getElem?_getD, hj]
      rfl
    · rw [h0]
      exact Heap.get?_push_size _ rfl

end
section
local macro_rules | `(tactic| walk_at "eval Name") => `(tactic| first
  | (refine nameL (env := env57 _) (by assumption) (by assumption) rfl rfl (by decide) ?_)
  | (refine nameC (env := env57 _) rfl (by assumption) rfl rfl (by decide) ?_)
  | (refine nameB (env := env57 _) (by assumption) (by assumption) (by assumption) rfl rfl cc_len_n (by first | boot_by_name | rfl | kernel_rfl) (by decide) rfl rfl (by decide) ?_)
  | (refine nameB (env := env57 _) (by assumption) (by assumption) (by assumption) rfl rfl cc_isinst_n (by first | boot_by_name | rfl | kernel_rfl) (by decide) rfl rfl (by decide) ?_)
  | (refine nameB (env := env57 _) (by assumption) (by assumption) (by assumption) rfl rfl cc_int_n (by first | boot_by_name | rfl | kernel_rfl) (by decide) rfl rfl (by decide) ?_)
  | (refine nameB (env := env57 _) (by assumption) (by assumption) (by assumption) rfl rfl cc_all_n (by first | boot_by_name | rfl | kernel_rfl) (by decide) rfl rfl (by decide) ?_)
  | (refine nameB (env := env57 _) (by assumption) (by assumption) (by assumption) rfl rfl cc_any_n (by first | boot_by_name | rfl | kernel_rfl) (by decide) rfl rfl (by decide) ?_))
local macro_rules | `(tactic| walk_at "call builtin:len") => `(tactic| refine stopHere ?_)
section
variable {A : Around} {s : Shared} {L x sa dx : Addr} {h₀ hF : Heap} {m : Str → Option Value} {l : List Nat} {tf : Nat → Tok} {ep : Nat} {led : Bool} {p0 p1 p2 p3 p4 p5 p6 p7 : Pos} {rs : List Stmt} {E : Value → Shared → Prop}
/-- if len(candidates) != len(self): raise -/
theorem st2_57 {Q : Flow → Shared → Prop} (X : (K39 w.params).In h₀) (T : TopRead hd.view_39 loose0 mg mb h₀) (k₀ : Keep h₀ s.heap) (hn : s.heap.Ns (env57 L).locals m) (h1 : m (Str.ofString "self") = some (.ref sa)) (h2 : m (Str.ofString "candidates") = some (.ref x))
    (Sx : Src w s.heap x l) (Ss : Src w s.heap sa l) (h : ∀ tk, Q .next { s with toks := tk }) :
    wpAny (model PP w) A (exec (.If (.Compare (.Call (.Name (Str.ofString "len") p0) [.Name (Str.ofString "candidates") p1] [] p2) [.NotEq] [.Call (.Name (Str.ofString "len") p3) [.Name (Str.ofString "self") p4] [] p5] p6) rs [] p7) (env57 L)) Q E s := by
  k_steps
  show wpAny _ _ _ _ _ _
  refine Sx.len _ _ _ _ _ Keep.rfl' fun t tk => ?_
  k_steps
  show wpAny _ _ _ _ _ _
  refine Ss.len _ _ _ _ _ Keep.rfl' fun t' tk' => ?_
  k_steps
  all_goals first | exact h _ | (exfalso; simp_all; done)
theorem st3_turn {Q : Flow → Shared → Prop} {k : Int} {t : Tok} (X : (K39 w.params).In h₀) (T : TopRead hd.view_39 loose0 mg mb h₀) (k₀ : Keep h₀ s.heap) (hn : s.heap.Ns (env57 L).locals m) (h1 : m (Str.ofString "cand") = some (.int k t))
    (h : ∀ tk, Q .next { s with toks := tk }) :
    wpAny (model PP w) A (execs [.If (.UnaryOp .Not (.Call (.Name (Str.ofString "isinstance") p0) [.Name (Str.ofString "cand") p1, .Name (Str.ofString "int") p2] [] p3) p4) rs [] p5] (env57 L)) Q E s := by
  k_steps
  all_goals first | exact h _ | (exfalso; simp_all; done)
end

end
section
section
variable {prog : Program} {A : Around} {s : Shared} {env : Env} {x : Str} {px : Pos} {iter : Expr} {body : List Stmt} {pos : Pos}
/-- a for loop over any walk -/
theorem forW {I : Addr} {fp wr : List Addr} {n : Nat} {P : Nat → Value → Prop} {St : Nat → Heap → Prop} {R : Result → Shared → Prop} (W : Walks prog w A I fp wr n P St) (J : Nat → Shared → Prop)
    (hJ : ∀ i s h' tk, St i s.heap → J i s → (∀ b o, b ∉ wr → s.heap.get? b = some o → h'.get? b = some o) → J i { s with heap := h', toks := tk })
    (step : ∀ i v s₁, i < n → P i v → St (i + 1) s₁.heap → J i s₁ → wpAny (model prog w) A (assign (.Name x px) env v) (fun _ s₂ => wpAny (model prog w) A (execs body env) (fun f s₃ => f = .next ∧ St (i + 1) s₃.heap ∧ J (i + 1) s₃) never s₂) never s₁)
    (hst : St 0 s.heap) (h0 : J 0 s) (hR : ∀ s', J n s' → R (.ok .next) s') : codeAny (model prog w) A (.forLoop (.Name x px) (.ref I) body [] env) R s := by
  refine codeAny_forLoop (fun k s' => ∃ i, i ≤ n ∧ k = n - i ∧ St i s'.heap ∧ J i s') ?_ n ⟨0, Nat.zero_le _, rfl, hst, h0⟩
  rintro k s' ⟨i, hi, rfl, st, hj⟩
  rcases Nat.lt_or_ge i n with hlt | hge
  · refine W.item i _ _ _ hlt st fun v h' tk hP st' hk => ?_
    refine wpAny_mono (step i v _ hlt hP st' (hJ _ _ _ _ st hj hk)) (fun _ s₂ h₂ => ?_) fun _ _ e => e.elim
    refine wpAny_mono h₂ (fun f s₃ h₃ => ?_) fun _ _ e => e.elim
    obtain ⟨rfl, st₃, hj₃⟩ := h₃
    exact ⟨n - (i + 1), by omega, i + 1, hlt, rfl, st₃, hj₃⟩
  · have : i = n := Nat.le_antisymm hi hge
    subst this
    refine W.done _ _ _ st fun h' tk hk => ?_
    exact wpAny_execs_nil (hR _ (hJ _ _ _ _ st hj hk))
end
local macro_rules | `(tactic| walk_at "eval Name") => `(tactic| first
  | (refine nameL (env := env57 _) (by assumption) (by assumption) rfl rfl (by decide) ?_)
  | (refine nameC (env := env57 _) rfl (by assumption) rfl rfl (by decide) ?_))
section
variable {A : Around} {s : Shared} {L x sa dx : Addr} {h₀ hF : Heap} {m : Str → Option Value} {l : List Nat} {tf : Nat → Tok} {ep : Nat} {led : Bool} {p0 p1 p2 p3 p4 p5 p6 p7 : Pos} {rs : List Stmt} {E : Value → Shared → Prop}
/-- for cand in candidates: if not isinstance(cand, int): raise -/
theorem st3_57 {Q : Flow → Shared → Prop} (hh : A.handled = none) (X : (K39 w.params).In h₀) (T : TopRead hd.view_39 loose0 mg mb h₀) (k₀ : Keep h₀ s.heap) (hL : h₀.get? L = none) (hn : s.heap.Ns L m) (h2 : m (Str.ofString "candidates") = some (.ref x)) (hxL : x ≠ L)
    (Sx : Src w s.heap x l) (h : ∀ h' tk m', h'.Ns L m' → (∀ y, y ≠ Str.ofString "cand" → m' y = m y) → (∀ b o, b ≠ L → s.heap.get? b = some o → h'.get? b = some o) → Q .next { s with heap := h', toks := tk }) :
    wpAny (model PP w) A (exec (.For (.Name (Str.ofString "cand") p6) (.Name (Str.ofString "candidates") p7) [.If (.UnaryOp .Not (.Call (.Name (Str.ofString "isinstance") p0) [.Name (Str.ofString "cand") p1, .Name (Str.ofString "int") p2] [] p3) p4) rs [] p5] [] p5) (env57 L)) Q E s := by
  refine wpAny_For ?_
  refine nameL (env := env57 L) hn h2 rfl rfl (by decide) ?_
  refine Sx.iter _ _ _ _ _ Keep.rfl' fun I P St h₁ ord hI hIx hx W hord hP hst hsz k₁ => ?_
  have hLs : L < s.heap.objs.size := by obtain ⟨o, _, _, e, _⟩ := hn; exact Heap.lt_size e
  have hIL : I ≠ L := by rw [hI]; exact Nat.ne_of_gt hLs
  have hold : ∀ b o, s.heap.get? b = some o → b ≠ I := fun b o e => by rw [hI]; exact Nat.ne_of_lt (Heap.lt_size e)
  refine forW (W A hh) (fun _ s' => ∃ h' tk m', s' = { s with heap := h', toks := tk } ∧ h'.Ns L m' ∧ (∀ y, y ≠ Str.ofString "cand" → m' y = m y) ∧ (∀ b o, b ≠ L → s.heap.get? b = some o → h'.get? b = some o)) ?_ ?_ hst
    ⟨h₁, _, m, rfl, hn.keeps k₁, fun _ _ => rfl, fun b o _ e => k₁ b o e⟩ ?_
  · rintro i s' h' tk _ ⟨h'', tk'', m', rfl, n', e', kk⟩ hk
    refine ⟨h', tk, m', rfl, n'.at' fun o e => hk L o (by simp [Ne.symm hIL]) e, e', fun b o hb e => hk b o ?_ (kk b o hb e)⟩
    simp only [List.mem_singleton]
    exact hold b o e
  · rintro i v s₁ hi hv st ⟨h', tk, m', rfl, n', e', kk⟩
    obtain ⟨_, t, rfl⟩ := hP i v hv
    refine wpAny_assign_Name (wpAny_storeName_local (env := env57 L) rfl n' (fun h₂ n₂ hs₂ => ?_) rfl)
    have kk₂ : ∀ b o, b ≠ L → s.heap.get? b = some o → h₂.get? b = some o := fun b o hb e => hs₂.extBut b o hb (kk b o hb e)
    have k₀₂ : Keep h₀ h₂ := fun b o e => kk₂ b o (fun q => by rw [q, hL] at e; cases e) (k₀ b o e)
    refine st3_turn X T (by exact k₀₂) (by exact n₂) (if_pos rfl) fun tk => ⟨rfl, (W A hh).frame _ _ _ st fun b hb o e => hs₂.extBut b o ?_ e, h₂, tk, _, rfl, n₂, fun y hy => ?_, kk₂⟩
    · simp only [List.mem_cons, List.not_mem_nil, or_false] at hb
      rcases hb with rfl | rfl
      · exact hIL
      · exact hxL
    · rw [if_neg hy]; exact e' y hy
  · rintro s' ⟨h', tk, m', rfl, n', e', kk⟩
    exact h h' tk m' n' e' kk
end

end
section
/-- a code object and its table, the table's object whole -/
def CodeT (h : Heap) (c P : Addr) (ps : Array Value) : Prop :=
  ∃ o vs file tf flags tg inF text tt op, h.get? c = some o ∧ o.data = .fields vs ∧ vs.getD 11 .none = .ref P ∧ vs.getD 18 .none = .str file tf ∧
    vs.getD 7 .none = .int flags tg ∧ vs.getD 9 .none = .bool inF ∧ vs.getD 10 .none = .int text tt ∧ h.get? P = some op ∧ op.data = .fields ps ∧
    TriplesOk ps.toList ∧ c ≠ P ∧ op = tabObj ps ∧ o.cls = .type "code" ∧ vs[11]? = some (.ref P)
theorem CodeT.is {h : Heap} {c P : Addr} {ps : Array Value} (x : CodeT h c P ps) : h.IsCode c P ps := by
  obtain ⟨o, vs, file, tf, flags, tg, inF, text, tt, op, a1, a2, a3, a4, a5, a6, a7, a8, a9, a10, a11, -⟩ := x
  exact ⟨o, vs, file, tf, flags, tg, inF, text, tt, op, a1, a2, a3, a4, a5, a6, a7, a8, a9, a10, a11⟩
theorem CodeT.tabAt {h : Heap} {c P : Addr} {ps : Array Value} (x : CodeT h c P ps) : h.TableAt c P ps := by
  obtain ⟨o, vs, file, tf, flags, tg, inF, text, tt, op, a1, a2, a3, a4, a5, a6, a7, a8, a9, a10, a11, rfl, a13, a14⟩ := x
  exact ⟨⟨o, vs, a1, a13, a2, a14⟩, a8⟩
theorem CodeT.of {h : Heap} {c P : Addr} {ps : Array Value} (x : h.IsCode c P ps) (y : h.TableAt c P ps) : CodeT h c P ps := by
  obtain ⟨o, vs, file, tf, flags, tg, inF, text, tt, op, a1, a2, a3, a4, a5, a6, a7, a8, a9, a10, a11⟩ := x
  obtain ⟨⟨o', vs', b1, b2, b3, b4⟩, b5⟩ := y
  rw [a1] at b1; cases b1
  rw [a2] at b3; cases b3
  rw [a8] at b5; cases b5
  exact ⟨o, vs, file, tf, flags, tg, inF, text, tt, _, a1, a2, a3, a4, a5, a6, a7, a8, rfl, a10, a11, rfl, b2, b4⟩
theorem CodeT.keeps {h h' : Heap} {c P : Addr} {ps : Array Value} (x : CodeT h c P ps) (k : ∀ b o, h.get? b = some o → h'.get? b = some o) : CodeT h' c P ps := .of (x.is.keeps k) (x.tabAt.keeps k)
theorem genexprCodeT {M : Model} {A : Around} {E : Value → Shared → Prop} {s : Shared} {env : Env} {c P : Addr} {ps : Array Value} {pos : Pos} {qualname : Str} {scope : Scope} {Q : Value → Shared → Prop} (hc : env.code = .ref c) (hok : CodeT s.heap c P ps)
    (hQ : ∀ code h' tk ps', Heap.ExtBut P s.heap h' → CodeT h' c P ps' → Q code { s with heap := h', toks := tk }) : wpAny M A (genexprCode env pos qualname scope) Q E s := by
  cases hnf : codeAmong pos ps.toList with
  | some cv => exact wpAny_genexprCode_hit hc hok.is hnf (hQ cv s.heap s.toks ps (Heap.ExtBut.refl _ _) hok)
  | none => exact wpAny_genexprCodeX hc hok.is hok.tabAt hnf fun c' h' tk hx _ _ hi _ ht _ => hQ _ _ _ _ hx (.of hi ht)
def GensOk (g g' : Array GenState) : Prop := g.size ≤ g'.size ∧ (∀ k, k < g.size → g'[k]? = g[k]?) ∧ (AllBare g → AllBare g')
theorem GensOk.rfl' {g : Array GenState} : GensOk g g := ⟨Nat.le_refl _, fun _ _ => rfl, fun h => h⟩
theorem GensOk.trans {a b c : Array GenState} (x : GensOk a b) (y : GensOk b c) : GensOk a c := ⟨Nat.le_trans x.1 y.1, fun k hk => (y.2.1 k (Nat.lt_of_lt_of_le hk x.1)).trans (x.2.1 k hk), fun h => y.2.2 (x.2.2 h)⟩
theorem GensOk.push {g : Array GenState} {y : GenState} (hb : y.bare = true) : GensOk g (g.push y) :=
  ⟨by simp, fun k hk => by rw [Array.getElem?_push]; simp [Nat.ne_of_lt hk], fun h => h.push hb⟩
theorem GensOk.only {g g' : Array GenState} {n : Nat} (x : GenOnlyQ n g g') (h0 : Array GenState) (hn : h0.size ≤ n) (y : GensOk h0 g) : GensOk h0 g' := by
  refine ⟨?_, fun k hk => ?_, fun h => ?_⟩
  · rcases x with rfl | ⟨x, _⟩
    · exact y.1
    · rw [x.1]; exact y.1
  · rcases x with rfl | ⟨x, _⟩
    · exact y.2.1 k hk
    · rw [x.2 k (Nat.ne_of_lt (Nat.lt_of_lt_of_le hk hn))]; exact y.2.1 k hk
  · exact GenOnlyQ.bare x (y.2.2 h)

theorem WalksS.imp {prog : Program} {A : Around} {I : Addr} {fp wr : List Addr} {G : Array GenState → Array GenState → Prop} {n : Nat} {P P' : Nat → Value → Prop} {St : Nat → Shared → Prop}
    (W : WalksS prog w A I fp wr G n P St) (h : ∀ i v, i < n → P i v → P' i v) : WalksS prog w A I fp wr G n P' St where
  sub := W.sub
  grefl := W.grefl
  gtrans := W.gtrans
  frame := W.frame
  item := fun i s Q E hi st hQ => W.item i s Q E hi st fun v s' hP => hQ v s' (h i v hi hP)
  done := W.done
  self := W.self
theorem bare_of {s : GenState} (h : s.bare = true) : s.bare = true := h
section
variable {prog : Program} {A : Around} {s : Shared} {env : Env} {elt it : Expr} {v : Str} {px pos : Pos} {scope : Scope} {cl : List (Str × Addr)} {c P y : Addr} {l : List Nat} {bm : Addr} {ob : Obj} {mg : Str → Option Value} {E : Value → Shared → Prop}
/-- a generator expression over candidates, its element quiet -/
theorem genx {Q : Value → Shared → Prop} (F : Nat → Value → Prop) (hh : A.handled = none) (hroom : A.depth < recursionLimit) (hco : scope.isCoroutine = false) (hclos : closureFor scope env = pure cl) (hcell : ∀ y ∈ scope.names, y.2 ≠ .cell)
    (h0 : scope.names.lookup (".0" : Str) = some NameKind.local) (hx : scope.names.lookup v = some .local) (hkind : scope.kind = .function) (hs : ∀ x, genFold it env x = pure x)
    (hit : wpAny (model prog w) A (eval it env) (fun xv s₁ => xv = .ref y ∧ s₁ = s) E s) (Sy : Src w s.heap y l) (hcode : env.code = .ref c) (hP : ∃ ps, CodeT s.heap c P ps) (hyP : y ≠ P) (hl : s.heap.NoLimit) (hcsP : cStatics ≠ P)
    (M : BMod s.heap env.globals mg bm ob) (hMP : env.globals ≠ P ∧ bm ≠ P)
    (quiet : ∀ (A' : Around) (E' : Value → Shared → Prop) (k : Nat) (t : Tok) (s₂ : Shared) (m₂ : Str → Option Value) (C : Addr) (code : Value), A'.handled = none → k ∈ l → s₂.heap.Ns C m₂ → m₂ v = some (.int (k : Int) t) →
      (∀ b o, b ≠ P → s.heap.get? b = some o → s₂.heap.get? b = some o) → wpAny (model prog w) A' (eval elt (genEnv scope cl C code builtinsNs env)) (fun y s₃ => F k y ∧ Keeps s₂ s₃) E' s₂)
    (h : ∀ a C I s' (ord : List Nat) fp, ord.Perm l → s.heap.objs.size ≤ C → s.heap.objs.size ≤ I → s'.drawn = s.drawn → s'.os = s.os → GensOk s.gens s'.gens → (∀ b o, b ≠ P → s.heap.get? b = some o → s'.heap.get? b = some o) → (∃ ps, CodeT s'.heap c P ps) → s'.heap.IsGen a s.gens.size → (∀ b ∈ fp, b < s'.heap.objs.size) →
      WalksS prog w A.in4 a fp [C, I] (GenOnlyQ s.gens.size) l.length (fun j yv => F (ord.getD j 0) yv) (GenAt prog w A.in4 a s.gens.size C (List.range C) [I] (fun _ => true) l.length (fun i yv => F (ord.getD i 0) yv)) →
      GenAt prog w A.in4 a s.gens.size C (List.range C) [I] (fun _ => true) l.length (fun i yv => F (ord.getD i 0) yv) 0 s' → Q (.ref a) s') :
    wpAny (model prog w) A (eval (.GeneratorExp elt [⟨.Name v px, it, [], 0⟩] scope pos) env) Q E s := by
  refine wpAny_GeneratorExp_walksQ hh hco hclos hcell h0 hx hkind hroom (wpAny_mono hit (fun xv s₁ h₁ => ?_) fun _ _ e => e) hs
  obtain ⟨rfl, rfl⟩ := h₁
  refine Sy.iter _ _ _ _ _ Keep.rfl' fun I Pi St h₁ ord hI hIx hxs W hord hPi hst hsz k₁ => ⟨hl.keeps k₁, ?_⟩
  obtain ⟨ps, hP⟩ := hP
  refine genexprCodeT hcode (hP.keeps k₁) fun code h₃ tk₃ ps' hx₃ hc₃ => ?_
  have hMx : BMod h₃ env.globals mg bm ob := ⟨(M.ns.keeps k₁).extBut hx₃ hMP.1, M.name, M.ne, hx₃ _ _ hMP.2 (k₁ _ _ M.obj), M.cls, M.dict, M.data⟩
  refine wpAny_builtinsFor hMx.ns hMx.name hMx.ne hMx.obj hMx.cls hMx.dict hMx.data ?_
  obtain ⟨oI, hoI⟩ := hsz
  obtain ⟨oP, hoP⟩ : ∃ o, s₁.heap.get? P = some o := by obtain ⟨o, vs, file, tf, flags, tg, inF, text, tt, op, a1, a2, a3, a4, a5, a6, a7, a8, _⟩ := hP; exact ⟨_, a8⟩
  have hPlt := Heap.lt_size hoP
  have hIP : I ≠ P := by rw [hI]; exact Nat.ne_of_gt hPlt
  have hI3 := Heap.lt_size (hx₃ _ _ hIP hoI)
  have hxlt : y < s₁.heap.objs.size := hxs
  have k₃ : ∀ b o, b ≠ P → s₁.heap.get? b = some o → h₃.get? b = some o := fun b o hb e => hx₃ b o hb (k₁ b o e)
  have hy3 : y < h₃.objs.size := Nat.lt_trans (by rw [hI]; exact hxs) hI3
  have hlim3 : h₃.NoLimit := by
    obtain ⟨mc, hns, hnn⟩ := hl
    exact ⟨mc, (hns.keeps k₁).extBut hx₃ hcsP, hnn⟩
  have hcsI : cStatics ∉ [I] := by
    obtain ⟨mc, hns, hnn⟩ := hl
    rw [List.mem_singleton, hI]
    exact Nat.ne_of_lt hns.lt
  refine ⟨I, [I, y], [I], l.length, Pi, St, fun _ => true, fun i yv => F (ord.getD i 0) yv, rfl, W, (W A hh).frame _ _ _ hst fun b hb o e => hx₃ b o ?_ e, fun b hb => ?_, hlim3, hcsI, fun href hhref => ⟨?_, ?_⟩, ?_⟩
  · simp only [List.mem_cons, List.not_mem_nil, or_false] at hb
    rcases hb with rfl | rfl
    · exact hIP
    · exact hyP
  · simp only [List.mem_cons, List.not_mem_nil, or_false] at hb
    rcases hb with rfl | rfl
    · exact hI3
    · exact hy3
  · intro A' E' i v' s₂ m₂ hA hp hn hm hk
    rw [List.forIn_nil]
    exact wpAny_pure ⟨rfl, s₂.heap, s₂.toks, rfl, fun _ _ e => e⟩
  · intro A' E' i v' s₂ m₂ hA hp hpz hn hm hk
    obtain ⟨hil, t, rfl⟩ := hPi i v' hp
    refine quiet A' E' (ord.getD i 0) t s₂ m₂ _ code hA ?_ hn hm fun b o hb e => ?_
    · rw [List.getD_eq_getElem?_getD, List.getElem?_eq_getElem (by rw [hord.length_eq]; exact hil)]
      exact hord.mem_iff.mp (List.getElem_mem _)
    · have hb3 := k₃ b o hb e
      refine hk b (List.mem_range.mpr (Heap.lt_size hb3)) ?_ o (hhref b o hb3)
      rw [List.mem_singleton, hI]
      exact Nat.ne_of_lt (Heap.lt_size e)
  · intro a h₅ tk gs hgb hag hsz5 hk₅ W5 G5
    have e5 : (passing (fun _ => true) l.length 0) = List.range l.length := by simp [passing]
    have hmono : (passing (fun _ => true) l.length 0).length = l.length := by rw [e5, List.length_range]
    rw [hmono] at W5
    have hC : s₁.heap.objs.size ≤ h₃.objs.size := Nat.le_of_lt (by rw [← hI]; exact hI3)
    refine h a h₃.objs.size I _ ord _ hord hC (Nat.le_of_eq hI.symm) rfl rfl (GensOk.push hgb) (fun b o hb e => hk₅ b o (k₃ b o hb e)) ⟨ps', hc₃.keeps hk₅⟩ G5.1 (fun b hb => ?_) (WalksS.imp W5 ?_) G5
    · have h5s : h₅.objs.size = a + 1 := hsz5
      have hla : (h₃.objs.size : Nat) < (a : Nat) := hag
      show (b : Nat) < h₅.objs.size
      rw [h5s]
      simp only [List.mem_cons, List.mem_range] at hb
      rcases hb with rfl | rfl | hb
      · exact Nat.lt_succ_self _
      · exact Nat.lt_succ_of_lt hla
      · exact Nat.lt_succ_of_lt (Nat.lt_trans hb hla)
    rintro j yv hj ⟨i, hi, hf⟩
    rw [e5, List.getElem?_range hj] at hi
    cases hi
    exact hf
end

end
section
local macro_rules | `(tactic| walk_at "eval Name") => `(tactic| first
  | (refine nameL (env := env57 _) (by assumption) (by assumption) rfl rfl (by decide) ?_)
  | (refine nameC (env := env57 _) rfl (by assumption) rfl rfl (by decide) ?_)
  | (refine nameB (env := env57 _) (by assumption) (by assumption) (by assumption) rfl rfl cc_all_n (by first | boot_by_name | rfl | kernel_rfl) (by decide) rfl rfl (by decide) ?_)
  | (refine nameB (env := env57 _) (by assumption) (by assumption) (by assumption) rfl rfl cc_any_n (by first | boot_by_name | rfl | kernel_rfl) (by decide) rfl rfl (by decide) ?_))
theorem nameF {M : Model} {A : Around} {E : Value → Shared → Prop} {s : Shared} {env : Env} {x : Str} {pos : Pos} {v : Value} {Q : Value → Shared → Prop} {c : Addr} (hc : env.cells.lookup x = some c) (hv : s.heap.IsCell c (some v)) (hk : env.scope.kind = .function) (hl : env.kindOf x = some .free) (hd : (x == ("__debug__" : Str)) = false) (hd' : (x == ("__classdict__" : Str)) = false) (h : Q v s) : wpAny M A (eval (.Name x pos) env) Q E s :=
  wpAny_Name (wpAny_loadName_free hk hl hc hv h hd') hd
local macro_rules | `(tactic| walk_at "eval Name") => `(tactic| (refine nameF (env := genEnv _ _ _ _ _ _) rfl (by assumption) rfl rfl (by decide) (by decide) ?_))
local macro_rules | `(tactic| walk_at "eval GeneratorExp") => `(tactic| refine stopHere ?_)
local macro_rules | `(tactic| walk_at "eval Name") => `(tactic| (refine nameL (env := genEnv _ _ _ _ _ _) (by assumption) (by assumption) rfl rfl (by decide) ?_))
section
variable {A : Around} {s : Shared} {L x sa dx : Addr} {h₀ hF : Heap} {m : Str → Option Value} {l : List Nat} {tf : Nat → Tok} {ep : Nat} {led : Bool} {p0 p1 p2 p3 p4 p5 p6 p7 p8 p9 p10 p11 p12 : Pos} {rs : List Stmt} {E : Value → Shared → Prop} {bm : Addr} {ob : Obj}
theorem elt4 {A' : Around} {E' : Value → Shared → Prop} {k : Nat} {t : Tok} {s₂ : Shared} {m₂ : Str → Option Value} {C : Addr} {code : Value} {scope : Scope} {cl : List (Str × Addr)} {env : Env} {bi : Addr} (hn : s₂.heap.Ns C m₂) (hm : m₂ (Str.ofString "cand") = some (.int (k : Int) t))
    (hk : scope = { kind := .function, names := [(Str.ofString ".0", .local), (Str.ofString "cand", .local)], isGenerator := true, isCoroutine := false }) :
    wpAny (model PP w) A' (eval (.Compare (.Name (Str.ofString "cand") p0) [.GtE] [.Constant (.int 0) 0 p1] p2) (genEnv scope cl C code bi env)) (fun y s₃ => y = .bool true ∧ Keeps s₂ s₃) E' s₂ := by
  subst hk
  have hn' : s₂.heap.Ns (genEnv { kind := .function, names := [(Str.ofString ".0", .local), (Str.ofString "cand", .local)], isGenerator := true, isCoroutine := false } cl C code bi env).locals m₂ := hn
  k_steps
  exact ⟨_, _, rfl, fun _ _ e => e⟩
theorem truth_bools {prog : Program} {b : Bool} : TruthOf prog w A (fun _ v => v = .bool b) (fun _ => b) := fun i v s Q E hv h => by
  subst hv
  exact wpAny_truthy_bool h
/-- what the body of __init__ may rest on, and what it leaves -/
structure Ctx57 (h₀ : Heap) (mg mb : Str → Option Value) (bm : Addr) (ob : Obj) (L : Addr) (m : Str → Option Value) (x : Addr) (w : World) (h : Heap) : Prop where
  X : (K39 w.params).In h₀
  T : TopRead hd.view_39 loose0 mg mb h₀
  k₀ : Keep h₀ h
  M : BMod h₀ mainGlobals mg bm ob
  hn : h.Ns L m
  hc : m (Str.ofString "candidates") = some (.ref x)
  tab : ∃ ps, CodeT h 56 52 ps
  x52 : x ≠ 52
  t52 : h₀.get? 52 = none
theorem moved_new {s s' s'' : Shared} {C I c P : Addr} (hm : Moved [C, I] (GenOnlyQ s.gens.size) s' s'') (hC : s.heap.objs.size ≤ C) (hI : s.heap.objs.size ≤ I) (hdr : s'.drawn = s.drawn) (hos : s'.os = s.os) (hgo : GensOk s.gens s'.gens)
    (hk : ∀ b o, b ≠ P → s.heap.get? b = some o → s'.heap.get? b = some o) (tab : ∃ ps, CodeT s.heap c P ps) (htab : ∃ ps, CodeT s'.heap c P ps) :
    s''.drawn = s.drawn ∧ s''.os = s.os ∧ GensOk s.gens s''.gens ∧ (∀ b o, b ≠ P → s.heap.get? b = some o → s''.heap.get? b = some o) ∧ (∃ ps, CodeT s''.heap c P ps) := by
  have out : ∀ b o, s.heap.get? b = some o → b ∉ [C, I] := fun b o e => by
    have := Heap.lt_size e
    simp only [List.mem_cons, List.not_mem_nil, or_false, not_or]
    exact ⟨Nat.ne_of_lt (Nat.lt_of_lt_of_le this hC), Nat.ne_of_lt (Nat.lt_of_lt_of_le this hI)⟩
  refine ⟨hm.drawn.trans hdr, hm.os.trans hos, GensOk.only hm.gens s.gens (Nat.le_refl _) hgo, fun b o hb e => hm.heap b o (out b o e) (hk b o hb e), ?_⟩
  obtain ⟨ps, hps⟩ := htab
  obtain ⟨ps0, o, vs, file, tf, flags, tg, inF, text, tt, op, a1, a2, a3, a4, a5, a6, a7, a8, a9, a10, a11⟩ := tab
  obtain ⟨o', vs', file', tf', flags', tg', inF', text', tt', op', b1, b2, b3, b4, b5, b6, b7, b8, b9, b10, b11⟩ := hps
  exact ⟨ps, o', vs', file', tf', flags', tg', inF', text', tt', op', hm.heap _ _ (out _ _ a1) b1, b2, b3, b4, b5, b6, b7, hm.heap _ _ (out _ _ a8) b8, b9, b10, b11⟩
theorem st4_57 {Q : Flow → Shared → Prop} (hh : A.handled = none) (hroom : A.depth < recursionLimit) (Z : Ctx57 h₀ mg mb bm ob L m x w s.heap) (Sx : Src w s.heap x l)
    (h : ∀ s', s'.drawn = s.drawn → s'.os = s.os → GensOk s.gens s'.gens → (∀ b o, b ≠ 52 → s.heap.get? b = some o → s'.heap.get? b = some o) → (∃ ps, CodeT s'.heap 56 52 ps) → Q .next s') :
    wpAny (model PP w) A (exec (.If (.UnaryOp .Not (.Call (.Name (Str.ofString "all") p0) [.GeneratorExp (.Compare (.Name (Str.ofString "cand") p1) [.GtE] [.Constant (.int 0) 0 p2] p3) [⟨.Name (Str.ofString "cand") p4, .Name (Str.ofString "candidates") p5, [], 0⟩]
      { kind := .function, names := [(Str.ofString ".0", .local), (Str.ofString "cand", .local)], isGenerator := true, isCoroutine := false } p6] [] p7) p8) rs [] p9) (env57 L)) Q E s := by
  obtain ⟨X, T, k₀, M, hn, hc, tab, x52, t52⟩ := Z
  have Ms := M.keeps k₀
  have hn' : s.heap.Ns (env57 L).locals m := hn
  have ne52 : ∀ {b : Addr} {o : Obj}, h₀.get? b = some o → b ≠ 52 := fun {b} {o} e q => by rw [q, t52] at e; cases e
  have hgl : mainGlobals ≠ 52 := by obtain ⟨o, es, ep, e, _⟩ := T.g; exact ne52 e
  have hcs : cStatics ≠ 52 := by obtain ⟨mc, ⟨o, es, ep, e, _⟩, _⟩ := T.nolimit; exact ne52 e
  k_steps
  show wpAny _ _ _ _ _ _
  refine genx (y := x) (l := l) (c := 56) (P := 52) (bm := bm) (ob := ob) (mg := mg) (cl := []) (fun _ yv => yv = .bool true) hh hroom rfl rfl (by decide) rfl rfl rfl (fun _ => rfl) (nameL (env := env57 L) hn' hc rfl rfl (by decide) ⟨rfl, rfl⟩) Sx rfl tab x52 (T.nolimit.keeps k₀) hcs Ms ⟨hgl, ne52 M.obj⟩ ?_ ?_
  · intro A' E' k t s₂ m₂ C code hA hk hn2 hm2 hkeep
    exact elt4 hn2 hm2 rfl
  · intro a C I s' ord fp hord hC hI hdr hos hgo hk htab hgen hfpB W G
    k_steps
    refine call_all_walkS (wpAny_pyIter_gen hgen ⟨a, fp, [C, I], _, l.length, _, _, fun _ => true, rfl, W.of_in1.of_in1.of_in1, G, truth_bools, fun s'' hm => ?_⟩)
    have hall : ((List.range l.length).all fun _ => true) = true := by simp
    rw [hall]
    refine wpAny_truthy_bool ?_
    simp only [Bool.not_true, Bool.false_eq_true, if_false]
    obtain ⟨r1, r2, r3, r4, r5⟩ := moved_new hm hC hI hdr hos hgo hk tab htab
    exact wpAny_execs_nil (h s'' r1 r2 r3 r4 r5)
theorem elt5 {A' : Around} {E' : Value → Shared → Prop} {k : Nat} {t tn : Tok} {nn : Int} {s₂ : Shared} {m₂ : Str → Option Value} {C : Addr} {code : Value} {scope : Scope} {cl : List (Str × Addr)} {env : Env} {bi : Addr} (hn : s₂.heap.Ns C m₂) (hm : m₂ (Str.ofString "cand") = some (.int (k : Int) t))
    (hcl : cl = [(Str.ofString "num_cand", L + 1)]) (hcell : s₂.heap.IsCell (L + 1) (some (.int nn tn))) (hlt : (k : Int) < nn)
    (hk : scope = { kind := .function, names := [(Str.ofString ".0", .local), (Str.ofString "cand", .local), (Str.ofString "num_cand", .free)], isGenerator := true, isCoroutine := false }) :
    wpAny (model PP w) A' (eval (.Compare (.Name (Str.ofString "cand") p0) [.GtE] [.Name (Str.ofString "num_cand") p1] p2) (genEnv scope cl C code bi env)) (fun y s₃ => y = .bool false ∧ Keeps s₂ s₃) E' s₂ := by
  subst hk
  subst hcl
  have hn' : s₂.heap.Ns (genEnv { kind := .function, names := [(Str.ofString ".0", .local), (Str.ofString "cand", .local), (Str.ofString "num_cand", .free)], isGenerator := true, isCoroutine := false } [(Str.ofString "num_cand", L + 1)] C code bi env).locals m₂ := hn
  k_steps
  all_goals first | exact ⟨_, _, rfl, fun _ _ e => e⟩ | (rw [decide_eq_false (by omega)])
/-- the value of num_cand -/
def NumCand (l : List Nat) (nv : Value) : Prop := nv = .none ∨ ∃ n t, nv = .int n t ∧ ∀ k ∈ l, (k : Int) < n
theorem st5_57 {Q : Flow → Shared → Prop} {nv : Value} (hh : A.handled = none) (hroom : A.depth < recursionLimit) (Z : Ctx57 h₀ mg mb bm ob L m x w s.heap) (Sx : Src w s.heap x l) (hcell : s.heap.IsCell (L + 1) (some nv)) (hnv : NumCand l nv) (hL52 : L + 1 ≠ 52)
    (h : ∀ s', s'.drawn = s.drawn → s'.os = s.os → GensOk s.gens s'.gens → (∀ b o, b ≠ 52 → s.heap.get? b = some o → s'.heap.get? b = some o) → (∃ ps, CodeT s'.heap 56 52 ps) → Q .next s') :
    wpAny (model PP w) A (exec (.If (.BoolOp .And [.Compare (.Name (Str.ofString "num_cand") p0) [.IsNot] [.Constant .none 0 p1] p2, .Call (.Name (Str.ofString "any") p3) [.GeneratorExp (.Compare (.Name (Str.ofString "cand") p4) [.GtE] [.Name (Str.ofString "num_cand") p5] p6) [⟨.Name (Str.ofString "cand") p7, .Name (Str.ofString "candidates") p8, [], 0⟩]
      { kind := .function, names := [(Str.ofString ".0", .local), (Str.ofString "cand", .local), (Str.ofString "num_cand", .free)], isGenerator := true, isCoroutine := false } p9] [] p10] p11) rs [] p12) (env57 L)) Q E s := by
  obtain ⟨X, T, k₀, M, hn, hc, tab, x52, t52⟩ := Z
  have Ms := M.keeps k₀
  have hn' : s.heap.Ns (env57 L).locals m := hn
  have ne52 : ∀ {b : Addr} {o : Obj}, h₀.get? b = some o → b ≠ 52 := fun {b} {o} e q => by rw [q, t52] at e; cases e
  have hgl : mainGlobals ≠ 52 := by obtain ⟨o, es, ep, e, _⟩ := T.g; exact ne52 e
  have hcs : cStatics ≠ 52 := by obtain ⟨mc, ⟨o, es, ep, e, _⟩, _⟩ := T.nolimit; exact ne52 e
  rcases hnv with rfl | ⟨nn, tn, rfl, hlt⟩
  · k_steps
    all_goals first | exact h s rfl rfl GensOk.rfl' (fun _ _ _ e => e) tab | (exfalso; simp_all; done)
  · k_steps
    show wpAny _ _ _ _ _ _
    refine genx (y := x) (l := l) (c := 56) (P := 52) (bm := bm) (ob := ob) (mg := mg) (cl := [(Str.ofString "num_cand", L + 1)]) (fun _ yv => yv = .bool false) hh hroom rfl rfl (by decide) rfl rfl rfl (fun _ => rfl) (nameL (env := env57 L) hn' hc rfl rfl (by decide) ⟨rfl, rfl⟩) Sx rfl tab x52 (T.nolimit.keeps k₀) hcs Ms ⟨hgl, ne52 M.obj⟩ ?_ ?_
    · intro A' E' k t s₂ m₂ C code hA hk hn2 hm2 hkeep
      obtain ⟨oc, hoc, hdc⟩ := hcell
      exact elt5 hn2 hm2 rfl ⟨oc, hkeep _ _ hL52 hoc, hdc⟩ (hlt k hk) rfl
    · intro a C I s' ord fp hord hC hI hdr hos hgo hk htab hgen hfpB W G
      k_steps
      refine call_any_walkS (wpAny_pyIter_gen hgen ⟨a, fp, [C, I], _, l.length, _, _, fun _ => false, rfl, W.of_in1.of_in1.of_in1, G, truth_bools, fun s'' hm => ?_⟩)
      have hall : ((List.range l.length).any fun _ => false) = false := by simp
      rw [hall]
      refine wpAny_truthy_bool ?_
      obtain ⟨r1, r2, r3, r4, r5⟩ := moved_new hm hC hI hdr hos hgo hk tab htab
      k_steps
      all_goals first | exact h s'' r1 r2 r3 r4 r5 | (exact wpAny_execs_nil (h s'' r1 r2 r3 r4 r5))
end

end
section
abbrev tabs : List Addr := [52, 80, 88]
/-- what a heap with the code tables bears -/
structure GoodT (w : World) (mg mb : Str → Option Value) (h : Heap) : Prop where
  X : (K39 w.params).In (hideAll h tabs)
  T : TopRead hd.view_39 loose0 mg mb (hideAll h tabs)
  M : ∃ bm ob, BMod (hideAll h tabs) mainGlobals mg bm ob
  tab : ∀ q ∈ ([(56, 52), (84, 80), (92, 88)] : List (Addr × Addr)), ∃ ps, CodeT h q.1 q.2 ps
abbrev KeepT (h h' : Heap) : Prop := ∀ b o, b ∉ tabs → h.get? b = some o → h'.get? b = some o
theorem keep_hide {h h' : Heap} (k : KeepT h h') : Keep (hideAll h tabs) (hideAll h' tabs) := fun b o e => by
  have hb : b ∉ tabs := fun hm => by rw [hideAll_none _ hm] at e; cases e
  exact hideAll_get _ (k b o hb (of_hideAll _ e)) hb
theorem hide_le {h : Heap} : Keep (hideAll h tabs) h := fun b o e => of_hideAll _ e
theorem GoodT.keepT {h h' : Heap} (G : GoodT w mg mb h) (k : KeepT h h') (tab : ∀ q ∈ ([(56, 52), (84, 80), (92, 88)] : List (Addr × Addr)), ∃ ps, CodeT h' q.1 q.2 ps) : GoodT w mg mb h' := by
  obtain ⟨bm, ob, M⟩ := G.M
  exact ⟨G.X.keeps (keep_hide k), G.T.keeps (keep_hide k), ⟨bm, ob, M.keeps (keep_hide k)⟩, tab⟩
theorem GoodT.keeps {h h' : Heap} (G : GoodT w mg mb h) (k : Keep h h') : GoodT w mg mb h' :=
  G.keepT (fun b o _ e => k b o e) fun q hq => let ⟨ps, p⟩ := G.tab q hq; ⟨ps, p.keeps k⟩
theorem GoodT.good {h : Heap} (G : GoodT w mg mb h) : Good w mg mb h := ⟨G.X.keeps hide_le, G.T.keeps hide_le⟩
/-- from one state of a run to a later one, the code tables and the generators apart -/
structure Went (w : World) (s s' : Shared) : Prop where
  k : KeepT s.heap s'.heap
  tab : ∀ q ∈ ([(56, 52), (84, 80), (92, 88)] : List (Addr × Addr)), ∃ ps, CodeT s'.heap q.1 q.2 ps
  gens : GensOk s.gens s'.gens
  drawn : s'.drawn = s.drawn
  os : s'.os = s.os
theorem Went.trans {a b c : Shared} (x : Went w a b) (y : Went w b c) : Went w a c := ⟨fun p o hp e => y.k p o hp (x.k p o hp e), y.tab, x.gens.trans y.gens, y.drawn.trans x.drawn, y.os.trans x.os⟩
theorem Went.good {s s' : Shared} (x : Went w s s') (G : GoodT w mg mb s.heap) : GoodT w mg mb s'.heap := G.keepT x.k x.tab
section
variable {dp un : Nat} {fr : Option (List Env)} {gd : Option (List Code)} {s : Shared} {x : Addr} {l : List Nat} {nv : Value} {kw : List (Str × Value)}
theorem new_cs0 {R : Result → Shared → Prop} (hdp : dp + 10 < recursionLimit) (G : GoodT w mg mb s.heap) (Sx : Src w (hideAll s.heap tabs) x l) (hnv : NumCand l nv)
    (hbind : ∀ (s' : Shared) (sa : Addr), (K39 w.params).In s'.heap → ∀ name qual params body scope clo kV doc pm an cdv ct oc od osl, (K39 w.params).lookup 57 = some ⟨oc, od, .func (fnOfC name qual params body scope clo (.ref 49) kV doc pm an cdv ct), osl⟩ →
      BindsTo s' (fnOfC name qual params body scope clo (.ref 49) kV doc pm an cdv ct) ⟨[.ref sa, .ref x], kw⟩ ([(Str.ofString "self", .ref sa), (Str.ofString "candidates", .ref x)] ++ [(Str.ofString "num_cand", nv)]))
    (h : ∀ s' dx tf ep led, Went w s s' → s'.heap.get? (s.heap.objs.size + 1) = some (csObj dx l tf ep led) → LedOk w led → s'.heap.get? dx = some (dictOf [] 0) → s.heap.get? dx = none → R (.ok (.ret (.ref (s.heap.objs.size + 1)))) s') :
    codeAny (model PP w) (aro dp un fr gd) (.call (.ref 75) ⟨[.ref x], kw⟩) R s := by
  obtain ⟨hh, g, d, t, os⟩ := s
  have GG := G.good
  refine make_75 GG.X fun led h₁ hle hh1 => ?_
  have k₁ : Keep hh h₁ := fun b o e => by rw [hh1]; exact Heap.get?_push_of_some _ (Heap.get?_push_of_some _ e)
  have G₁ := G.keeps k₁
  have GG₁ := GG.keeps k₁
  have hsa : h₁.get? (hh.objs.size + 1) = some (csObj hh.objs.size [] (fun _ => 0) 0 led) := by
    rw [hh1]
    have : ((hh.push emptyDict).push (csObj hh.objs.size [] (fun _ => 0) 0 led)).get? (hh.push emptyDict).objs.size = some (csObj hh.objs.size [] (fun _ => 0) 0 led) := Heap.get?_push_size _ rfl
    rwa [Heap.size_push] at this
  refine' enterCK (s := ⟨h₁, g, d, t, os⟩) (lb := [(Str.ofString "self", .ref (hh.objs.size + 1)), (Str.ofString "candidates", .ref x)]) (cn := Str.ofString "num_cand") (v := nv) GG₁.X GG₁.T.nolimit (by show dp + 1 < _; omega) ?ho ?hcd ?hb ?h1 ?h2 ?h3 ?h4 ?h5 ?h6 ?h7 ?_
  case ho => k_is
  case hcd => k_is
  case hb => exact hbind _ _ GG₁.X _ _ _ _ _ _ _ _ _ _ _ _ _ _ _ (by k_is)
  case h1 => exact fun n acc => rfl
  case h2 => exact fun h => rfl
  case h3 => exact locs rfl
  case h4 => exact rfl
  case h5 => exact rfl
  case h6 => exact rfl
  case h7 => exact rfl
  intro L h₂ hL F hc
  have hL : L = h₁.objs.size := hL
  show PySem.wpAt (model PP w) _ (.func _ (env57 L)) (execs _ (env57 L)) _ never _
  have kF : Keep hh h₂ := Keep.trans k₁ F.keep
  have kb : Keep (hideAll hh tabs) h₂ := Keep.trans hide_le kF
  have zF : hh.get? (hh.objs.size + 1) = none := Heap.get?_none_of_le (Nat.le_succ _)
  have zL : hh.get? L = none := none_of_keep k₁ (Heap.get?_none_of_le (Nat.le_of_eq hL.symm))
  have zFb : (hideAll hh tabs).get? (hh.objs.size + 1) = none := none_of_keep hide_le zF
  have zLb : (hideAll hh tabs).get? L = none := none_of_keep hide_le zL
  have hh0 : ((((aro dp un fr gd).under (Code.builtin "type.__call__" { pos := [Value.ref 75, Value.ref x], kw := kw })).deeper (env57 L))).handled = none := rfl
  refine ks_wpAt_execs_cons (st1_57 hh0 G.X G.T kb F.ns rfl rfl (F.keep _ _ hsa) hle Sx.fills kb zFb fun h₃ tk₃ tf₃ ep₃ led₃ k₃ hsa₃ hle₃ => ?_)
  refine wpAt_of_wpAny ?_
  obtain ⟨bm, ob, M⟩ := G.M
  have hsaL : hh.objs.size + 1 ≠ L := by rw [hL]; exact Nat.ne_of_lt (Heap.lt_size hsa)
  have hlt1 : (hh.objs.size + 1 : Nat) < (L : Nat) := by rw [hL]; exact Heap.lt_size hsa
  have hsaL1 : hh.objs.size + 1 ≠ L + 1 := Nat.ne_of_lt (Nat.lt_succ_of_lt hlt1)
  have n₃ : h₃.Ns L (fun y => List.lookup y [(Str.ofString "self", Value.ref (hh.objs.size + 1)), (Str.ofString "candidates", Value.ref x)].reverse) := F.ns.at' fun o e => k₃ _ _ (Ne.symm hsaL) e
  have k₃' : Keep hh h₃ := fun b o e => k₃ b o (fun q => by rw [q, zF] at e; cases e) (kF b o e)
  have kb₃ : Keep (hideAll hh tabs) h₃ := Keep.trans hide_le k₃'
  have X₃ : (K39 w.params).In h₃ := G.X.keeps kb₃
  obtain ⟨ox, hox⟩ := Sx.live
  have hxL : x ≠ L := fun q => by rw [q, zLb] at hox; cases hox
  have hxs : x ≠ hh.objs.size + 1 := fun q => by rw [q, zFb] at hox; cases hox
  have c₃ : h₃.IsCell (L + 1) (some nv) := let ⟨oc, e1, e2⟩ := hc; ⟨oc, k₃ _ _ (Ne.symm hsaL1) e1, e2⟩
  refine wpAny_execs_cons (st2_57 G.X G.T kb₃ n₃ rfl rfl (Sx.keeps kb₃) (src_set Sx.fills.1 hsa₃ (setCls_own X₃) hle₃) fun tk => ?_)
  refine wpAny_execs_cons (st3_57 hh0 G.X G.T kb₃ (none_of_keep hide_le zL) n₃ rfl hxL (Sx.keeps kb₃) fun h₄ tk₄ m₄ n₄ hm₄ k₄ => ?_)
  have k₄' : Keep hh h₄ := fun b o e => k₄ b o (fun q => by rw [q, zL] at e; cases e) (k₃' b o e)
  have kb₄ : Keep (hideAll hh tabs) h₄ := Keep.trans hide_le k₄'
  have hL1 : L + 1 ≠ L := Nat.succ_ne_self _
  have c₄ : h₄.IsCell (L + 1) (some nv) := let ⟨oc, e1, e2⟩ := c₃; ⟨oc, k₄ _ _ hL1 e1, e2⟩
  have t52 : (hideAll hh tabs).get? 52 = none := hideAll_none _ (by decide)
  have x52 : x ≠ 52 := fun q => by rw [q, t52] at hox; cases hox
  have tab₄ : ∃ ps, CodeT h₄ 56 52 ps := let ⟨ps, p⟩ := G.tab (56, 52) (by decide); ⟨ps, p.keeps k₄'⟩
  have o52 : ∃ o, hh.get? 52 = some o := by
    obtain ⟨ps, o, vs, file, tf, flags, tg, inF, text, tt, op, a1, a2, a3, a4, a5, a6, a7, a8, a9⟩ := G.tab (56, 52) (by decide)
    exact ⟨_, a8⟩
  have lt52 : 52 < hh.objs.size := let ⟨o, e⟩ := o52; Heap.lt_size e
  have hcand : m₄ (Str.ofString "candidates") = some (.ref x) := hm₄ _ (by decide)
  refine wpAny_execs_cons (st4_57 hh0 (by show dp + 1 + 1 < _; omega) ⟨G.X, G.T, kb₄, M, n₄, hcand, tab₄, x52, t52⟩ (Sx.keeps kb₄) fun s₅ d₅ o₅ g₅ k₅ tab₅ => ?_)
  have k₅' : ∀ b o, b ≠ 52 → hh.get? b = some o → s₅.heap.get? b = some o := fun b o hb e => k₅ b o hb (k₄' b o e)
  have kb₅ : Keep (hideAll hh tabs) s₅.heap := fun b o e => k₅' b o (fun q => by rw [q, t52] at e; cases e) (of_hideAll _ e)
  have hL52 : L ≠ 52 := Nat.ne_of_gt (Nat.lt_trans lt52 (Nat.lt_trans (Nat.lt_succ_self _) hlt1))
  have hL152 : L + 1 ≠ 52 := Nat.ne_of_gt (Nat.lt_succ_of_lt (Nat.lt_trans lt52 (Nat.lt_trans (Nat.lt_succ_self _) hlt1)))
  have n₅ : s₅.heap.Ns L m₄ := n₄.at' fun o e => k₅ _ _ hL52 e
  have c₅ : s₅.heap.IsCell (L + 1) (some nv) := let ⟨oc, e1, e2⟩ := c₄; ⟨oc, k₅ _ _ hL152 e1, e2⟩
  refine wpAny_execs_cons (st5_57 hh0 (by show dp + 1 + 1 < _; omega) ⟨G.X, G.T, kb₅, M, n₅, hcand, tab₅, x52, t52⟩ (Sx.keeps kb₅) c₅ hnv hL152 fun s₆ d₆ o₆ g₆ k₆ tab₆ => ?_)
  refine wpAny_execs_nil ?_
  have k₆' : ∀ b o, b ≠ 52 → hh.get? b = some o → s₆.heap.get? b = some o := fun b o hb e => k₆ b o hb (k₅' b o hb e)
  have hs52 : hh.objs.size + 1 ≠ 52 := Nat.ne_of_gt (Nat.lt_succ_of_lt lt52)
  have hd52 : hh.objs.size ≠ 52 := Nat.ne_of_gt lt52
  have hdL : hh.objs.size ≠ L := Nat.ne_of_lt (Nat.lt_trans (Nat.lt_succ_self _) hlt1)
  have hdx₁ : h₁.get? hh.objs.size = some (dictOf [] 0) := by rw [hh1]; exact Heap.get?_push_of_some _ (Heap.get?_push_size _ rfl)
  refine ⟨rfl, h s₆ hh.objs.size tf₃ ep₃ led₃ ⟨fun b o hb e => k₆' b o (fun q => hb (by rw [q]; decide)) e, fun q hq => ?_, g₅.trans g₆, d₆.trans d₅, o₆.trans o₅⟩ (k₆ _ _ hs52 (k₅ _ _ hs52 (k₄ _ _ hsaL hsa₃))) hle₃ (k₆ _ _ hd52 (k₅ _ _ hd52 (k₄ _ _ hdL (k₃ _ _ (Nat.ne_of_lt (Nat.lt_succ_self _)) (F.keep _ _ hdx₁))))) (Heap.get?_none_of_le (Nat.le_refl _))⟩
  obtain ⟨ps, o, vs, file, tf, flags, tg, inF, text, tt, op, a1, a2, a3, a4, a5, a6, a7, a8, a9⟩ := G.tab q hq
  simp only [List.mem_cons, List.not_mem_nil, or_false] at hq
  rcases hq with rfl | rfl | rfl
  · exact tab₆
  · exact ⟨ps, o, vs, file, tf, flags, tg, inF, text, tt, op, k₆' _ _ (by decide) a1, a2, a3, a4, a5, a6, a7, k₆' _ _ (by decide) a8, a9⟩
  · exact ⟨ps, o, vs, file, tf, flags, tg, inF, text, tt, op, k₆' _ _ (by decide) a1, a2, a3, a4, a5, a6, a7, k₆' _ _ (by decide) a8, a9⟩
end

end
section
section
variable {dp un : Nat} {fr : Option (List Env)} {gd : Option (List Code)} {s : Shared} {x : Addr} {l : List Nat} {nv : Value}
theorem bind57_kw {s' : Shared} {sa : Addr} (X : (K39 w.params).In s'.heap) {name qual params body scope clo kV doc pm an cdv ct oc od osl} (e : (K39 w.params).lookup 57 = some ⟨oc, od, .func (fnOfC name qual params body scope clo (.ref 49) kV doc pm an cdv ct), osl⟩) :
    BindsTo s' (fnOfC name qual params body scope clo (.ref 49) kV doc pm an cdv ct) ⟨[.ref sa, .ref x], [(Str.ofString "num_cand", nv)]⟩ ([(Str.ofString "self", .ref sa), (Str.ofString "candidates", .ref x)] ++ [(Str.ofString "num_cand", nv)]) := by
  obtain ⟨fd, hfd, hb⟩ : ∃ fd, ((K39 w.params).lookup 57).map (·.data) = some (.func fd) ∧ BindsTo s' fd ⟨[.ref sa, .ref x], [(Str.ofString "num_cand", nv)]⟩ ([(Str.ofString "self", .ref sa), (Str.ofString "candidates", .ref x)] ++ [(Str.ofString "num_cand", nv)]) := by
    refine ⟨_, congrArg (Option.map (·.data)) (show (K39 w.params).lookup 57 = some _ by k_is), ?_⟩
    first | exact BindsTo.of_eq rfl | exact binds_K X rfl (by k_is) rfl rfl rfl
  rw [e] at hfd
  injection hfd with hfd
  injection hfd with hfd
  rw [hfd]
  exact hb
theorem bind57 {s' : Shared} {sa : Addr} (X : (K39 w.params).In s'.heap) {name qual params body scope clo kV doc pm an cdv ct oc od osl} (e : (K39 w.params).lookup 57 = some ⟨oc, od, .func (fnOfC name qual params body scope clo (.ref 49) kV doc pm an cdv ct), osl⟩) :
    BindsTo s' (fnOfC name qual params body scope clo (.ref 49) kV doc pm an cdv ct) ⟨[.ref sa, .ref x], []⟩ ([(Str.ofString "self", .ref sa), (Str.ofString "candidates", .ref x)] ++ [(Str.ofString "num_cand", Value.none)]) := by
  obtain ⟨fd, hfd, hb⟩ : ∃ fd, ((K39 w.params).lookup 57).map (·.data) = some (.func fd) ∧ BindsTo s' fd ⟨[.ref sa, .ref x], []⟩ ([(Str.ofString "self", .ref sa), (Str.ofString "candidates", .ref x)] ++ [(Str.ofString "num_cand", Value.none)]) := by
    refine ⟨_, congrArg (Option.map (·.data)) (show (K39 w.params).lookup 57 = some _ by k_is), ?_⟩
    first | exact BindsTo.of_eq rfl | exact binds_K X rfl (by k_is) rfl rfl rfl
  rw [e] at hfd
  injection hfd with hfd
  injection hfd with hfd
  rw [hfd]
  exact hb
/-- CandidateSet(x) -/
theorem new_cs {Q : Value → Shared → Prop} {E : Value → Shared → Prop} (hdp : dp + 10 < recursionLimit) (G : GoodT w mg mb s.heap) (Sx : Src w (hideAll s.heap tabs) x l)
    (h : ∀ s' y dx tf ep led, s.heap.get? y = none → Went w s s' → s'.heap.get? y = some (csObj dx l tf ep led) → LedOk w led → s'.heap.get? dx = some (dictOf [] 0) → s.heap.get? dx = none → Q (.ref y) s') :
    wpAny (model PP w) (aro dp un fr gd) (call (.ref 75) [.ref x]) Q E s :=
  wpAny_call (new_cs0 hdp G Sx (.inl rfl) (fun _ _ X _ _ _ _ _ _ _ _ _ _ _ _ _ _ _ e => bind57 X e) (fun s' dx tf ep led => h s' _ dx tf ep led (Heap.get?_none_of_le (Nat.le_succ _))))
/-- CandidateSet(x, num_cand=nv) -/
theorem new_cs_kw {Q : Value → Shared → Prop} {E : Value → Shared → Prop} (hdp : dp + 10 < recursionLimit) (G : GoodT w mg mb s.heap) (Sx : Src w (hideAll s.heap tabs) x l) (hnv : NumCand l nv)
    (h : ∀ s' y dx tf ep led, s.heap.get? y = none → Went w s s' → s'.heap.get? y = some (csObj dx l tf ep led) → LedOk w led → Q (.ref y) s') :
    wpAny (model PP w) (aro dp un fr gd) (call (.ref 75) [.ref x] [(Str.ofString "num_cand", nv)]) Q E s :=
  wpAny_call (new_cs0 hdp G Sx hnv (fun _ _ X _ _ _ _ _ _ _ _ _ _ _ _ _ _ _ e => bind57_kw X e) (fun s' dx tf ep led a b c _ _ => h s' _ dx tf ep led (Heap.get?_none_of_le (Nat.le_succ _)) a b c))
end

end
section
local macro_rules | `(tactic| walk_at "call ref") => `(tactic| ((with_reducible show wpAny _ _ (call (Value.ref 305) [Value.int _ _, Value.int _ _]) _ _ _); refine stopHere ?_))
section
variable {dp un : Nat} {fr : Option (List Env)} {gd : Option (List Code)} {s : Shared} {Q : Value → Shared → Prop} {k : Int} {t tk : Tok} {v : Value}
theorem pav_fct (hdp : dp + 12 < recursionLimit) (hu : un + 130 < cLine) (G : Good w mg mb s.heap) (hk : 0 < k) (hk3 : k ≤ 3)
    (h : ∀ (x dx : Nat) h' tk, NewFrac s.heap h' x dx (6 / k) → Q (.ref x) { s with heap := h', toks := tk }) : wpAny (model PP w) (aro dp un fr gd) (call (.ref 360) [.int k t]) Q never s := by
  have X := G.X
  have T := G.T
  refine wpAny_call ?_
  refine' enterL (binds := [(Str.ofString "i", .int k t)]) [] (List.forall_mem_nil _) X T ?k6 ?k7 ?k8 ?k9 ?kB ?_ ?c2 ?c3 ?c4 ?c5
  walk_at "m_cases"
  intro g' L' h' hg' hL' F' N' X' T'
  obtain rfl : g' = s.heap := hg'
  have hk0 : ¬ k = 0 := by omega
  k_steps
  all_goals first | (exfalso; simp_all; done) | skip
  rename Fr _ _ _ _ => F1
  show wpAny _ _ _ _ _ _
  have h6 : 6 * 1 = 6 / k * k := by
    have : k = 1 ∨ k = 2 ∨ k = 3 := by omega
    rcases this with rfl | rfl | rfl <;> rfl
  exact frac_newK (S := 6 / k) X' T' F1 hk (by omega) h6 (by walk_at "m_around") (by walk_at "m_around") fun x' dx' h3 tk3 Z => h x' dx' h3 tk3 ⟨Keep.trans F1.keep Z.keep, Z.ex, Z.ed, none_of_keep F1.keep Z.zx, none_of_keep F1.keep Z.zd, Z.lt⟩
theorem marg_fct (hdp : dp + 12 < recursionLimit) (hu : un + 130 < cLine) (G : Good w mg mb s.heap)
    (h : ∀ h' tk, Keep s.heap h' → Q (.ref 360) { s with heap := h', toks := tk }) : wpAny (model PP w) (aro dp un fr gd) (call (.ref 339) [.str (Str.ofString "pav") t, v]) Q never s := by
  have X := G.X
  have T := G.T
  refine wpAny_call ?_
  refine' enterL (binds := [(Str.ofString "scorefct_id", .str (Str.ofString "pav") t), (Str.ofString "committeesize", v)]) [] (List.forall_mem_nil _) X T ?k6 ?k7 ?k8 ?k9 ?kB ?_ ?c2 ?c3 ?c4 ?c5
  walk_at "m_cases"
  intro g' L' h' hg' hL' F' N' X' T'
  obtain rfl : g' = s.heap := hg'
  k_steps
  all_goals first | (exfalso; simp_all; done) | (exact h _ _ F'.keep) | (rename Fr _ _ _ _ => F1; exact h _ _ F1.keep)
end

end
section
abbrev vtEs (h1 : Int) (a1 : Tok) (cs : Addr) (h2 : Int) (a2 : Tok) (wt : Int) (t2 : Tok) : List DictEntry := [⟨h1, .str (Str.ofString "approved") a1, .ref cs⟩, ⟨h2, .str (Str.ofString "weight") a2, .int wt t2⟩]
abbrev pfEs (h1 : Int) (a1 : Tok) (lc : Addr) (h2 : Int) (a2 : Tok) (ln : Addr) (h3 : Int) (a3 : Tok) (lv : Addr) : List DictEntry := [⟨h1, .str (Str.ofString "candidates") a1, .ref lc⟩, ⟨h2, .str (Str.ofString "cand_names") a2, .ref ln⟩, ⟨h3, .str (Str.ofString "_voters") a3, .ref lv⟩]
/-- a voter: his set of approved candidates, his weight -/
def VoterAt (w : World) (h : Heap) (v : Addr) (A : List Nat) (wt : Int) : Prop :=
  A ∈ sub4 ∧ ∃ dv cs dcs tf ep led h1 a1 h2 a2 t2 c, h.get? v = some (instObj 718 dv) ∧ h.get? dv = some (dictOf (vtEs h1 a1 cs h2 a2 wt t2) c) ∧ h.get? cs = some (csObj dcs A tf ep led) ∧ LedOk w led
theorem VoterAt.keeps {h h' : Heap} {v : Addr} {A : List Nat} {wt : Int} (V : VoterAt w h v A wt) (k : Keep h h') : VoterAt w h' v A wt := by
  obtain ⟨hA, dv, cs, dcs, tf, ep, led, h1, a1, h2, a2, t2, c, e1, e2, e3, e4⟩ := V
  exact ⟨hA, dv, cs, dcs, tf, ep, led, h1, a1, h2, a2, t2, c, k _ _ e1, k _ _ e2, k _ _ e3, e4⟩
/-- a profile of n candidates and the voters vs -/
def ProfAt (w : World) (h : Heap) (p : Addr) (n : Nat) (vs : List (Addr × List Nat × Int)) : Prop :=
  ∃ (dp lc ln lv : Addr) (h1 : Int) (a1 : Tok) (h2 : Int) (a2 : Tok) (h3 : Int) (a3 : Tok) (c : Nat) (cs : Array Value) (nn : Nat), h.get? p = some (instObj 681 dp) ∧ h.get? dp = some (dictOf (pfEs h1 a1 lc h2 a2 ln h3 a3 lv) c) ∧ h.IsList lc cs ∧ cs.size = n ∧ (∀ i (v : Value), cs[i]? = some v → ∃ t, v = .int (i : Nat) t) ∧
    h.get? lv = some { cls := .type "list", data := .seq (vs.map fun q => Value.ref q.1).toArray nn } ∧ ∀ q ∈ vs, VoterAt w h q.1 q.2.1 q.2.2
theorem ProfAt.keeps {h h' : Heap} {p : Addr} {n : Nat} {vs : List (Addr × List Nat × Int)} (V : ProfAt w h p n vs) (k : Keep h h') : ProfAt w h' p n vs := by
  obtain ⟨dp, lc, ln, lv, h1, a1, h2, a2, h3, a3, c, cs, nn, e1, e2, ⟨o, e3, r⟩, e4, e5, e6, e7⟩ := V
  exact ⟨dp, lc, ln, lv, h1, a1, h2, a2, h3, a3, c, cs, nn, k _ _ e1, k _ _ e2, ⟨o, k _ _ e3, r⟩, e4, e5, k _ _ e6, fun q hq => (e7 q hq).keeps k⟩
/-- the same with the list of voters told -/
def ProfAtL (w : World) (h : Heap) (p lv : Addr) (n : Nat) (vs : List (Addr × List Nat × Int)) : Prop :=
  ∃ (dp lc ln : Addr) (h1 : Int) (a1 : Tok) (h2 : Int) (a2 : Tok) (h3 : Int) (a3 : Tok) (c : Nat) (cs : Array Value) (nn : Nat), h.get? p = some (instObj 681 dp) ∧ h.get? dp = some (dictOf (pfEs h1 a1 lc h2 a2 ln h3 a3 lv) c) ∧ h.IsList lc cs ∧ cs.size = n ∧ (∀ i (v : Value), cs[i]? = some v → ∃ t, v = .int (i : Nat) t) ∧
    h.get? lv = some { cls := .type "list", data := .seq (vs.map fun q => Value.ref q.1).toArray nn } ∧ ∀ q ∈ vs, VoterAt w h q.1 q.2.1 q.2.2
theorem ProfAtL.prof {h : Heap} {p lv : Addr} {n : Nat} {vs : List (Addr × List Nat × Int)} (V : ProfAtL w h p lv n vs) : ProfAt w h p n vs := by
  obtain ⟨dp, lc, ln, h1, a1, h2, a2, h3, a3, c, cs, nn, r⟩ := V
  exact ⟨dp, lc, ln, lv, h1, a1, h2, a2, h3, a3, c, cs, nn, r⟩
theorem ProfAtL.keeps {h h' : Heap} {p lv : Addr} {n : Nat} {vs : List (Addr × List Nat × Int)} (V : ProfAtL w h p lv n vs) (k : Keep h h') : ProfAtL w h' p lv n vs := by
  obtain ⟨dp, lc, ln, h1, a1, h2, a2, h3, a3, c, cs, nn, e1, e2, ⟨o, e3, r⟩, e4, e5, e6, e7⟩ := V
  exact ⟨dp, lc, ln, h1, a1, h2, a2, h3, a3, c, cs, nn, k _ _ e1, k _ _ e2, ⟨o, k _ _ e3, r⟩, e4, e5, k _ _ e6, fun q hq => (e7 q hq).keeps k⟩
theorem pc_iter : findIn (K39 w.params) (.ref 681) "__iter__" = some (some (.ref 636)) := by k_is
theorem pf_iter : isFn (K39 w.params) (.ref 636) = true := by k_is

theorem call_iter {prog : Program} {A : Around} {E : Value → Shared → Prop} {s : Shared} {x : Value} {Q : Value → Shared → Prop} (h : wpAny (model prog w) A.in1 (pyIter x) Q E s) : wpAny (model prog w) A (call (.builtin "iter") [x]) Q E s := by
  refine PySem.Calls.call_function_entry (by decide +kernel) (by decide +kernel) kdk_entry_iter (kdk_args_iter _) ?_
  unfold Builtin.«iter»
  refine wpAny_bind (m := someArgs "iter" 1 2 _) (wpAny_of_eq (a := [x]) (by first | rfl | kernel_rfl!) ?_)
  exact wpAny_bind (wpAny_mono h (fun v s' hv => wpAny_pure ⟨_, rfl, hv⟩) fun _ _ e => e)
section
variable {dp un : Nat} {fr : Option (List Env)} {gd : Option (List Code)} {s : Shared} {Q : Value → Shared → Prop} {p : Addr} {n : Nat} {vs : List (Addr × List Nat × Int)}
theorem prof_iter {dpp lc ln lv : Addr} {h1 : Int} {a1 : Tok} {h2 : Int} {a2 : Tok} {h3 : Int} {a3 : Tok} {c nn : Nat} {items : Array Value} (hdp : dp + 12 < recursionLimit) (hu : un + 130 < cLine) (G : Good w mg mb s.heap)
    (I : InstAt s.heap p (instObj 681 dpp) 681 (some (dictOf (pfEs h1 a1 lc h2 a2 ln h3 a3 lv) c))) (e6 : s.heap.get? lv = some { cls := .type "list", data := .seq items nn })
    (h : ∀ (I : Addr) h' tk, Keep s.heap h' → I ≠ lv → s.heap.get? I = none → h'.IsListIter I lv 0 → Q (.ref I) { s with heap := h', toks := tk }) :
    wpAny (model PP w) (aro dp un fr gd) (call (.ref 636) [.ref p]) Q never s := by
  have X := G.X
  have T := G.T
  refine wpAny_call ?_
  refine' enterL (binds := [(Str.ofString "self", .ref p)]) [] (List.forall_mem_nil _) X T ?k6 ?k7 ?k8 ?k9 ?kB ?_ ?c2 ?c3 ?c4 ?c5
  walk_at "m_cases"
  intro g' L' h' hg' hL' F' N' X' T'
  obtain rfl : g' = s.heap := hg'
  k_steps
  rename Fr _ _ _ _ => F1
  have hlv : Heap.IsList _ lv items := ⟨_, F1.keep _ _ e6, rfl, nn, rfl⟩
  have hlt := Heap.lt_size (F1.keep _ _ e6)
  refine call_iter (wpAny_pyIter_list hlv ?_)
  refine h _ _ _ (fun b o e => Heap.get?_push_of_some _ (F1.keep _ _ e)) (Nat.ne_of_gt hlt) (none_of_keep F1.keep (Heap.get?_none_of_le (Nat.le_refl _))) ⟨_, Heap.get?_push_size _ rfl, rfl, rfl⟩
end

end
section
/-- a number whose objects, if any, are newer than the base and off the frame -/
def NewN (base : Heap) (L : Addr) (h : Heap) (v : Value) (S : Int) : Prop :=
  (∃ k t, v = .int k t ∧ S = 6 * k) ∨ ∃ (x dx : Addr) (h1 : Int) (a1 : Tok) (n : Int) (t1 : Tok) (h2 : Int) (a2 : Tok) (d : Int) (t2 : Tok) (c : Nat), v = .ref x ∧ Sx S n d ∧ News base L h [(x, instObj 305 dx), (dx, dictOf (frEs h1 a1 n t1 h2 a2 d t2) c)]
theorem NewN.num {base h : Heap} {L : Addr} {v : Value} {S : Int} (V : NewN base L h v S) : NumS h v S := by
  rcases V with ⟨k, t, e, q⟩ | ⟨x, dx, h1, a1, n, t1, h2, a2, d, t2, c, e, q, N⟩
  · exact .inl ⟨k, t, e, q⟩
  · exact .inr ⟨x, e, n, d, ⟨dx, h1, a1, t1, h2, a2, t2, c, (N _ (.head _)).1, (N _ (.tail _ (.head _))).1⟩, q⟩
theorem NewN.track {base h : Heap} {L : Addr} {v : Value} {S : Int} (V : NewN base L h v S) : ∃ nl, News base L h nl ∧ (∀ p ∈ nl, p.2.cls = .ref 305 ∨ p.2.cls = .type "dict") ∧ ∀ h' nl', News base L h' nl' → (∀ p ∈ nl, p ∈ nl') → NewN base L h' v S := by
  rcases V with ⟨k, t, e, q⟩ | ⟨x, dx, h1, a1, n, t1, h2, a2, d, t2, c, e, q, N⟩
  · exact ⟨[], News.nil, (fun p hp => by cases hp), fun _ _ _ _ => .inl ⟨k, t, e, q⟩⟩
  · refine ⟨_, N, fun p hp => ?_, fun h' nl' N' hs => .inr ⟨x, dx, h1, a1, n, t1, h2, a2, d, t2, c, e, q, fun p hp => N' p (hs p hp)⟩⟩
    simp only [List.mem_cons, List.not_mem_nil, or_false] at hp
    rcases hp with rfl | rfl
    · exact .inl rfl
    · exact .inr rfl
theorem News.cons' {base h : Heap} {L : Addr} {nl : List (Addr × Obj)} {a : Addr} {o : Obj} (N : News base L h nl) (e : h.get? a = some o) (hL : a ≠ L) (z : base.get? a = none) : News base L h ((a, o) :: nl) := fun p hp => by
  rcases List.mem_cons.mp hp with rfl | hp
  · exact ⟨e, hL, z⟩
  · exact N p hp
theorem NewFrac.newN {base hA h h' : Heap} {L : Addr} {m : Str → Option Value} {x dx : Nat} {S : Int} (Z : NewFrac h h' x dx S) (F : Fr base L h m) : NewN base L h' (.ref x) S := by
  obtain ⟨h1, a1, n, t1, h2, a2, d, t2, c, e, q⟩ := Z.ed
  have hL : ∀ a, h.get? a = none → a ≠ L := fun a z => by
    rintro rfl
    obtain ⟨o, _, _, e, _⟩ := F.ns
    rw [z] at e
    cases e
  refine .inr ⟨x, dx, h1, a1, n, t1, h2, a2, d, t2, c, rfl, q, fun p hp => ?_⟩
  simp only [List.mem_cons, List.not_mem_nil, or_false] at hp
  rcases hp with rfl | rfl
  · exact ⟨Z.ex, hL _ Z.zx, none_of_keep F.keep Z.zx⟩
  · exact ⟨e, hL _ Z.zd, none_of_keep F.keep Z.zd⟩
theorem NewN.off {base h h' : Heap} {L : Addr} {v : Value} {S : Int} {I : Addr} {o : Obj} {T : String} (V : NewN base L h v S) (hI : h.get? I = some o) (hc : o.cls = .type T) (hT : T ≠ "dict") (k : ∀ b o, b ∉ [I] → h.get? b = some o → h'.get? b = some o) : NewN base L h' v S := by
  rcases V with ⟨a, t, e, q⟩ | ⟨x, dx, h1, a1, n, t1, h2, a2, d, t2, c, e, q, N⟩
  · exact .inl ⟨a, t, e, q⟩
  · refine .inr ⟨x, dx, h1, a1, n, t1, h2, a2, d, t2, c, e, q, fun p hp => ⟨k _ _ ?_ (N p hp).1, (N p hp).2⟩⟩
    have i := (N p hp).1
    rw [List.mem_singleton]
    intro hpI
    rw [hpI, hI] at i
    have io : o = p.2 := Option.some.inj i
    simp only [List.mem_cons, List.not_mem_nil, or_false] at hp
    rcases hp with rfl | rfl
    · rw [io] at hc
      cases hc
    · rw [io] at hc
      exact hT (by injection hc with hc; exact hc.symm)

theorem Fr.fresh {base h : Heap} {L a : Addr} {m : Str → Option Value} (F : Fr base L h m) (z : h.get? a = none) : base.get? a = none ∧ a ≠ L := by
  refine ⟨none_of_keep F.keep z, ?_⟩
  rintro rfl
  obtain ⟨o, _, _, e, _⟩ := F.ns
  rw [z] at e
  cases e

end
section
local macro_rules | `(tactic| walk_at "eval Name") => `(tactic| (k_here; (refine' ld ?k1 ?k2 ?_; (case k1 => k_asm); (case k2 => first | exact rfl | assumption); k_whole)))
local macro_rules | `(tactic| walk_at "loadName") => `(tactic| (k_here; (refine' wpAny_loadName_local ?k3 ?k4 ?k1 ?k2 ?_; (case k3 => exact rfl); (case k4 => exact rfl); (case k1 => exact Fr.ns (by k_asm)); (case k2 => first | exact rfl | assumption); k_whole)))
local macro_rules | `(tactic| walk_at "And") => `(tactic| ((with_reducible show (Flow.next = Flow.next) ∧ _); refine stopHere ?_))
local macro_rules | `(tactic| walk_at "call builtin:len") => `(tactic| refine stopHere ?_)
local macro_rules | `(tactic| walk_at "call ref") => `(tactic| refine stopHere ?_)
local macro_rules | `(tactic| walk_at "exec For") => `(tactic| refine stopHere ?_)
local macro_rules | `(tactic| walk_at "exec For Name Name cons nil") => `(tactic| refine stopHere ?_)
local macro_rules | `(tactic| walk_at "call type:set cons nil") => `(tactic| refine stopHere ?_)
local macro_rules | `(tactic| walk_at "binaryOp BitAnd ref") => `(tactic| refine stopHere ?_)
local macro_rules | `(tactic| walk_at "pyIter ref") => `(tactic| refine stopHere ?_)
theorem slotAt0 {S : List Nat} : slotAt w S 0 = 0 := by unfold slotAt; split <;> rfl
def gain (k : Nat) : Int := [0, 6, 9, 11].getD k 0
def scoreOf (C : List Nat) (vs : List (Addr × List Nat × Int)) : Int := (vs.map fun q => q.2.2 * gain (inter4 C q.2.1).length).sum
section
variable {prog : Program} {A : Around} {E : Value → Shared → Prop} {s : Shared} {a b x : Addr} {S U l : List Nat} {tfa tfb : Nat → Tok} {epa epb : Nat} {leda ledb : Bool} {da db : Option Addr} {c : Value} {Q : Value → Shared → Prop}
theorem call_set_f (hh : A.handled = none) (H : Fills w s.heap x l)
    (h : ∀ sa h' tk tf ep led, s.heap.get? sa = none → Keep s.heap h' → h'.get? sa = some (cObj (.type "set") none l tf ep led) → LedOk w led → Q (.ref sa) { s with heap := h', toks := tk }) :
    wpAny (model prog w) A (call (.type "set") [.ref x]) Q E s := call_set_c hh H fun h' tk tf ep led k g e => h _ h' tk tf ep led (Heap.get?_none_of_le (Nat.le_refl _)) k g e
theorem and_f (X : (K39 w.params).In s.heap) (hs : s.heap.get? a = some (cObj (.type "set") da S tfa epa leda)) (hb : s.heap.get? b = some (cObj (.ref 75) db U tfb epb ledb)) (hS : S ∈ sub4) (hU : U ∈ sub4)
    (hla : LedOk w leda) (hlb : LedOk w ledb)
    (h : ∀ r h' tf ep led, s.heap.get? r = none → Keep s.heap h' → h'.get? r = some (cObj (.type "set") none (inter4 S U) tf ep led) → LedOk w led → Q (.ref r) { s with heap := h' }) :
    wpAny (model prog w) A (binaryOp .BitAnd (.ref a) (.ref b)) Q E s := and_c X hs hb hS hU hla hlb fun h' tf ep led k g e => h _ h' tf ep led (Heap.get?_none_of_le (Nat.le_refl _)) k g e
theorem iter_f (hS : S ∈ sub4) (ho : s.heap.get? a = some (cObj c da S tfa epa leda)) (C : SetCls w s.heap c)
    (h : ∀ I h', s.heap.get? I = none → a ≠ I → Keep s.heap h' → h'.get? I = some (siObj a S.length epa 0 0) → Q (.ref I) { s with heap := h' }) : wpAny (model prog w) A (pyIter (.ref a)) Q E s :=
  iter_c hS ho C (h _ _ (Heap.get?_none_of_le (Nat.le_refl _)) (Nat.ne_of_lt (Heap.lt_size ho)) (fun b o e => Heap.get?_push_of_some _ e) (Heap.get?_push_size _ rfl))
end
/-- a change at an object of another kind leaves a number as it is -/
theorem NumS.off {h h' : Heap} {v : Value} {S : Int} {I : Addr} {o : Obj} {T : String} (V : NumS h v S) (hI : h.get? I = some o) (hc : o.cls = .type T) (hT : T ≠ "dict") (k : ∀ b o, b ∉ [I] → h.get? b = some o → h'.get? b = some o) : NumS h' v S := by
  rcases V with ⟨a, t, e, q⟩ | ⟨x, e, n, d, ⟨dx, h1, a1, t1, h2, a2, t2, c, i1, i2⟩, q⟩
  · exact .inl ⟨a, t, e, q⟩
  · refine .inr ⟨x, e, n, d, ⟨dx, h1, a1, t1, h2, a2, t2, c, k _ _ ?_ i1, k _ _ ?_ i2⟩, q⟩
    · rw [List.mem_singleton]
      rintro rfl
      rw [hI] at i1
      cases i1
      cases hc
    · rw [List.mem_singleton]
      rintro rfl
      rw [hI] at i2
      cases i2
      exact hT (by injection hc with hc; exact hc.symm)
theorem scoreOf_take {C : List Nat} {vs : List (Addr × List Nat × Int)} {i : Nat} {q : Addr × List Nat × Int} (h : vs[i]? = some q) : scoreOf C (vs.take (i + 1)) = scoreOf C (vs.take i) + q.2.2 * gain (inter4 C q.2.1).length := by
  have hi : i < vs.length := (List.getElem?_eq_some_iff.mp h).1
  have he : vs[i] = q := (List.getElem?_eq_some_iff.mp h).2
  unfold scoreOf
  rw [List.take_succ_eq_append_getElem hi, List.map_append, List.sum_append, he]
  simp
section
variable {dp un : Nat} {fr : Option (List Env)} {gd : Option (List Code)} {s : Shared} {Q : Value → Shared → Prop} {p c : Addr} {n : Nat} {vs : List (Addr × List Nat × Int)} {C : List Nat} {t : Tok}
theorem thiele (hdp : dp + 40 < recursionLimit) (hu : un + 250 < cLine) (G : Good w mg mb s.heap) (P : ProfAt w s.heap p n vs) (Sc : Src w s.heap c C) (hC : C.length ≤ 3)
    (h : ∀ v h' tk L', Keep s.heap h' → NewN s.heap L' h' v (scoreOf C vs) → Q v { s with heap := h', toks := tk }) :
    wpAny (model PP w) (aro dp un fr gd) (call (.ref 346) [.str (Str.ofString "pav") t, .ref p, .ref c]) Q never s := by
  have X := G.X
  have T := G.T
  refine wpAny_call ?_
  refine' enterL (binds := [(Str.ofString "scorefct_id", .str (Str.ofString "pav") t), (Str.ofString "profile", .ref p), (Str.ofString "committee", .ref c)]) [] (List.forall_mem_nil _) X T ?k6 ?k7 ?k8 ?k9 ?kB ?_ ?c2 ?c3 ?c4 ?c5
  walk_at "m_cases"
  intro g' L' h' hg' hL' F' N' X' T'
  obtain rfl : g' = s.heap := hg'
  k_steps
  show wpAny _ _ _ _ _ _
  refine Sc.len _ _ _ _ _ F'.keep fun tl tk => ?_
  k_steps
  show wpAny _ _ _ _ _ _
  refine' marg_fct ?d ?u ?G fun h2 tk2 k2 => ?_
  case G => exact ⟨X'.keeps F'.keep, T'.keeps F'.keep⟩
  case d => walk_at "m_around"
  case u => walk_at "m_around"
  have F2 := Fr.kept F' k2
  have N2 := News.kept N' k2
  clear F' N'
  k_steps
  rename Fr _ _ _ _ => F1
  rename News _ _ _ _ => N1
  show wpAny _ _ _ _ _ _
  obtain ⟨dpp, lc, ln, lv, h1, a1, h2', a2, h3, a3, cc, cs, nn, e1, e2, e3, e4, e5, e6, e7⟩ := id P
  have Ip : InstAt s.heap p (instObj 681 dpp) 681 (some (dictOf (pfEs h1 a1 lc h2' a2 ln h3 a3 lv) cc)) := ⟨e1, rfl, rfl, e2⟩
  refine wpAny_For (ld F1 rfl (owit_iter F1 X' (InstAt.keeps' Ip F1.keep) pc_iter pf_iter ?_))
  refine wpAny_mono (prof_iter ?d ?u ⟨X'.keeps F1.keep, T'.keeps F1.keep⟩ (InstAt.keeps' Ip F1.keep) (F1.keep _ _ e6) fun I h3 tk3 k3 hIl zI hit => ?_) (fun _ _ z => z) fun _ _ z => z.elim
  case d => walk_at "m_around"
  case u => walk_at "m_around"
  unfold OwitIt
  refine wpAny_specialOf hit.typeIs slot_listiter_next.lookup ?_
  dsimp only
  have F3 := Fr.kept F1 k3
  have hlv : ∀ {hB : Heap}, Keep s.heap hB → hB.IsList lv (vs.map fun q => Value.ref q.1).toArray := fun k => ⟨_, k _ _ e6, rfl, nn, rfl⟩
  have hIb : s.heap.get? I = none := none_of_keep F1.keep zI
  have hIL : I ≠ L' := by
    rintro rfl
    obtain ⟨o, _, _, e, _⟩ := F1.ns
    rw [zI] at e
    cases e
  have frI : ∀ {hA hB : Heap} {mm : Str → Option Value}, Fr s.heap L' hA mm → (∀ b o, b ∉ [I] → hA.get? b = some o → hB.get? b = some o) → Fr s.heap L' hB mm := fun F k =>
    ⟨F.ns.at' fun o e => k _ _ (by simp [Ne.symm hIL]) e, fun b o e => k _ _ (by rw [List.mem_singleton]; rintro rfl; rw [hIb] at e; cases e) (F.keep b o e), F.above⟩
  refine forW (Walks.list rfl I lv (Ne.symm hIl) (vs.map fun q => Value.ref q.1).toArray) (fun i s' => ∃ h' tk m' v, s' = { s with heap := h', toks := tk } ∧ Fr s.heap L' h' m' ∧ m' (Str.ofString "marginal_scorefct") = some (.ref 360) ∧ m' (Str.ofString "committee") = some (.ref c) ∧ m' (Str.ofString "score") = some v ∧ NewN s.heap L' h' v (scoreOf C (vs.take i)))
    ?hJ ?hS ⟨hit, hlv (Keep.trans F1.keep k3)⟩ ⟨_, _, _, _, rfl, F3, rfl, rfl, rfl, .inl ⟨0, _, rfl, rfl⟩⟩ ?hR
  case hJ =>
    rintro i s' hB tkB st ⟨hA, tkA, mA, vA, rfl, FA, r1, r2, r3, NA⟩ kB
    obtain ⟨⟨oI, hoI, hcI, _⟩, _⟩ := st
    exact ⟨hB, tkB, mA, vA, rfl, frI FA kB, r1, r2, r3, NA.off hoI hcI (by decide) kB⟩
  case hR =>
    rintro s' ⟨hA, tkA, mA, vA, rfl, FA, r1, r2, r3, NA⟩
    have hsz : (vs.map fun q => Value.ref q.1).toArray.size = vs.length := by simp
    rw [hsz, List.take_length] at NA
    k_steps
    exact h _ _ _ _ FA.keep NA
  case hS =>
    rintro i v s₁ hi hv st ⟨hA, tkA, mA, vA, rfl, FA, r1, r2, r3, NA⟩
    have hiv : i < vs.length := by simpa using hi
    obtain ⟨q, hq⟩ : ∃ q, vs[i]? = some q := ⟨_, List.getElem?_eq_getElem hiv⟩
    have hvq : v = .ref q.1 := by
      have : (vs.map fun q => Value.ref q.1).toArray[i]? = some (.ref q.1) := by simp [hq]
      rw [this] at hv
      exact (Option.some.inj hv).symm
    subst hvq
    obtain ⟨hAm, dv, cs', dcs, tf, ep, led, b1, d1, b2, d2, tw, cc', v1, v2, v3, v4⟩ := e7 q (List.mem_of_getElem? hq)
    have Iv : InstAt s.heap q.1 (instObj 718 dv) 718 (some (dictOf (vtEs b1 d1 cs' b2 d2 q.2.2 tw) cc')) := ⟨v1, rfl, rfl, v2⟩
    obtain ⟨nl, Nl, hnl, back⟩ := NA.track
    obtain ⟨⟨oI, hoI, hcI, hdI⟩, hLs⟩ := st
    have N0 := News.cons' Nl hoI hIL hIb
    clear F1 N1 F3 Nl
    refine wpAny_assign_Name ?_
    k_steps
    show wpAny _ _ _ _ _ _
    refine wpAny_For ?_
    k_steps
    rename Fr _ _ _ _ => F4
    rename News _ _ _ _ => N4
    show wpAny _ _ _ _ _ _
    refine call_set_f rfl (Sc.fills.keeps F4.keep) fun sa h5 tk5 tf5 ep5 led5 z5 k5 hg5 hl5 => ?_
    have F5 := Fr.kept F4 k5
    have N5 := News.kept N4 k5
    clear F4 N4
    k_steps
    rename Fr _ _ _ _ => F6
    rename News _ _ _ _ => N6
    show wpAny _ _ _ _ _ _
    refine and_f (X'.keeps F6.keep) hg5 (F6.keep _ _ v3) Sc.fills.1 hAm hl5 v4 fun r h7 tf7 ep7 led7 z7 k7 hg7 hl7 => ?_
    obtain ⟨zr, hrL⟩ := Fr.fresh F6 z7
    have F7 := Fr.kept F6 k7
    have N7 := News.kept N6 k7
    clear F6 N6
    k_steps
    show wpAny _ _ _ _ _ _
    have hi4 : inter4 C q.2.1 ∈ sub4 := inter4_mem Sc.fills.1 hAm
    refine iter_f hi4 hg7 setCls_set fun I2 h8 zI2' hrI k8 hgI => ?_
    have F8 := Fr.kept F7 k8
    have N8 := News.kept N7 k8
    obtain ⟨zI2, hI2L⟩ := Fr.fresh F7 zI2'
    have hII2 : I ≠ I2 := fun e => by have := (N7 (I, oI) (.head _)).1; rw [e, zI2'] at this; cases this
    clear F7 N7
    refine forW (Walks.cset rfl I2 r hrI hi4 hl7) (fun j s' => ∃ h' tk m' v t, s' = { s with heap := h', toks := tk } ∧ Fr s.heap L' h' m' ∧ m' (Str.ofString "marginal_scorefct") = some (.ref 360) ∧ m' (Str.ofString "committee") = some (.ref c) ∧ m' (Str.ofString "vote") = some (.ref q.1) ∧ m' (Str.ofString "cand_in_com") = some (.int (j : Nat) t) ∧ m' (Str.ofString "score") = some v ∧
      NewN s.heap L' h' v (scoreOf C (vs.take i) + q.2.2 * gain j) ∧ h'.get? I = some oI) ?jJ ?jS ⟨by rw [slotAt0]; exact hgI, k8 _ _ hg7⟩ ⟨_, _, _, _, _, rfl, F8, r1, r2, rfl, rfl, r3, ?j0, (N8 _ (.head _)).1⟩ ?jR
    case j0 =>
      have := back _ _ N8 fun p hp => List.mem_cons_of_mem _ hp
      rw [show gain 0 = 0 from rfl, Int.mul_zero, Int.add_zero]
      exact this
    case jJ =>
      rintro j s' hB tkB st ⟨hA, tkA, mA, vA, tA, rfl, FA, u1, u2, u3, u4, u5, NA, iA⟩ kB
      obtain ⟨st1, st2⟩ := st
      refine ⟨hB, tkB, mA, vA, tA, rfl, ⟨FA.ns.at' fun o e => kB _ _ (by simp [Ne.symm hI2L]) e, fun b o e => kB _ _ (by rw [List.mem_singleton]; rintro rfl; rw [zI2] at e; cases e) (FA.keep b o e), FA.above⟩, u1, u2, u3, u4, u5, NA.off st1 rfl (by decide) kB, kB _ _ (by simp [hII2]) iA⟩
    case jR =>
      rintro s' ⟨hA, tkA, mA, vA, tA, rfl, FA, u1, u2, u3, u4, u5, NA, iA⟩
      refine wpAny_execs_nil ⟨rfl, ⟨⟨oI, iA, hcI, hdI⟩, hlv FA.keep⟩, hA, tkA, mA, vA, rfl, FA, u1, u2, u5, ?_⟩
      rw [scoreOf_take hq]
      exact NA
    case jS =>
      rintro j v s₁ hj hv st ⟨hA, tkA, mA, vA, tA, rfl, FA, u1, u2, u3, u4, u5, NA, iA⟩
      obtain ⟨kk, hkk, rfl⟩ := hv
      obtain ⟨st1, st2⟩ := st
      obtain ⟨nl2, Nl2, hnl2, back2⟩ := NA.track
      have M0 := News.cons' (News.cons' (News.cons' Nl2 iA hIL hIb) st2 hrL zr) st1 hI2L zI2
      have hj3 : j < 3 := Nat.lt_of_lt_of_le hj (Nat.le_trans (List.length_filter_le _ _) hC)
      clear F8 N8 Nl2
      refine wpAny_assign_Name ?_
      k_steps
      rename Fr _ _ _ _ => G1
      rename News _ _ _ _ => M1
      show wpAny _ _ _ _ _ _
      refine' pav_fct ?d1 ?u1 ?G1' (by omega) (by omega) fun x1 dx1 hb tb Z1 => ?_
      case G1' => exact ⟨X'.keeps G1.keep, T'.keeps G1.keep⟩
      case d1 => walk_at "m_around"
      case u1 => walk_at "m_around"
      have G2 := Fr.kept G1 Z1.keep
      have M2 := News.kept M1 Z1.keep
      clear G1 M1
      have h6 : (6 / ((j : Int) + 1)).natAbs ≤ 1000 := by
        have : j = 0 ∨ j = 1 ∨ j = 2 := by omega
        rcases this with rfl | rfl | rfl <;> decide
      refine' int_mul_frac ?d2 ?u2 ?G2' Z1.at (.inl h6) fun x2 dx2 hc tc Z2 => ?_
      case G2' => exact ⟨X'.keeps G2.keep, T'.keeps G2.keep⟩
      case d2 => walk_at "m_around"
      case u2 => walk_at "m_around"
      have G3 := Fr.kept G2 Z2.keep
      have M3 := News.kept M2 Z2.keep
      clear G2 M2
      have V3 := (back2 _ _ M3 fun p hp => List.mem_cons_of_mem _ (List.mem_cons_of_mem _ (List.mem_cons_of_mem _ hp))).num
      refine' iadd_frac ?d3 ?u3 ?G3' V3 Z2.at fun x3 dx3 hd' td Z3 => ?_
      case G3' => exact ⟨X'.keeps G3.keep, T'.keeps G3.keep⟩
      case d3 => walk_at "m_around"
      case u3 => walk_at "m_around"
      obtain ⟨nl3, N3, _, back3⟩ := (NewFrac.newN (hA := hA) Z3 G3).track
      have G4 := Fr.kept G3 Z3.keep
      have M3' := News.kept M3 Z3.keep
      have M4 : News s.heap L' hd' (nl3 ++ _) := fun p hp => (List.mem_append.mp hp).elim (N3 p) (M3' p)
      clear G3 M3 M3' N3
      k_steps
      rename Fr _ _ _ _ => G5
      rename News _ _ _ _ => M5
      have hadd : scoreOf C (vs.take i) + q.2.2 * gain j + 6 / ((j : Int) + 1) * q.2.2 = scoreOf C (vs.take i) + q.2.2 * gain (j + 1) := by
        have hg : gain (j + 1) = gain j + 6 / ((j : Int) + 1) := by
          have : j = 0 ∨ j = 1 ∨ j = 2 := by omega
          rcases this with rfl | rfl | rfl <;> decide
        rw [hg, Int.mul_add, Int.mul_comm (6 / ((j : Int) + 1)) q.2.2]
        omega
      rw [hadd] at back3
      have mr : ∀ {p : Addr × Obj} {rest : List (Addr × Obj)}, p ∈ rest → p ∈ nl3 ++ rest := fun h => List.mem_append_right _ h
      refine ⟨rfl, ⟨(M5 _ (mr (.head _))).1, (M5 _ (mr (.tail _ (.head _)))).1⟩, _, _, _, _, _, rfl, G5, u1, u2, u3, rfl, rfl, back3 _ _ M5 fun p hp => List.mem_append_left _ hp, (M5 _ (mr (.tail _ (.tail _ (.head _))))).1⟩
end

end
section
/-- the score of a committee by the ballots alone -/
def scoreB (C : List Nat) (bs : List (List Nat × Int)) : Int := (bs.map fun q => q.2 * gain (inter4 C q.1).length).sum
/-- the committees of k out of n candidates, in order -/
def combos : Nat × Nat → List (List Nat)
  | (3, _) => [[0, 1], [0, 2], [1, 2]]
  | (_, 2) => [[0, 1], [0, 2], [0, 3], [1, 2], [1, 3], [2, 3]]
  | _ => [[0, 1, 2], [0, 1, 3], [0, 2, 3], [1, 2, 3]]
/-- C with x out and c in, in order -/
def swapC (C : List Nat) (x c : Nat) : List Nat := (List.range 4).filter fun k => (decide (k ∈ C) && k != x) || k == c
def cases4 : List (Nat × Nat) := [(3, 2), (4, 2), (4, 3)]
theorem swap_mem : ∀ p ∈ cases4, ∀ C ∈ combos p, ∀ c < p.1, c ∉ C → ∀ x ∈ C, swapC C x c ∈ combos p := by decide +kernel
/-- what all swaps together give to one voter -/
def deltaV (C : List Nat) (c : Nat) (A : List Nat) : Int := (C.map fun x => gain (inter4 (swapC C x c) A).length - gain (inter4 C A).length).sum
theorem delta_in : ∀ p ∈ cases4, ∀ C ∈ combos p, ∀ c < p.1, c ∉ C → ∀ A ∈ sub4, c ∈ A → ∀ d ∈ ([1, 2, 3] : List Int),
    6 * ((p.2 : Int) + 1) * (2 * d - 1 - ((inter4 C A).length : Int)) - 6 * (d * d) ≤ (d * d) * deltaV C c A := by decide +kernel
theorem delta_any : ∀ p ∈ cases4, ∀ C ∈ combos p, ∀ c < p.1, c ∉ C → ∀ A ∈ sub4, -6 ≤ deltaV C c A := by decide +kernel
theorem inter_len : ∀ p ∈ cases4, ∀ C ∈ combos p, ∀ A ∈ sub4, ((List.range p.1).filter fun k => decide (k ∈ C) && decide (k ∈ A)).length = (inter4 C A).length := by decide +kernel
theorem sum_sub {α : Type} (f : α → Int) {l : List α} (h : ∀ q ∈ l, 0 ≤ f q) : 0 ≤ (l.map f).sum := by
  induction l with
  | nil => exact Int.le_refl _
  | cons a l ih =>
    rw [List.map_cons, List.sum_cons]
    have := h a (.head _)
    have := ih fun q hq => h q (.tail _ hq)
    omega
theorem sum_sublist {α : Type} (f g h : α → Int) {l m : List α} (hs : List.Sublist l m) (hg : ∀ q ∈ m, g q ≤ f q) (hh : ∀ q ∈ l, g q + h q ≤ f q) : (m.map g).sum + (l.map h).sum ≤ (m.map f).sum := by
  induction hs with
  | slnil => exact Int.le_refl _
  | cons a hs ih =>
    rw [List.map_cons, List.map_cons, List.sum_cons, List.sum_cons]
    have := hg a (.head _)
    have := ih (fun q hq => hg q (.tail _ hq)) hh
    omega
  | cons_cons a hs ih =>
    rw [List.map_cons, List.map_cons, List.map_cons, List.sum_cons, List.sum_cons, List.sum_cons]
    have := hh a (.head _)
    have := ih (fun q hq => hg q (.tail _ hq)) (fun q hq => hh q (.tail _ hq))
    omega
theorem sum_mulc {α : Type} (k : Int) (f : α → Int) (l : List α) : (l.map fun q => k * f q).sum = k * (l.map f).sum := by
  induction l with
  | nil => simp
  | cons a l ih => rw [List.map_cons, List.map_cons, List.sum_cons, List.sum_cons, ih, Int.mul_add]
theorem sum_addf {α : Type} (f g : α → Int) (l : List α) : (l.map fun q => f q + g q).sum = (l.map f).sum + (l.map g).sum := by
  induction l with
  | nil => rfl
  | cons a l ih => rw [List.map_cons, List.map_cons, List.map_cons, List.sum_cons, List.sum_cons, List.sum_cons, ih]; omega
theorem sum_congr {α : Type} {f g : α → Int} {l : List α} (h : ∀ q ∈ l, f q = g q) : (l.map f).sum = (l.map g).sum := by
  rw [List.map_congr_left h]
theorem delta_sum (C : List Nat) (c : Nat) (bs : List (List Nat × Int)) : ∀ X : List Nat,
    (bs.map fun q => q.2 * (X.map fun x => gain (inter4 (swapC C x c) q.1).length - gain (inter4 C q.1).length).sum).sum = (X.map fun x => scoreB (swapC C x c) bs - scoreB C bs).sum
  | [] => by
    show (bs.map fun q => q.2 * 0).sum = 0
    rw [sum_congr (g := fun q => 0 * q.2) fun q _ => by omega, sum_mulc]
    omega
  | x :: X => by
    rw [List.map_cons, List.sum_cons, ← delta_sum C c bs X]
    have : scoreB (swapC C x c) bs - scoreB C bs = (bs.map fun q => q.2 * (gain (inter4 (swapC C x c) q.1).length - gain (inter4 C q.1).length)).sum := by
      have e : scoreB (swapC C x c) bs = (bs.map fun q => q.2 * (gain (inter4 (swapC C x c) q.1).length - gain (inter4 C q.1).length)).sum + scoreB C bs := by
        unfold scoreB
        rw [← sum_addf]
        exact sum_congr fun q _ => by rw [Int.mul_sub]; omega
      omega
    rw [this, ← sum_addf]
    exact sum_congr fun q _ => by rw [List.map_cons, List.sum_cons, Int.mul_add]
def agreedOf (n : Nat) (grp : List (List Nat × Int)) : List Nat := (List.range n).filter fun c => grp.all fun q => decide (c ∈ q.1)
def weightOf (bs : List (List Nat × Int)) : Int := (bs.map (·.2)).sum
def hadOf (C : List Nat) (grp : List (List Nat × Int)) : Int := (grp.map fun q => q.2 * ((inter4 q.1 C).length : Int)).sum
theorem inter_comm {C A : List Nat} (hC : C ∈ sub4) (hA : A ∈ sub4) : (inter4 A C).length = (inter4 C A).length := by
  have : ∀ C ∈ sub4, ∀ A ∈ sub4, (inter4 A C).length = (inter4 C A).length := by decide +kernel
  exact this C hC A hA
theorem combos_sub : ∀ p ∈ cases4, ∀ C ∈ combos p, C ∈ sub4 := by decide +kernel
theorem weight_pos {bs : List (List Nat × Int)} (hb : ∀ q ∈ bs, q.1 ∈ sub4 ∧ 0 < q.2) (h0 : bs ≠ []) : 0 < weightOf bs := by
  cases bs with
  | nil => exact absurd rfl h0
  | cons a l =>
    have h1 := (hb a (.head _)).2
    have h2 : 0 ≤ (l.map (·.2)).sum := sum_sub (fun q : List Nat × Int => q.2) fun q hq => Int.le_of_lt (hb q (.tail _ hq)).2
    unfold weightOf
    rw [List.map_cons, List.sum_cons]
    omega
theorem avg_law {p : Nat × Nat} (hp : p ∈ cases4) {bs grp : List (List Nat × Int)} (hb : ∀ q ∈ bs, q.1 ∈ sub4 ∧ 0 < q.2) (h0 : bs ≠ []) (hg : List.Sublist grp bs) {C : List Nat} (hC : C ∈ combos p)
    (opt : ∀ C' ∈ combos p, scoreB C' bs ≤ scoreB C bs) {d : Int} (h1 : d ≤ ((agreedOf p.1 grp).length : Int)) (h2 : d * weightOf bs ≤ weightOf grp * p.2) (hd : 0 < d) : (d - 1) * weightOf grp < hadOf C grp := by
  have hT := weight_pos hb h0
  have hgb : ∀ q ∈ grp, q.1 ∈ sub4 ∧ 0 < q.2 := fun q hq => hb q (hg.subset hq)
  have hCs := combos_sub p hp C hC
  have hPT : weightOf grp ≤ weightOf bs := by
    have := sum_sublist (fun q : List Nat × Int => q.2) (fun _ => 0) (fun q => q.2) hg (fun q hq => Int.le_of_lt (hb q hq).2) (fun q _ => by omega)
    rw [sum_congr (g := fun q : List Nat × Int => 0 * q.2) fun q _ => by omega, sum_mulc] at this
    unfold weightOf
    omega
  have hs : p.2 = 2 ∨ p.2 = 3 := by
    simp only [cases4, List.mem_cons, List.not_mem_nil, or_false] at hp
    rcases hp with rfl | rfl | rfl <;> simp
  have hP0 : 0 < weightOf grp := by
    have : 0 < d * weightOf bs := Int.mul_pos hd hT
    rcases hs with e | e <;> (rw [e] at h2; omega)
  have hd3 : d = 1 ∨ d = 2 ∨ d = 3 := by
    have : d < 4 := by
      refine Int.lt_of_not_ge fun h4 => ?_
      have : 4 * weightOf bs ≤ d * weightOf bs := Int.mul_le_mul_of_nonneg_right h4 (Int.le_of_lt hT)
      rcases hs with e | e <;> (rw [e] at h2; omega)
    omega
  have hadE : hadOf C grp = (grp.map fun q => q.2 * ((inter4 C q.1).length : Int)).sum := sum_congr fun q hq => by rw [inter_comm hCs (hgb q hq).1]
  by_cases hall : ∀ c ∈ agreedOf p.1 grp, c ∈ C
  · -- all that is agreed is elected
    have hu : ∀ q ∈ grp, d * q.2 ≤ q.2 * ((inter4 C q.1).length : Int) := by
      intro q hq
      have hsub : ((agreedOf p.1 grp).length) ≤ (inter4 C q.1).length := by
        rw [← inter_len p hp C hC q.1 (hgb q hq).1]
        have : agreedOf p.1 grp = (List.range p.1).filter fun c => (decide (c ∈ C) && decide (c ∈ q.1)) && grp.all fun q => decide (c ∈ q.1) := by
          unfold agreedOf
          refine List.filter_congr fun c hc => ?_
          cases hal : grp.all fun q => decide (c ∈ q.1) with
          | false => simp
          | true =>
            have m1 : c ∈ C := hall c (List.mem_filter.mpr ⟨hc, hal⟩)
            have m2 : c ∈ q.1 := by simpa using (List.all_eq_true.mp hal q hq)
            simp [m1, m2]
        rw [this]
        have e2 : ((List.range p.1).filter fun a => ((decide (a ∈ C) && decide (a ∈ q.1)) && grp.all fun q => decide (a ∈ q.1))) = ((List.range p.1).filter fun k => decide (k ∈ C) && decide (k ∈ q.1)).filter fun a => grp.all fun q => decide (a ∈ q.1) := by
          rw [List.filter_filter]
          exact List.filter_congr fun a _ => Bool.and_comm _ _
        rw [e2]
        exact List.length_filter_le _ _
      have : d ≤ ((inter4 C q.1).length : Int) := by omega
      rw [Int.mul_comm]
      exact Int.mul_le_mul_of_nonneg_left this (Int.le_of_lt (hgb q hq).2)
    have : d * weightOf grp ≤ hadOf C grp := by
      rw [hadE]
      unfold weightOf
      rw [← sum_mulc]
      have := sum_sublist (fun q : List Nat × Int => q.2 * ((inter4 C q.1).length : Int)) (fun _ => 0) (fun q => d * q.2) (List.Sublist.refl grp) (fun q hq => Int.mul_nonneg (Int.le_of_lt (hgb q hq).2) (Int.natCast_nonneg _)) (fun q hq => by have := hu q hq; omega)
      rw [sum_congr (g := fun q : List Nat × Int => 0 * q.2) fun q _ => by omega, sum_mulc] at this
      omega
    rw [Int.sub_mul]
    omega
  · -- a candidate that all of the group approve of is not elected
    obtain ⟨c, hc⟩ := Classical.not_forall.mp hall
    obtain ⟨hcA, hcC⟩ := Classical.not_imp.mp hc
    obtain ⟨hcn, hcall⟩ := List.mem_filter.mp hcA
    have hcn := List.mem_range.mp hcn
    have hsum : (bs.map fun q => q.2 * deltaV C c q.1).sum ≤ 0 := by
      rw [show (bs.map fun q => q.2 * deltaV C c q.1).sum = (C.map fun x => scoreB (swapC C x c) bs - scoreB C bs).sum from delta_sum C c bs C]
      have := sum_sub (fun x => scoreB C bs - scoreB (swapC C x c) bs) (l := C) fun x hx => by
        have := opt _ (swap_mem p hp C hC c hcn hcC x hx)
        omega
      have e : (C.map fun x => scoreB (swapC C x c) bs - scoreB C bs).sum = -1 * (C.map fun x => scoreB C bs - scoreB (swapC C x c) bs).sum := by
        rw [← sum_mulc]
        exact sum_congr fun x _ => by omega
      rw [e]
      omega
    have hd' : d ∈ ([1, 2, 3] : List Int) := by rcases hd3 with rfl | rfl | rfl <;> simp
    have key := sum_sublist (fun q : List Nat × Int => (d * d) * (q.2 * deltaV C c q.1)) (fun q => (-6 * (d * d)) * q.2) (fun q => q.2 * (6 * ((p.2 : Int) + 1) * (2 * d - 1 - ((inter4 C q.1).length : Int)))) hg
      (fun q hq => by
        have h := delta_any p hp C hC c hcn hcC q.1 (hb q hq).1
        have hw := (hb q hq).2
        have : (d * d * q.2) * (-6) ≤ (d * d * q.2) * deltaV C c q.1 := Int.mul_le_mul_of_nonneg_left h (Int.mul_nonneg (Int.mul_nonneg (Int.le_of_lt hd) (Int.le_of_lt hd)) (Int.le_of_lt hw))
        show -6 * (d * d) * q.2 ≤ d * d * (q.2 * deltaV C c q.1)
        rw [← Int.mul_assoc (d * d)]
        rw [Int.mul_comm (-6) (d * d), Int.mul_assoc, Int.mul_comm (-6) q.2, ← Int.mul_assoc]
        exact this)
      (fun q hq => by
        have hcq : c ∈ q.1 := by simpa using (List.all_eq_true.mp hcall q hq)
        have h := delta_in p hp C hC c hcn hcC q.1 (hgb q hq).1 hcq d hd'
        have hw := (hgb q hq).2
        have := Int.mul_le_mul_of_nonneg_left h (Int.le_of_lt hw)
        rw [Int.mul_sub] at this
        have e1 : d * d * (q.2 * deltaV C c q.1) = q.2 * (d * d * deltaV C c q.1) := by rw [Int.mul_left_comm]
        have e2 : -6 * (d * d) * q.2 = -(q.2 * (6 * (d * d))) := by
          rw [Int.mul_comm _ q.2, show (-6 : Int) * (d * d) = -(6 * (d * d)) by rw [Int.neg_mul], Int.mul_neg]
        show -6 * (d * d) * q.2 + q.2 * (6 * ((p.2 : Int) + 1) * (2 * d - 1 - ((inter4 C q.1).length : Int))) ≤ d * d * (q.2 * deltaV C c q.1)
        rw [e1, e2]
        omega)
    rw [sum_mulc (d * d), sum_mulc (-6 * (d * d))] at key
    have hG : (grp.map fun q => q.2 * (6 * ((p.2 : Int) + 1) * (2 * d - 1 - ((inter4 C q.1).length : Int)))).sum = 6 * ((p.2 : Int) + 1) * ((2 * d - 1) * weightOf grp - hadOf C grp) := by
      rw [hadE]
      unfold weightOf
      have e3 : (2 * d - 1) * (grp.map (·.2)).sum - (grp.map fun q : List Nat × Int => q.2 * ((inter4 C q.1).length : Int)).sum = (grp.map fun q : List Nat × Int => (2 * d - 1) * q.2 + -1 * (q.2 * ((inter4 C q.1).length : Int))).sum := by
        rw [sum_addf, sum_mulc (2 * d - 1) (fun q : List Nat × Int => q.2), sum_mulc (-1), show (grp.map (·.2)).sum = (grp.map fun q : List Nat × Int => q.2).sum from rfl]
        generalize (2 * d - 1) * (grp.map fun q : List Nat × Int => q.2).sum = z
        omega
      rw [e3, ← sum_mulc]
      refine sum_congr fun q _ => ?_
      rw [Int.mul_left_comm]
      congr 1
      rw [Int.mul_sub, Int.mul_comm q.2 (2 * d - 1)]
      omega
    rw [hG] at key
    have hk0 : d * d * (bs.map fun q => q.2 * deltaV C c q.1).sum ≤ 0 := Int.mul_nonpos_of_nonneg_of_nonpos (Int.mul_nonneg (Int.le_of_lt hd) (Int.le_of_lt hd)) hsum
    have hWe : (bs.map fun q : List Nat × Int => q.2).sum = weightOf bs := rfl
    rw [hWe] at key
    generalize weightOf bs = T at *
    generalize weightOf grp = P at *
    generalize hadOf C grp = H at *
    refine Int.lt_of_not_ge fun hH => ?_
    rcases hd3 with rfl | rfl | rfl <;> rcases hs with e | e <;> (rw [e] at key h2; omega)

end
section
/-- a base heap in which the code tables are hidden -/
structure BaseT (w : World) (mg mb : Str → Option Value) (g : Heap) : Prop where
  X : (K39 w.params).In g
  T : TopRead hd.view_39 loose0 mg mb g
  M : ∃ bm ob, BMod g mainGlobals mg bm ob
  no : ∀ b ∈ tabs, g.get? b = none
  code : ∀ q ∈ ([(56, 52), (84, 80), (92, 88)] : List (Addr × Addr)), ∃ o, g.get? q.1 = some o
abbrev TabAt (h : Heap) : Prop := ∀ q ∈ ([(56, 52), (84, 80), (92, 88)] : List (Addr × Addr)), ∃ ps, CodeT h q.1 q.2 ps
abbrev tabL (o1 o2 o3 : Obj) : List (Addr × Obj) := [(52, o1), (80, o2), (88, o3)]
section
variable {g h h' : Heap} {L : Addr} {m m' : Str → Option Value} {nl nl' : List (Addr × Obj)} {s s' : Shared} {o1 o2 o3 : Obj}
theorem BaseT.keepT (B : BaseT w mg mb g) (k : Keep g h) : Keep g (hideAll h tabs) := fun b o e =>
  hideAll_get _ (k b o e) fun hb => by rw [B.no b hb] at e; cases e
theorem BaseT.goodT (B : BaseT w mg mb g) (k : Keep g h) (t : TabAt h) : GoodT w mg mb h := by
  obtain ⟨bm, ob, M⟩ := B.M
  exact ⟨B.X.keeps (B.keepT k), B.T.keeps (B.keepT k), ⟨bm, ob, M.keeps (B.keepT k)⟩, t⟩
theorem tab_obj (t : TabAt h) {c P : Addr} (hq : (c, P) ∈ ([(56, 52), (84, 80), (92, 88)] : List (Addr × Addr))) : ∃ o, h.get? P = some o := by
  obtain ⟨ps, o, vs, file, tf, flags, tg, inF, text, tt, op, a1, a2, a3, a4, a5, a6, a7, a8, a9⟩ := t _ hq
  exact ⟨_, a8⟩
/-- the code tables as News -/
theorem tabsIn (B : BaseT w mg mb g) (t : TabAt h) (hL : L ∉ tabs) : ∃ o1 o2 o3, News g L h (tabL o1 o2 o3) := by
  obtain ⟨o1, e1⟩ := tab_obj t (c := 56) (P := 52) (by decide)
  obtain ⟨o2, e2⟩ := tab_obj t (c := 84) (P := 80) (by decide)
  obtain ⟨o3, e3⟩ := tab_obj t (c := 92) (P := 88) (by decide)
  refine ⟨o1, o2, o3, fun p hp => ?_⟩
  simp only [List.mem_cons, List.not_mem_nil, or_false] at hp
  have ne : ∀ {b}, b ∈ tabs → b ≠ L := fun hb e => hL (e ▸ hb)
  rcases hp with rfl | rfl | rfl
  · exact ⟨e1, ne (b := 52) (by decide), B.no 52 (by decide)⟩
  · exact ⟨e2, ne (b := 80) (by decide), B.no 80 (by decide)⟩
  · exact ⟨e3, ne (b := 88) (by decide), B.no 88 (by decide)⟩
theorem tabsBack (B : BaseT w mg mb g) (k : Keep g h) (t : TabAt h) (N : News g L h (tabL o1 o2 o3)) (k' : Keep g h') (N' : News g L h' nl') (hs : ∀ p ∈ tabL o1 o2 o3, p ∈ nl') : TabAt h' := by
  intro q hq
  obtain ⟨oc, hoc⟩ := B.code q hq
  obtain ⟨ps, o, vs, file, tf, flags, tg, inF, text, tt, op, a1, a2, a3, a4, a5, a6, a7, a8, a9⟩ := t q hq
  have e1 : o = oc := Option.some.inj (a1.symm.trans (k _ _ hoc))
  subst e1
  refine ⟨ps, o, vs, file, tf, flags, tg, inF, text, tt, op, k' _ _ hoc, a2, a3, a4, a5, a6, a7, ?_, a9⟩
  simp only [List.mem_cons, List.not_mem_nil, or_false] at hq
  have get : ∀ {P : Addr} {x : Obj}, (P, x) ∈ tabL o1 o2 o3 → h.get? P = some op → h'.get? P = some op := fun hm e => by
    have := (N _ hm).1
    rw [e] at this
    have hx := Option.some.inj this
    rw [hx]
    exact (N' _ (hs _ hm)).1
  rcases hq with rfl | rfl | rfl
  · exact get (.head _) a8
  · exact get (.tail _ (.head _)) a8
  · exact get (.tail _ (.tail _ (.head _))) a8
theorem Went.fr (W : Went w s s') (B : BaseT w mg mb g) (hL : L ∉ tabs) (F : Fr g L s.heap m) : Fr g L s'.heap m :=
  ⟨F.ns.at' fun o e => W.k _ _ hL e, fun b o e => W.k _ _ (fun hb => by rw [B.no b hb] at e; cases e) (F.keep b o e), F.above⟩
theorem Went.nw (W : Went w s s') (N : News g L s.heap nl) (hn : ∀ p ∈ nl, p.1 ∉ tabs) : News g L s'.heap nl := fun p hp => ⟨W.k _ _ (hn p hp) (N p hp).1, (N p hp).2⟩
theorem News.app (N : News g L h nl) (N' : News g L h nl') : News g L h (nl ++ nl') := fun p hp => (List.mem_append.mp hp).elim (N p) (N' p)
theorem fresh_tabs (t : TabAt h) {a : Addr} (z : h.get? a = none) : a ∉ tabs := by
  obtain ⟨o1, e1⟩ := tab_obj t (c := 56) (P := 52) (by decide)
  obtain ⟨o2, e2⟩ := tab_obj t (c := 84) (P := 80) (by decide)
  obtain ⟨o3, e3⟩ := tab_obj t (c := 92) (P := 88) (by decide)
  intro hm
  simp only [List.mem_cons, List.not_mem_nil, or_false] at hm
  rcases hm with rfl | rfl | rfl
  · rw [e1] at z; cases z
  · rw [e2] at z; cases z
  · rw [e3] at z; cases z
theorem GoodT.base (G : GoodT w mg mb h) : BaseT w mg mb (hideAll h tabs) where
  X := G.X
  T := G.T
  M := G.M
  no := fun b hb => hideAll_none _ hb
  code := fun q hq => by
    obtain ⟨ps, o, vs, file, tf, flags, tg, inF, text, tt, op, a1, a2, a3, a4, a5, a6, a7, a8, a9⟩ := G.tab q hq
    refine ⟨o, hideAll_get _ a1 ?_⟩
    simp only [List.mem_cons, List.not_mem_nil, or_false] at hq
    rcases hq with rfl | rfl | rfl <;> decide
theorem BaseT.keeps (B : BaseT w mg mb g) {g' : Heap} (k : Keep g g') (no : ∀ b ∈ tabs, g'.get? b = none) : BaseT w mg mb g' := by
  obtain ⟨bm, ob, M⟩ := B.M
  exact ⟨B.X.keeps k, B.T.keeps k, ⟨bm, ob, M.keeps k⟩, no, fun q hq => let ⟨o, e⟩ := B.code q hq; ⟨o, k _ _ e⟩⟩
end

end
section
local macro_rules | `(tactic| walk_at "call ref") => `(tactic| ((with_reducible show wpAny _ _ (call (Value.ref 75) _ _) _ _ _); refine stopHere ?_))
/-- a voter made since h0: his objects are new -/
def VoterNew (w : World) (h0 h : Heap) (v : Addr) (A : List Nat) (wt : Int) : Prop :=
  A ∈ sub4 ∧ ∃ dv cs dcs tf ep led h1 a1 h2 a2 t2 c, (h.get? v = some (instObj 718 dv) ∧ h.get? dv = some (dictOf (vtEs h1 a1 cs h2 a2 wt t2) c) ∧ h.get? cs = some (csObj dcs A tf ep led) ∧ LedOk w led) ∧ h0.get? dv = none ∧ h0.get? cs = none
theorem VoterNew.at {h0 h : Heap} {v : Addr} {A : List Nat} {wt : Int} (V : VoterNew w h0 h v A wt) : VoterAt w h v A wt := by
  obtain ⟨hA, dv, cs, dcs, tf, ep, led, h1, a1, h2, a2, t2, c, e, -, -⟩ := V
  exact ⟨hA, dv, cs, dcs, tf, ep, led, h1, a1, h2, a2, t2, c, e⟩
section
variable {dp un : Nat} {fr : Option (List Env)} {gd : Option (List Code)} {s : Shared} {Q : Value → Shared → Prop} {y : Addr} {A : List Nat} {wt : Int} {tw : Tok} {nv : Value}
theorem voter_init (hdp : dp + 20 < recursionLimit) (hu : un + 200 < cLine) (G : GoodT w mg mb s.heap) (Sy : Src w (hideAll s.heap tabs) y A) (hnv : NumCand A nv) (hw : 0 < wt) {args : List Value} {kw : List (Str × Value)}
    (hbind : ∀ s' x fd, ((K39 w.params).lookup 700).map (·.data) = some (.func fd) → (K39 w.params).In s'.heap → BindsTo s' fd ⟨.ref x :: args, kw⟩ [(Str.ofString "self", .ref x), (Str.ofString "approved", .ref y), (Str.ofString "weight", .int wt tw), (Str.ofString "num_cand", nv)])
    (h : ∀ s' x, Went w s s' → s.heap.get? x = none → VoterNew w s.heap (hideAll s'.heap tabs) x A wt → Q (.ref x) s') :
    wpAny (model PP w) (aro dp un fr gd) (call (.ref 718) args kw) Q never s := by
  have GG := G.good
  refine wpAny_call (makeL GG.X (by k_is) (by k_is) (by k_is) fun x dx h₁ hx hdx hh₁ e1 e2 n1 n2 kk => ?_)
  have k01 : Keep s.heap h₁ := fun b o e => of_hideAll _ (kk b o e)
  have hkb : Keep (hideAll s.heap tabs) (hideAll h₁ ([x, dx] ++ tabs)) := fun b o e => by
    have hb : b ∉ tabs := fun hm => by rw [hideAll_none _ hm] at e; cases e
    have e' := of_hideAll _ e
    refine hideAll_get _ (k01 _ _ e') ?_
    rw [List.mem_append]
    rintro (hm | hm)
    · simp only [List.mem_cons, List.not_mem_nil, or_false] at hm
      rcases hm with rfl | rfl
      · rw [n1] at e'; cases e'
      · rw [n2] at e'; cases e'
    · exact hb hm
  have B := G.base.keeps hkb fun b hb => hideAll_none _ (List.mem_append_right _ hb)
  have t₁ : TabAt h₁ := fun q hq => let ⟨ps, p⟩ := G.tab q hq; ⟨ps, p.keeps k01⟩
  obtain ⟨o1, q1⟩ := tab_obj t₁ (c := 56) (P := 52) (by decide)
  obtain ⟨o2, q2⟩ := tab_obj t₁ (c := 84) (P := 80) (by decide)
  obtain ⟨o3, q3⟩ := tab_obj t₁ (c := 92) (P := 88) (by decide)
  have X1 : (K39 w.params).In h₁ := GG.X.keeps k01
  have hxt := fresh_tabs G.tab n1
  have hdt := fresh_tabs G.tab n2
  have Sy₁ := Sy.keeps hkb
  refine' enterL (binds := [(Str.ofString "self", .ref x), (Str.ofString "approved", .ref y), (Str.ofString "weight", .int wt tw), (Str.ofString "num_cand", nv)]) ((x, instObj 718 dx) :: (dx, dictOf [] 0) :: tabL o1 o2 o3) ?hled B.X B.T ?k6 ?k7 ?k8 ?k9 ?kB ?_ ?c2 ?c3 ?c4 ?c5
  case hled => intro q hq; simp only [List.mem_cons, List.not_mem_nil, or_false] at hq; rcases hq with rfl | rfl | rfl | rfl | rfl <;> assumption
  case k6 => k_is
  case k7 => k_is
  case k8 => k_room
  case k9 => exact hbind _ _ _ (congrArg (Option.map (·.data)) (show (K39 w.params).lookup 700 = some _ by k_is)) X1
  case c5 => decide
  case kB => exact locs rfl
  case c2 => exact rfl
  case c3 => exact rfl
  case c4 => exact rfl
  intro g' L' h' hg' hL' F' N' X' T'
  have hL' : L' = h₁.objs.size := hL'
  have hg'' : g' = hideAll h₁ ([x, dx] ++ tabs) := hg'
  rw [← hg''] at B Sy₁
  have hLt : L' ∉ tabs := fresh_tabs t₁ (Heap.get?_none_of_le (Nat.le_of_eq hL'.symm))
  have kg : Keep g' h₁ := fun b o e => of_hideAll _ (hg'' ▸ e)
  have Nt : News g' L' h₁ (tabL o1 o2 o3) := by
    intro p hp
    simp only [List.mem_cons, List.not_mem_nil, or_false] at hp
    rcases hp with rfl | rfl | rfl
    · exact ⟨q1, fun e => hLt (e ▸ (by decide : (52 : Addr) ∈ tabs)), B.no 52 (by decide)⟩
    · exact ⟨q2, fun e => hLt (e ▸ (by decide : (80 : Addr) ∈ tabs)), B.no 80 (by decide)⟩
    · exact ⟨q3, fun e => hLt (e ▸ (by decide : (88 : Addr) ∈ tabs)), B.no 88 (by decide)⟩
  k_steps
  show wpAny _ _ (call (.ref 75) [.ref y] [(Str.ofString "num_cand", nv)]) _ _ _
  have t' : TabAt h' := tabsBack B kg t₁ Nt F'.keep N' (fun p hp => List.mem_cons_of_mem _ (List.mem_cons_of_mem _ hp))
  refine' new_cs_kw ?d1 ?GT (Sy₁.keeps (B.keepT F'.keep)) hnv fun s₂ cs dcs tf ep led zcs W g2 hle => ?_
  case GT => exact B.goodT F'.keep t'
  case d1 => walk_at "m_around"
  have F2 := W.fr B hLt F'
  have N2 : News g' L' s₂.heap ((x, instObj 718 dx) :: (dx, dictOf [] 0) :: []) := W.nw (fun p hp => N' p (by
    simp only [List.mem_cons, List.not_mem_nil, or_false] at hp ⊢
    rcases hp with rfl | rfl <;> simp)) (fun p hp => by
    simp only [List.mem_cons, List.not_mem_nil, or_false] at hp
    rcases hp with rfl | rfl
    · exact hxt
    · exact hdt)
  obtain ⟨zc, hcL⟩ := Fr.fresh F' zcs
  have hct : cs ∉ tabs := fresh_tabs t' zcs
  obtain ⟨p1, p2, p3, Nt2⟩ := tabsIn B W.tab hLt
  have N3 : News g' L' s₂.heap ((cs, csObj dcs A tf ep led) :: (x, instObj 718 dx) :: (dx, dictOf [] 0) :: tabL p1 p2 p3) := News.app (News.cons' N2 g2 hcL zc) Nt2
  have i1 : (cs : Nat) ≠ (dx : Nat) := by rintro rfl; have := (N' _ (.tail _ (.head _))).1; rw [zcs] at this; cases this
  have i2 : (cs : Nat) ≠ (x : Nat) := by rintro rfl; have := (N' _ (.head _)).1; rw [zcs] at this; cases this
  simp only [List.mem_cons, List.not_mem_nil, or_false, not_or] at hct hxt hdt
  obtain ⟨i3, i4, i5⟩ := hct
  obtain ⟨i6, i7, i8⟩ := hxt
  obtain ⟨i9, i10, i11⟩ := hdt
  have j3 : (cs : Nat) ≠ 52 := i3
  have j4 : (cs : Nat) ≠ 80 := i4
  have j5 : (cs : Nat) ≠ 88 := i5
  have j6 : (x : Nat) ≠ 52 := i6
  have j7 : (x : Nat) ≠ 80 := i7
  have j8 : (x : Nat) ≠ 88 := i8
  have j9 : (dx : Nat) ≠ 52 := i9
  have j10 : (dx : Nat) ≠ 80 := i10
  have j11 : (dx : Nat) ≠ 88 := i11
  have backT : ∀ h4 nl4, Keep g' h4 → News g' L' h4 nl4 → (∀ p ∈ tabL p1 p2 p3, p ∈ nl4) → TabAt h4 := fun h4 nl4 k N hs => tabsBack B F2.keep W.tab Nt2 k N hs
  clear F' N' N2
  k_steps
  all_goals first | (exfalso; omega) | skip
  rename Fr _ _ _ _ => F3
  rename News _ _ _ _ => N4
  have kk0 : ∀ b o, b ∉ tabs → s.heap.get? b = some o → g'.get? b = some o := fun b o hb e => by
    rw [hg'']
    exact hkb b o (hideAll_get _ e hb)
  have tE := backT _ _ F3.keep N4 fun p hp => List.mem_cons_of_mem _ (List.mem_cons_of_mem _ (List.mem_cons_of_mem _ hp))
  refine ⟨rfl, h _ x ⟨fun b o hb e => F3.keep _ _ (kk0 b o hb e), tE, W.gens, W.drawn, W.os⟩ n1 ⟨Sy.fills.1, dx, cs, dcs, tf, ep, led, _, _, _, _, _, _, ⟨hideAll_get _ (N4 _ (.tail _ (.head _))).1 ?_, hideAll_get _ (N4 _ (.tail _ (.tail _ (.head _)))).1 ?_, hideAll_get _ (N4 _ (.head _)).1 ?_, hle⟩, n2, ?_⟩⟩
  · exact fresh_tabs G.tab n1
  · exact fresh_tabs G.tab n2
  · exact fresh_tabs t' zcs
  · cases q : s.heap.get? cs with
    | none => rfl
    | some o => rw [kk0 _ _ (fresh_tabs t' zcs) q] at zc; cases zc
end

end
section
section
variable {dp un : Nat} {fr : Option (List Env)} {gd : Option (List Code)} {s : Shared} {Q : Value → Shared → Prop} {y : Addr} {A : List Nat} {wt : Int} {tw : Tok} {nv : Value} {n : Int} {tn : Tok}
theorem voter_new1 (hdp : dp + 20 < recursionLimit) (hu : un + 200 < cLine) (G : GoodT w mg mb s.heap) (Sy : Src w (hideAll s.heap tabs) y A) (hw : 0 < wt)
    (h : ∀ s' x, Went w s s' → s.heap.get? x = none → VoterNew w s.heap (hideAll s'.heap tabs) x A wt → Q (.ref x) s') :
    wpAny (model PP w) (aro dp un fr gd) (call (.ref 718) [.ref y, .int wt tw]) Q never s := by
  refine voter_init (tw := tw) (nv := .none) hdp hu G Sy (.inl rfl) hw (fun s' x fd hfd X => ?_) h
  obtain ⟨fd', hfd', hb⟩ : ∃ fd, ((K39 w.params).lookup 700).map (·.data) = some (.func fd) ∧ BindsTo s' fd ⟨[.ref x, .ref y, .int wt tw], []⟩ [(Str.ofString "self", .ref x), (Str.ofString "approved", .ref y), (Str.ofString "weight", .int wt tw), (Str.ofString "num_cand", .none)] := by
    refine ⟨_, congrArg (Option.map (·.data)) (show (K39 w.params).lookup 700 = some _ by k_is), ?_⟩
    first | exact BindsTo.of_eq rfl | exact binds_K X rfl (by k_is) rfl rfl rfl
  rw [hfd] at hfd'
  injection hfd' with hfd'
  injection hfd' with hfd'
  rw [hfd']
  exact hb
theorem voter_new2 (hdp : dp + 20 < recursionLimit) (hu : un + 200 < cLine) (G : GoodT w mg mb s.heap) (Sy : Src w (hideAll s.heap tabs) y A) (hw : 0 < wt) (hn : ∀ k ∈ A, (k : Int) < n)
    (h : ∀ s' x, Went w s s' → s.heap.get? x = none → VoterNew w s.heap (hideAll s'.heap tabs) x A wt → Q (.ref x) s') :
    wpAny (model PP w) (aro dp un fr gd) (call (.ref 718) [.ref y] [(Str.ofString "weight", .int wt tw), (Str.ofString "num_cand", .int n tn)]) Q never s := by
  refine voter_init (tw := tw) (nv := .int n tn) hdp hu G Sy (.inr ⟨n, tn, rfl, hn⟩) hw (fun s' x fd hfd X => ?_) h
  obtain ⟨fd', hfd', hb⟩ : ∃ fd, ((K39 w.params).lookup 700).map (·.data) = some (.func fd) ∧ BindsTo s' fd ⟨[.ref x, .ref y], [(Str.ofString "weight", .int wt tw), (Str.ofString "num_cand", .int n tn)]⟩ [(Str.ofString "self", .ref x), (Str.ofString "approved", .ref y), (Str.ofString "weight", .int wt tw), (Str.ofString "num_cand", .int n tn)] := by
    refine ⟨_, congrArg (Option.map (·.data)) (show (K39 w.params).lookup 700 = some _ by k_is), ?_⟩
    first | exact BindsTo.of_eq rfl | exact binds_K X rfl (by k_is) rfl rfl rfl
  rw [hfd] at hfd'
  injection hfd' with hfd'
  injection hfd' with hfd'
  rw [hfd']
  exact hb
end

end
section
section
variable {prog : Program} {A : Around} {s : Shared} {K : Frag} {mg mb : Str → Option Value} {p : Program} {loose : List Str}
/-- a def with one cell of its own is entered; what stands in led may be changed -/
theorem enterX {R : Result → Shared → Prop} {name qual : Str} {params : Arguments} {body : List Stmt} {scope : Scope} {dV kV doc pm cdv ct oc : Value} {an od : Option Addr} {osl : Array (Option Value)} {f : Addr} {args : Args} {lb : List (Str × Value)} {cn : Str} {v : Value}
    (led : List (Addr × Obj)) (hled : ∀ q ∈ led, s.heap.get? q.1 = some q.2)
    (X : K.In (hideAll s.heap (led.map (·.1)))) (T : TopRead p loose mg mb (hideAll s.heap (led.map (·.1))))
    (ho : K.lookup f = some ⟨oc, od, .func (fnOf name qual params body scope dV kV doc pm an cdv ct), osl⟩) (hcd : codeIn K cdv qual = true) (hroom : A.depth < recursionLimit)
    (hbind : BindsTo s (fnOf name qual params body scope dV kV doc pm an cdv ct) args (lb ++ [(cn, v)])) (hcells : ∀ n acc, cellsFrom n scope.names acc = (cn, n) :: acc) (hpush : ∀ h, pushCells h scope.names = h.push (cellObj none))
    (hloc : ∀ y ∈ lb, scope.names.lookup y.1 = some .local) (hc : scope.names.lookup cn = some .cell)
    (hco : scope.isCoroutine = false) (hgen : scope.isGenerator = false) (hk : scope.kind = .function)
    (h : ∀ g L' h₁ ob, g = hideAll s.heap (led.map (·.1)) → L' = s.heap.objs.size → Fr g L' h₁ (fun y => lb.reverse.lookup y) → ob.data = .cell (some v) → News g L' h₁ ((L' + 1, ob) :: led) → K.In g → TopRead p loose mg mb g →
      wpAny (model prog w) (A.deeper (envX qual scope L' f cdv [(cn, L' + 1)])) (execs body (envX qual scope L' f cdv [(cn, L' + 1)]))
        (fun fl s' => R (.ok (.ret (match fl with | .ret v => v | _ => .none))) s') never { s with heap := h₁, toks := s.toks + lb.length }) :
    codeAny (model prog w) A (.call (.ref f) args) R s := by
  have k : Keep (hideAll s.heap (led.map (·.1))) s.heap := fun b o e => of_hideAll _ e
  refine enterC (fd := fnOf name qual params body scope dV kV doc pm an cdv ct) hroom (k _ _ (X _ _ ho)) rfl (T.nolimit.keeps k) (codeRec_of (X.keeps k) hcd) rfl hbind hcells hpush hloc hc (fun h₁ hn hcl kk => wpAt_of_wpAny ?_) hco hgen hk
  obtain ⟨ob, hob, hdb⟩ := hcl
  refine h _ s.heap.objs.size h₁ ob rfl rfl ⟨hn, fun b o e => kk _ _ (k _ _ e), Nat.le_of_eq (hideAll_size _ _)⟩ hdb (fun q hq => ?_) X T
  rcases List.mem_cons.mp hq with rfl | hq
  · exact ⟨hob, Nat.succ_ne_self _, Heap.get?_none_of_le (by rw [hideAll_size]; exact Nat.le_succ _)⟩
  · exact ⟨kk _ _ (hled q hq), Nat.ne_of_lt (Heap.lt_size (hled q hq)), hideAll_none _ (List.mem_map_of_mem hq)⟩
end

end
section
theorem Walks.bnd {prog : Program} {A : Around} {I : Addr} {fp wr : List Addr} {n : Nat} {P : Nat → Value → Prop} {St : Nat → Heap → Prop} (W : Walks prog w A I fp wr n P St) : Walks prog w A I fp wr n (fun i v => i < n ∧ P i v) St where
  sub := W.sub
  frame := W.frame
  item := fun i s Q E hi st hQ => W.item i s Q E hi st fun v h' tk hP => hQ v h' tk ⟨hi, hP⟩
  done := W.done
  self := W.self
def pv (p : Nat → Bool) : Value → Bool
  | .int k _ => p k.toNat
  | _ => false
theorem paired_map' {F : Value → Value → Prop} {G : Nat → Value → Prop} {p : Nat → Bool} (hF : ∀ (k : Nat) t y, F (.int (k : Int) t) y → G k y) : ∀ (vs : List Value) (off : Nat) (ys : List Value), (∀ (j : Nat) (v : Value), vs[j]? = some v → ∃ t, v = .int ((off + j : Nat) : Int) t) →
    Paired F (vs.filter (pv p)) ys → Paired G ((List.range' off vs.length).filter p) ys
  | [], _, ys, _, h => by simpa using (show Paired G [] ys by cases h; exact .nil)
  | v :: vs, off, ys, hv, h => by
    obtain ⟨t, rfl⟩ := hv 0 v rfl
    have hv' : ∀ (j : Nat) (u : Value), vs[j]? = some u → ∃ t, u = .int ((off + 1 + j : Nat) : Int) t := fun j u e => by
      obtain ⟨t, q⟩ := hv (j + 1) u (by simpa using e)
      exact ⟨t, by rw [q, show off + 1 + j = off + (j + 1) by omega]⟩
    rw [List.length_cons, List.range'_succ]
    have hp : pv p (.int ((off + 0 : Nat) : Int) t) = p off := by simp [pv]
    cases hb : p off with
    | true =>
      rw [List.filter_cons_of_pos (by rw [hp, hb])] at h
      rw [List.filter_cons_of_pos hb]
      cases h with
      | cons hf ht => exact .cons (hF _ _ _ hf) (paired_map' hF vs (off + 1) _ hv' ht)
    | false =>
      rw [List.filter_cons_of_neg (by rw [hp, hb]; decide)] at h
      rw [List.filter_cons_of_neg (by rw [hb]; decide)]
      exact paired_map' hF vs (off + 1) _ hv' h
theorem paired_map {F : Value → Value → Prop} {G : Nat → Value → Prop} {p : Nat → Bool} {vs : List Value} {ys : List Value} (hv : ∀ (j : Nat) (v : Value), vs[j]? = some v → ∃ t, v = .int (j : Nat) t) (hF : ∀ (k : Nat) t y, F (.int (k : Int) t) y → G k y)
    (h : Paired F (vs.filter (pv p)) ys) : Paired G ((List.range vs.length).filter p) ys := by
  rw [List.range_eq_range']
  exact paired_map' hF vs 0 ys (fun j v e => by obtain ⟨t, q⟩ := hv j v e; exact ⟨t, by rw [q, Nat.zero_add]⟩) h
section
variable {prog : Program} {A : Around} {E : Value → Shared → Prop} {s : Shared} {env : Env} {elt iter : Expr} {x : Str} {ifs : List Expr} {scope : Scope} {r : Addr} {n : Nat} {t u v : Tok}
/-- a list comprehension over a range, its tests and its element quiet -/
theorem comp_range {Q : Value → Shared → Prop} (p : Nat → Bool) (G : Nat → Value → Prop) (hh : A.handled = none) (hr : IsRange s.heap r 0 n 1 t u v) (hn : n = 3 ∨ n = 4)
    (tests : ∀ C (i : Nat) ti s₃ m₃ (E' : Value → Shared → Prop), i < n → s₃.heap.Ns C m₃ → m₃ x = some (.int (i : Int) ti) → Keep s.heap s₃.heap →
      wpAny (model prog w) A (forIn ifs true fun c r => if r = true then do let ok ← isTrue c (compEnv scope C env) (eval c (compEnv scope C env)); pure (ForInStep.yield ok) else pure (ForInStep.yield r)) (fun ok s₄ => ok = p i ∧ Keeps s₃ s₄) E' s₃)
    (helt : ∀ C (i : Nat) ti s₃ m₃ (E' : Value → Shared → Prop), i < n → p i = true → s₃.heap.Ns C m₃ → m₃ x = some (.int (i : Int) ti) → Keep s.heap s₃.heap →
      wpAny (model prog w) A (eval elt (compEnv scope C env)) (fun y s₄ => G i y ∧ Keeps s₃ s₄) E' s₃)
    (h : ∀ D h' tk ys, s.heap.get? D = none → Keep s.heap h' → h'.PlainList D ys → Paired G ((List.range n).filter p) ys.toList → Q (.ref D) { s with heap := h', toks := tk }) :
    wpAny (model prog w) A (pyIter (.ref r)) (fun it s₂ => ∃ I fp wr n P St, it = .ref I ∧ Walks prog w A I fp wr n P St ∧ n ≤ sizeLine ∧ St 0 s₂.heap ∧ (∀ b ∈ fp, b < s₂.heap.objs.size) ∧
      QuietOn prog w A env scope x ifs elt wr P (pv p) (fun a y => ∀ (k : Nat) t, a = .int (k : Int) t → G k y) s₂ ∧
      (∀ D h' tk ys (vs : List Value), s₂.heap.get? D = none → h'.IsList D ys → h'.PlainList D ys → vs.length = n → (∀ j v, vs[j]? = some v → P j v) → Paired (fun a y => ∀ (k : Nat) t, a = .int (k : Int) t → G k y) (vs.filter (pv p)) ys.toList →
        (∀ b o, b ∉ wr → s₂.heap.get? b = some o → h'.get? b = some o) → Q (.ref D) { s₂ with heap := h', toks := tk })) E s := by
  have hsm : Builtin.Range.small 0 n 1 = true := by rcases hn with rfl | rfl <;> decide
  have hn5 : n ≤ 4 := by omega
  refine wpAny_pyIter_range hr hsm ?_
  have ex : ∀ {s₃ : Shared}, (∀ b o, b ∉ [s.heap.objs.size] → (s.heap.push { cls := .type "range_iterator", data := .fields #[rawInt 0, rawInt (Builtin.Range.rangeSize 0 n 1), rawInt 1] }).get? b = some o → s₃.heap.get? b = some o) → Keep s.heap s₃.heap :=
    fun k b o e => k b o (by rw [List.mem_singleton]; exact Nat.ne_of_lt (Heap.lt_size e)) (Heap.get?_push_of_some _ e)
  refine ⟨_, _, _, n, _, _, rfl, Walks.bnd (Walks.range hh _ 0 1 n), by rw [sizeLine_eq]; omega, ?_, fun b hb => ?_, ⟨?_, ?_⟩, ?_⟩
  · rcases hn with rfl | rfl <;> exact Heap.get?_push_size _ rfl
  · rw [List.mem_singleton.mp hb]; exact Heap.lt_size (Heap.get?_push_size _ rfl)
  · rintro C i vv s₃ m₃ E' ⟨hi, ti, rfl⟩ hns hm hk _
    have e0 : (0 : Int) + (i : Int) * 1 = (i : Int) := by omega
    rw [e0] at hm ⊢
    exact tests C i ti s₃ m₃ E' hi hns hm (ex hk)
  · rintro C i vv s₃ m₃ E' ⟨hi, ti, rfl⟩ hp hns hm hk _
    have e0 : (0 : Int) + (i : Int) * 1 = (i : Int) := by omega
    rw [e0] at hm hp ⊢
    refine wpAny_mono (helt C i ti s₃ m₃ E' hi (by simpa [pv] using hp) hns hm (ex hk)) (fun y s₄ hy => ⟨fun k tt e => ?_, hy.2⟩) fun _ _ e => e
    have e1 : (i : Int) = (k : Int) := by cases e; rfl
    have : k = i := (Int.ofNat.inj e1).symm
    rw [this]; exact hy.1
  · intro D h' tk ys vs hD hl hpl hlen hP hF hk
    have hD' : s.heap.get? D = none := by
      cases q : s.heap.get? D with
      | none => rfl
      | some o => rw [Heap.get?_push_of_some _ q] at hD; cases hD
    refine h D h' tk ys hD' (fun b o e => hk b o (by rw [List.mem_singleton]; exact Nat.ne_of_lt (Heap.lt_size e)) (Heap.get?_push_of_some _ e)) hpl ?_
    rw [← hlen]
    exact paired_map (fun j v e => by obtain ⟨_, t, q⟩ := hP j v e; exact ⟨t, by rw [q, Int.zero_add, Int.mul_one]⟩) (fun k t y f => f k t rfl) hF
/-- what a comprehension over a range asks for, at the state with the range -/
structure LC (prog : Program) (w : World) (A : Around) (env : Env) (scope : Scope) (x : Str) (ifs : List Expr) (elt : Expr) (n : Nat) (p : Nat → Bool) (G : Nat → Value → Prop) (Q : Value → Shared → Prop) (v : Value) (s : Shared) : Prop where
  ran : ∃ r t u z, v = .ref r ∧ IsRange s.heap r 0 n 1 t u z
  tests : ∀ C (i : Nat) ti s₃ m₃ (E' : Value → Shared → Prop), i < n → s₃.heap.Ns C m₃ → m₃ x = some (.int (i : Int) ti) → Keep s.heap s₃.heap →
      wpAny (model prog w) A (forIn ifs true fun c r => if r = true then do let ok ← isTrue c (compEnv scope C env) (eval c (compEnv scope C env)); pure (ForInStep.yield ok) else pure (ForInStep.yield r)) (fun ok s₄ => ok = p i ∧ Keeps s₃ s₄) E' s₃
  helt : ∀ C (i : Nat) ti s₃ m₃ (E' : Value → Shared → Prop), i < n → p i = true → s₃.heap.Ns C m₃ → m₃ x = some (.int (i : Int) ti) → Keep s.heap s₃.heap →
      wpAny (model prog w) A (eval elt (compEnv scope C env)) (fun y s₄ => G i y ∧ Keeps s₃ s₄) E' s₃
  post : ∀ D h' tk ys, s.heap.get? D = none → Keep s.heap h' → h'.PlainList D ys → Paired G ((List.range n).filter p) ys.toList → Q (.ref D) { s with heap := h', toks := tk }
/-- the same, with the evaluation of the range ahead of it -/
theorem lc_range {Q : Value → Shared → Prop} {px pos : Pos} (p : Nat → Bool) (G : Nat → Value → Prop) (hh : A.handled = none) (hn : n = 3 ∨ n = 4)
    (hfree : ∀ y ∈ scope.names, y.2 ≠ .free) (hcell : ∀ y ∈ scope.names, y.2 ≠ .cell) (hkind : scope.kind = .function)
    (hnames : ∀ y ∈ scope.names, y.2 = .local → scope.names.lookup y.1 = some .local) (hx : scope.names.lookup x = some .local)
    (hs : ∀ x, foldedSetIterable iter env x = pure x)
    (hit : wpAny (model prog w) A (eval iter env) (fun v s₁ => LC prog w A env scope x ifs elt n p G Q v s₁) E s) :
    wpAny (model prog w) A (eval (.ListComp elt [⟨.Name x px, iter, ifs, 0⟩] scope pos) env) Q E s := by
  refine wpAny_ListComp_walk (pv p) (fun a y => ∀ (k : Nat) t, a = .int (k : Int) t → G k y) hfree hcell hkind hnames hx (wpAny_mono hit ?_ fun _ _ e => e) hs
  rintro v s₁ ⟨⟨r, t, u, z, rfl, hr⟩, tests, helt, post⟩
  exact comp_range (Q := Q) p G hh hr hn tests helt post
end

end
section
local macro_rules | `(tactic| walk_at "eval ListComp") => `(tactic| refine stopHere ?_)
local macro_rules | `(tactic| walk_at "exec Assign ListComp") => `(tactic| refine stopHere ?_)
local macro_rules | `(tactic| walk_at "pyIter ref") => `(tactic| refine stopHere ?_)
theorem cc_str_n : nsIn (K39 w.params) mainGlobals "str" = some none := by k_is
theorem News.dif {b h : Heap} {L D : Addr} {nl : List (Addr × Obj)} (N : News b L h nl) (z : h.get? D = none) : ∀ q ∈ nl, @Ne Nat (q.1 : Nat) (D : Nat) := fun q hq e => by
  have := (N q hq).1
  rw [show q.1 = D from e, z] at this
  cases this
theorem ints_at {ys : List Value} {n : Nat} (I : IntsAre ys ((List.range n).map fun (i : Nat) => (i : Int))) (i : Nat) (v : Value) (e : ys.toArray[i]? = some v) : ∃ t, v = .int (i : Nat) t := by
  obtain ⟨k, t, rfl, q⟩ := I.at i v (by simpa using e)
  rw [List.getElem?_map] at q
  cases r : (List.range n)[i]? with
  | none => rw [r] at q; cases q
  | some j =>
    rw [r] at q
    have := List.getElem?_eq_some_iff.mp r
    obtain ⟨hl, hj⟩ := this
    rw [List.getElem_range] at hj
    subst hj
    cases q
    exact ⟨t, rfl⟩
/-- str(cand), in any inner frame -/
theorem str_elt {A' : Around} {E' : Value → Shared → Prop} {s₂ : Shared} {g : Heap} {env : Env} {m₂ : Str → Option Value} {k : Nat} {t : Tok} {p0 p1 p2 : Pos} (hk4 : k < 4) (X : (K39 w.params).In g) (T : TopRead hd.view_39 loose0 mg mb g) (kb : Keep g s₂.heap)
    (hn : s₂.heap.Ns env.locals m₂) (hm : m₂ (Str.ofString "cand") = some (.int (k : Int) t)) (hg : env.globals = mainGlobals) (hb : env.builtins = builtinsNs) (hk : env.scope.kind = .function) (h1 : env.kindOf (Str.ofString "cand") = some .local) (h2 : env.kindOf (Str.ofString "str") = some .globalImplicit) :
    wpAny (model PP w) A' (eval (.Call (.Name (Str.ofString "str") p0) [.Name (Str.ofString "cand") p1] [] p2) env) (fun y s₃ => (∃ ty, y = .str (Str.ofString (toString (k : Int))) ty) ∧ Keeps s₂ s₃) E' s₂ := by
  refine wpAny_Call_Name_kw ?_
  refine nameB kb X T hg hb cc_str_n (by first | boot_by_name | rfl | kernel_rfl) (by decide) hk h2 (by decide) ?_
  refine callWith_of (P := fun _ => True) rfl (fun h _ => ⟨.machine, .inr (.inl rfl), Looks.of_pure rfl⟩) (evalArgs_plain ?_)
  refine spliced_more (nameL hn hm hk h1 (by decide) (spliced_none ⟨trivial, ?_⟩))
  show wpAny _ _ (call (.type "str") [.int k t]) _ _ _
  have hl : ((k : Int)).natAbs.log2 < 1920 := by
    have : k = 0 ∨ k = 1 ∨ k = 2 ∨ k = 3 := by omega
    rcases this with rfl | rfl | rfl | rfl <;> decide
  exact P.str_of_int hl ⟨⟨_, rfl⟩, _, _, rfl, fun _ _ e => e⟩
section
variable {dp un : Nat} {fr : Option (List Env)} {gd : Option (List Code)} {s : Shared} {Q : Value → Shared → Prop} {t : Tok}
theorem prof_new3 (hdp : dp + 20 < recursionLimit) (hu : un + 200 < cLine) (G : Good w mg mb s.heap)
    (h : ∀ h' tk p lv, s.heap.get? p = none → s.heap.get? lv = none → Keep s.heap h' → (∀ ex, (∀ a ∈ ex, s.heap.get? a ≠ none) → ProfAtL w (hideAll h' ex) p lv 3 []) → Q (.ref p) { s with heap := h', toks := tk }) :
    wpAny (model PP w) (aro dp un fr gd) (call (.ref 681) [.int 3 t]) Q never s := by
  refine wpAny_call (makeL G.X (by k_is) (by k_is) (by k_is) fun x dx h₁ hx hdx hh₁ e1 e2 n1 n2 kk => ?_)
  have X := G.X.keeps kk
  have T := G.T.keeps kk
  have X1 : (K39 w.params).In h₁ := X.keeps fun b o e => of_hideAll _ e
  refine' enterX (lb := [(Str.ofString "self", .ref x), (Str.ofString "num_cand", .int 3 t)]) (cn := Str.ofString "cand_names") (v := .none) [(x, instObj 681 dx), (dx, dictOf [] 0)] ?hled X T ?ho ?hcd ?hr ?hb ?h1 ?h2 ?h3 ?h4 ?h5 ?h6 ?h7 ?_
  case hled => intro q hq; simp only [List.mem_cons, List.not_mem_nil, or_false] at hq; rcases hq with rfl | rfl <;> assumption
  case ho => k_is
  case hcd => k_is
  case hr => k_room
  case hb => first | exact BindsTo.of_eq rfl | exact binds_K X1 rfl (by k_is) rfl rfl rfl
  case h1 => exact fun n acc => rfl
  case h2 => exact fun h => rfl
  case h3 => exact locs rfl
  case h4 => exact rfl
  case h5 => exact rfl
  case h6 => exact rfl
  case h7 => exact rfl
  intro g' L' h' ob hg' hL' F' hob N' X' T'
  have hL1 : (dx : Nat) < (L' : Nat) := by rw [hL']; exact Heap.lt_size e2
  have hL2 : (x : Nat) < (L' : Nat) := by rw [hL']; exact Heap.lt_size e1
  have hL3 : (dx : Nat) < ((L' + 1 : Addr) : Nat) := Nat.lt_succ_of_lt hL1
  have hL4 : (x : Nat) < ((L' + 1 : Addr) : Nat) := Nat.lt_succ_of_lt hL2
  k_steps
  rename Fr _ _ _ _ => F1
  rename News _ _ _ _ => N1
  show wpAny _ _ _ _ _ _
  refine lc_range (n := 3) (fun _ => true) (fun _ _ => True) rfl (.inl rfl) (by decide) (by decide) rfl (by decide) rfl (fun _ => rfl) ?_
  k_steps
  rename Fr _ _ _ _ => F2
  rename News _ _ _ _ => N2
  rename IsRange _ _ _ _ _ _ _ _ => R2
  refine ⟨⟨_, _, _, _, rfl, R2⟩, ?_, ?_, ?_⟩
  · intro C i ti s₃ m₃ E' hi hns hm hk
    rw [List.forIn_nil]
    exact wpAny_pure ⟨rfl, _, _, rfl, fun _ _ e => e⟩
  · intro C i ti s₃ m₃ E' hi hp hns hm hk
    refine wpAny_mono (str_elt (env := compEnv _ C _) (by omega) X' T' (Keep.trans F2.keep hk) hns hm rfl rfl rfl rfl rfl) (fun y s₄ hy => ⟨trivial, hy.2⟩) fun _ _ e => e
  · intro D h8 tk8 ys zD k8 hD hpair
    obtain ⟨nD, hD⟩ := hD
    obtain ⟨zD1, zD2⟩ := Fr.fresh F2 zD
    have dif := News.dif N2 zD
    simp only [List.forall_mem_cons] at dif
    obtain ⟨dif1, dif2, dif3, dif4, -⟩ := dif
    have gnA : _ ∧ _ ∧ _ ∧ _ := ⟨dif1, dif2, dif3, dif4⟩
    clear dif1 dif2 dif3 dif4
    have F3 := Fr.kept F2 k8
    have N3 := News.cons' (News.kept N2 k8) hD zD2 zD1
    clear F2 N2
    k_steps
    rename Fr _ _ _ _ => F9
    rename News _ _ _ _ => N9
    rename IntsAre _ _ => I9
    refine ⟨rfl, ?_⟩
    have I3 : IntsAre _ ((List.range 3).map fun (i : Nat) => (i : Int)) := I9
    have lv0 := (N9 _ (.head _)).2.2
    rw [hg'] at lv0
    dsimp only at lv0
    refine h _ _ x _ n1 (none_of_keep kk lv0) (fun b' o e => F9.keep _ _ ?_) ?_
    · rw [hg']; exact kk _ _ e
    · intro ex hex
      have kk' : Keep s.heap g' := fun b o e => by rw [hg']; exact kk _ _ e
      have off : ∀ {a : Addr}, g'.get? a = none → a ∉ ex := fun {a} z hm => hex a hm (none_of_keep kk' z)
      have vi : ∀ {a : Addr} {o : Obj} {hh : Heap}, hh.get? a = some o ∧ a ≠ L' ∧ g'.get? a = none → (hideAll hh ex).get? a = some o := fun z => hideAll_get _ z.1 (off z.2.2)
      refine ⟨dx, _, _, _, _, _, _, _, _, _, _, _, vi (N9 _ (.tail _ (.tail _ (.tail _ (.tail _ (.head _)))))), vi (N9 _ (.tail _ (.tail _ (.tail _ (.tail _ (.tail _ (.head _))))))), ⟨_, vi (N9 _ (.tail _ (.tail _ (.head _)))), rfl, _, rfl⟩, ?_, ?_, vi (N9 _ (.head _)), fun q hq => nomatch hq⟩
      · exact I3.length
      · exact ints_at I3
theorem prof_new4 (hdp : dp + 20 < recursionLimit) (hu : un + 200 < cLine) (G : Good w mg mb s.heap)
    (h : ∀ h' tk p lv, s.heap.get? p = none → s.heap.get? lv = none → Keep s.heap h' → (∀ ex, (∀ a ∈ ex, s.heap.get? a ≠ none) → ProfAtL w (hideAll h' ex) p lv 4 []) → Q (.ref p) { s with heap := h', toks := tk }) :
    wpAny (model PP w) (aro dp un fr gd) (call (.ref 681) [.int 4 t]) Q never s := by
  refine wpAny_call (makeL G.X (by k_is) (by k_is) (by k_is) fun x dx h₁ hx hdx hh₁ e1 e2 n1 n2 kk => ?_)
  have X := G.X.keeps kk
  have T := G.T.keeps kk
  have X1 : (K39 w.params).In h₁ := X.keeps fun b o e => of_hideAll _ e
  refine' enterX (lb := [(Str.ofString "self", .ref x), (Str.ofString "num_cand", .int 4 t)]) (cn := Str.ofString "cand_names") (v := .none) [(x, instObj 681 dx), (dx, dictOf [] 0)] ?hled X T ?ho ?hcd ?hr ?hb ?h1 ?h2 ?h3 ?h4 ?h5 ?h6 ?h7 ?_
  case hled => intro q hq; simp only [List.mem_cons, List.not_mem_nil, or_false] at hq; rcases hq with rfl | rfl <;> assumption
  case ho => k_is
  case hcd => k_is
  case hr => k_room
  case hb => first | exact BindsTo.of_eq rfl | exact binds_K X1 rfl (by k_is) rfl rfl rfl
  case h1 => exact fun n acc => rfl
  case h2 => exact fun h => rfl
  case h3 => exact locs rfl
  case h4 => exact rfl
  case h5 => exact rfl
  case h6 => exact rfl
  case h7 => exact rfl
  intro g' L' h' ob hg' hL' F' hob N' X' T'
  have hL1 : (dx : Nat) < (L' : Nat) := by rw [hL']; exact Heap.lt_size e2
  have hL2 : (x : Nat) < (L' : Nat) := by rw [hL']; exact Heap.lt_size e1
  have hL3 : (dx : Nat) < ((L' + 1 : Addr) : Nat) := Nat.lt_succ_of_lt hL1
  have hL4 : (x : Nat) < ((L' + 1 : Addr) : Nat) := Nat.lt_succ_of_lt hL2
  k_steps
  rename Fr _ _ _ _ => F1
  rename News _ _ _ _ => N1
  show wpAny _ _ _ _ _ _
  refine lc_range (n := 4) (fun _ => true) (fun _ _ => True) rfl (.inr rfl) (by decide) (by decide) rfl (by decide) rfl (fun _ => rfl) ?_
  k_steps
  rename Fr _ _ _ _ => F2
  rename News _ _ _ _ => N2
  rename IsRange _ _ _ _ _ _ _ _ => R2
  refine ⟨⟨_, _, _, _, rfl, R2⟩, ?_, ?_, ?_⟩
  · intro C i ti s₃ m₃ E' hi hns hm hk
    rw [List.forIn_nil]
    exact wpAny_pure ⟨rfl, _, _, rfl, fun _ _ e => e⟩
  · intro C i ti s₃ m₃ E' hi hp hns hm hk
    refine wpAny_mono (str_elt (env := compEnv _ C _) (by omega) X' T' (Keep.trans F2.keep hk) hns hm rfl rfl rfl rfl rfl) (fun y s₄ hy => ⟨trivial, hy.2⟩) fun _ _ e => e
  · intro D h8 tk8 ys zD k8 hD hpair
    obtain ⟨nD, hD⟩ := hD
    obtain ⟨zD1, zD2⟩ := Fr.fresh F2 zD
    have dif := News.dif N2 zD
    simp only [List.forall_mem_cons] at dif
    obtain ⟨dif1, dif2, dif3, dif4, -⟩ := dif
    have gnA : _ ∧ _ ∧ _ ∧ _ := ⟨dif1, dif2, dif3, dif4⟩
    clear dif1 dif2 dif3 dif4
    have F3 := Fr.kept F2 k8
    have N3 := News.cons' (News.kept N2 k8) hD zD2 zD1
    clear F2 N2
    k_steps
    rename Fr _ _ _ _ => F9
    rename News _ _ _ _ => N9
    rename IntsAre _ _ => I9
    refine ⟨rfl, ?_⟩
    have I3 : IntsAre _ ((List.range 4).map fun (i : Nat) => (i : Int)) := I9
    have lv0 := (N9 _ (.head _)).2.2
    rw [hg'] at lv0
    dsimp only at lv0
    refine h _ _ x _ n1 (none_of_keep kk lv0) (fun b' o e => F9.keep _ _ ?_) ?_
    · rw [hg']; exact kk _ _ e
    · intro ex hex
      have kk' : Keep s.heap g' := fun b o e => by rw [hg']; exact kk _ _ e
      have off : ∀ {a : Addr}, g'.get? a = none → a ∉ ex := fun {a} z hm => hex a hm (none_of_keep kk' z)
      have vi : ∀ {a : Addr} {o : Obj} {hh : Heap}, hh.get? a = some o ∧ a ≠ L' ∧ g'.get? a = none → (hideAll hh ex).get? a = some o := fun z => hideAll_get _ z.1 (off z.2.2)
      refine ⟨dx, _, _, _, _, _, _, _, _, _, _, _, vi (N9 _ (.tail _ (.tail _ (.tail _ (.tail _ (.head _)))))), vi (N9 _ (.tail _ (.tail _ (.tail _ (.tail _ (.tail _ (.head _))))))), ⟨_, vi (N9 _ (.tail _ (.tail _ (.head _)))), rfl, _, rfl⟩, ?_, ?_, vi (N9 _ (.head _)), fun q hq => nomatch hq⟩
      · exact I3.length
      · exact ints_at I3
end

end
section
section
variable {dp un : Nat} {fr : Option (List Env)} {gd : Option (List Code)} {s : Shared} {Q : Value → Shared → Prop} {p : Addr} {n : Nat} {vs : List (Addr × List Nat × Int)}
theorem prof_num {dpp lc ln lv : Addr} {h1 : Int} {a1 : Tok} {h2 : Int} {a2 : Tok} {h3 : Int} {a3 : Tok} {c nn : Nat} {items : Array Value} (hdp : dp + 12 < recursionLimit) (hu : un + 130 < cLine) (G : Good w mg mb s.heap)
    (I : InstAt s.heap p (instObj 681 dpp) 681 (some (dictOf (pfEs h1 a1 lc h2 a2 ln h3 a3 lv) c))) (e6 : s.heap.IsList lc items) (hsz : items.size ≤ 4)
    (h : ∀ h' tk t, Keep s.heap h' → Q (.int (items.size : Nat) t) { s with heap := h', toks := tk }) :
    wpAny (model PP w) (aro dp un fr gd) (call (.ref 565) [.ref p]) Q never s := by
  have X := G.X
  have T := G.T
  refine wpAny_call ?_
  refine' enterL (binds := [(Str.ofString "self", .ref p)]) [] (List.forall_mem_nil _) X T ?k6 ?k7 ?k8 ?k9 ?kB ?_ ?c2 ?c3 ?c4 ?c5
  walk_at "m_cases"
  intro g' L' h' hg' hL' F' N' X' T'
  obtain rfl : g' = s.heap := hg'
  k_steps
  rename Fr _ _ _ _ => F1
  exact h _ _ _ F1.keep
theorem prof_len {dpp lc ln lv : Addr} {h1 : Int} {a1 : Tok} {h2 : Int} {a2 : Tok} {h3 : Int} {a3 : Tok} {c nn : Nat} {items : Array Value} (hdp : dp + 12 < recursionLimit) (hu : un + 130 < cLine) (G : Good w mg mb s.heap)
    (I : InstAt s.heap p (instObj 681 dpp) 681 (some (dictOf (pfEs h1 a1 lc h2 a2 ln h3 a3 lv) c))) (e6 : s.heap.IsList lv items) (hsz : items.size ≤ 4)
    (h : ∀ h' tk t, Keep s.heap h' → Q (.int (items.size : Nat) t) { s with heap := h', toks := tk }) :
    wpAny (model PP w) (aro dp un fr gd) (call (.ref 580) [.ref p]) Q never s := by
  have X := G.X
  have T := G.T
  refine wpAny_call ?_
  refine' enterL (binds := [(Str.ofString "self", .ref p)]) [] (List.forall_mem_nil _) X T ?k6 ?k7 ?k8 ?k9 ?kB ?_ ?c2 ?c3 ?c4 ?c5
  walk_at "m_cases"
  intro g' L' h' hg' hL' F' N' X' T'
  obtain rfl : g' = s.heap := hg'
  k_steps
  rename Fr _ _ _ _ => F1
  exact h _ _ _ F1.keep
theorem prof_numC {dpp lc ln lv : Addr} {h1 : Int} {a1 : Tok} {h2 : Int} {a2 : Tok} {h3 : Int} {a3 : Tok} {c nn : Nat} {items : Array Value} (hdp : dp + 12 < recursionLimit) (hu : un + 130 < cLine) (G : Good w mg mb s.heap)
    (I : InstAt s.heap p (instObj 681 dpp) 681 (some (dictOf (pfEs h1 a1 lc h2 a2 ln h3 a3 lv) c))) (e6 : s.heap.IsList lc items) (hsz : items.size ≤ 4)
    {R : Result → Shared → Prop} (h : ∀ h' tk t, Keep s.heap h' → R (.ok (.ret (.int (items.size : Nat) t))) { s with heap := h', toks := tk }) :
    codeAny (model PP w) (aro dp un fr gd) (.call (.ref 565) ⟨[.ref p], []⟩) R s := by
  have X := G.X
  have T := G.T
  refine' enterL (binds := [(Str.ofString "self", .ref p)]) [] (List.forall_mem_nil _) X T ?k6 ?k7 ?k8 ?k9 ?kB ?_ ?c2 ?c3 ?c4 ?c5
  walk_at "m_cases"
  intro g' L' h' hg' hL' F' N' X' T'
  obtain rfl : g' = s.heap := hg'
  k_steps
  rename Fr _ _ _ _ => F1
  exact h _ _ _ F1.keep
end

end
section
local macro_rules | `(tactic| walk_at "call ref") => `(tactic| ((with_reducible show wpAny _ _ (call (Value.ref 718) _ _) _ _ _); refine stopHere ?_))
local macro_rules | `(tactic| walk_at "callWith ref") => `(tactic| ((with_reducible show wpAny _ _ (callWith (Value.ref 718) _ _) _ _ _); refine stopHere ?_))
local macro_rules | `(tactic| walk_at "getAttr ref") => `(tactic| ((with_reducible show wpAny _ _ (getAttr _ (Str.ofString "num_cand") _) _ _ _); refine stopHere ?_))
section
variable {dp un : Nat} {fr : Option (List Env)} {gd : Option (List Code)} {s : Shared} {Q : Value → Shared → Prop} {p v : Addr} {A : List Nat} {wt : Int} {n : Nat} {vs : List (Addr × List Nat × Int)}
theorem uniq (hdp : dp + 24 < recursionLimit) (hu : un + 400 < cLine) (G : GoodT w mg mb s.heap) (V : VoterAt w (hideAll s.heap tabs) v A wt) (P : ProfAt w (hideAll s.heap tabs) p n vs) (hw : 0 < wt) (hn4 : n ≤ 4) (hn : ∀ k ∈ A, k < n)
    (h : ∀ s' x, Went w s s' → s.heap.get? x = none → VoterNew w s.heap (hideAll s'.heap tabs) x A wt → Q (.ref x) s') :
    wpAny (model PP w) (aro dp un fr gd) (call (.ref 587) [.ref p, .ref v]) Q never s := by
  have B := G.base
  obtain ⟨o1, q1⟩ := tab_obj G.tab (c := 56) (P := 52) (by decide)
  obtain ⟨o2, q2⟩ := tab_obj G.tab (c := 84) (P := 80) (by decide)
  obtain ⟨o3, q3⟩ := tab_obj G.tab (c := 92) (P := 88) (by decide)
  obtain ⟨hA, dv, cs, dcs, tf, ep, led, b1, d1, b2, d2, tw, cc', v1, v2, v4, hle⟩ := V
  obtain ⟨dpp, lc, ln, lv, h1, a1, h2', a2, h3, a3, cc, items, nn, e1, e2, e3, e4, e5, e6, e7⟩ := P
  have Ip : InstAt (hideAll s.heap tabs) p (instObj 681 dpp) 681 (some (dictOf (pfEs h1 a1 lc h2' a2 ln h3 a3 lv) cc)) := ⟨e1, rfl, rfl, e2⟩
  have Iv : InstAt (hideAll s.heap tabs) v (instObj 718 dv) 718 (some (dictOf (vtEs b1 d1 cs b2 d2 wt tw) cc')) := ⟨v1, rfl, rfl, v2⟩
  have hsz : items.size ≤ 4 := by omega
  refine wpAny_call ?_
  refine' enterL (binds := [(Str.ofString "self", .ref p), (Str.ofString "voter", .ref v)]) (tabL o1 o2 o3) ?hled B.X B.T ?k6 ?k7 ?k8 ?k9 ?kB ?_ ?c2 ?c3 ?c4 ?c5
  case hled => intro q hq; simp only [List.mem_cons, List.not_mem_nil, or_false] at hq; rcases hq with rfl | rfl | rfl <;> assumption
  walk_at "m_cases"
  intro g' L' h' hg' hL' F' N' X' T'
  have hL' : L' = s.heap.objs.size := hL'
  obtain rfl : g' = hideAll s.heap tabs := hg'
  have hLt : L' ∉ tabs := fresh_tabs G.tab (Heap.get?_none_of_le (Nat.le_of_eq hL'.symm))
  k_steps
  rename Fr _ _ _ _ => F1
  rename News _ _ _ _ => N1
  refine get_prop F1 X' (InstAt.keeps' Ip F1.keep) (by k_is) (by k_is) (by k_is) (by k_is) (by k_is) (by k_is) ?_
  refine' prof_numC (nn := 0) ?d ?u ⟨X'.keeps F1.keep, T'.keeps F1.keep⟩ (InstAt.keeps' Ip F1.keep) ⟨_, F1.keep _ _ e3.choose_spec.1, e3.choose_spec.2⟩ hsz fun h2 tk2 t2 k2 => ?_
  case d => k_room
  case u => k_units
  have F2 := Fr.kept F1 k2
  have N2 := News.kept N1 k2
  clear F1 N1
  show wpAny _ _ (handedOut _) _ _ _
  refine handed_on rfl ?_
  k_steps
  rename Fr _ _ _ _ => F1
  rename News _ _ _ _ => N1
  show wpAny _ _ (call (.ref 718) [.ref cs] [(Str.ofString "weight", .int wt tw), (Str.ofString "num_cand", .int ((items.size : Nat) : Int) t2)]) _ _ _
  have kg : Keep (hideAll s.heap tabs) s.heap := fun b o e => of_hideAll _ e
  have Nt : News (hideAll s.heap tabs) L' s.heap (tabL o1 o2 o3) := by
    intro p hp
    simp only [List.mem_cons, List.not_mem_nil, or_false] at hp
    rcases hp with rfl | rfl | rfl
    · exact ⟨q1, fun e => hLt (e ▸ (by decide : (52 : Addr) ∈ tabs)), B.no 52 (by decide)⟩
    · exact ⟨q2, fun e => hLt (e ▸ (by decide : (80 : Addr) ∈ tabs)), B.no 80 (by decide)⟩
    · exact ⟨q3, fun e => hLt (e ▸ (by decide : (88 : Addr) ∈ tabs)), B.no 88 (by decide)⟩
  have t' : TabAt _ := tabsBack B kg G.tab Nt F1.keep N1 (fun p hp => hp)
  have Sy : Src w (hideAll s.heap tabs) cs A := src_set hA v4 (setCls_own B.X) hle
  refine' voter_new2 ?d1 ?u1 ?GT (Sy.keeps (B.keepT F1.keep)) hw ?hn fun s₂ x W zx Vx => ?_
  case GT => exact B.goodT F1.keep t'
  case d1 => k_room
  case u1 => k_units
  case hn => intro k hk; have := hn k hk; omega
  have F3 := W.fr B hLt F1
  obtain ⟨-, dv', cs', dcs', tf', ep', led', g1, g2, g3, g4, u2, gc, ⟨w1, w2, w3, w4⟩, z2, z3⟩ := Vx
  have nb : ∀ {a o}, (hideAll s₂.heap tabs).get? a = some o → a ∉ tabs := fun e hm => by rw [hideAll_none _ hm] at e; cases e
  obtain ⟨x0, xL⟩ := Fr.fresh F1 zx
  obtain ⟨d0, dL⟩ := Fr.fresh F1 z2
  obtain ⟨c0, cL⟩ := Fr.fresh F1 z3
  obtain ⟨p1, p2, p3, Nt2⟩ := tabsIn B W.tab hLt
  have N3 : News (hideAll s.heap tabs) L' s₂.heap ((x, instObj 718 dv') :: (dv', dictOf (vtEs g1 g2 cs' g3 g4 wt u2) gc) :: (cs', csObj dcs' A tf' ep' led') :: tabL p1 p2 p3) :=
    News.cons' (News.cons' (News.cons' Nt2 (of_hideAll _ w3) cL c0) (of_hideAll _ w2) dL d0) (of_hideAll _ w1) xL x0
  have backT : ∀ h4 nl4, Keep (hideAll s.heap tabs) h4 → News (hideAll s.heap tabs) L' h4 nl4 → (∀ p ∈ tabL p1 p2 p3, p ∈ nl4) → TabAt h4 := fun h4 nl4 k N hs => tabsBack B F3.keep W.tab Nt2 k N hs
  have un0 : ∀ {a : Addr}, a ∉ tabs → (hideAll s.heap tabs).get? a = none → s.heap.get? a = none := fun {a} ha e => by
    cases q : s.heap.get? a with
    | none => rfl
    | some o => rw [hideAll_get _ q ha] at e; cases e
  clear F1 N1
  k_steps
  rename Fr _ _ _ _ => F4
  rename News _ _ _ _ => N4
  have tE := backT _ _ F4.keep N4 fun p hp => List.mem_cons_of_mem _ (List.mem_cons_of_mem _ (List.mem_cons_of_mem _ hp))
  refine h _ x ⟨fun b o hb e => F4.keep _ _ (hideAll_get _ e hb), tE, W.gens, W.drawn, W.os⟩ (un0 (nb w1) x0) ⟨hA, dv', cs', dcs', tf', ep', led', _, _, _, _, _, _, ⟨hideAll_get _ (N4 _ (.head _)).1 (nb w1), hideAll_get _ (N4 _ (.tail _ (.head _))).1 (nb w2), hideAll_get _ (N4 _ (.tail _ (.tail _ (.head _)))).1 (nb w3), w4⟩, un0 (nb w2) d0, un0 (nb w3) c0⟩
end

end
section
local macro_rules | `(tactic| walk_at "call ref") => `(tactic| ((with_reducible show wpAny _ _ (call (Value.ref 587) _ _) _ _ _); refine stopHere ?_))
local macro_rules | `(tactic| walk_at "callWith ref") => `(tactic| ((with_reducible show wpAny _ _ (callWith (Value.ref 587) _ _) _ _ _); refine stopHere ?_))
section
variable {dp un : Nat} {fr : Option (List Env)} {gd : Option (List Code)} {s : Shared} {Q : Value → Shared → Prop} {p v lv : Addr} {A : List Nat} {wt : Int} {n : Nat} {vs : List (Addr × List Nat × Int)}
theorem addv {dpp lc ln : Addr} {h1 : Int} {a1 : Tok} {h2' : Int} {a2 : Tok} {h3 : Int} {a3 : Tok} {cc nn : Nat} {items : Array Value} (hdp : dp + 26 < recursionLimit) (hu : un + 500 < cLine) (G : GoodT w mg mb s.heap) (BL : BaseT w mg mb (hideAll s.heap (lv :: tabs)))
    (V : VoterAt w (hideAll s.heap tabs) v A wt) (P : ProfAt w (hideAll s.heap tabs) p n vs) (Ip : InstAt (hideAll s.heap (lv :: tabs)) p (instObj 681 dpp) 681 (some (dictOf (pfEs h1 a1 lc h2' a2 ln h3 a3 lv) cc)))
    (el : s.heap.get? lv = some { cls := .type "list", data := .seq items nn }) (hlt : lv ∉ tabs) (hw : 0 < wt) (hn4 : n ≤ 4) (hn : ∀ k ∈ A, k < n) (hsz : items.size ≤ 8)
    (h : ∀ s' x nn', (∀ b o, b ∉ lv :: tabs → s.heap.get? b = some o → s'.heap.get? b = some o) → TabAt s'.heap → GensOk s.gens s'.gens → s'.drawn = s.drawn → s'.os = s.os → s.heap.get? x = none → VoterNew w s.heap (hideAll s'.heap tabs) x A wt →
      s'.heap.get? lv = some { cls := .type "list", data := .seq (items.push (.ref x)) nn' } → Q .none s') :
    wpAny (model PP w) (aro dp un fr gd) (call (.ref 594) [.ref p, .ref v]) Q never s := by
  obtain ⟨o1, q1⟩ := tab_obj G.tab (c := 56) (P := 52) (by decide)
  obtain ⟨o2, q2⟩ := tab_obj G.tab (c := 84) (P := 80) (by decide)
  obtain ⟨o3, q3⟩ := tab_obj G.tab (c := 92) (P := 88) (by decide)
  simp only [List.mem_cons, List.not_mem_nil, or_false, not_or] at hlt
  obtain ⟨i1, i2, i3⟩ := hlt
  have j1 : (lv : Nat) ≠ 52 := i1
  have j2 : (lv : Nat) ≠ 80 := i2
  have j3 : (lv : Nat) ≠ 88 := i3
  refine wpAny_call ?_
  refine' enterL (binds := [(Str.ofString "self", .ref p), (Str.ofString "voter", .ref v)]) ((lv, { cls := .type "list", data := .seq items nn }) :: tabL o1 o2 o3) ?hled BL.X BL.T ?k6 ?k7 ?k8 ?k9 ?kB ?_ ?c2 ?c3 ?c4 ?c5
  case hled => intro q hq; simp only [List.mem_cons, List.not_mem_nil, or_false] at hq; rcases hq with rfl | rfl | rfl | rfl <;> assumption
  walk_at "m_cases"
  intro g' L' h' hg' hL' F' N' X' T'
  have hL' : L' = s.heap.objs.size := hL'
  obtain rfl : g' = hideAll s.heap (lv :: tabs) := hg'
  have hLt : L' ∉ tabs := fresh_tabs G.tab (Heap.get?_none_of_le (Nat.le_of_eq hL'.symm))
  k_steps
  rename Fr _ _ _ _ => F1
  rename News _ _ _ _ => N1
  show wpAny _ _ (call (.ref 587) [.ref p, .ref v]) _ _ _
  have kg : Keep (hideAll s.heap (lv :: tabs)) s.heap := fun b o e => of_hideAll _ e
  have Nt : News (hideAll s.heap (lv :: tabs)) L' s.heap (tabL o1 o2 o3) := by
    intro p hp
    simp only [List.mem_cons, List.not_mem_nil, or_false] at hp
    rcases hp with rfl | rfl | rfl
    · exact ⟨q1, fun e => hLt (e ▸ (by decide : (52 : Addr) ∈ tabs)), BL.no 52 (by decide)⟩
    · exact ⟨q2, fun e => hLt (e ▸ (by decide : (80 : Addr) ∈ tabs)), BL.no 80 (by decide)⟩
    · exact ⟨q3, fun e => hLt (e ▸ (by decide : (88 : Addr) ∈ tabs)), BL.no 88 (by decide)⟩
  have t' : TabAt _ := tabsBack BL kg G.tab Nt F1.keep N1 (fun p hp => List.mem_cons_of_mem _ hp)
  have kb : KeepT s.heap h' := fun b o hb e => by
    by_cases q : b = lv
    · rw [q] at e ⊢
      rw [el] at e
      exact (N1 _ (.head _)).1.trans e
    · exact F1.keep _ _ (hideAll_get _ e (by rw [List.mem_cons]; exact fun z => z.elim q hb))
  have k0 := keep_hide kb
  refine' uniq ?d1 ?u1 ?GT (V.keeps k0) (P.keeps k0) hw hn4 hn fun s₂ x W zx Vx => ?_
  case GT => exact BL.goodT F1.keep t'
  case d1 => k_room
  case u1 => k_units
  have F3 := W.fr BL hLt F1
  obtain ⟨-, dv', cs', dcs', tf', ep', led', g1, g2, g3, g4, u2, gc, ⟨w1, w2, w3, w4⟩, z2, z3⟩ := id Vx
  have nb : ∀ {a o}, (hideAll s₂.heap tabs).get? a = some o → a ∉ tabs := fun e hm => by rw [hideAll_none _ hm] at e; cases e
  obtain ⟨x0, xL⟩ := Fr.fresh F1 zx
  obtain ⟨d0, dL⟩ := Fr.fresh F1 z2
  obtain ⟨c0, cL⟩ := Fr.fresh F1 z3
  obtain ⟨p1, p2, p3, Nt2⟩ := tabsIn BL W.tab hLt
  have lv2 := W.k _ _ (show lv ∉ tabs by simp only [List.mem_cons, List.not_mem_nil, or_false, not_or]; exact ⟨i1, i2, i3⟩) (N1 _ (.head _)).1
  have N3 : News (hideAll s.heap (lv :: tabs)) L' s₂.heap ((x, instObj 718 dv') :: (dv', dictOf (vtEs g1 g2 cs' g3 g4 wt u2) gc) :: (cs', csObj dcs' A tf' ep' led') :: (lv, { cls := .type "list", data := .seq items nn }) :: tabL p1 p2 p3) :=
    News.cons' (News.cons' (News.cons' (News.cons' Nt2 lv2 (N1 _ (.head _)).2.1 (N1 _ (.head _)).2.2) (of_hideAll _ w3) cL c0) (of_hideAll _ w2) dL d0) (of_hideAll _ w1) xL x0

  have y1 : @Ne Nat (lv : Nat) (x : Nat) := News.dif N1 zx _ (.head _)
  have y2 : @Ne Nat (lv : Nat) (dv' : Nat) := News.dif N1 z2 _ (.head _)
  have y3 : @Ne Nat (lv : Nat) (cs' : Nat) := News.dif N1 z3 _ (.head _)
  have backT : ∀ h4 nl4, Keep (hideAll s.heap (lv :: tabs)) h4 → News (hideAll s.heap (lv :: tabs)) L' h4 nl4 → (∀ p ∈ tabL p1 p2 p3, p ∈ nl4) → TabAt h4 := fun h4 nl4 k N hs => tabsBack BL F3.keep W.tab Nt2 k N hs
  clear F1 N1
  k_steps
  rename Fr _ _ _ _ => F4
  rename News _ _ _ _ => N4
  have t2 := backT _ _ F4.keep N4 fun p hp => List.mem_cons_of_mem _ (List.mem_cons_of_mem _ (List.mem_cons_of_mem _ (List.mem_cons_of_mem _ hp)))
  show wpAny _ _ (call (.builtin "list.append") [.ref lv, .ref x]) _ _ _
  refine wpAny_list_append_plain ⟨nn, (N4 _ (.tail _ (.tail _ (.tail _ (.head _))))).1⟩ (fun h5 hl5 hs5 => ?_) (by rw [sizeLine_eq]; omega)
  obtain ⟨nn', hl5⟩ := hl5
  have lvL := (N4 (lv, _) (.tail _ (.tail _ (.tail _ (.head _))))).2.1
  have lv0 := (N4 (lv, _) (.tail _ (.tail _ (.tail _ (.head _))))).2.2
  have F5 := ksk_fr F4 hs5 lvL lv0
  have N5 : News (hideAll s.heap (lv :: tabs)) L' h5 ((x, instObj 718 dv') :: (dv', dictOf (vtEs g1 g2 cs' g3 g4 wt u2) gc) :: (cs', csObj dcs' A tf' ep' led') :: (lv, { cls := .type "list", data := .seq (items.push (.ref x)) nn' }) :: tabL p1 p2 p3) := by
    intro q hq
    have other : ∀ {q : Addr × Obj}, q ∈ ((x, instObj 718 dv') :: (dv', dictOf (vtEs g1 g2 cs' g3 g4 wt u2) gc) :: (cs', csObj dcs' A tf' ep' led') :: (lv, { cls := .type "list", data := .seq items nn }) :: tabL p1 p2 p3) → q.1 ≠ lv → h5.get? q.1 = some q.2 ∧ q.1 ≠ L' ∧ (hideAll s.heap (lv :: tabs)).get? q.1 = none := fun hq ne => ⟨(hs5.2 _ ne).trans (N4 _ hq).1, (N4 _ hq).2⟩
    simp only [List.mem_cons, List.not_mem_nil, or_false] at hq
    rcases hq with rfl | rfl | rfl | rfl | rfl | rfl | rfl
    · exact other (q := (x, _)) (by simp) (Ne.symm y1)
    · exact other (q := (dv', _)) (by simp) (Ne.symm y2)
    · exact other (q := (cs', _)) (by simp) (Ne.symm y3)
    · exact ⟨hl5, lvL, lv0⟩
    · exact other (q := (52, p1)) (by simp) (fun e => i1 e.symm)
    · exact other (q := (80, p2)) (by simp) (fun e => i2 e.symm)
    · exact other (q := (88, p3)) (by simp) (fun e => i3 e.symm)
  have tE := tabsBack BL F4.keep t2 (fun p hp => N4 p (List.mem_cons_of_mem _ (List.mem_cons_of_mem _ (List.mem_cons_of_mem _ (List.mem_cons_of_mem _ hp))))) F5.keep N5 fun p hp => List.mem_cons_of_mem _ (List.mem_cons_of_mem _ (List.mem_cons_of_mem _ (List.mem_cons_of_mem _ hp)))
  have un0 : ∀ {a : Addr}, a ∉ lv :: tabs → (hideAll s.heap (lv :: tabs)).get? a = none → s.heap.get? a = none := fun {a} ha e => by
    cases q : s.heap.get? a with
    | none => rfl
    | some o => rw [hideAll_get _ q ha] at e; cases e
  have off : ∀ {a : Addr} {o : Obj}, a ≠ lv → (hideAll s₂.heap tabs).get? a = some o → a ∉ lv :: tabs := fun ne e => by rw [List.mem_cons]; exact fun z => z.elim ne (nb e)
  have xz := un0 (off (Ne.symm y1) w1) x0
  have dz := un0 (off (Ne.symm y2) w2) d0
  have cz := un0 (off (Ne.symm y3) w3) c0
  have fin : ∀ tk, Q .none { s₂ with heap := h5, toks := tk } := fun tk => h { s₂ with heap := h5, toks := tk } x nn' (fun b o hb e => F5.keep _ _ (hideAll_get _ e hb)) tE W.gens W.drawn W.os xz
    ⟨Vx.1, dv', cs', dcs', tf', ep', led', _, _, _, _, _, _, ⟨hideAll_get _ (N5 _ (.head _)).1 (nb w1), hideAll_get _ (N5 _ (.tail _ (.head _))).1 (nb w2), hideAll_get _ (N5 _ (.tail _ (.tail _ (.head _)))).1 (nb w3), w4⟩, dz, cz⟩ hl5
  clear N4 F4
  k_steps
  exact fin _
end

end
section
section
variable {dp un : Nat} {fr : Option (List Env)} {gd : Option (List Code)} {s : Shared} {Q : Value → Shared → Prop} {t : Tok} {k top : Int}
theorem is_int (hdp : dp + 12 < recursionLimit) (hu : un + 130 < cLine) (G : Good w mg mb s.heap) (h : ∀ h' tk, Keep s.heap h' → Q (.bool true) { s with heap := h', toks := tk }) :
    wpAny (model PP w) (aro dp un fr gd) (call (.ref 100) [.int k t]) Q never s := by
  have X := G.X
  have T := G.T
  refine wpAny_call ?_
  refine' enterL (binds := [(Str.ofString "x", .int k t)]) [] (List.forall_mem_nil _) X T ?k6 ?k7 ?k8 ?k9 ?kB ?_ ?c2 ?c3 ?c4 ?c5
  walk_at "m_cases"
  intro g' L' h' hg' hL' F' N' X' T'
  obtain rfl : g' = s.heap := hg'
  k_steps
  rename Fr _ _ _ _ => F1
  exact h _ _ F1.keep
theorem whole {wh : Value} (hdp : dp + 14 < recursionLimit) (hu : un + 160 < cLine) (G : Good w mg mb s.heap) (h1 : 0 ≤ k) (h2 : k ≤ 9) {t2 : Tok} (h : ∀ h' tk, Keep s.heap h' → Q .none { s with heap := h', toks := tk }) :
    wpAny (model PP w) (aro dp un fr gd) (call (.ref 107) [.int k t, .int 999999 t2, wh]) Q never s := by
  have X := G.X
  have T := G.T
  refine wpAny_call ?_
  refine' enterL (binds := [(Str.ofString "x", .int k t), (Str.ofString "top", .int 999999 t2), (Str.ofString "what", wh)]) [] (List.forall_mem_nil _) X T ?k6 ?k7 ?k8 ?k9 ?kB ?_ ?c2 ?c3 ?c4 ?c5
  walk_at "m_cases"
  intro g' L' h' hg' hL' F' N' X' T'
  obtain rfl : g' = s.heap := hg'
  k_steps
  rename Fr _ _ _ _ => F1
  rename News _ _ _ _ => N1
  refine' is_int ?d1 ?u1 ⟨X'.keeps F1.keep, T'.keeps F1.keep⟩ fun h2 tk2 k2 => ?_
  case d1 => k_room
  case u1 => k_units
  have F2 := Fr.kept F1 k2
  have N2 := News.kept N1 k2
  clear F1 N1
  k_steps
  exact h _ _ F2.keep
end
abbrev cmbO (dx ix D : Addr) (f : Bool) (r : Int) (tr : Tok) (st : Bool) : Obj := { cls := .ref 147, dict := some dx, data := .plain, slots := #[some (.bool f), some (.ref ix), some (.ref D), some (.int r tr), some (.bool st)] }
/-- the places of the i-th committee, as ints -/
def cidx (q : Nat × Nat) (i : Nat) : List Int := ((combos q).getD i []).map fun (k : Nat) => (k : Int)
/-- a maker of combinations that has told i of them; its objects are newer than g -/
def CombSt (g h : Heap) (q : Nat × Nat) (i : Nat) (p ix : Addr) : Prop :=
  (g.get? p = none ∧ g.get? ix = none) ∧ ∃ dx D tr ys e vs, (g.get? dx = none ∧ g.get? D = none) ∧ h.get? p = some (cmbO dx ix D (i == 0) q.2 tr false) ∧ h.get? dx = some (dictOf [] 0) ∧ h.get? D = some (tupOf vs) ∧ h.get? ix = some (W.listOf (List.toArray ys) e) ∧ IntsAre ys (cidx q (i - 1)) ∧ IntsAre vs ((List.range q.1).map fun (i : Nat) => (i : Int))

end
section
local macro_rules | `(tactic| walk_at "call ref") => `(tactic| ((with_reducible show wpAny _ _ (call (Value.ref 107) _ _) _ _ _); refine stopHere ?_))
local macro_rules | `(tactic| walk_at "call type:tuple") => `(tactic| refine stopHere ?_)
section
variable {dp un : Nat} {fr : Option (List Env)} {gd : Option (List Code)} {s : Shared} {Q : Value → Shared → Prop} {lc : Addr} {t t0 t1 t2 t3 : Tok}
theorem comb_new32 (hdp : dp + 20 < recursionLimit) (hu : un + 200 < cLine) (G : Good w mg mb s.heap) (hl : s.heap.IsList lc (List.toArray [.int 0 t0, .int 1 t1, .int 2 t2]))
    (h : ∀ h' tk p ix, Keep s.heap h' → CombSt s.heap h' (3, 2) 0 p ix → Q (.ref p) { s with heap := h', toks := tk }) :
    wpAny (model PP w) (aro dp un fr gd) (call (.ref 147) [.ref lc, .int 2 t]) Q never s := by
  refine wpAny_call (makeL G.X (by k_is) (by k_is) (by k_is) fun x dx h₁ hx hdx hh₁ e1 e2 n1 n2 kk => ?_)
  have X := G.X.keeps kk
  have T := G.T.keeps kk
  have X1 : (K39 w.params).In h₁ := X.keeps fun b o e => of_hideAll _ e
  have hl1 : (hideAll h₁ [x, dx]).IsList lc (List.toArray [.int 0 t0, .int 1 t1, .int 2 t2]) := let ⟨o, e, r⟩ := hl; ⟨o, kk _ _ e, r⟩
  refine' enterL (binds := [(Str.ofString "self", .ref x), (Str.ofString "iterable", .ref lc), (Str.ofString "r", .int 2 t)]) [(x, instObj 147 dx), (dx, dictOf [] 0)] ?hled X T ?k6 ?k7 ?k8 ?k9 ?kB ?_ ?c2 ?c3 ?c4 ?c5
  case hled => intro q hq; simp only [List.mem_cons, List.not_mem_nil, or_false] at hq; rcases hq with rfl | rfl <;> assumption
  case k6 => k_is
  case k7 => k_is
  case k8 => k_room
  case k9 => first | exact BindsTo.of_eq rfl | exact binds_K X1 rfl (by k_is) rfl rfl rfl
  case c5 => decide
  case kB => exact locs rfl
  case c2 => exact rfl
  case c3 => exact rfl
  case c4 => exact rfl
  intro g' L' h' hg' hL' F' N' X' T'
  have hL1 : (dx : Nat) < (L' : Nat) := by rw [hL']; exact Heap.lt_size e2
  have hL2 : (x : Nat) < (L' : Nat) := by rw [hL']; exact Heap.lt_size e1
  have hg'' : g' = hideAll h₁ [x, dx] := hg'
  rw [← hg''] at hl1
  k_steps
  rename Fr _ _ _ _ => F1
  rename News _ _ _ _ => N1
  show wpAny _ _ (call (.ref 107) _) _ _ _
  refine' whole ?d1 ?u1 ⟨X'.keeps F1.keep, T'.keeps F1.keep⟩ (by decide) (by decide) fun h2 tk2 k2 => ?_
  case d1 => k_room
  case u1 => k_units
  have F2 := Fr.kept F1 k2
  have N2 := News.kept N1 k2
  clear F1 N1
  k_steps
  rename Fr _ _ _ _ => F3
  rename News _ _ _ _ => N3
  show wpAny _ _ (call (.type "tuple") [.ref lc]) _ _ _
  refine kde_tupleOf F3 N3 (let ⟨o, e, r⟩ := hl1; ⟨o, F3.keep _ _ e, r⟩) (Nat.le_of_ble_eq_true rfl) rfl fun D h4 F4 N4 l4 => ?_
  have dD : (dx : Nat) < (D : Nat) := l4 _ (.tail _ (.head _))
  have xD : (x : Nat) < (D : Nat) := l4 _ (.head _)
  clear F3 N3 l4
  k_steps
  rename Fr _ _ _ _ => F9
  rename News _ _ _ _ => N9
  rename IntsAre _ _ => I9
  refine ⟨rfl, ?_⟩
  refine h _ _ x _ (fun b' o e => F9.keep _ _ ?_) ⟨⟨n1, ?_⟩, dx, D, _, _, _, _, ⟨n2, ?_⟩, (N9 _ (.tail _ (.tail _ (.head _)))).1, (N9 _ (.tail _ (.tail _ (.tail _ (.head _))))).1, (N9 _ (.tail _ (.head _))).1, (N9 _ (.head _)).1, I9, .cons 0 t0 (.cons 1 t1 (.cons 2 t2 .nil))⟩
  · rw [hg'']; exact kk _ _ e
  · refine none_of_keep kk ?_
    rw [← hg'']
    exact (N9 _ (.head _)).2.2
  · refine none_of_keep kk ?_
    rw [← hg'']
    exact (N9 _ (.tail _ (.head _))).2.2
theorem comb_new42 (hdp : dp + 20 < recursionLimit) (hu : un + 200 < cLine) (G : Good w mg mb s.heap) (hl : s.heap.IsList lc (List.toArray [.int 0 t0, .int 1 t1, .int 2 t2, .int 3 t3]))
    (h : ∀ h' tk p ix, Keep s.heap h' → CombSt s.heap h' (4, 2) 0 p ix → Q (.ref p) { s with heap := h', toks := tk }) :
    wpAny (model PP w) (aro dp un fr gd) (call (.ref 147) [.ref lc, .int 2 t]) Q never s := by
  refine wpAny_call (makeL G.X (by k_is) (by k_is) (by k_is) fun x dx h₁ hx hdx hh₁ e1 e2 n1 n2 kk => ?_)
  have X := G.X.keeps kk
  have T := G.T.keeps kk
  have X1 : (K39 w.params).In h₁ := X.keeps fun b o e => of_hideAll _ e
  have hl1 : (hideAll h₁ [x, dx]).IsList lc (List.toArray [.int 0 t0, .int 1 t1, .int 2 t2, .int 3 t3]) := let ⟨o, e, r⟩ := hl; ⟨o, kk _ _ e, r⟩
  refine' enterL (binds := [(Str.ofString "self", .ref x), (Str.ofString "iterable", .ref lc), (Str.ofString "r", .int 2 t)]) [(x, instObj 147 dx), (dx, dictOf [] 0)] ?hled X T ?k6 ?k7 ?k8 ?k9 ?kB ?_ ?c2 ?c3 ?c4 ?c5
  case hled => intro q hq; simp only [List.mem_cons, List.not_mem_nil, or_false] at hq; rcases hq with rfl | rfl <;> assumption
  case k6 => k_is
  case k7 => k_is
  case k8 => k_room
  case k9 => first | exact BindsTo.of_eq rfl | exact binds_K X1 rfl (by k_is) rfl rfl rfl
  case c5 => decide
  case kB => exact locs rfl
  case c2 => exact rfl
  case c3 => exact rfl
  case c4 => exact rfl
  intro g' L' h' hg' hL' F' N' X' T'
  have hL1 : (dx : Nat) < (L' : Nat) := by rw [hL']; exact Heap.lt_size e2
  have hL2 : (x : Nat) < (L' : Nat) := by rw [hL']; exact Heap.lt_size e1
  have hg'' : g' = hideAll h₁ [x, dx] := hg'
  rw [← hg''] at hl1
  k_steps
  rename Fr _ _ _ _ => F1
  rename News _ _ _ _ => N1
  show wpAny _ _ (call (.ref 107) _) _ _ _
  refine' whole ?d1 ?u1 ⟨X'.keeps F1.keep, T'.keeps F1.keep⟩ (by decide) (by decide) fun h2 tk2 k2 => ?_
  case d1 => k_room
  case u1 => k_units
  have F2 := Fr.kept F1 k2
  have N2 := News.kept N1 k2
  clear F1 N1
  k_steps
  rename Fr _ _ _ _ => F3
  rename News _ _ _ _ => N3
  show wpAny _ _ (call (.type "tuple") [.ref lc]) _ _ _
  refine kde_tupleOf F3 N3 (let ⟨o, e, r⟩ := hl1; ⟨o, F3.keep _ _ e, r⟩) (Nat.le_of_ble_eq_true rfl) rfl fun D h4 F4 N4 l4 => ?_
  have dD : (dx : Nat) < (D : Nat) := l4 _ (.tail _ (.head _))
  have xD : (x : Nat) < (D : Nat) := l4 _ (.head _)
  clear F3 N3 l4
  k_steps
  rename Fr _ _ _ _ => F9
  rename News _ _ _ _ => N9
  rename IntsAre _ _ => I9
  refine ⟨rfl, ?_⟩
  refine h _ _ x _ (fun b' o e => F9.keep _ _ ?_) ⟨⟨n1, ?_⟩, dx, D, _, _, _, _, ⟨n2, ?_⟩, (N9 _ (.tail _ (.tail _ (.head _)))).1, (N9 _ (.tail _ (.tail _ (.tail _ (.head _))))).1, (N9 _ (.tail _ (.head _))).1, (N9 _ (.head _)).1, I9, .cons 0 t0 (.cons 1 t1 (.cons 2 t2 (.cons 3 t3 .nil)))⟩
  · rw [hg'']; exact kk _ _ e
  · refine none_of_keep kk ?_
    rw [← hg'']
    exact (N9 _ (.head _)).2.2
  · refine none_of_keep kk ?_
    rw [← hg'']
    exact (N9 _ (.tail _ (.head _))).2.2
theorem comb_new43 (hdp : dp + 20 < recursionLimit) (hu : un + 200 < cLine) (G : Good w mg mb s.heap) (hl : s.heap.IsList lc (List.toArray [.int 0 t0, .int 1 t1, .int 2 t2, .int 3 t3]))
    (h : ∀ h' tk p ix, Keep s.heap h' → CombSt s.heap h' (4, 3) 0 p ix → Q (.ref p) { s with heap := h', toks := tk }) :
    wpAny (model PP w) (aro dp un fr gd) (call (.ref 147) [.ref lc, .int 3 t]) Q never s := by
  refine wpAny_call (makeL G.X (by k_is) (by k_is) (by k_is) fun x dx h₁ hx hdx hh₁ e1 e2 n1 n2 kk => ?_)
  have X := G.X.keeps kk
  have T := G.T.keeps kk
  have X1 : (K39 w.params).In h₁ := X.keeps fun b o e => of_hideAll _ e
  have hl1 : (hideAll h₁ [x, dx]).IsList lc (List.toArray [.int 0 t0, .int 1 t1, .int 2 t2, .int 3 t3]) := let ⟨o, e, r⟩ := hl; ⟨o, kk _ _ e, r⟩
  refine' enterL (binds := [(Str.ofString "self", .ref x), (Str.ofString "iterable", .ref lc), (Str.ofString "r", .int 3 t)]) [(x, instObj 147 dx), (dx, dictOf [] 0)] ?hled X T ?k6 ?k7 ?k8 ?k9 ?kB ?_ ?c2 ?c3 ?c4 ?c5
  case hled => intro q hq; simp only [List.mem_cons, List.not_mem_nil, or_false] at hq; rcases hq with rfl | rfl <;> assumption
  case k6 => k_is
  case k7 => k_is
  case k8 => k_room
  case k9 => first | exact BindsTo.of_eq rfl | exact binds_K X1 rfl (by k_is) rfl rfl rfl
  case c5 => decide
  case kB => exact locs rfl
  case c2 => exact rfl
  case c3 => exact rfl
  case c4 => exact rfl
  intro g' L' h' hg' hL' F' N' X' T'
  have hL1 : (dx : Nat) < (L' : Nat) := by rw [hL']; exact Heap.lt_size e2
  have hL2 : (x : Nat) < (L' : Nat) := by rw [hL']; exact Heap.lt_size e1
  have hg'' : g' = hideAll h₁ [x, dx] := hg'
  rw [← hg''] at hl1
  k_steps
  rename Fr _ _ _ _ => F1
  rename News _ _ _ _ => N1
  show wpAny _ _ (call (.ref 107) _) _ _ _
  refine' whole ?d1 ?u1 ⟨X'.keeps F1.keep, T'.keeps F1.keep⟩ (by decide) (by decide) fun h2 tk2 k2 => ?_
  case d1 => k_room
  case u1 => k_units
  have F2 := Fr.kept F1 k2
  have N2 := News.kept N1 k2
  clear F1 N1
  k_steps
  rename Fr _ _ _ _ => F3
  rename News _ _ _ _ => N3
  show wpAny _ _ (call (.type "tuple") [.ref lc]) _ _ _
  refine kde_tupleOf F3 N3 (let ⟨o, e, r⟩ := hl1; ⟨o, F3.keep _ _ e, r⟩) (Nat.le_of_ble_eq_true rfl) rfl fun D h4 F4 N4 l4 => ?_
  have dD : (dx : Nat) < (D : Nat) := l4 _ (.tail _ (.head _))
  have xD : (x : Nat) < (D : Nat) := l4 _ (.head _)
  clear F3 N3 l4
  k_steps
  rename Fr _ _ _ _ => F9
  rename News _ _ _ _ => N9
  rename IntsAre _ _ => I9
  refine ⟨rfl, ?_⟩
  refine h _ _ x _ (fun b' o e => F9.keep _ _ ?_) ⟨⟨n1, ?_⟩, dx, D, _, _, _, _, ⟨n2, ?_⟩, (N9 _ (.tail _ (.tail _ (.head _)))).1, (N9 _ (.tail _ (.tail _ (.tail _ (.head _))))).1, (N9 _ (.tail _ (.head _))).1, (N9 _ (.head _)).1, I9, .cons 0 t0 (.cons 1 t1 (.cons 2 t2 (.cons 3 t3 .nil)))⟩
  · rw [hg'']; exact kk _ _ e
  · refine none_of_keep kk ?_
    rw [← hg'']
    exact (N9 _ (.head _)).2.2
  · refine none_of_keep kk ?_
    rw [← hg'']
    exact (N9 _ (.tail _ (.head _))).2.2
end

end
section
local macro_rules | `(tactic| walk_at "call type:tuple") => `(tactic| refine stopHere ?_)
local macro_rules | `(tactic| walk_at "subscriptTail Name Subscript ref int") => `(tactic| refine stopHere ?_)
theorem candsInts {N : Nat} (hN : N = 3 ∨ N = 4) {k : Int} (h0 : 0 ≤ k) (h1 : k < N) : ((List.range N).map fun (i : Nat) => (i : Int)).getD k.toNat 0 = k := by
  obtain ⟨j, rfl⟩ := Int.eq_ofNat_of_zero_le h0
  have hj : j < N := by omega
  rw [Int.toNat_natCast, List.getD_eq_getElem?_getD, List.getElem?_map, List.getElem?_range hj]
  rfl
theorem candsLay {N : Nat} (hN : N = 3 ∨ N = 4) : PyData.layable0 (.tuple (((List.range N).map fun (i : Nat) => (i : Int)).map .int)) = true := by
  rcases hN with rfl | rfl <;> decide +kernel
section
variable {dp un : Nat} {fr : Option (List Env)} {gd : Option (List Code)} {s : Shared} {Q : Value → Shared → Prop} {D ix : Addr} {t ta tb tc : Tok} {a b c : Int} {vs ys : List Value} {e N : Nat}
theorem picked2 (hdp : dp + 14 < recursionLimit) (hu : un + 200 < cLine) (G : Good w mg mb s.heap) (hN : N = 3 ∨ N = 4) (hD : s.heap.get? D = some (tupOf vs)) (hI : IntsAre vs ((List.range N).map fun (i : Nat) => (i : Int)))
    (hi : s.heap.get? ix = some (W.listOf (List.toArray ys) e)) (hy : IntsAre ys [a, b]) (a0 : 0 ≤ a) (a4 : a < N) (b0 : 0 ≤ b) (b4 : b < N)
    (h : ∀ h' tk T ua ub, s.heap.get? T = none → Keep s.heap h' → h'.get? T = some (tupOf [.int a ua, .int b ub]) → Q (.ref T) { s with heap := h', toks := tk }) :
    wpAny (model PP w) (aro dp un fr gd) (call (.ref 114) [.ref D, .ref ix, .int 2 t]) Q never s := by
  have X := G.X
  have T := G.T
  have hil : s.heap.IsList ix (List.toArray ys) := ⟨_, hi, rfl, _, rfl⟩
  have hDt : IsTup s.heap D vs.toArray := ⟨_, hD, rfl, _, rfl⟩
  have hl : ((List.range N).map fun (i : Nat) => (i : Int)).length = N := by simp
  refine wpAny_call ?_
  refine' enterL (binds := [(Str.ofString "pool", .ref D), (Str.ofString "indices", .ref ix), (Str.ofString "r", .int 2 t)]) [] (List.forall_mem_nil _) X T ?k6 ?k7 ?k8 ?k9 ?kB ?_ ?c2 ?c3 ?c4 ?c5
  walk_at "m_cases"
  intro g' L' h' hg' hL' F' N' X' T'
  obtain rfl : g' = s.heap := hg'
  k_steps
  rename Fr _ _ _ _ => Fa
  refine item_tuple_intsL (k := a) (hDt.keeps Fa.keep) hI (candsLay hN) a0 (by rw [hl]; exact a4) (fun ua => ?_) (by with_unfolding_all rfl) (fun _ => by with_unfolding_all rfl)
  rw [candsInts hN a0 a4]
  k_steps
  rename Fr _ _ _ _ => Fb
  refine item_tuple_intsL (k := b) (hDt.keeps Fb.keep) hI (candsLay hN) b0 (by rw [hl]; exact b4) (fun ub => ?_) (by with_unfolding_all rfl) (fun _ => by with_unfolding_all rfl)
  rw [candsInts hN b0 b4]
  k_steps
  rename Fr _ _ _ _ => F5
  rename News _ _ _ _ => N5
  show wpAny _ _ (call (.type "tuple") _) _ _ _
  refine kde_tupleOf F5 N5 ⟨_, (N5 _ (.head _)).1, rfl, _, rfl⟩ (Nat.le_of_ble_eq_true rfl) rfl fun D' h6 F6 N6 l6 => ?_
  exact h _ _ _ _ _ (N6 _ (.head _)).2.2 F6.keep (N6 _ (.head _)).1
theorem picked3 (hdp : dp + 14 < recursionLimit) (hu : un + 200 < cLine) (G : Good w mg mb s.heap) (hN : N = 3 ∨ N = 4) (hD : s.heap.get? D = some (tupOf vs)) (hI : IntsAre vs ((List.range N).map fun (i : Nat) => (i : Int)))
    (hi : s.heap.get? ix = some (W.listOf (List.toArray ys) e)) (hy : IntsAre ys [a, b, c]) (a0 : 0 ≤ a) (a4 : a < N) (b0 : 0 ≤ b) (b4 : b < N) (c0 : 0 ≤ c) (c4 : c < N)
    (h : ∀ h' tk T ua ub uc, s.heap.get? T = none → Keep s.heap h' → h'.get? T = some (tupOf [.int a ua, .int b ub, .int c uc]) → Q (.ref T) { s with heap := h', toks := tk }) :
    wpAny (model PP w) (aro dp un fr gd) (call (.ref 114) [.ref D, .ref ix, .int 3 t]) Q never s := by
  have X := G.X
  have T := G.T
  have hil : s.heap.IsList ix (List.toArray ys) := ⟨_, hi, rfl, _, rfl⟩
  have hDt : IsTup s.heap D vs.toArray := ⟨_, hD, rfl, _, rfl⟩
  have hl : ((List.range N).map fun (i : Nat) => (i : Int)).length = N := by simp
  refine wpAny_call ?_
  refine' enterL (binds := [(Str.ofString "pool", .ref D), (Str.ofString "indices", .ref ix), (Str.ofString "r", .int 3 t)]) [] (List.forall_mem_nil _) X T ?k6 ?k7 ?k8 ?k9 ?kB ?_ ?c2 ?c3 ?c4 ?c5
  walk_at "m_cases"
  intro g' L' h' hg' hL' F' N' X' T'
  obtain rfl : g' = s.heap := hg'
  k_steps
  rename Fr _ _ _ _ => Fa
  refine item_tuple_intsL (k := a) (hDt.keeps Fa.keep) hI (candsLay hN) a0 (by rw [hl]; exact a4) (fun ua => ?_) (by with_unfolding_all rfl) (fun _ => by with_unfolding_all rfl)
  rw [candsInts hN a0 a4]
  k_steps
  rename Fr _ _ _ _ => Fb
  refine item_tuple_intsL (k := b) (hDt.keeps Fb.keep) hI (candsLay hN) b0 (by rw [hl]; exact b4) (fun ub => ?_) (by with_unfolding_all rfl) (fun _ => by with_unfolding_all rfl)
  rw [candsInts hN b0 b4]
  k_steps
  rename Fr _ _ _ _ => Fc
  refine item_tuple_intsL (k := c) (hDt.keeps Fc.keep) hI (candsLay hN) c0 (by rw [hl]; exact c4) (fun uc => ?_) (by with_unfolding_all rfl) (fun _ => by with_unfolding_all rfl)
  rw [candsInts hN c0 c4]
  k_steps
  rename Fr _ _ _ _ => F5
  rename News _ _ _ _ => N5
  show wpAny _ _ (call (.type "tuple") _) _ _ _
  refine kde_tupleOf F5 N5 ⟨_, (N5 _ (.head _)).1, rfl, _, rfl⟩ (Nat.le_of_ble_eq_true rfl) rfl fun D' h6 F6 N6 l6 => ?_
  exact h _ _ _ _ _ _ (N6 _ (.head _)).2.2 F6.keep (N6 _ (.head _)).1
end

end
section
local macro_rules | `(tactic| walk_at "call ref") => `(tactic| ((with_reducible show wpAny _ _ (call (Value.ref 114) _ _) _ _ _); refine stopHere ?_))
local macro_rules | `(tactic| walk_at "call builtin:len") => `(tactic| refine stopHere ?_)
local macro_rules | `(tactic| walk_at "exec While") => `(tactic| (refine whl_start 100 ?_))
local macro_rules | `(tactic| walk_at "exec While BoolOp") => `(tactic| (refine whl_start 100 ?_))
local macro_rules | `(tactic| walk_at "WhlIf") => `(tactic| (first | (refine WhlIf.yes (decide_eq_true (by omega)) ?_) | (refine WhlIf.no (decide_eq_false (by omega)) ?_) | (refine WhlIf.yes (by with_unfolding_all rfl) ?_) | (refine WhlIf.no (by with_unfolding_all rfl) ?_)))
local macro_rules | `(tactic| walk_at "setItem ref int") => `(tactic| refine stopHere ?_)
theorem len_tup {A : Around} {E : Value → Shared → Prop} {s : Shared} {Q : Value → Shared → Prop} {D : Addr} {vs : List Value} {N : Nat} (hD : IsTup s.heap D vs.toArray) (hN : vs.length = N) (h4 : N ≤ 4) (h : ∀ t tk, Q (.int (N : Nat) t) { s with toks := tk }) :
    wpAny (model PP w) A (call (.builtin "len") [.ref D]) Q E s := by
  obtain ⟨o, ho, hc, n, hd⟩ := hD
  have hsz : vs.toArray.size = N := by simpa using hN
  have hf : ((vs.toArray.size : Nat) : Int) < 2 ^ 63 := by rw [hsz]; exact Int.lt_of_le_of_lt (Int.ofNat_le.mpr h4) (by decide)
  refine PySem.Calls.call_function_entry kind_len plain_len entry_len (args_len1 _) (len_entry_tuple (items := vs.toArray) ⟨o, ho, hc, n, hd⟩ hf ?_)
  rw [hsz]
  exact h _ _
section
variable {prog : Program} {w : World} {A : Around} {s : Shared} {K : Frag} {mg mb : Str → Option Value} {p : Program} {loose : List Str}
/-- enterL where the body may raise -/
theorem enterE {R : Result → Shared → Prop} {name qual : Str} {params : Arguments} {body : List Stmt} {scope : Scope} {dV kV doc pm cdv ct oc : Value} {an od : Option Addr} {osl : Array (Option Value)} {f : Addr} {args : Args} {binds : List (Str × Value)}
    (led : List (Addr × Obj)) (hled : ∀ q ∈ led, s.heap.get? q.1 = some q.2)
    (X : K.In (hideAll s.heap (led.map (·.1)))) (T : TopRead p loose mg mb (hideAll s.heap (led.map (·.1))))
    (ho : K.lookup f = some ⟨oc, od, .func (fnOf name qual params body scope dV kV doc pm an cdv ct), osl⟩) (hcd : codeIn K cdv qual = true) (hroom : A.depth < recursionLimit)
    (hbind : BindsTo s (fnOf name qual params body scope dV kV doc pm an cdv ct) args binds) (hloc : ∀ y ∈ binds, scope.names.lookup y.1 = some .local)
    (h : ∀ g L' h₁, g = hideAll s.heap (led.map (·.1)) → L' = s.heap.objs.size → Keep s.heap h₁ → Fr g L' h₁ (fun y => binds.reverse.lookup y) → News g L' h₁ led → K.In g → TopRead p loose mg mb g →
      wpAny (model prog w) (A.deeper (envOf qual scope L' f cdv)) (execs body (envOf qual scope L' f cdv))
        (fun fl s' => R (.ok (.ret (match fl with | .ret v => v | _ => .none))) s')
        (fun e s' => wpAny (model prog w) (A.deeper (envOf qual scope L' f cdv)) (leaving (envOf qual scope L' f cdv) e) (fun _ s'' => R (.error e) s'') (fun e' s'' => R (.error e') s'') s') { s with heap := h₁, toks := s.toks + binds.length })
    (hco : scope.isCoroutine = false) (hgen : scope.isGenerator = false) (hk : scope.kind = .function)
    (hcell : ∀ x ∈ scope.names, x.2 ≠ .cell) : codeAny (model prog w) A (.call (.ref f) args) R s := by
  have k : Keep (hideAll s.heap (led.map (·.1))) s.heap := fun b o e => of_hideAll _ e
  refine codeAny_call_def (fd := fnOf name qual params body scope dV kV doc pm an cdv ct) (body := body) (binds := binds) hroom (k _ _ (X _ _ ho)) rfl (T.nolimit.keeps k) (codeRec_of (X.keeps k) hcd) rfl hbind hcell hloc (fun h₁ hns hk₁ => ?_) hco hgen hk
  exact h _ s.heap.objs.size h₁ rfl rfl hk₁ ⟨hns, fun b o e => hk₁ b o (k _ _ e), Nat.le_of_eq (hideAll_size _ _)⟩ (fun q hq => ⟨hk₁ _ _ (hled q hq), Nat.ne_of_lt (Heap.lt_size (hled q hq)), hideAll_none _ (List.mem_map_of_mem hq)⟩) X T
/-- a raise leaves its frame: all but the frames' objects stands as it stood -/
theorem leaves {M : Model} {E : Value → Shared → Prop} {h0 h : Heap} {L a e : Addr} {m : Str → Option Value} {name : Str} {scope : Scope} {cd : Value} {outer : List Env} {base : Heap} {X : String} {vs : List Value} {Q : Unit → Shared → Prop}
    (hfr : A.frames = some outer) (F : Fr h0 L h m) (hL : base.get? L = none) (hF : h.FunFrames base outer) (hx : Heap.MadeExcOf h s.heap e (.type X) vs) (hk : scope.kind = .function)
    (hQ : ∀ h', (∀ b o, b ∉ L :: outer.filterMap (·.frame) → h.get? b = some o → h'.get? b = some o) → h.UpToSlots h' → (∃ ob, h'.get? e = some ob ∧ ob.cls = .type X) → Q () { s with heap := h' }) :
    wpAny M (A.deeper (envOf name scope L a cd)) (leaving (envOf name scope L a cd) (.ref e)) Q E s := by
  have hFF : h.FunFrames base (envOf name scope L a cd :: outer) := .cons (by show scope.kind ≠ .module; rw [hk]; decide) rfl F.ns hL hF
  have hin : ∀ env ∈ (envOf name scope L a cd :: outer), ∀ b, env.frame = some b → b ∈ (envOf name scope L a cd :: outer).filterMap (·.frame) := fun env he b hb => List.mem_filterMap.mpr ⟨env, he, hb⟩
  refine wpAny_leaves_madeW (Around.frames_deeper hfr) rfl (fun b o q => of_hideAll _ q) (funFrames_hide hFF hin) hx fun h' t x1 x2 x3 x4 => ?_
  refine hQ h' (fun b o hb e => x1.1 _ _ (hideAll_get _ e hb)) ((Heap.UpToSlots.of_keeps hx.keeps).trans x4) x1.there
end
theorem ints_of_eq {vs : List Value} {a b : List Int} (h : IntsAre vs a) (e : a = b) : IntsAre vs b := e ▸ h
theorem wpAny_never {α : Type} {M : Model} {A : Around} {t : Sem α} {Q : α → Shared → Prop} {E : Value → Shared → Prop} {s : Shared} (h : wpAny M A t Q (fun _ _ => False) s) : wpAny M A t Q E s := wpAny_mono h (fun _ _ x => x) fun _ _ x => x.elim
theorem keep_off {h h' : Heap} {p dx ix : Addr} {od : Obj} (hdx : h.get? dx = some od) (hdx' : h'.get? dx = some od) (k : ∀ b o, b ∉ [p, dx, ix] → h.get? b = some o → h'.get? b = some o) : ∀ b o, b ∉ [p, ix] → h.get? b = some o → h'.get? b = some o := fun b o hb e => by
  by_cases q : b = dx
  · rw [q] at e ⊢; rw [hdx] at e; rw [hdx', e]
  · refine k b o ?_ e
    simp only [List.mem_cons, List.not_mem_nil, or_false, not_or] at hb ⊢
    exact ⟨hb.1, q, hb.2⟩
abbrev noHeap : Heap := { objs := #[] }
theorem noHeap_none {b : Addr} : noHeap.get? b = none := Heap.get?_none_of_le (Nat.zero_le _)
section
variable {dp un : Nat} {outer : List Env} {gd : Option (List Code)} {s : Shared} {Q : Value → Shared → Prop} {p ix D dx : Addr} {t ta tb tc tr : Tok} {a b c : Int} {vs ys : List Value} {e N : Nat} 
theorem next2f (hdp : dp + 18 < recursionLimit) (hu : un + 400 < cLine) (hN : N = 3 ∨ N = 4) (G : Good w mg mb (hideAll s.heap [p, dx, ix])) (hp : s.heap.get? p = some (cmbO dx ix D true 2 tr false)) (hi : s.heap.get? ix = some (W.listOf (List.toArray ys) e)) (hy : IntsAre ys [a, b])
    (hdx : s.heap.get? dx = some (dictOf [] 0)) (hD : s.heap.get? D = some (tupOf vs)) (hI : IntsAre vs ((List.range N).map fun (i : Nat) => (i : Int))) (a0 : 0 ≤ a) (a4 : a < N) (b0 : 0 ≤ b) (b4 : b < N) (ab : a < b) {fr : Option (List Env)}
    (h : ∀ h' tk T e' ua ub ys', s.heap.get? T = none → (∀ b o, b ∉ [p, dx, ix] → s.heap.get? b = some o → h'.get? b = some o) → h'.get? p = some (cmbO dx ix D false 2 tr false) → h'.get? dx = some (dictOf [] 0) → h'.get? ix = some (W.listOf (List.toArray ys') e') → IntsAre ys' [a, b] → h'.get? T = some (tupOf [.int (a) ua, .int (b) ub]) → Q (.ref T) { s with heap := h', toks := tk }) :
    wpAny (model PP w) (aro dp un fr gd) (call (.ref 143) [.ref p]) Q never s := by
  have X := G.X
  have T := G.T
  have ip : ix ≠ p := by intro q; rw [q, hp] at hi; cases hi
  have ipN : (ix : Nat) ≠ (p : Nat) := ip
  have dpN : (dx : Nat) ≠ (p : Nat) := by intro q; have q : dx = p := q; rw [q, hp] at hdx; cases hdx
  have id' : ix ≠ dx := by intro q; rw [q, hdx] at hi; have := congrArg Obj.cls (Option.some.inj hi); simp at this
  have idN : (ix : Nat) ≠ (dx : Nat) := id'
  have Dp : D ≠ p := by intro q; rw [q, hp] at hD; cases hD
  have Dd : D ≠ dx := by intro q; rw [q, hdx] at hD; have := congrArg Obj.cls (Option.some.inj hD); simp at this
  have Di : D ≠ ix := by intro q; rw [q, hi] at hD; have := congrArg Obj.cls (Option.some.inj hD); simp at this
  have hDb : (hideAll s.heap [p, dx, ix]).get? D = some (tupOf vs) := hideAll_get _ hD (by simp [Dp, Dd, Di])
  have hDt : IsTup (hideAll s.heap [p, dx, ix]) D vs.toArray := ⟨_, hDb, rfl, _, rfl⟩
  have hvl : vs.length = N := by have := hI.length; simpa using this
  have hN4 : N ≤ 4 := by omega
  refine wpAny_call ?_
  refine' enterL (binds := [(Str.ofString "self", .ref p)]) [(p, cmbO dx ix D true 2 tr false), (dx, dictOf [] 0), (ix, W.listOf (List.toArray ys) e)] ?hled X T ?k6 ?k7 ?k8 ?k9 ?kB ?_ ?c2 ?c3 ?c4 ?c5
  case hled => intro q hq; simp only [List.mem_cons, List.not_mem_nil, or_false] at hq; rcases hq with rfl | rfl | rfl <;> assumption
  walk_at "m_cases"
  intro g' L' h' hg' hL' F' N' X' T'
  obtain rfl : g' = hideAll s.heap [p, dx, ix] := hg'
  k_steps
  rename Fr _ _ _ _ => F1
  refine len_tup (hDt.keeps F1.keep) hvl hN4 fun tl tkl => ?_
  k_steps
  rename Fr _ _ _ _ => F2
  rename News _ _ _ _ => N2
  show wpAny _ _ (call (.ref 114) _) _ _ _
  refine wpAny_never ?_
  refine' picked2 (a := a) (b := b) ?d1 ?u1 ?gg hN ?dd hI ?ixe ?ii ?al ?ar ?bl ?br fun h3 tk3 T3 ua ub zT k3 eT => ?_
  case gg => exact ⟨X'.keeps F2.keep, T'.keeps F2.keep⟩
  case dd => exact F2.keep _ _ hDb
  case al => omega
  case ar => omega
  case bl => omega
  case br => omega
  case ii => exact hy
  case ixe => exact (N2 (ix, _) (.tail _ (.tail _ (.head _)))).1
  case d1 => k_room
  case u1 => k_units
  have zT' : s.heap.get? T3 = none := by
    cases q : s.heap.get? T3 with
    | none => rfl
    | some o =>
      by_cases hm : T3 ∈ [p, dx, ix]
      · exfalso
        simp only [List.mem_cons, List.not_mem_nil, or_false] at hm
        rcases hm with rfl | rfl | rfl
        · have := (N2 _ (.head _)).1; rw [zT] at this; cases this
        · have := (N2 _ (.tail _ (.head _))).1; rw [zT] at this; cases this
        · have := (N2 _ (.tail _ (.tail _ (.head _)))).1; rw [zT] at this; cases this
      · rw [F2.keep _ _ (hideAll_get _ q hm)] at zT; cases zT
  exact h h3 tk3 T3 _ ua ub _ zT' (fun b o hb e => k3 _ _ (F2.keep _ _ (hideAll_get _ e hb))) (k3 _ _ (N2 _ (.head _)).1) (k3 _ _ (N2 _ (.tail _ (.head _))).1) (k3 _ _ (N2 _ (.tail _ (.tail _ (.head _)))).1) hy eT
theorem next3f (hdp : dp + 18 < recursionLimit) (hu : un + 400 < cLine) (hN : N = 3 ∨ N = 4) (G : Good w mg mb (hideAll s.heap [p, dx, ix])) (hp : s.heap.get? p = some (cmbO dx ix D true 3 tr false)) (hi : s.heap.get? ix = some (W.listOf (List.toArray ys) e)) (hy : IntsAre ys [a, b, c])
    (hdx : s.heap.get? dx = some (dictOf [] 0)) (hD : s.heap.get? D = some (tupOf vs)) (hI : IntsAre vs ((List.range N).map fun (i : Nat) => (i : Int))) (a0 : 0 ≤ a) (a4 : a < N) (b0 : 0 ≤ b) (b4 : b < N) (c0 : 0 ≤ c) (c4 : c < N) (ab : a < b) (bc : b < c) {fr : Option (List Env)}
    (h : ∀ h' tk T e' ua ub uc ys', s.heap.get? T = none → (∀ b o, b ∉ [p, dx, ix] → s.heap.get? b = some o → h'.get? b = some o) → h'.get? p = some (cmbO dx ix D false 3 tr false) → h'.get? dx = some (dictOf [] 0) → h'.get? ix = some (W.listOf (List.toArray ys') e') → IntsAre ys' [a, b, c] → h'.get? T = some (tupOf [.int (a) ua, .int (b) ub, .int (c) uc]) → Q (.ref T) { s with heap := h', toks := tk }) :
    wpAny (model PP w) (aro dp un fr gd) (call (.ref 143) [.ref p]) Q never s := by
  have X := G.X
  have T := G.T
  have ip : ix ≠ p := by intro q; rw [q, hp] at hi; cases hi
  have ipN : (ix : Nat) ≠ (p : Nat) := ip
  have dpN : (dx : Nat) ≠ (p : Nat) := by intro q; have q : dx = p := q; rw [q, hp] at hdx; cases hdx
  have id' : ix ≠ dx := by intro q; rw [q, hdx] at hi; have := congrArg Obj.cls (Option.some.inj hi); simp at this
  have idN : (ix : Nat) ≠ (dx : Nat) := id'
  have Dp : D ≠ p := by intro q; rw [q, hp] at hD; cases hD
  have Dd : D ≠ dx := by intro q; rw [q, hdx] at hD; have := congrArg Obj.cls (Option.some.inj hD); simp at this
  have Di : D ≠ ix := by intro q; rw [q, hi] at hD; have := congrArg Obj.cls (Option.some.inj hD); simp at this
  have hDb : (hideAll s.heap [p, dx, ix]).get? D = some (tupOf vs) := hideAll_get _ hD (by simp [Dp, Dd, Di])
  have hDt : IsTup (hideAll s.heap [p, dx, ix]) D vs.toArray := ⟨_, hDb, rfl, _, rfl⟩
  have hvl : vs.length = N := by have := hI.length; simpa using this
  have hN4 : N ≤ 4 := by omega
  refine wpAny_call ?_
  refine' enterL (binds := [(Str.ofString "self", .ref p)]) [(p, cmbO dx ix D true 3 tr false), (dx, dictOf [] 0), (ix, W.listOf (List.toArray ys) e)] ?hled X T ?k6 ?k7 ?k8 ?k9 ?kB ?_ ?c2 ?c3 ?c4 ?c5
  case hled => intro q hq; simp only [List.mem_cons, List.not_mem_nil, or_false] at hq; rcases hq with rfl | rfl | rfl <;> assumption
  walk_at "m_cases"
  intro g' L' h' hg' hL' F' N' X' T'
  obtain rfl : g' = hideAll s.heap [p, dx, ix] := hg'
  k_steps
  rename Fr _ _ _ _ => F1
  refine len_tup (hDt.keeps F1.keep) hvl hN4 fun tl tkl => ?_
  k_steps
  rename Fr _ _ _ _ => F2
  rename News _ _ _ _ => N2
  show wpAny _ _ (call (.ref 114) _) _ _ _
  refine wpAny_never ?_
  refine' picked3 (a := a) (b := b) (c := c) ?d1 ?u1 ?gg hN ?dd hI ?ixe ?ii ?al ?ar ?bl ?br ?cl ?cr fun h3 tk3 T3 ua ub uc zT k3 eT => ?_
  case gg => exact ⟨X'.keeps F2.keep, T'.keeps F2.keep⟩
  case dd => exact F2.keep _ _ hDb
  case al => omega
  case ar => omega
  case bl => omega
  case br => omega
  case cl => omega
  case cr => omega
  case ii => exact hy
  case ixe => exact (N2 (ix, _) (.tail _ (.tail _ (.head _)))).1
  case d1 => k_room
  case u1 => k_units
  have zT' : s.heap.get? T3 = none := by
    cases q : s.heap.get? T3 with
    | none => rfl
    | some o =>
      by_cases hm : T3 ∈ [p, dx, ix]
      · exfalso
        simp only [List.mem_cons, List.not_mem_nil, or_false] at hm
        rcases hm with rfl | rfl | rfl
        · have := (N2 _ (.head _)).1; rw [zT] at this; cases this
        · have := (N2 _ (.tail _ (.head _))).1; rw [zT] at this; cases this
        · have := (N2 _ (.tail _ (.tail _ (.head _)))).1; rw [zT] at this; cases this
      · rw [F2.keep _ _ (hideAll_get _ q hm)] at zT; cases zT
  exact h h3 tk3 T3 _ ua ub uc _ zT' (fun b o hb e => k3 _ _ (F2.keep _ _ (hideAll_get _ e hb))) (k3 _ _ (N2 _ (.head _)).1) (k3 _ _ (N2 _ (.tail _ (.head _))).1) (k3 _ _ (N2 _ (.tail _ (.tail _ (.head _)))).1) hy eT
theorem next2 {R : Result → Shared → Prop} (hFF : s.heap.FunFrames noHeap outer) (hdp : dp + 18 < recursionLimit) (hu : un + 400 < cLine) (hN : N = 3 ∨ N = 4) (G : Good w mg mb (hideAll s.heap [p, dx, ix])) (hp : s.heap.get? p = some (cmbO dx ix D false 2 tr false)) (hi : s.heap.get? ix = some (W.listOf (List.toArray ys) e)) (hy : IntsAre ys [a, b])
    (hdx : s.heap.get? dx = some (dictOf [] 0)) (hD : s.heap.get? D = some (tupOf vs)) (hI : IntsAre vs ((List.range N).map fun (i : Nat) => (i : Int))) (a0 : 0 ≤ a) (a4 : a < N) (b0 : 0 ≤ b) (b4 : b < N) (ab : a < b)
    (h1 : b < N - 1 → ∀ h' tk T e' ua ub ys', s.heap.get? T = none → (∀ b o, b ∉ [p, dx, ix] → s.heap.get? b = some o → h'.get? b = some o) → h'.get? p = some (cmbO dx ix D false 2 tr false) → h'.get? dx = some (dictOf [] 0) → h'.get? ix = some (W.listOf (List.toArray ys') e') → IntsAre ys' [a, b + 1] → h'.get? T = some (tupOf [.int (a) ua, .int (b + 1) ub]) → R (.ok (.ret (.ref T))) { s with heap := h', toks := tk })
    (h0 : b = N - 1 → a < N - 2 → ∀ h' tk T e' ua ub ys', s.heap.get? T = none → (∀ b o, b ∉ [p, dx, ix] → s.heap.get? b = some o → h'.get? b = some o) → h'.get? p = some (cmbO dx ix D false 2 tr false) → h'.get? dx = some (dictOf [] 0) → h'.get? ix = some (W.listOf (List.toArray ys') e') → IntsAre ys' [a + 1, a + 2] → h'.get? T = some (tupOf [.int (a + 1) ua, .int (a + 2) ub]) → R (.ok (.ret (.ref T))) { s with heap := h', toks := tk })
    (hs : b = N - 1 → a = N - 2 → ∀ h' tk e, (∀ b o, b ∉ [p, ix] → b ∉ outer.filterMap (·.frame) → s.heap.get? b = some o → h'.get? b = some o) → (∀ b o, b ∉ [p, ix] → s.heap.get? b = some o → (∀ vs, o.data ≠ .fields vs) → ∃ sl, h'.get? b = some { o with slots := sl }) → (∃ ob, h'.get? e = some ob ∧ ob.cls = .type "StopIteration") → R (.error (.ref e)) { s with heap := h', toks := tk }) :
    codeAny (model PP w) (aro dp un (some outer) gd) (.call (.ref 143) ⟨[.ref p], []⟩) R s := by
  have X := G.X
  have T := G.T
  have ip : ix ≠ p := by intro q; rw [q, hp] at hi; cases hi
  have ipN : (ix : Nat) ≠ (p : Nat) := ip
  have dpN : (dx : Nat) ≠ (p : Nat) := by intro q; have q : dx = p := q; rw [q, hp] at hdx; cases hdx
  have id' : ix ≠ dx := by intro q; rw [q, hdx] at hi; have := congrArg Obj.cls (Option.some.inj hi); simp at this
  have idN : (ix : Nat) ≠ (dx : Nat) := id'
  have Dp : D ≠ p := by intro q; rw [q, hp] at hD; cases hD
  have Dd : D ≠ dx := by intro q; rw [q, hdx] at hD; have := congrArg Obj.cls (Option.some.inj hD); simp at this
  have Di : D ≠ ix := by intro q; rw [q, hi] at hD; have := congrArg Obj.cls (Option.some.inj hD); simp at this
  have hDb : (hideAll s.heap [p, dx, ix]).get? D = some (tupOf vs) := hideAll_get _ hD (by simp [Dp, Dd, Di])
  have hDt : IsTup (hideAll s.heap [p, dx, ix]) D vs.toArray := ⟨_, hDb, rfl, _, rfl⟩
  have hvl : vs.length = N := by have := hI.length; simpa using this
  have hN4 : N ≤ 4 := by omega
  refine' enterE (binds := [(Str.ofString "self", .ref p)]) [(p, cmbO dx ix D false 2 tr false), (dx, dictOf [] 0), (ix, W.listOf (List.toArray ys) e)] ?hled X T ?k6 ?k7 ?k8 ?k9 ?kB ?_ ?c2 ?c3 ?c4 ?c5
  case hled => intro q hq; simp only [List.mem_cons, List.not_mem_nil, or_false] at hq; rcases hq with rfl | rfl | rfl <;> assumption
  walk_at "m_cases"
  intro g' L' h' hg' hL' k' F' N' X' T'
  obtain rfl : g' = hideAll s.heap [p, dx, ix] := hg'
  have hL' : L' = s.heap.objs.size := hL'
  k_steps
  rename Fr _ _ _ _ => F1
  refine len_tup (hDt.keeps F1.keep) hvl hN4 fun tl tkl => ?_
  k_steps
  · have q1 : b = (2 - 1) + N - 2 := by assumption
    have q0 : a = (2 - 1 - 1) + N - 2 := by assumption
    rename Heap.MadeExc _ _ _ _ _ => M
    rename Fr _ _ _ _ => F3
    rename News _ _ _ _ => N3
    have kk0 : ∀ b o, b ∉ [p, dx, ix] → s.heap.get? b = some o → _ := fun b o hb e => F3.keep _ _ (hideAll_get _ e hb)
    have kk := keep_off hdx (N3 _ (.tail _ (.head _))).1 kk0
    refine leaves (base := noHeap) rfl F3 noHeap_none ?_ (X := "StopIteration") (vs := []) ⟨M.keeps, M.new, M.there⟩ rfl fun h9 k9 u9 e9 => ?_
    · refine Heap.FunFrames.of_keeps (fun b o eb _ => ?_) hFF
      by_cases hm : b ∈ [p, dx, ix]
      · simp only [List.mem_cons, List.not_mem_nil, or_false] at hm
        rcases hm with rfl | rfl | rfl
        · exact ⟨_, (N3 _ (.head _)).1, by rw [hp] at eb; cases eb; rfl⟩
        · exact ⟨_, (N3 _ (.tail _ (.head _))).1, by rw [hdx] at eb; cases eb; rfl⟩
        · exact ⟨_, (N3 _ (.tail _ (.tail _ (.head _)))).1, by rw [hi] at eb; cases eb; rfl⟩
      · exact ⟨o, kk0 b o hm eb, rfl⟩
    · refine hs (by omega) (by omega) h9 _ _ (fun b o hb hf eb => k9 _ _ ?_ (kk b o hb eb)) (fun b o hb eb hn => u9 _ _ (kk b o hb eb) hn) e9
      rw [List.mem_cons]
      rintro (z | z)
      · rw [z, hL'] at eb; exact absurd (Heap.lt_size eb) (Nat.lt_irrefl _)
      · exact hf z
  · have q1 : b = (2 - 1) + N - 2 := by assumption
    have q0 : a ≠ (2 - 1 - 1) + N - 2 := by assumption
    rename Fr _ _ _ _ => F3
    rename News _ _ _ _ => N3
    refine ksa_set F3 N3 (.tail (Ne.symm ip) (.tail (Ne.symm id') (.head fun _ h => nomatch h))) hy (by decide) (by simp only [List.length_cons, List.length_nil]; omega) (by decide) fun h5 F5 N5 i5 l5 s5 => ?_
    have i6 : IntsAre _ [a + 1, b] := i5
    clear F3 N3 i5 l5 s5
    k_steps
    rename Fr _ _ _ _ => F3
    rename News _ _ _ _ => N3
    refine ksa_set F3 N3 (.tail (Ne.symm ip) (.tail (Ne.symm id') (.head fun _ h => nomatch h))) i6 (by decide) (by simp only [List.length_set, List.length_cons, List.length_nil]; omega) (by decide) fun h5 F5 N5 i5 l5 s5 => ?_
    have j1 := ints_of_eq i5 (show _ = [a + 1, a + 2] from by show [a + 1, a + 1 + 1] = _; rw [Int.add_assoc a]; rfl)
    clear F3 N3 i5 l5 s5
    k_steps
    rename Fr _ _ _ _ => F2
    rename News _ _ _ _ => N2
    show wpAny _ _ (call (.ref 114) _) _ _ _
    refine wpAny_never ?_
    refine' picked2 (a := a + 1) (b := a + 2) ?d1 ?u1 ?gg hN ?dd hI ?ixe ?ii ?al ?ar ?bl ?br fun h3 tk3 T3 ua ub zT k3 eT => ?_
    case gg => exact ⟨X'.keeps F2.keep, T'.keeps F2.keep⟩
    case dd => exact F2.keep _ _ hDb
    case al => omega
    case ar => omega
    case bl => omega
    case br => omega
    case ii => exact j1
    case ixe => exact (N2 (ix, _) (.tail _ (.tail _ (.head _)))).1
    case d1 => k_room
    case u1 => k_units
    have zT' : s.heap.get? T3 = none := by
      cases q : s.heap.get? T3 with
      | none => rfl
      | some o =>
        by_cases hm : T3 ∈ [p, dx, ix]
        · exfalso
          simp only [List.mem_cons, List.not_mem_nil, or_false] at hm
          rcases hm with rfl | rfl | rfl
          · have := (N2 _ (.head _)).1; rw [zT] at this; cases this
          · have := (N2 _ (.tail _ (.head _))).1; rw [zT] at this; cases this
          · have := (N2 _ (.tail _ (.tail _ (.head _)))).1; rw [zT] at this; cases this
        · rw [F2.keep _ _ (hideAll_get _ q hm)] at zT; cases zT
    exact h0 (by omega) (by omega) h3 tk3 T3 _ ua ub _ zT' (fun b o hb e => k3 _ _ (F2.keep _ _ (hideAll_get _ e hb))) (k3 _ _ (N2 _ (.head _)).1) (k3 _ _ (N2 _ (.tail _ (.head _))).1) (k3 _ _ (N2 _ (.tail _ (.tail _ (.head _)))).1) j1 eT
  · have q1 : b ≠ (2 - 1) + N - 2 := by assumption
    rename Fr _ _ _ _ => F3
    rename News _ _ _ _ => N3
    refine ksa_set F3 N3 (.tail (Ne.symm ip) (.tail (Ne.symm id') (.head fun _ h => nomatch h))) hy (by decide) (by simp only [List.length_cons, List.length_nil]; omega) (by decide) fun h5 F5 N5 i5 l5 s5 => ?_
    have i6 : IntsAre _ [a, b + 1] := i5
    clear F3 N3 i5 l5 s5
    k_steps
    rename Fr _ _ _ _ => F2
    rename News _ _ _ _ => N2
    show wpAny _ _ (call (.ref 114) _) _ _ _
    refine wpAny_never ?_
    refine' picked2 (a := a) (b := b + 1) ?d1 ?u1 ?gg hN ?dd hI ?ixe ?ii ?al ?ar ?bl ?br fun h3 tk3 T3 ua ub zT k3 eT => ?_
    case gg => exact ⟨X'.keeps F2.keep, T'.keeps F2.keep⟩
    case dd => exact F2.keep _ _ hDb
    case al => omega
    case ar => omega
    case bl => omega
    case br => omega
    case ii => exact i6
    case ixe => exact (N2 (ix, _) (.tail _ (.tail _ (.head _)))).1
    case d1 => k_room
    case u1 => k_units
    have zT' : s.heap.get? T3 = none := by
      cases q : s.heap.get? T3 with
      | none => rfl
      | some o =>
        by_cases hm : T3 ∈ [p, dx, ix]
        · exfalso
          simp only [List.mem_cons, List.not_mem_nil, or_false] at hm
          rcases hm with rfl | rfl | rfl
          · have := (N2 _ (.head _)).1; rw [zT] at this; cases this
          · have := (N2 _ (.tail _ (.head _))).1; rw [zT] at this; cases this
          · have := (N2 _ (.tail _ (.tail _ (.head _)))).1; rw [zT] at this; cases this
        · rw [F2.keep _ _ (hideAll_get _ q hm)] at zT; cases zT
    exact h1 (by omega) h3 tk3 T3 _ ua ub _ zT' (fun b o hb e => k3 _ _ (F2.keep _ _ (hideAll_get _ e hb))) (k3 _ _ (N2 _ (.head _)).1) (k3 _ _ (N2 _ (.tail _ (.head _))).1) (k3 _ _ (N2 _ (.tail _ (.tail _ (.head _)))).1) i6 eT
theorem next3 {R : Result → Shared → Prop} (hFF : s.heap.FunFrames noHeap outer) (hdp : dp + 18 < recursionLimit) (hu : un + 400 < cLine) (hN : N = 3 ∨ N = 4) (G : Good w mg mb (hideAll s.heap [p, dx, ix])) (hp : s.heap.get? p = some (cmbO dx ix D false 3 tr false)) (hi : s.heap.get? ix = some (W.listOf (List.toArray ys) e)) (hy : IntsAre ys [a, b, c])
    (hdx : s.heap.get? dx = some (dictOf [] 0)) (hD : s.heap.get? D = some (tupOf vs)) (hI : IntsAre vs ((List.range N).map fun (i : Nat) => (i : Int))) (a0 : 0 ≤ a) (a4 : a < N) (b0 : 0 ≤ b) (b4 : b < N) (c0 : 0 ≤ c) (c4 : c < N) (ab : a < b) (bc : b < c)
    (h2 : c < N - 1 → ∀ h' tk T e' ua ub uc ys', s.heap.get? T = none → (∀ b o, b ∉ [p, dx, ix] → s.heap.get? b = some o → h'.get? b = some o) → h'.get? p = some (cmbO dx ix D false 3 tr false) → h'.get? dx = some (dictOf [] 0) → h'.get? ix = some (W.listOf (List.toArray ys') e') → IntsAre ys' [a, b, c + 1] → h'.get? T = some (tupOf [.int (a) ua, .int (b) ub, .int (c + 1) uc]) → R (.ok (.ret (.ref T))) { s with heap := h', toks := tk })
    (h1 : c = N - 1 → b < N - 2 → ∀ h' tk T e' ua ub uc ys', s.heap.get? T = none → (∀ b o, b ∉ [p, dx, ix] → s.heap.get? b = some o → h'.get? b = some o) → h'.get? p = some (cmbO dx ix D false 3 tr false) → h'.get? dx = some (dictOf [] 0) → h'.get? ix = some (W.listOf (List.toArray ys') e') → IntsAre ys' [a, b + 1, b + 2] → h'.get? T = some (tupOf [.int (a) ua, .int (b + 1) ub, .int (b + 2) uc]) → R (.ok (.ret (.ref T))) { s with heap := h', toks := tk })
    (h0 : c = N - 1 → b = N - 2 → a < N - 3 → ∀ h' tk T e' ua ub uc ys', s.heap.get? T = none → (∀ b o, b ∉ [p, dx, ix] → s.heap.get? b = some o → h'.get? b = some o) → h'.get? p = some (cmbO dx ix D false 3 tr false) → h'.get? dx = some (dictOf [] 0) → h'.get? ix = some (W.listOf (List.toArray ys') e') → IntsAre ys' [a + 1, a + 2, a + 3] → h'.get? T = some (tupOf [.int (a + 1) ua, .int (a + 2) ub, .int (a + 3) uc]) → R (.ok (.ret (.ref T))) { s with heap := h', toks := tk })
    (hs : c = N - 1 → b = N - 2 → a = N - 3 → ∀ h' tk e, (∀ b o, b ∉ [p, ix] → b ∉ outer.filterMap (·.frame) → s.heap.get? b = some o → h'.get? b = some o) → (∀ b o, b ∉ [p, ix] → s.heap.get? b = some o → (∀ vs, o.data ≠ .fields vs) → ∃ sl, h'.get? b = some { o with slots := sl }) → (∃ ob, h'.get? e = some ob ∧ ob.cls = .type "StopIteration") → R (.error (.ref e)) { s with heap := h', toks := tk }) :
    codeAny (model PP w) (aro dp un (some outer) gd) (.call (.ref 143) ⟨[.ref p], []⟩) R s := by
  have X := G.X
  have T := G.T
  have ip : ix ≠ p := by intro q; rw [q, hp] at hi; cases hi
  have ipN : (ix : Nat) ≠ (p : Nat) := ip
  have dpN : (dx : Nat) ≠ (p : Nat) := by intro q; have q : dx = p := q; rw [q, hp] at hdx; cases hdx
  have id' : ix ≠ dx := by intro q; rw [q, hdx] at hi; have := congrArg Obj.cls (Option.some.inj hi); simp at this
  have idN : (ix : Nat) ≠ (dx : Nat) := id'
  have Dp : D ≠ p := by intro q; rw [q, hp] at hD; cases hD
  have Dd : D ≠ dx := by intro q; rw [q, hdx] at hD; have := congrArg Obj.cls (Option.some.inj hD); simp at this
  have Di : D ≠ ix := by intro q; rw [q, hi] at hD; have := congrArg Obj.cls (Option.some.inj hD); simp at this
  have hDb : (hideAll s.heap [p, dx, ix]).get? D = some (tupOf vs) := hideAll_get _ hD (by simp [Dp, Dd, Di])
  have hDt : IsTup (hideAll s.heap [p, dx, ix]) D vs.toArray := ⟨_, hDb, rfl, _, rfl⟩
  have hvl : vs.length = N := by have := hI.length; simpa using this
  have hN4 : N ≤ 4 := by omega
  refine' enterE (binds := [(Str.ofString "self", .ref p)]) [(p, cmbO dx ix D false 3 tr false), (dx, dictOf [] 0), (ix, W.listOf (List.toArray ys) e)] ?hled X T ?k6 ?k7 ?k8 ?k9 ?kB ?_ ?c2 ?c3 ?c4 ?c5
  case hled => intro q hq; simp only [List.mem_cons, List.not_mem_nil, or_false] at hq; rcases hq with rfl | rfl | rfl <;> assumption
  walk_at "m_cases"
  intro g' L' h' hg' hL' k' F' N' X' T'
  obtain rfl : g' = hideAll s.heap [p, dx, ix] := hg'
  have hL' : L' = s.heap.objs.size := hL'
  k_steps
  rename Fr _ _ _ _ => F1
  refine len_tup (hDt.keeps F1.keep) hvl hN4 fun tl tkl => ?_
  k_steps
  · have q2 : c = (3 - 1) + N - 3 := by assumption
    have q1 : b = (3 - 1 - 1) + N - 3 := by assumption
    have q0 : a = (3 - 1 - 1 - 1) + N - 3 := by assumption
    rename Heap.MadeExc _ _ _ _ _ => M
    rename Fr _ _ _ _ => F3
    rename News _ _ _ _ => N3
    have kk0 : ∀ b o, b ∉ [p, dx, ix] → s.heap.get? b = some o → _ := fun b o hb e => F3.keep _ _ (hideAll_get _ e hb)
    have kk := keep_off hdx (N3 _ (.tail _ (.head _))).1 kk0
    refine leaves (base := noHeap) rfl F3 noHeap_none ?_ (X := "StopIteration") (vs := []) ⟨M.keeps, M.new, M.there⟩ rfl fun h9 k9 u9 e9 => ?_
    · refine Heap.FunFrames.of_keeps (fun b o eb _ => ?_) hFF
      by_cases hm : b ∈ [p, dx, ix]
      · simp only [List.mem_cons, List.not_mem_nil, or_false] at hm
        rcases hm with rfl | rfl | rfl
        · exact ⟨_, (N3 _ (.head _)).1, by rw [hp] at eb; cases eb; rfl⟩
        · exact ⟨_, (N3 _ (.tail _ (.head _))).1, by rw [hdx] at eb; cases eb; rfl⟩
        · exact ⟨_, (N3 _ (.tail _ (.tail _ (.head _)))).1, by rw [hi] at eb; cases eb; rfl⟩
      · exact ⟨o, kk0 b o hm eb, rfl⟩
    · refine hs (by omega) (by omega) (by omega) h9 _ _ (fun b o hb hf eb => k9 _ _ ?_ (kk b o hb eb)) (fun b o hb eb hn => u9 _ _ (kk b o hb eb) hn) e9
      rw [List.mem_cons]
      rintro (z | z)
      · rw [z, hL'] at eb; exact absurd (Heap.lt_size eb) (Nat.lt_irrefl _)
      · exact hf z
  · have q2 : c = (3 - 1) + N - 3 := by assumption
    have q1 : b = (3 - 1 - 1) + N - 3 := by assumption
    have q0 : a ≠ (3 - 1 - 1 - 1) + N - 3 := by assumption
    rename Fr _ _ _ _ => F3
    rename News _ _ _ _ => N3
    refine ksa_set F3 N3 (.tail (Ne.symm ip) (.tail (Ne.symm id') (.head fun _ h => nomatch h))) hy (by decide) (by simp only [List.length_cons, List.length_nil]; omega) (by decide) fun h5 F5 N5 i5 l5 s5 => ?_
    have i6 : IntsAre _ [a + 1, b, c] := i5
    clear F3 N3 i5 l5 s5
    k_steps
    rename Fr _ _ _ _ => F3
    rename News _ _ _ _ => N3
    refine ksa_set F3 N3 (.tail (Ne.symm ip) (.tail (Ne.symm id') (.head fun _ h => nomatch h))) i6 (by decide) (by simp only [List.length_set, List.length_cons, List.length_nil]; omega) (by decide) fun h5 F5 N5 i5 l5 s5 => ?_
    have j1 := ints_of_eq i5 (show _ = [a + 1, a + 2, c] from by show [a + 1, a + 1 + 1, c] = _; rw [Int.add_assoc a]; rfl)
    clear F3 N3 i5 l5 s5
    k_steps
    rename Fr _ _ _ _ => F3
    rename News _ _ _ _ => N3
    refine ksa_set F3 N3 (.tail (Ne.symm ip) (.tail (Ne.symm id') (.head fun _ h => nomatch h))) j1 (by decide) (by simp only [List.length_set, List.length_cons, List.length_nil]; omega) (by decide) fun h5 F5 N5 i5 l5 s5 => ?_
    have j2 := ints_of_eq i5 (show _ = [a + 1, a + 2, a + 3] from by show [a + 1, a + 2, a + 2 + 1] = _; rw [Int.add_assoc a]; rfl)
    clear F3 N3 i5 l5 s5
    k_steps
    rename Fr _ _ _ _ => F2
    rename News _ _ _ _ => N2
    show wpAny _ _ (call (.ref 114) _) _ _ _
    refine wpAny_never ?_
    refine' picked3 (a := a + 1) (b := a + 2) (c := a + 3) ?d1 ?u1 ?gg hN ?dd hI ?ixe ?ii ?al ?ar ?bl ?br ?cl ?cr fun h3 tk3 T3 ua ub uc zT k3 eT => ?_
    case gg => exact ⟨X'.keeps F2.keep, T'.keeps F2.keep⟩
    case dd => exact F2.keep _ _ hDb
    case al => omega
    case ar => omega
    case bl => omega
    case br => omega
    case cl => omega
    case cr => omega
    case ii => exact j2
    case ixe => exact (N2 (ix, _) (.tail _ (.tail _ (.head _)))).1
    case d1 => k_room
    case u1 => k_units
    have zT' : s.heap.get? T3 = none := by
      cases q : s.heap.get? T3 with
      | none => rfl
      | some o =>
        by_cases hm : T3 ∈ [p, dx, ix]
        · exfalso
          simp only [List.mem_cons, List.not_mem_nil, or_false] at hm
          rcases hm with rfl | rfl | rfl
          · have := (N2 _ (.head _)).1; rw [zT] at this; cases this
          · have := (N2 _ (.tail _ (.head _))).1; rw [zT] at this; cases this
          · have := (N2 _ (.tail _ (.tail _ (.head _)))).1; rw [zT] at this; cases this
        · rw [F2.keep _ _ (hideAll_get _ q hm)] at zT; cases zT
    exact h0 (by omega) (by omega) (by omega) h3 tk3 T3 _ ua ub uc _ zT' (fun b o hb e => k3 _ _ (F2.keep _ _ (hideAll_get _ e hb))) (k3 _ _ (N2 _ (.head _)).1) (k3 _ _ (N2 _ (.tail _ (.head _))).1) (k3 _ _ (N2 _ (.tail _ (.tail _ (.head _)))).1) j2 eT
  · have q2 : c = (3 - 1) + N - 3 := by assumption
    have q1 : b ≠ (3 - 1 - 1) + N - 3 := by assumption
    rename Fr _ _ _ _ => F3
    rename News _ _ _ _ => N3
    refine ksa_set F3 N3 (.tail (Ne.symm ip) (.tail (Ne.symm id') (.head fun _ h => nomatch h))) hy (by decide) (by simp only [List.length_cons, List.length_nil]; omega) (by decide) fun h5 F5 N5 i5 l5 s5 => ?_
    have i6 : IntsAre _ [a, b + 1, c] := i5
    clear F3 N3 i5 l5 s5
    k_steps
    rename Fr _ _ _ _ => F3
    rename News _ _ _ _ => N3
    refine ksa_set F3 N3 (.tail (Ne.symm ip) (.tail (Ne.symm id') (.head fun _ h => nomatch h))) i6 (by decide) (by simp only [List.length_set, List.length_cons, List.length_nil]; omega) (by decide) fun h5 F5 N5 i5 l5 s5 => ?_
    have j2 := ints_of_eq i5 (show _ = [a, b + 1, b + 2] from by show [a, b + 1, b + 1 + 1] = _; rw [Int.add_assoc b]; rfl)
    clear F3 N3 i5 l5 s5
    k_steps
    rename Fr _ _ _ _ => F2
    rename News _ _ _ _ => N2
    show wpAny _ _ (call (.ref 114) _) _ _ _
    refine wpAny_never ?_
    refine' picked3 (a := a) (b := b + 1) (c := b + 2) ?d1 ?u1 ?gg hN ?dd hI ?ixe ?ii ?al ?ar ?bl ?br ?cl ?cr fun h3 tk3 T3 ua ub uc zT k3 eT => ?_
    case gg => exact ⟨X'.keeps F2.keep, T'.keeps F2.keep⟩
    case dd => exact F2.keep _ _ hDb
    case al => omega
    case ar => omega
    case bl => omega
    case br => omega
    case cl => omega
    case cr => omega
    case ii => exact j2
    case ixe => exact (N2 (ix, _) (.tail _ (.tail _ (.head _)))).1
    case d1 => k_room
    case u1 => k_units
    have zT' : s.heap.get? T3 = none := by
      cases q : s.heap.get? T3 with
      | none => rfl
      | some o =>
        by_cases hm : T3 ∈ [p, dx, ix]
        · exfalso
          simp only [List.mem_cons, List.not_mem_nil, or_false] at hm
          rcases hm with rfl | rfl | rfl
          · have := (N2 _ (.head _)).1; rw [zT] at this; cases this
          · have := (N2 _ (.tail _ (.head _))).1; rw [zT] at this; cases this
          · have := (N2 _ (.tail _ (.tail _ (.head _)))).1; rw [zT] at this; cases this
        · rw [F2.keep _ _ (hideAll_get _ q hm)] at zT; cases zT
    exact h1 (by omega) (by omega) h3 tk3 T3 _ ua ub uc _ zT' (fun b o hb e => k3 _ _ (F2.keep _ _ (hideAll_get _ e hb))) (k3 _ _ (N2 _ (.head _)).1) (k3 _ _ (N2 _ (.tail _ (.head _))).1) (k3 _ _ (N2 _ (.tail _ (.tail _ (.head _)))).1) j2 eT
  · have q2 : c ≠ (3 - 1) + N - 3 := by assumption
    rename Fr _ _ _ _ => F3
    rename News _ _ _ _ => N3
    refine ksa_set F3 N3 (.tail (Ne.symm ip) (.tail (Ne.symm id') (.head fun _ h => nomatch h))) hy (by decide) (by simp only [List.length_cons, List.length_nil]; omega) (by decide) fun h5 F5 N5 i5 l5 s5 => ?_
    have i6 : IntsAre _ [a, b, c + 1] := i5
    clear F3 N3 i5 l5 s5
    k_steps
    rename Fr _ _ _ _ => F2
    rename News _ _ _ _ => N2
    show wpAny _ _ (call (.ref 114) _) _ _ _
    refine wpAny_never ?_
    refine' picked3 (a := a) (b := b) (c := c + 1) ?d1 ?u1 ?gg hN ?dd hI ?ixe ?ii ?al ?ar ?bl ?br ?cl ?cr fun h3 tk3 T3 ua ub uc zT k3 eT => ?_
    case gg => exact ⟨X'.keeps F2.keep, T'.keeps F2.keep⟩
    case dd => exact F2.keep _ _ hDb
    case al => omega
    case ar => omega
    case bl => omega
    case br => omega
    case cl => omega
    case cr => omega
    case ii => exact i6
    case ixe => exact (N2 (ix, _) (.tail _ (.tail _ (.head _)))).1
    case d1 => k_room
    case u1 => k_units
    have zT' : s.heap.get? T3 = none := by
      cases q : s.heap.get? T3 with
      | none => rfl
      | some o =>
        by_cases hm : T3 ∈ [p, dx, ix]
        · exfalso
          simp only [List.mem_cons, List.not_mem_nil, or_false] at hm
          rcases hm with rfl | rfl | rfl
          · have := (N2 _ (.head _)).1; rw [zT] at this; cases this
          · have := (N2 _ (.tail _ (.head _))).1; rw [zT] at this; cases this
          · have := (N2 _ (.tail _ (.tail _ (.head _)))).1; rw [zT] at this; cases this
        · rw [F2.keep _ _ (hideAll_get _ q hm)] at zT; cases zT
    exact h2 (by omega) h3 tk3 T3 _ ua ub uc _ zT' (fun b o hb e => k3 _ _ (F2.keep _ _ (hideAll_get _ e hb))) (k3 _ _ (N2 _ (.head _)).1) (k3 _ _ (N2 _ (.tail _ (.head _))).1) (k3 _ _ (N2 _ (.tail _ (.tail _ (.head _)))).1) i6 eT
end

end
section
theorem ci_next : findIn (K39 w.params) (.ref 147) "__next__" = some (some (.ref 143)) := by k_is
theorem cf_next : isFn (K39 w.params) (.ref 143) = true := by k_is
theorem ci_iter : findIn (K39 w.params) (.ref 147) "__iter__" = some (some (.ref 136)) := by k_is
theorem cf_iter : isFn (K39 w.params) (.ref 136) = true := by k_is
section
variable {dp un : Nat} {outer : List Env} {gd : Option (List Code)} {s : Shared} {Q : Option Value → Shared → Prop} {E : Value → Shared → Prop} {p ix L : Addr} {g gz : Heap} {m : Str → Option Value}
/-- what one more committee leaves behind -/
abbrev ItemPost (g : Heap) (q : Nat × Nat) (i : Nat) (p ix : Addr) (s : Shared) (Q : Option Value → Shared → Prop) : Prop :=
  ∀ h' tk T us, s.heap.get? T = none → (∀ b o, b ∉ [p, ix] → s.heap.get? b = some o → h'.get? b = some o) → CombSt g h' q (i + 1) p ix → h'.get? T = some (tupOf us) → IntsAre us (cidx q i) → Q (some (.ref T)) { s with heap := h', toks := tk }
abbrev DonePost (outer : List Env) (p ix : Addr) (s : Shared) (Q : Option Value → Shared → Prop) : Prop :=
  ∀ h' tk, (∀ b o, b ∉ [p, ix] → b ∉ outer.filterMap (·.frame) → s.heap.get? b = some o → h'.get? b = some o) →
    (∀ b o, b ∉ [p, ix] → s.heap.get? b = some o → (∀ vs, o.data ≠ .fields vs) → ∃ sl, h'.get? b = some { o with slots := sl }) → Q none { s with heap := h', toks := tk }
theorem pyNext_code {A : Around} (F : Fr g L s.heap m) (X : (K39 w.params).In g) {dx D : Addr} {f : Bool} {r : Int} {tr : Tok} {st : Bool} {ixx : Addr} (hp : s.heap.get? p = some (cmbO dx ixx D f r tr st)) (hdx : s.heap.get? dx = some (dictOf [] 0))
    (h : codeAny (model PP w) A (.call (.ref 143) ⟨[.ref p], []⟩) (fun r s' => match r with | .ok (.ret v) => Q (some v) s' | .ok _ => False | .error e => OwitStop (model PP w) A Q E e s') s) : wpAny (model PP w) A (pyNext (.ref p)) Q E s :=
  owit_next F X (⟨hp, rfl, rfl, hdx⟩ : InstAt s.heap p _ 147 (some (dictOf [] 0))) ci_next cf_next (wpAny_call h)
theorem stopped {A : Around} {e : Value} {s' : Shared} {x : Addr} (he : e = .ref x) (h : ∃ ob, s'.heap.get? x = some ob ∧ ob.cls = .type "StopIteration") (hq : Q none s') : OwitStop (model PP w) A Q E e s' := by
  subst he
  unfold OwitStop
  obtain ⟨ob, h1, h2⟩ := h
  refine wpAny_isInstance (T := "StopIteration") (b := true) (show s'.TypeIs (.ref x) "StopIteration" from ⟨ob, h1, h2⟩) (by rw [isSubtype_type]; kernel_rfl) ?_
  rw [if_pos rfl]
  exact hq
theorem good_hide (G : Good w mg mb g) {h : Heap} (k : Keep g h) {as : List Addr} (z : ∀ a ∈ as, g.get? a = none) : Good w mg mb (hideAll h as) :=
  G.keeps fun b o e => hideAll_get _ (k b o e) fun hm => by rw [z b hm] at e; cases e
theorem dnotin {h : Heap} {p dx ix D : Addr} {f : Bool} {r : Int} {tr : Tok} {st : Bool} {vs ys : List Value} {e : Nat} (hp : h.get? p = some (cmbO dx ix D f r tr st)) (hdx : h.get? dx = some (dictOf [] 0)) (hi : h.get? ix = some (W.listOf (List.toArray ys) e)) (hD : h.get? D = some (tupOf vs)) : D ∉ [p, dx, ix] := by
  have Dp : D ≠ p := by intro q; rw [q, hp] at hD; cases hD
  have Dd : D ≠ dx := by intro q; rw [q, hdx] at hD; have := congrArg Obj.cls (Option.some.inj hD); simp at this
  have Di : D ≠ ix := by intro q; rw [q, hi] at hD; have := congrArg Obj.cls (Option.some.inj hD); simp at this
  simp [Dp, Dd, Di]
theorem item2f {q : Nat × Nat} {a b : Int} (hdp : dp + 18 < recursionLimit) (hu : un + 400 < cLine) (hN : q.1 = 3 ∨ q.1 = 4) (hr : q.2 = 2) (G : Good w mg mb g) (F : Fr g L s.heap m) (kz : Keep g gz) (St : CombSt gz s.heap q 0 p ix) (e0 : cidx q 0 = [a, b])
    (a0 : 0 ≤ a) (a4 : a < q.1) (b0 : 0 ≤ b) (b4 : b < q.1) (ab : a < b) (h : ItemPost gz q 0 p ix s Q) : wpAny (model PP w) (aro dp un (some outer) gd) (pyNext (.ref p)) Q E s := by
  obtain ⟨⟨z1, z2⟩, dx, D, tr, ys, e, vs, z3, hp, hdx, hD, hi, hy, hI⟩ := St
  have zz : ∀ x ∈ [p, dx, ix], g.get? x = none := by
    intro x hx
    simp only [List.mem_cons, List.not_mem_nil, or_false] at hx
    rcases hx with rfl | rfl | rfl
    · exact none_of_keep kz z1
    · exact none_of_keep kz z3.1
    · exact none_of_keep kz z2
  have GG := good_hide G F.keep zz
  obtain ⟨N, r⟩ := q
  dsimp only at hr hN
  subst hr
  rw [show (0 - 1 : Nat) = 0 from rfl, e0] at hy
  refine owit_next F G.X (⟨hp, rfl, rfl, hdx⟩ : InstAt s.heap p _ 147 (some (dictOf [] 0))) ci_next cf_next (wpAny_never ?_)
  refine next2f hdp hu hN GG hp hi hy hdx hD hI a0 a4 b0 b4 ab fun h' tk T e' ua ub ys' zT k hp' hdx' hi' hy' hT => ?_
  exact h h' tk T _ zT (keep_off hdx hdx' k) ⟨⟨z1, z2⟩, dx, D, tr, ys', e', vs, z3, hp', hdx', k _ _ (dnotin hp hdx hi hD) hD, hi', by rw [show (0 + 1 - 1 : Nat) = 0 from rfl, e0]; exact hy', hI⟩ hT (by rw [e0]; exact .cons _ ua (.cons _ ub .nil))
theorem item2 {q : Nat × Nat} {i : Nat} {a b : Int} (hdp : dp + 18 < recursionLimit) (hu : un + 400 < cLine) (hN : q.1 = 3 ∨ q.1 = 4) (hr : q.2 = 2) (hFF : s.heap.FunFrames noHeap outer) (G : Good w mg mb g) (F : Fr g L s.heap m) (kz : Keep g gz) (hi1 : 0 < i) (St : CombSt gz s.heap q i p ix) (e0 : cidx q (i - 1) = [a, b])
    (a0 : 0 ≤ a) (a4 : a < q.1) (b0 : 0 ≤ b) (b4 : b < q.1) (ab : a < b) (n1 : b < q.1 - 1 → cidx q i = [a, b + 1]) (n0 : b = q.1 - 1 → a < q.1 - 2 → cidx q i = [a + 1, a + 2]) (ns : ¬ (a = (q.1 : Int) - 2 ∧ b = (q.1 : Int) - 1)) (h : ItemPost gz q i p ix s Q) : wpAny (model PP w) (aro dp un (some outer) gd) (pyNext (.ref p)) Q E s := by
  obtain ⟨⟨z1, z2⟩, dx, D, tr, ys, e, vs, z3, hp, hdx, hD, hi, hy, hI⟩ := St
  have zz : ∀ x ∈ [p, dx, ix], g.get? x = none := by
    intro x hx
    simp only [List.mem_cons, List.not_mem_nil, or_false] at hx
    rcases hx with rfl | rfl | rfl
    · exact none_of_keep kz z1
    · exact none_of_keep kz z3.1
    · exact none_of_keep kz z2
  have GG := good_hide G F.keep zz
  obtain ⟨N, r⟩ := q
  dsimp only at hr hN ns
  subst hr
  rw [e0] at hy
  have hi1' : (i + 1 == 0) = false := rfl
  have hi2 : (i == 0) = false := by rw [beq_eq_false_iff_ne]; omega
  rw [hi2] at hp
  refine pyNext_code F G.X hp hdx ?_
  refine next2 hFF hdp hu hN GG hp hi hy hdx hD hI a0 a4 b0 b4 ab
    (fun q1 h' tk T e' ua ub ys' zT k hp' hdx' hi' hy' hT => h h' tk T _ zT (keep_off hdx hdx' k) ⟨⟨z1, z2⟩, dx, D, tr, ys', e', vs, z3, by rw [hi1']; exact hp', hdx', k _ _ (dnotin hp hdx hi hD) hD, hi', by rw [show i + 1 - 1 = i from rfl, n1 q1]; exact hy', hI⟩ hT (by rw [n1 q1]; exact .cons _ ua (.cons _ ub .nil)))
    (fun q1 q0 h' tk T e' ua ub ys' zT k hp' hdx' hi' hy' hT => h h' tk T _ zT (keep_off hdx hdx' k) ⟨⟨z1, z2⟩, dx, D, tr, ys', e', vs, z3, by rw [hi1']; exact hp', hdx', k _ _ (dnotin hp hdx hi hD) hD, hi', by rw [show i + 1 - 1 = i from rfl, n0 q1 q0]; exact hy', hI⟩ hT (by rw [n0 q1 q0]; exact .cons _ ua (.cons _ ub .nil)))
    (fun q1 q0 => absurd ⟨q0, q1⟩ ns)
theorem done2 {q : Nat × Nat} {i : Nat} {a b : Int} (hdp : dp + 18 < recursionLimit) (hu : un + 400 < cLine) (hN : q.1 = 3 ∨ q.1 = 4) (hr : q.2 = 2) (hFF : s.heap.FunFrames noHeap outer) (G : Good w mg mb g) (F : Fr g L s.heap m) (kz : Keep g gz) (hi1 : 0 < i) (St : CombSt gz s.heap q i p ix) (e0 : cidx q (i - 1) = [a, b])
    (a0 : 0 ≤ a) (a4 : a < q.1) (b0 : 0 ≤ b) (b4 : b < q.1) (ab : a < b) (d0 : a = (q.1 : Int) - 2) (d1 : b = (q.1 : Int) - 1) (h : DonePost outer p ix s Q) : wpAny (model PP w) (aro dp un (some outer) gd) (pyNext (.ref p)) Q E s := by
  obtain ⟨⟨z1, z2⟩, dx, D, tr, ys, e, vs, z3, hp, hdx, hD, hi, hy, hI⟩ := St
  have zz : ∀ x ∈ [p, dx, ix], g.get? x = none := by
    intro x hx
    simp only [List.mem_cons, List.not_mem_nil, or_false] at hx
    rcases hx with rfl | rfl | rfl
    · exact none_of_keep kz z1
    · exact none_of_keep kz z3.1
    · exact none_of_keep kz z2
  have GG := good_hide G F.keep zz
  obtain ⟨N, r⟩ := q
  dsimp only at hr hN d0 d1
  subst hr
  rw [e0] at hy
  have hi2 : (i == 0) = false := by rw [beq_eq_false_iff_ne]; omega
  rw [hi2] at hp
  refine pyNext_code F G.X hp hdx ?_
  refine next2 hFF hdp hu hN GG hp hi hy hdx hD hI a0 a4 b0 b4 ab
    (fun q1 => absurd q1 (by omega))
    (fun q1 q0 => absurd q0 (by omega))
    (fun q1 q0 h' tk e k1 k2 k3 => stopped rfl k3 (h h' tk (fun b o hb hf eb => ?_) fun b o hb eb hn => ?_))
  · exact k1 b o hb hf eb
  · exact k2 b o hb eb hn
theorem item3f {q : Nat × Nat} {a b c : Int} (hdp : dp + 18 < recursionLimit) (hu : un + 400 < cLine) (hN : q.1 = 3 ∨ q.1 = 4) (hr : q.2 = 3) (G : Good w mg mb g) (F : Fr g L s.heap m) (kz : Keep g gz) (St : CombSt gz s.heap q 0 p ix) (e0 : cidx q 0 = [a, b, c])
    (a0 : 0 ≤ a) (a4 : a < q.1) (b0 : 0 ≤ b) (b4 : b < q.1) (c0 : 0 ≤ c) (c4 : c < q.1) (ab : a < b) (bc : b < c) (h : ItemPost gz q 0 p ix s Q) : wpAny (model PP w) (aro dp un (some outer) gd) (pyNext (.ref p)) Q E s := by
  obtain ⟨⟨z1, z2⟩, dx, D, tr, ys, e, vs, z3, hp, hdx, hD, hi, hy, hI⟩ := St
  have zz : ∀ x ∈ [p, dx, ix], g.get? x = none := by
    intro x hx
    simp only [List.mem_cons, List.not_mem_nil, or_false] at hx
    rcases hx with rfl | rfl | rfl
    · exact none_of_keep kz z1
    · exact none_of_keep kz z3.1
    · exact none_of_keep kz z2
  have GG := good_hide G F.keep zz
  obtain ⟨N, r⟩ := q
  dsimp only at hr hN
  subst hr
  rw [show (0 - 1 : Nat) = 0 from rfl, e0] at hy
  refine owit_next F G.X (⟨hp, rfl, rfl, hdx⟩ : InstAt s.heap p _ 147 (some (dictOf [] 0))) ci_next cf_next (wpAny_never ?_)
  refine next3f hdp hu hN GG hp hi hy hdx hD hI a0 a4 b0 b4 c0 c4 ab bc fun h' tk T e' ua ub uc ys' zT k hp' hdx' hi' hy' hT => ?_
  exact h h' tk T _ zT (keep_off hdx hdx' k) ⟨⟨z1, z2⟩, dx, D, tr, ys', e', vs, z3, hp', hdx', k _ _ (dnotin hp hdx hi hD) hD, hi', by rw [show (0 + 1 - 1 : Nat) = 0 from rfl, e0]; exact hy', hI⟩ hT (by rw [e0]; exact .cons _ ua (.cons _ ub (.cons _ uc .nil)))
theorem item3 {q : Nat × Nat} {i : Nat} {a b c : Int} (hdp : dp + 18 < recursionLimit) (hu : un + 400 < cLine) (hN : q.1 = 3 ∨ q.1 = 4) (hr : q.2 = 3) (hFF : s.heap.FunFrames noHeap outer) (G : Good w mg mb g) (F : Fr g L s.heap m) (kz : Keep g gz) (hi1 : 0 < i) (St : CombSt gz s.heap q i p ix) (e0 : cidx q (i - 1) = [a, b, c])
    (a0 : 0 ≤ a) (a4 : a < q.1) (b0 : 0 ≤ b) (b4 : b < q.1) (c0 : 0 ≤ c) (c4 : c < q.1) (ab : a < b) (bc : b < c) (n2 : c < q.1 - 1 → cidx q i = [a, b, c + 1]) (n1 : c = q.1 - 1 → b < q.1 - 2 → cidx q i = [a, b + 1, b + 2]) (n0 : c = q.1 - 1 → b = q.1 - 2 → a < q.1 - 3 → cidx q i = [a + 1, a + 2, a + 3]) (ns : ¬ (a = (q.1 : Int) - 3 ∧ b = (q.1 : Int) - 2 ∧ c = (q.1 : Int) - 1)) (h : ItemPost gz q i p ix s Q) : wpAny (model PP w) (aro dp un (some outer) gd) (pyNext (.ref p)) Q E s := by
  obtain ⟨⟨z1, z2⟩, dx, D, tr, ys, e, vs, z3, hp, hdx, hD, hi, hy, hI⟩ := St
  have zz : ∀ x ∈ [p, dx, ix], g.get? x = none := by
    intro x hx
    simp only [List.mem_cons, List.not_mem_nil, or_false] at hx
    rcases hx with rfl | rfl | rfl
    · exact none_of_keep kz z1
    · exact none_of_keep kz z3.1
    · exact none_of_keep kz z2
  have GG := good_hide G F.keep zz
  obtain ⟨N, r⟩ := q
  dsimp only at hr hN ns
  subst hr
  rw [e0] at hy
  have hi1' : (i + 1 == 0) = false := rfl
  have hi2 : (i == 0) = false := by rw [beq_eq_false_iff_ne]; omega
  rw [hi2] at hp
  refine pyNext_code F G.X hp hdx ?_
  refine next3 hFF hdp hu hN GG hp hi hy hdx hD hI a0 a4 b0 b4 c0 c4 ab bc
    (fun q2 h' tk T e' ua ub uc ys' zT k hp' hdx' hi' hy' hT => h h' tk T _ zT (keep_off hdx hdx' k) ⟨⟨z1, z2⟩, dx, D, tr, ys', e', vs, z3, by rw [hi1']; exact hp', hdx', k _ _ (dnotin hp hdx hi hD) hD, hi', by rw [show i + 1 - 1 = i from rfl, n2 q2]; exact hy', hI⟩ hT (by rw [n2 q2]; exact .cons _ ua (.cons _ ub (.cons _ uc .nil))))
    (fun q2 q1 h' tk T e' ua ub uc ys' zT k hp' hdx' hi' hy' hT => h h' tk T _ zT (keep_off hdx hdx' k) ⟨⟨z1, z2⟩, dx, D, tr, ys', e', vs, z3, by rw [hi1']; exact hp', hdx', k _ _ (dnotin hp hdx hi hD) hD, hi', by rw [show i + 1 - 1 = i from rfl, n1 q2 q1]; exact hy', hI⟩ hT (by rw [n1 q2 q1]; exact .cons _ ua (.cons _ ub (.cons _ uc .nil))))
    (fun q2 q1 q0 h' tk T e' ua ub uc ys' zT k hp' hdx' hi' hy' hT => h h' tk T _ zT (keep_off hdx hdx' k) ⟨⟨z1, z2⟩, dx, D, tr, ys', e', vs, z3, by rw [hi1']; exact hp', hdx', k _ _ (dnotin hp hdx hi hD) hD, hi', by rw [show i + 1 - 1 = i from rfl, n0 q2 q1 q0]; exact hy', hI⟩ hT (by rw [n0 q2 q1 q0]; exact .cons _ ua (.cons _ ub (.cons _ uc .nil))))
    (fun q2 q1 q0 => absurd ⟨q0, q1, q2⟩ ns)
theorem done3 {q : Nat × Nat} {i : Nat} {a b c : Int} (hdp : dp + 18 < recursionLimit) (hu : un + 400 < cLine) (hN : q.1 = 3 ∨ q.1 = 4) (hr : q.2 = 3) (hFF : s.heap.FunFrames noHeap outer) (G : Good w mg mb g) (F : Fr g L s.heap m) (kz : Keep g gz) (hi1 : 0 < i) (St : CombSt gz s.heap q i p ix) (e0 : cidx q (i - 1) = [a, b, c])
    (a0 : 0 ≤ a) (a4 : a < q.1) (b0 : 0 ≤ b) (b4 : b < q.1) (c0 : 0 ≤ c) (c4 : c < q.1) (ab : a < b) (bc : b < c) (d0 : a = (q.1 : Int) - 3) (d1 : b = (q.1 : Int) - 2) (d2 : c = (q.1 : Int) - 1) (h : DonePost outer p ix s Q) : wpAny (model PP w) (aro dp un (some outer) gd) (pyNext (.ref p)) Q E s := by
  obtain ⟨⟨z1, z2⟩, dx, D, tr, ys, e, vs, z3, hp, hdx, hD, hi, hy, hI⟩ := St
  have zz : ∀ x ∈ [p, dx, ix], g.get? x = none := by
    intro x hx
    simp only [List.mem_cons, List.not_mem_nil, or_false] at hx
    rcases hx with rfl | rfl | rfl
    · exact none_of_keep kz z1
    · exact none_of_keep kz z3.1
    · exact none_of_keep kz z2
  have GG := good_hide G F.keep zz
  obtain ⟨N, r⟩ := q
  dsimp only at hr hN d0 d1 d2
  subst hr
  rw [e0] at hy
  have hi2 : (i == 0) = false := by rw [beq_eq_false_iff_ne]; omega
  rw [hi2] at hp
  refine pyNext_code F G.X hp hdx ?_
  refine next3 hFF hdp hu hN GG hp hi hy hdx hD hI a0 a4 b0 b4 c0 c4 ab bc
    (fun q2 => absurd q2 (by omega))
    (fun q2 q1 => absurd q1 (by omega))
    (fun q2 q1 q0 => absurd q0 (by omega))
    (fun q2 q1 q0 h' tk e k1 k2 k3 => stopped rfl k3 (h h' tk (fun b o hb hf eb => ?_) fun b o hb eb hn => ?_))
  · exact k1 b o hb hf eb
  · exact k2 b o hb eb hn
theorem comb_item {q : Nat × Nat} {i : Nat} (hq : q ∈ cases4) (hi : i < (combos q).length) (hdp : dp + 18 < recursionLimit) (hu : un + 400 < cLine) (hFF : s.heap.FunFrames noHeap outer) (G : Good w mg mb g) (F : Fr g L s.heap m) (kz : Keep g gz) (St : CombSt gz s.heap q i p ix) (h : ItemPost gz q i p ix s Q) :
    wpAny (model PP w) (aro dp un (some outer) gd) (pyNext (.ref p)) Q E s := by
  simp only [cases4, List.mem_cons, List.not_mem_nil, or_false] at hq
  rcases hq with rfl | rfl | rfl
  · obtain rfl | rfl | rfl : i = 0 ∨ i = 1 ∨ i = 2 := by have : i < 3 := hi; omega
    · exact item2f hdp hu (by decide) rfl G F kz St rfl (by decide) (by decide) (by decide) (by decide) (by decide) h
    · exact item2 hdp hu (by decide) rfl hFF G F kz (by decide) St rfl (by decide) (by decide) (by decide) (by decide) (by decide) (by decide) (by decide) (by decide) h
    · exact item2 hdp hu (by decide) rfl hFF G F kz (by decide) St rfl (by decide) (by decide) (by decide) (by decide) (by decide) (by decide) (by decide) (by decide) h
  · obtain rfl | rfl | rfl | rfl | rfl | rfl : i = 0 ∨ i = 1 ∨ i = 2 ∨ i = 3 ∨ i = 4 ∨ i = 5 := by have : i < 6 := hi; omega
    · exact item2f hdp hu (by decide) rfl G F kz St rfl (by decide) (by decide) (by decide) (by decide) (by decide) h
    · exact item2 hdp hu (by decide) rfl hFF G F kz (by decide) St rfl (by decide) (by decide) (by decide) (by decide) (by decide) (by decide) (by decide) (by decide) h
    · exact item2 hdp hu (by decide) rfl hFF G F kz (by decide) St rfl (by decide) (by decide) (by decide) (by decide) (by decide) (by decide) (by decide) (by decide) h
    · exact item2 hdp hu (by decide) rfl hFF G F kz (by decide) St rfl (by decide) (by decide) (by decide) (by decide) (by decide) (by decide) (by decide) (by decide) h
    · exact item2 hdp hu (by decide) rfl hFF G F kz (by decide) St rfl (by decide) (by decide) (by decide) (by decide) (by decide) (by decide) (by decide) (by decide) h
    · exact item2 hdp hu (by decide) rfl hFF G F kz (by decide) St rfl (by decide) (by decide) (by decide) (by decide) (by decide) (by decide) (by decide) (by decide) h
  · obtain rfl | rfl | rfl | rfl : i = 0 ∨ i = 1 ∨ i = 2 ∨ i = 3 := by have : i < 4 := hi; omega
    · exact item3f hdp hu (by decide) rfl G F kz St rfl (by decide) (by decide) (by decide) (by decide) (by decide) (by decide) (by decide) (by decide) h
    · exact item3 hdp hu (by decide) rfl hFF G F kz (by decide) St rfl (by decide) (by decide) (by decide) (by decide) (by decide) (by decide) (by decide) (by decide) (by decide) (by decide) (by decide) (by decide) h
    · exact item3 hdp hu (by decide) rfl hFF G F kz (by decide) St rfl (by decide) (by decide) (by decide) (by decide) (by decide) (by decide) (by decide) (by decide) (by decide) (by decide) (by decide) (by decide) h
    · exact item3 hdp hu (by decide) rfl hFF G F kz (by decide) St rfl (by decide) (by decide) (by decide) (by decide) (by decide) (by decide) (by decide) (by decide) (by decide) (by decide) (by decide) (by decide) h
theorem comb_done {q : Nat × Nat} (hq : q ∈ cases4) (hdp : dp + 18 < recursionLimit) (hu : un + 400 < cLine) (hFF : s.heap.FunFrames noHeap outer) (G : Good w mg mb g) (F : Fr g L s.heap m) (kz : Keep g gz) (St : CombSt gz s.heap q (combos q).length p ix) (h : DonePost outer p ix s Q) :
    wpAny (model PP w) (aro dp un (some outer) gd) (pyNext (.ref p)) Q E s := by
  simp only [cases4, List.mem_cons, List.not_mem_nil, or_false] at hq
  rcases hq with rfl | rfl | rfl
  · exact done2 hdp hu (by decide) rfl hFF G F kz (by decide) St rfl (by decide) (by decide) (by decide) (by decide) (by decide) (by decide) (by decide) h
  · exact done2 hdp hu (by decide) rfl hFF G F kz (by decide) St rfl (by decide) (by decide) (by decide) (by decide) (by decide) (by decide) (by decide) h
  · exact done3 hdp hu (by decide) rfl hFF G F kz (by decide) St rfl (by decide) (by decide) (by decide) (by decide) (by decide) (by decide) (by decide) (by decide) (by decide) (by decide) (by decide) h
end

end
section
/-- a generator whose turns may change much; S is where its items are gathered -/
structure LGen (prog : Program) (w : World) (A : Around) (I S : Addr) (n : Nat) (J J' : List Value → Shared → Prop) : Prop where
  gen : ∀ vs s, J vs s → ∃ g, s.heap.IsGen I g
  frame : ∀ vs s h' tk, J vs s → s.toks ≤ tk → (∀ b o, b ≠ S → s.heap.get? b = some o → h'.get? b = some o) → J vs { s with heap := h', toks := tk }
  item : ∀ vs s oS (E : Value → Shared → Prop), vs.length < n → J vs s → s.heap.get? S = some oS → wpAny (model prog w) A (pyNext (.ref I)) (fun r s' => ∃ v, r = some v ∧ J (vs ++ [v]) s' ∧ s'.heap.get? S = some oS) E s
  done : ∀ vs s oS (E : Value → Shared → Prop), vs.length = n → J vs s → s.heap.get? S = some oS → wpAny (model prog w) A (pyNext (.ref I)) (fun r s' => r = none ∧ J' vs s' ∧ s'.heap.get? S = some oS) E s
theorem LGen.of_in1 {prog : Program} {A : Around} {I S : Addr} {n : Nat} {J J' : List Value → Shared → Prop} (W : LGen prog w A.in1 I S n J J') : LGen prog w A I S n J J' where
  gen := W.gen
  frame := W.frame
  item := fun vs s oS E h1 h2 h3 => wpAny_of_in1 (W.item vs s oS E h1 h2 h3)
  done := fun vs s oS E h1 h2 h3 => wpAny_of_in1 (W.done vs s oS E h1 h2 h3)
abbrev upS (a b : Str) : Prop := ltCps b.cps.toList a.cps.toList = false
theorem sorted_out_pw {vs : List Value} {ss : List Str} (hS : StrsAre vs ss) {xs : Array Keyed} (hp : xs.Perm (pairsOf vs)) (hs : SortedToK strKind xs (pairsOf vs).size) :
    ∃ ss', StrsAre (xs.map (·.2)).toList ss' ∧ ss'.Perm ss ∧ ss'.Pairwise upS := by
  have hl : xs.toList.Perm (vs.zip vs) := by rw [← pairsOf_toList]; exact Array.perm_iff_toList_perm.mp hp
  have hmem : ∀ p, p ∈ xs.toList → p.1 = p.2 ∧ p.1 ∈ vs := fun p hp' => mem_zip_self (hl.mem_iff.mp hp')
  refine ⟨xs.toList.map (fun p => strOf p.1), ?_, ?_, ?_⟩
  · have e : (xs.map (·.2)).toList = xs.toList.map (·.1) := by
      rw [Array.toList_map]; exact List.map_congr_left fun p hp' => (hmem p hp').1.symm
    rw [e]
    have h1 := strsAre_map (xs.toList.map (·.1)) (by
      intro v hv
      obtain ⟨p, hp', rfl⟩ := List.mem_map.mp hv
      exact hS.all _ (hmem p hp').2)
    rwa [List.map_map] at h1
  · have h1 := hl.map (fun p => strOf p.1)
    have e2 : (vs.zip vs).map (fun p => strOf p.1) = ss := by
      have : (vs.zip vs).map (fun p => strOf p.1) = ((vs.zip vs).map Prod.fst).map strOf := by rw [List.map_map]; rfl
      rw [this, List.map_fst_zip (Nat.le_refl _), hS.strs]
    rwa [e2] at h1
  · rw [List.pairwise_iff_getElem]
    intro i j hi hj hij
    have hi' : i < xs.size := by simpa using hi
    have hj' : j < xs.size := by simpa using hj
    have h1 := hs i j (Nat.le_of_lt hij) (by rw [← hp.size_eq]; exact hj')
    obtain ⟨x, t, ex⟩ := hS.all _ (hmem xs[i] (by simp)).2
    obtain ⟨y, u, ey⟩ := hS.all _ (hmem xs[j] (by simp)).2
    rw [KK_str hi' (x := x) (t := t) (q := xs[i].2) (Prod.ext ex rfl), KK_str hj' (x := y) (t := u) (q := xs[j].2) (Prod.ext ey rfl)] at h1
    change decide (y.cps.toList < x.cps.toList) = false at h1
    simp only [List.getElem_map, Array.getElem_toList]
    rw [show strOf xs[i].1 = x by rw [ex]; rfl, show strOf xs[j].1 = y by rw [ey]; rfl]
    show ltCps y.cps.toList x.cps.toList = false
    rw [ltCps_eq]
    exact h1
abbrev accO (vs : List Value) (c : Nat) : Obj := { cls := .type "list", dict := none, data := .seq vs.toArray c, slots := #[] }
section
variable {prog : Program} {A : Around} {R : Result → Shared → Prop} {E : Value → Shared → Prop} {s : Shared} {I S : Addr} {n : Nat} {J J' : List Value → Shared → Prop}
theorem extend_loopL (W : LGen prog w A.in1 I S n J J') (hn : n ≤ 63) (res : Value) : ∀ (k : Nat) (vs : List Value) (s : Shared) (c : Nat), n - vs.length = k → vs.length ≤ n → J vs s → s.heap.get? S = some (accO vs c) →
    (∀ s' vs' c', J' vs' s' → vs'.length = n → s'.heap.get? S = some (accO vs' c') → R (.ok (.ret res)) s') →
    codeAny (model prog w) A (.builtin "list.extend.loop" ⟨[.ref S, .ref I, res], []⟩) R s := by
  intro k
  induction k with
  | zero =>
    intro vs s c hk hi hst hS hR
    have hin : vs.length = n := by omega
    refine codeAny_builtin PySem.F.entry_extend_loop ?_
    rw [Around.under_plainId PySem.F.plain_extend_loop _]
    show wpAny _ A.in1 (pyNext (.ref I) >>= _) _ _ s
    refine wpAny_bind (wpAny_mono (W.done vs s _ _ hin hst hS) (fun r s' h' => ?_) fun _ _ e => e)
    obtain ⟨rfl, hJ, hS'⟩ := h'
    exact wpAny_pure (hR s' vs c hJ hin hS')
  | succ k ih =>
    intro vs s c hk hi hst hS hR
    have hlt : vs.length < n := by omega
    refine codeAny_builtin PySem.F.entry_extend_loop ?_
    rw [Around.under_plainId PySem.F.plain_extend_loop _]
    show wpAny _ A.in1 (pyNext (.ref I) >>= _) _ _ s
    refine wpAny_bind (wpAny_mono (W.item vs s _ _ hlt hst hS) (fun r s' h' => ?_) fun _ _ e => e)
    obtain ⟨v, rfl, hJ, hS'⟩ := h'
    show wpAny _ A.in1 (updateSeq S (·.push v) >>= _) _ _ _
    refine wpAny_bind ?_
    obtain ⟨c2, hc2⟩ : ∃ c2, (s'.heap.update S (Obj.mapSeq (·.push v))).get? S = some (accO (vs ++ [v]) c2) := by
      obtain ⟨c2, h2⟩ : ∃ c2, (s'.heap.update S (Obj.mapSeq (·.push v))).get? S = some (seqObj "list" (vs.toArray.push v) c2) := ⟨_, get?_update_seq hS' (·.push v)⟩
      exact ⟨c2, h2.trans (by rw [show vs.toArray.push v = (vs ++ [v]).toArray by simp])⟩
    have hlen : (vs ++ [v]).length = vs.length + 1 := by simp
    refine wpAny_updateSeq hS' rfl (wpAny_pure ⟨plainId_quiet PySem.F.plain_extend_loop _, ih (vs ++ [v]) _ c2 (by omega) (by omega) (W.frame _ s' _ s'.toks hJ (Nat.le_refl _) fun b o hb e => ?_) hc2 hR⟩)
      (by rw [List.size_toArray, sizeLine_eq]; omega) (by show (vs.toArray.push v).size ≤ sizeLine + 1; rw [Array.size_push, List.size_toArray, sizeLine_eq]; omega)
    exact (Heap.get?_update_other _ _ (Ne.symm hb)).trans e
theorem collectL {Q : List Value → Shared → Prop} (W : LGen prog w A.in1 I s.heap.objs.size n J J') (hn : n ≤ 63) (hI : I ≠ s.heap.objs.size) (hst : J [] { s with heap := s.heap.push (accO [] 0) })
    (hQ : ∀ s' vs, J' vs s' → vs.length = n → Q vs s') : wpAny (model prog w) A (collect (.ref I)) Q E s := by
  obtain ⟨g, hg⟩ := W.gen _ _ hst
  have hT : Shared.TypeIs { s with heap := s.heap.push (accO [] 0) } (.ref I) "generator" := hg.typeIs
  unfold collect
  refine wpAny_bind (wpAny_runValue (codeAny_builtin PySem.F.entry_proto_collect ?_))
  rw [Around.under_plainId PySem.F.plain_proto_collect _]
  show wpAny _ A.in1 (newList [] >>= fun l => again (.builtin "list.__iadd__" ⟨[l, .ref I], []⟩)) _ _ s
  refine wpAny_bind (wpAny_newObj_type ?_)
  refine wpAny_pure ⟨plainId_quiet PySem.F.plain_list_iadd _, codeAny_builtin PySem.F.entry_list_iadd ?_⟩
  rw [Around.under_plainId PySem.F.plain_list_iadd _]
  show wpAny _ A.in1 (Builtin.List.listExtendWith (.ref s.heap.objs.size) (.ref I) (.ref s.heap.objs.size)) _ _ _
  unfold Builtin.List.listExtendWith
  refine wpAny_bind (wpAny_typeOf hT ?_)
  have h1 : Builtin.List.listSameRef (.ref s.heap.objs.size) (.ref I) = false := by simp [Builtin.List.listSameRef, Ne.symm hI]
  have h2 : (Value.type "generator" == Value.type "list") = false := by decide
  have h3 : (Value.type "generator" == Value.type "tuple") = false := by decide
  simp only [h1, h2, h3, Bool.or_false, Bool.false_eq_true, if_false]
  refine wpAny_bind (wpAny_pyIter_gen hg ?_)
  refine wpAny_bind (wpAny_holding ?_)
  unfold Builtin.List.listLengthHint
  refine wpAny_bind (wpAny_specialOf hT PySem.F.gen_no_len ?_)
  show wpAny _ A.in1 (specialOf (Value.ref I) (Str.ofString "__length_hint__") >>= _) _ _ _
  refine wpAny_bind (wpAny_specialOf hT PySem.F.gen_no_hint ?_)
  refine wpAny_pure ?_
  show wpAny _ A.in1 (rule "list.extend.makes-room" >>= fun _ => Builtin.List.listTouch (.ref s.heap.objs.size) >>= fun _ =>
    again (.builtin "list.extend.loop" ⟨[.ref s.heap.objs.size, .ref I, .ref s.heap.objs.size], []⟩)) _ _ _
  refine wpAny_bind (wpAny_rule ?_)
  have hS₁ : (s.heap.push (accO [] 0)).get? s.heap.objs.size = some (accO [] 0) := Heap.get?_push_size _ rfl
  refine wpAny_bind ?_
  show wpAny _ A.in1 (updateSeq s.heap.objs.size (·.push .none) >>= fun _ => updateSeq s.heap.objs.size (·.pop)) _ _ _
  refine wpAny_bind (wpAny_updateSeq hS₁ rfl ?_)
  have hS₂ := Heap.get?_update_self (Obj.mapSeq (·.push Value.none)) hS₁ rfl
  refine wpAny_updateSeq hS₂ rfl ?_
  have hS₃ := Heap.get?_update_self (Obj.mapSeq (·.pop)) hS₂ rfl
  have oth : ∀ b o, b ≠ s.heap.objs.size → (s.heap.push (accO [] 0)).get? b = some o →
      (((s.heap.push (accO [] 0)).update s.heap.objs.size (Obj.mapSeq (·.push Value.none))).update s.heap.objs.size (Obj.mapSeq (·.pop))).get? b = some o :=
    fun b o hb e => (Heap.get?_update_other _ _ (Ne.symm hb)).trans ((Heap.get?_update_other _ _ (Ne.symm hb)).trans e)
  refine wpAny_pure ⟨plainId_quiet PySem.F.plain_extend_loop _, extend_loopL W hn _ n [] _ _ rfl (Nat.zero_le _) (W.frame _ { s with heap := s.heap.push (accO [] 0) } _ s.toks hst (Nat.le_refl _) oth) hS₃ fun s' vs' c' hJ hlen hS' => ?_⟩
  show wpAny _ A (load s.heap.objs.size >>= _) _ _ s'
  refine wpAny_bind (wpAny_load hS' ?_)
  exact wpAny_pure (hQ s' vs' hJ hlen)
/-- sorted(..) over a generator of strs -/
theorem sorted_genS {Q : Value → Shared → Prop} (W : LGen prog w A.in1.in1 I s.heap.objs.size n J J') (hn : n ≤ 63) (hI : I ≠ s.heap.objs.size) (hst : J [] { s with heap := s.heap.push (accO [] 0) })
    (hJ : ∀ vs s', J' vs s' → vs.length = n → ∃ ss, StrsAre vs ss)
    (h : ∀ vs ss s' h' D e vs' ss', J' vs s' → vs.length = n → StrsAre vs ss → Keep s'.heap h' → s'.heap.get? D = none → h'.get? D = some (seqObj "list" vs'.toArray e) → StrsAre vs' ss' → ss'.Perm ss → ss'.Pairwise upS → Q (.ref D) { s' with heap := h' }) :
    wpAny (model prog w) A (call (.builtin "sorted") [.ref I]) Q E s := by
  refine Calls.call_function_entry kind_sorted plain_sorted entry_sorted (args_sorted1 _) ?_
  unfold Builtin.«sorted»
  refine wpAny_bind (m := checkCount "sorted" 1 1 _) (wpAny_pure ?_)
  refine wpAny_bind (collectL W hn hI hst fun s' vs hj hl => ?_)
  obtain ⟨ss, hS⟩ := hJ vs s' hj hl
  refine wpAny_bind (wpAny_newList ?_ (by rw [sizeLine_eq]; omega))
  have hoL : (s'.heap.push (seqObj "list" vs.toArray 0)).get? s'.heap.objs.size = some (seqObj "list" vs.toArray 0) := Heap.get?_push_size _ rfl
  have hD : s'.heap.get? s'.heap.objs.size = none := Heap.get?_none_of_le (Nat.le_refl _)
  refine wpAny_bind (wpAny_holding (wpAny_call_entry slot_list_sort ⟨_, hoL, rfl⟩ entry_list_sort (list_sort_treeK (s := { s' with heap := s'.heap.push (seqObj "list" vs.toArray 0) }) strKind_oneLt hoL hS.keysOf (fun v₁ v₂ rest e => keyKind_strs (by rw [← e]; exact hS)) (by omega) fun st' a1 a2 => ⟨_, rfl, ?_⟩) (args_list_sort _)))
  obtain ⟨ss', h1, h2, h3⟩ := sorted_out_pw hS a1 a2
  obtain ⟨e, he⟩ := sortedHeap_at (vs := vs) (out := (arrOf st').map (·.2)) hoL
  refine wpAny_pure ⟨_, rfl, h vs ss s' _ _ e _ ss' hj hl hS (fun b o eb => ?_) hD ?_ h1 h2 h3⟩
  · have hb : b ≠ s'.heap.objs.size := fun z => by rw [z, hD] at eb; cases eb
    have eb' := Heap.get?_push_of_some (seqObj "list" vs.toArray 0) eb
    exact (sortedHeap_old hb (Heap.lt_size eb')).trans eb'
  · rw [Array.toArray_toList]; exact he
end

end
section
local macro_rules | `(tactic| walk_at "eval GeneratorExp") => `(tactic| refine stopHere ?_)
local macro_rules | `(tactic| walk_at "call builtin:sorted") => `(tactic| refine stopHere ?_)
local macro_rules | `(tactic| walk_at "binaryOp Add str str") => `(tactic| refine stopHere ?_)
theorem LGen.of_walk {prog : Program} {A : Around} {I S : Addr} {n : Nat} {fp wr : List Addr} {G : Array GenState → Array GenState → Prop} {P : Nat → Value → Prop} {St : Nat → Shared → Prop} (W : WalksS prog w A I fp wr G n P St)
    (hg : ∀ i s, St i s → ∃ g, s.heap.IsGen I g) (hS : S ∉ fp) (s₀ : Shared) :
    LGen prog w A I S n (fun vs s => St vs.length s ∧ (∀ (j : Nat) (v : Value), vs[j]? = some v → P j v) ∧ (∀ b o, b ≠ S → b ∉ wr → s₀.heap.get? b = some o → s.heap.get? b = some o) ∧ G s₀.gens s.gens ∧ s.drawn = s₀.drawn ∧ s.os = s₀.os)
      (fun vs s => (∀ (j : Nat) (v : Value), vs[j]? = some v → P j v) ∧ (∀ b o, b ≠ S → b ∉ wr → s₀.heap.get? b = some o → s.heap.get? b = some o) ∧ G s₀.gens s.gens ∧ s.drawn = s₀.drawn ∧ s.os = s₀.os) where
  gen := fun vs s h => hg _ _ h.1
  frame := fun vs s h' tk h htk hk => ⟨W.frame _ s h' tk h.1 htk fun b hb o e => hk b o (fun q => hS (q ▸ hb)) e, h.2.1, fun b o hb hw e => hk b o hb (h.2.2.1 b o hb hw e), h.2.2.2⟩
  item := fun vs s oS E hlt h eS => by
    obtain ⟨st, hP, hk, hG, hd, ho⟩ := h
    refine W.item _ s _ E hlt st fun v s' hv st' hm => ⟨v, rfl, ⟨by simpa using st', fun j u hj => ?_, fun b o hb hw e => hm.heap b o hw (hk b o hb hw e), W.gtrans _ _ _ hG hm.gens, hm.drawn.trans hd, hm.os.trans ho⟩, hm.heap _ _ (fun q => hS (W.sub _ q)) eS⟩
    rcases Nat.lt_trichotomy j vs.length with q | q | q
    · rw [List.getElem?_append_left q] at hj; exact hP j u hj
    · subst q; simp at hj; subst hj; exact hv
    · rw [List.getElem?_eq_none (by rw [List.length_append, List.length_singleton]; omega)] at hj; cases hj
  done := fun vs s oS E hlen h eS => by
    obtain ⟨st, hP, hk, hG, hd, ho⟩ := h
    subst hlen
    exact W.done s _ E st fun s' hm => ⟨rfl, ⟨hP, fun b o hb hw e => hm.heap b o hw (hk b o hb hw e), W.gtrans _ _ _ hG hm.gens, hm.drawn.trans hd, hm.os.trans ho⟩, hm.heap _ _ (fun q => hS (W.sub _ q)) eS⟩
theorem strs_of {ord : List Nat} {vs : List Value} (hlen : vs.length = ord.length) (h : ∀ (j : Nat) (v : Value), vs[j]? = some v → ∃ t, v = .str (Str.ofString (toString ((ord.getD j 0 : Nat) : Int))) t) : StrsAre vs (ord.map fun (k : Nat) => Str.ofString (toString (k : Int))) := by
  induction ord generalizing vs with
  | nil => cases vs with
    | nil => exact .nil
    | cons v vs => simp at hlen
  | cons k ord ih => cases vs with
    | nil => simp at hlen
    | cons v vs =>
      obtain ⟨t, rfl⟩ := h 0 v rfl
      exact .cons _ t (ih (by simpa using hlen) fun j u e => by simpa using h (j + 1) u (by simpa using e))
/-- a candidate's sign; a set's sign -/
def candS (k : Nat) : Str := Str.ofString (toString (k : Int))
def keyS (S : List Nat) : Str := Str.ofString "{" ++ Txt.join (Str.ofString ", ") (S.map candS) ++ Str.ofString "}"
theorem up_anti : ∀ a < 4, ∀ b < 4, upS (candS a) (candS b) → upS (candS b) (candS a) → candS a = candS b := by decide +kernel
theorem up_sub4 : ∀ S ∈ sub4, (S.map candS).Pairwise upS := by decide +kernel
theorem key_len : ∀ S ∈ sub4, ((S.map candS).map (·.length)).sum + (S.map candS).length ≤ 1048576 := by decide +kernel
theorem key_len2 : ∀ S ∈ sub4, (Str.ofString "{").length + (Txt.join (Str.ofString ", ") (S.map candS)).length ≤ 100 ∧ (Str.ofString "{" ++ Txt.join (Str.ofString ", ") (S.map candS)).length + (Str.ofString "}").length ≤ 100 := by decide +kernel
theorem sorted_cands {S ord : List Nat} {ss : List Str} (hS : S ∈ sub4) (ho : ord.Perm S) (hp : ss.Perm (ord.map candS)) (hs : ss.Pairwise upS) : ss = S.map candS := by
  have hp' : ss.Perm (S.map candS) := hp.trans (ho.map _)
  refine List.Perm.eq_of_pairwise (le := upS) (fun a b ha hb h1 h2 => ?_) hs (up_sub4 S hS) hp'
  obtain ⟨x, hx, rfl⟩ := List.mem_map.mp (hp'.mem_iff.mp ha)
  obtain ⟨y, hy, rfl⟩ := List.mem_map.mp hb
  exact up_anti x (sub4_lt hS hx) y (sub4_lt hS hy) h1 h2
theorem code_at {h h' : Heap} {c P : Addr} (k : ∀ b ∈ [c, P], ∀ o, h.get? b = some o → h'.get? b = some o) (x : ∃ ps, CodeT h c P ps) : ∃ ps, CodeT h' c P ps := by
  obtain ⟨ps, o, vs, file, tf, flags, tg, inF, text, tt, op, a1, a2, a3, a4, a5, a6, a7, a8, a9⟩ := x
  exact ⟨ps, o, vs, file, tf, flags, tg, inF, text, tt, op, k _ (by simp) _ a1, a2, a3, a4, a5, a6, a7, k _ (by simp) _ a8, a9⟩
section
variable {dp un : Nat} {fr : Option (List Env)} {gd : Option (List Code)} {s : Shared} {Q : Value → Shared → Prop} {y : Addr} {S : List Nat} {tf : Nat → Tok} {ep : Nat} {led : Bool} {dx : Addr}
theorem str_set (hdp : dp + 20 < recursionLimit) (hu : un + 300 < cLine) (G : GoodT w mg mb s.heap) (hS : S ∈ sub4) (hy : (hideAll s.heap tabs).get? y = some (csObj dx S tf ep led)) (hle : LedOk w led)
    (h : ∀ s' t, Went w s s' → Q (.str (keyS S) t) s') :
    wpAny (model PP w) (aro dp un fr gd) (call (.ref 93) [.ref y, .none]) Q never s := by
  have B := G.base
  obtain ⟨o1, q1⟩ := tab_obj G.tab (c := 56) (P := 52) (by decide)
  obtain ⟨o2, q2⟩ := tab_obj G.tab (c := 84) (P := 80) (by decide)
  obtain ⟨o3, q3⟩ := tab_obj G.tab (c := 92) (P := 88) (by decide)
  have X1 : (K39 w.params).In s.heap := G.good.X
  have Sy : Src w (hideAll s.heap tabs) y S := src_set hS hy (setCls_own B.X) hle
  refine wpAny_call ?_
  refine' enterX (lb := [(Str.ofString "candset", .ref y)]) (cn := Str.ofString "cand_names") (v := .none) (tabL o1 o2 o3) ?hled B.X B.T ?ho ?hcd ?hr ?hb ?h1 ?h2 ?h3 ?h4 ?h5 ?h6 ?h7 ?_
  case hled => intro q hq; simp only [List.mem_cons, List.not_mem_nil, or_false] at hq; rcases hq with rfl | rfl | rfl <;> assumption
  case ho => k_is
  case hcd => k_is
  case hr => k_room
  case hb => first | exact BindsTo.of_eq rfl | exact binds_K X1 rfl (by k_is) rfl rfl rfl
  case h1 => exact fun n acc => rfl
  case h2 => exact fun h => rfl
  case h3 => exact locs rfl
  case h4 => exact rfl
  case h5 => exact rfl
  case h6 => exact rfl
  case h7 => exact rfl
  intro g' L' h' ob hg' hL' F' hob N' X' T'
  have hL' : L' = s.heap.objs.size := hL'
  obtain rfl : g' = hideAll s.heap tabs := hg'
  have hLt : L' ∉ tabs := fresh_tabs G.tab (Heap.get?_none_of_le (Nat.le_of_eq hL'.symm))
  k_steps
  obtain ⟨bm, obm, M⟩ := B.M
  have kg : Keep (hideAll s.heap tabs) s.heap := fun b o e => of_hideAll _ e
  have Nt : News (hideAll s.heap tabs) L' s.heap (tabL o1 o2 o3) := by
    intro p hp
    simp only [List.mem_cons, List.not_mem_nil, or_false] at hp
    rcases hp with rfl | rfl | rfl
    · exact ⟨q1, fun e => hLt (e ▸ (by decide : (52 : Addr) ∈ tabs)), B.no 52 (by decide)⟩
    · exact ⟨q2, fun e => hLt (e ▸ (by decide : (80 : Addr) ∈ tabs)), B.no 80 (by decide)⟩
    · exact ⟨q3, fun e => hLt (e ▸ (by decide : (88 : Addr) ∈ tabs)), B.no 88 (by decide)⟩
  have t' : TabAt h' := tabsBack B kg G.tab Nt F'.keep N' (fun p hp => List.mem_cons_of_mem _ hp)
  have t88 : (hideAll s.heap tabs).get? 88 = none := hideAll_none _ (by decide)
  have ne88 : ∀ {b : Addr} {o : Obj}, (hideAll s.heap tabs).get? b = some o → b ≠ 88 := fun {b} {o} e q => by rw [q, t88] at e; cases e
  have hgl : mainGlobals ≠ 88 := by obtain ⟨o, es, ep, e, _⟩ := T'.g; exact ne88 e
  have hcs : cStatics ≠ 88 := by obtain ⟨mc, ⟨o, es, ep, e, _⟩, _⟩ := T'.nolimit; exact ne88 e
  have Ms := M.keeps F'.keep
  show wpAny _ _ _ _ _ _
  refine genx (y := y) (l := S) (c := 92) (P := 88) (bm := bm) (ob := obm) (mg := mg) (cl := []) (fun k yv => ∃ ty, yv = .str (Str.ofString (toString (k : Int))) ty) rfl (by walk_at "m_around") rfl rfl (by decide) rfl rfl rfl (fun _ => rfl) ?hit (Sy.keeps F'.keep) rfl (t' (92, 88) (by decide)) (ne88 hy) (T'.nolimit.keeps F'.keep) hcs Ms ⟨hgl, ne88 M.obj⟩ ?_ ?_
  case hit => exact nameL F'.ns rfl rfl rfl (by decide) ⟨rfl, rfl⟩
  · intro A' E' k t s₂ m₂ C code hA hk hn2 hm2 hkeep
    exact str_elt (env := genEnv _ _ _ _ _ _) (sub4_lt hS hk) X' T' (fun b o e => hkeep b o (ne88 e) (F'.keep _ _ e)) hn2 hm2 rfl rfl rfl rfl rfl
  · intro a C I s' ord fp hord hC hI hdr hos hgo hk htab hgen hfpB W Gt
    have hL88 : L' ≠ 88 := fun e => hLt (e ▸ (by decide : (88 : Addr) ∈ tabs))
    have F1 : Fr (hideAll s.heap tabs) L' s'.heap _ := ⟨F'.ns.at' fun o e => hk _ _ hL88 e, fun b o e => hk _ _ (ne88 e) (F'.keep _ _ e), F'.above⟩
    have N1 : News (hideAll s.heap tabs) L' s'.heap [] := News.nil
    have F0k := F'.keep
    obtain ⟨oL, _, _, hLo, _⟩ := F'.ns
    have nCI : ∀ b, b < h'.objs.size → b ∉ [C, I] := fun b hb => by
      simp only [List.mem_cons, List.not_mem_nil, or_false, not_or]
      exact ⟨Nat.ne_of_lt (Nat.lt_of_lt_of_le hb hC), Nat.ne_of_lt (Nat.lt_of_lt_of_le hb hI)⟩
    clear F' N'
    k_steps
    have hS' : s'.heap.objs.size ∉ fp := fun hm => Nat.lt_irrefl _ (hfpB _ hm)
    have WL := LGen.of_walk (WalksS.of_in1 (WalksS.in4_3 W)) (fun i s st => ⟨_, st.1⟩) hS' s'
    obtain ⟨oa, nm, qn, hoa, _⟩ := id hgen
    show wpAny _ _ (call (.builtin "sorted") [.ref a]) _ _ _
    refine sorted_genS WL (Nat.le_trans (sub4_le hS) (by decide)) (Nat.ne_of_lt (Heap.lt_size hoa)) ⟨W.frame 0 s' _ s'.toks Gt (Nat.le_refl _) fun b hb o e => Heap.get?_push_of_some _ e, fun j v e => (by simp at e), fun b o hb hw e => Heap.get?_push_of_some _ e, W.grefl _, rfl, rfl⟩
      (fun vs s₃ hj hl => ⟨_, strs_of (ord := ord) (by rw [hl, hord.length_eq]) hj.1⟩) ?_
    rintro vs ss s₃ h₃ D e vs' ss' ⟨hP, hk3, hG3, hd3, ho3⟩ hl hSS hk4 zD eD hS4 hp4 hpw
    have e5 : ss = ord.map candS := by
      rw [← hSS.strs]
      exact (strs_of (ord := ord) (by rw [hl, hord.length_eq]) hP).strs
    subst e5
    have e6 := sorted_cands hS hord hp4 hpw
    subst e6
    have kk : ∀ b o, b < h'.objs.size → s'.heap.get? b = some o → h₃.get? b = some o := fun b o hb e => hk4 _ _ (hk3 b o (Nat.ne_of_lt (Heap.lt_size e)) (by
      simp only [List.mem_cons, List.not_mem_nil, or_false, not_or]
      exact ⟨Nat.ne_of_lt (Nat.lt_of_lt_of_le hb hC), Nat.ne_of_lt (Nat.lt_of_lt_of_le hb hI)⟩) e)
    have F3 : Fr (hideAll s.heap tabs) L' h₃ _ := ⟨F1.ns.at' fun o e => kk _ _ (Heap.lt_size hLo) e, fun b o e => kk _ _ (Heap.lt_size (F0k _ _ e)) (F1.keep _ _ e), F1.above⟩
    have N3 : News (hideAll s.heap tabs) L' h₃ [(D, seqObj "list" vs'.toArray e)] := by
      obtain ⟨z1, z2⟩ := Fr.fresh (L := L') (base := hideAll s.heap tabs) (h := s₃.heap) ⟨F1.ns.at' fun o e => hk3 _ _ (Nat.ne_of_lt (Heap.lt_size e)) (nCI _ (Heap.lt_size hLo)) e, fun b o e => hk3 _ _ (Nat.ne_of_lt (Heap.lt_size (F1.keep _ _ e))) (nCI _ (Heap.lt_size (F0k _ _ e))) (F1.keep _ _ e), F1.above⟩ zD
      exact News.cons' News.nil eD z2 z1
    have tE : TabAt h₃ := by
      have old : ∀ b o, h'.get? b = some o → b ≠ 88 → h₃.get? b = some o := fun b o e hb => kk _ _ (Heap.lt_size e) (hk _ _ hb e)
      intro q hq
      simp only [List.mem_cons, List.not_mem_nil, or_false] at hq
      rcases hq with rfl | rfl | rfl
      · exact code_at (fun b hb o e => old b o e (by rintro rfl; simp at hb)) (t' (56, 52) (by decide))
      · exact code_at (fun b hb o e => old b o e (by rintro rfl; simp at hb)) (t' (84, 80) (by decide))
      · refine code_at (fun b hb o e => kk _ _ ?_ e) htab
        obtain ⟨o88, e88⟩ := tab_obj t' (c := 92) (P := 88) (by decide)
        obtain ⟨o92, e92⟩ := B.code (92, 88) (by decide)
        simp only [List.mem_cons, List.not_mem_nil, or_false] at hb
        rcases hb with rfl | rfl
        · exact Heap.lt_size (F0k _ _ e92)
        · exact Heap.lt_size e88
    obtain ⟨p1, p2, p3, Nt3⟩ := tabsIn B tE hLt
    have N4 : News (hideAll s.heap tabs) L' h₃ ((D, seqObj "list" vs'.toArray e) :: tabL p1 p2 p3) := News.app N3 Nt3
    have F3k := F3.keep
    have backT : ∀ h4 nl4, Keep (hideAll s.heap tabs) h4 → News (hideAll s.heap tabs) L' h4 nl4 → (∀ p ∈ tabL p1 p2 p3, p ∈ nl4) → TabAt h4 := fun h4 nl4 k N hs => tabsBack B F3k tE Nt3 k N hs
    clear N3
    clear F1 N1
    k_steps
    rename Fr _ _ _ _ => F5
    rename News _ _ _ _ => N5
    have hw : ((S.map candS).map (·.length)).sum + (S.map candS).length ≤ 1048576 := key_len S hS
    refine join_listW (items := vs'.toArray) ⟨_, (N5 _ (.head _)).1, rfl, _, rfl⟩ (by simpa using hS4) (by decide +kernel) hw ?_
    k_steps
    have k2 := key_len2 S hS
    show wpAny _ _ (binaryOp .Add _ _) _ _ _
    refine PyProof.Rows.add_str (fun t2 tk2 => ?_) (by rw [sizeLine_eq]; omega)
    k_steps
    show wpAny _ _ (binaryOp .Add _ _) _ _ _
    refine PyProof.Rows.add_str (fun t2 tk2 => ?_) (by rw [sizeLine_eq]; omega)
    k_steps
    have tF := backT _ _ F5.keep N5 fun p hp => List.mem_cons_of_mem _ hp
    exact h _ t2 ⟨fun b o hb e => F5.keep _ _ (hideAll_get _ e hb), tF, GensOk.only hG3 _ (Nat.le_refl _) hgo, hd3.trans hdr, ho3.trans hos⟩
end

end
section
local macro_rules | `(tactic| walk_at "call ref") => `(tactic| refine stopHere ?_)
local macro_rules | `(tactic| walk_at "callWith ref") => `(tactic| ((with_reducible show wpAny _ _ (callWith (Value.ref 93) _ _) _ _ _); refine stopHere ?_))
theorem cs_ga : findIn (K39 w.params) (.ref 75) "__getattribute__" = some (some (.builtin "set.__getattribute__")) := by k_is
theorem cs_gx : findIn (K39 w.params) (.ref 75) "__getattr__" = some none := by k_is
theorem cs_swn : findIn (K39 w.params) (.ref 75) (Str.ofString "str_with_names") = some (some (.ref 72)) := by k_is
theorem cs_swf : typeIn (K39 w.params) (.ref 72) = some (.type "function") := by k_is
theorem canon_ga : (Manifest.canonical "set.__getattribute__" != "object.__getattribute__") = false := by decide +kernel
theorem method_cs {A : Around} {E : Value → Shared → Prop} {s : Shared} {x : Addr} {ox : Obj} {o : Obj} {pl : Sem Bool} {Q : Value × List Value → Shared → Prop} (X : (K39 w.params).In s.heap) (I : InstAt s.heap x ox 75 (some o)) (hd : lookIn (Str.ofString "str_with_names") o = some none) (h : Q (.ref 72, [.ref x]) s) :
    wpAny (model PP w) A (getMethod (.ref x) (Str.ofString "str_with_names") pl) Q E s := by
  unfold getMethod specialOf
  refine wpAny_bind (wpAny_bind (I.type.here ((looks_findIn X cs_ga).here ?_)))
  dsimp only
  rw [canon_ga, if_neg (by decide)]
  refine wpAny_bind (wpAny_bind (I.type.here ((looks_findIn X cs_gx).here ?_)))
  refine wpAny_bind (wpAny_bind (I.type.here ((looks_findIn X cs_swn).here (wpAny_bind ((looks_typeIn X cs_swf).here ?_)))))
  rw [if_neg (by decide +kernel)]
  refine wpAny_bind (wpAny_loadPart I.at_ ?_)
  have hdd := I.dict
  cases e : ox.dict with
  | none => exact wpAny_bind (wpAny_rule (wpAny_pure h))
  | some dx =>
    rw [e] at hdd
    refine wpAny_bind (wpAny_bind (wpAny_loadPart hdd ?_))
    rw [nsLook_of hd]
    refine wpAny_pure ?_
    exact wpAny_bind (wpAny_rule (wpAny_pure h))
local macro_rules | `(tactic| walk_at "getMethod ref") => `(tactic| refine stopHere ?_)
theorem newsTabs {g h : Heap} {L : Addr} {o1 o2 o3 : Obj} (B : BaseT w mg mb g) (q1 : h.get? 52 = some o1) (q2 : h.get? 80 = some o2) (q3 : h.get? 88 = some o3) (hLt : L ∉ tabs) : News g L h (tabL o1 o2 o3) := by
  intro p hp
  simp only [List.mem_cons, List.not_mem_nil, or_false] at hp
  rcases hp with rfl | rfl | rfl
  · exact ⟨q1, fun e => hLt (e ▸ (by decide : (52 : Addr) ∈ tabs)), B.no 52 (by decide)⟩
  · exact ⟨q2, fun e => hLt (e ▸ (by decide : (80 : Addr) ∈ tabs)), B.no 80 (by decide)⟩
  · exact ⟨q3, fun e => hLt (e ▸ (by decide : (88 : Addr) ∈ tabs)), B.no 88 (by decide)⟩
section
variable {dp un : Nat} {fr : Option (List Env)} {gd : Option (List Code)} {s : Shared} {Q : Value → Shared → Prop} {y : Addr} {S : List Nat} {tf : Nat → Tok} {ep : Nat} {led : Bool} {dx : Addr}
theorem went_in {h' : Heap} {L : Addr} {m : Str → Option Value} {s s₂ : Shared} {tk : Nat} (B : BaseT w mg mb (hideAll s.heap tabs)) (F : Fr (hideAll s.heap tabs) L h' m) (W : Went w { s with heap := h', toks := tk } s₂) : Went w s s₂ :=
  ⟨fun b o hb e => W.k _ _ hb (F.keep _ _ (hideAll_get _ e hb)), W.tab, W.gens, W.drawn, W.os⟩
theorem str_names (hdp : dp + 24 < recursionLimit) (hu : un + 400 < cLine) (G : GoodT w mg mb s.heap) (hS : S ∈ sub4) (hy : (hideAll s.heap tabs).get? y = some (csObj dx S tf ep led)) (hle : LedOk w led)
    (h : ∀ s' t, Went w s s' → Q (.str (keyS S) t) s') :
    wpAny (model PP w) (aro dp un fr gd) (call (.ref 72) [.ref y]) Q never s := by
  have B := G.base
  obtain ⟨o1, q1⟩ := tab_obj G.tab (c := 56) (P := 52) (by decide)
  obtain ⟨o2, q2⟩ := tab_obj G.tab (c := 84) (P := 80) (by decide)
  obtain ⟨o3, q3⟩ := tab_obj G.tab (c := 92) (P := 88) (by decide)
  have X1 : (K39 w.params).In s.heap := G.good.X
  refine wpAny_call ?_
  refine' enterL (binds := [(Str.ofString "self", .ref y), (Str.ofString "cand_names", .none)]) (tabL o1 o2 o3) ?hled B.X B.T ?k6 ?k7 ?k8 ?k9 ?kB ?_ ?c2 ?c3 ?c4 ?c5
  case hled => intro q hq; simp only [List.mem_cons, List.not_mem_nil, or_false] at hq; rcases hq with rfl | rfl | rfl <;> assumption
  case k6 => k_is
  case k7 => k_is
  case k8 => k_room
  case k9 => first | exact BindsTo.of_eq rfl | exact binds_K X1 rfl (by k_is) rfl rfl rfl
  case c5 => decide
  case kB => exact locs rfl
  case c2 => exact rfl
  case c3 => exact rfl
  case c4 => exact rfl
  intro g' L' h' hg' hL' F' N' X' T'
  have hL' : L' = s.heap.objs.size := hL'
  obtain rfl : g' = hideAll s.heap tabs := hg'
  have hLt : L' ∉ tabs := fresh_tabs G.tab (Heap.get?_none_of_le (Nat.le_of_eq hL'.symm))
  have kg : Keep (hideAll s.heap tabs) s.heap := fun b o e => of_hideAll _ e
  have Nt : News (hideAll s.heap tabs) L' s.heap (tabL o1 o2 o3) := newsTabs B q1 q2 q3 hLt
  k_steps
  rename Fr _ _ _ _ => F1
  rename News _ _ _ _ => N1
  show wpAny _ _ (call (.ref 93) [.ref y, .none]) _ _ _
  have t' : TabAt h' := tabsBack B kg G.tab N1 F1.keep N' (fun p hp => hp)
  refine' str_set ?d1 ?u1 ?GT hS (B.keepT F1.keep _ _ hy) hle fun s₂ t W => h s₂ t (went_in B F1 W)
  case GT => exact B.goodT F1.keep t'
  case d1 => k_room
  case u1 => k_units
theorem str_cs (hdx : (hideAll s.heap tabs).get? dx = some (dictOf [] 0)) (hdp : dp + 28 < recursionLimit) (hu : un + 500 < cLine) (G : GoodT w mg mb s.heap) (hS : S ∈ sub4) (hy : (hideAll s.heap tabs).get? y = some (csObj dx S tf ep led)) (hle : LedOk w led)
    (h : ∀ s' t, Went w s s' → Q (.str (keyS S) t) s') :
    wpAny (model PP w) (aro dp un fr gd) (call (.ref 64) [.ref y]) Q never s := by
  have B := G.base
  obtain ⟨o1, q1⟩ := tab_obj G.tab (c := 56) (P := 52) (by decide)
  obtain ⟨o2, q2⟩ := tab_obj G.tab (c := 84) (P := 80) (by decide)
  obtain ⟨o3, q3⟩ := tab_obj G.tab (c := 92) (P := 88) (by decide)
  have X1 : (K39 w.params).In s.heap := G.good.X
  refine wpAny_call ?_
  refine' enterL (binds := [(Str.ofString "self", .ref y)]) (tabL o1 o2 o3) ?hled B.X B.T ?k6 ?k7 ?k8 ?k9 ?kB ?_ ?c2 ?c3 ?c4 ?c5
  case hled => intro q hq; simp only [List.mem_cons, List.not_mem_nil, or_false] at hq; rcases hq with rfl | rfl | rfl <;> assumption
  walk_at "m_cases"
  intro g' L' h' hg' hL' F' N' X' T'
  have hL' : L' = s.heap.objs.size := hL'
  obtain rfl : g' = hideAll s.heap tabs := hg'
  have hLt : L' ∉ tabs := fresh_tabs G.tab (Heap.get?_none_of_le (Nat.le_of_eq hL'.symm))
  have Nt : News (hideAll s.heap tabs) L' s.heap (tabL o1 o2 o3) := newsTabs B q1 q2 q3 hLt
  have Iy : InstAt (hideAll s.heap tabs) y (csObj dx S tf ep led) 75 (some (dictOf [] 0)) := ⟨hy, rfl, rfl, hdx⟩
  k_steps
  show wpAny _ _ (getMethod (.ref y) _ _) _ _ _
  refine method_cs (X'.keeps F'.keep) (InstAt.keeps' Iy F'.keep) rfl ?_
  k_steps
  rename Fr _ _ _ _ => F1
  rename News _ _ _ _ => N1
  show wpAny _ _ (call (.ref 72) [.ref y]) _ _ _
  have t' : TabAt h' := tabsBack B (fun b o e => of_hideAll _ e) G.tab N1 F1.keep N' (fun p hp => hp)
  refine' str_names ?d1 ?u1 ?GT hS (B.keepT F1.keep _ _ hy) hle fun s₂ t W => h s₂ t (went_in B F1 W)
  case GT => exact B.goodT F1.keep t'
  case d1 => k_room
  case u1 => k_units
theorem cs_str : findIn (K39 w.params) (.ref 75) "__str__" = some (some (.ref 64)) := by k_is
theorem cs_strf : isFn (K39 w.params) (.ref 64) = true := by k_is
/-- str(y) of a set of candidates -/
theorem call_str_cs {E : Value → Shared → Prop} (hdx : (hideAll s.heap tabs).get? dx = some (dictOf [] 0)) (hdp : dp + 30 < recursionLimit) (hu : un + 510 < cLine) (G : GoodT w mg mb s.heap) (hS : S ∈ sub4) (hy : (hideAll s.heap tabs).get? y = some (csObj dx S tf ep led)) (hle : LedOk w led)
    (h : ∀ s' t, Went w s s' → Q (.str (keyS S) t) s') :
    wpAny (model PP w) (aro dp un fr gd) (call (.type "str") [.ref y]) Q E s := by
  have B := G.base
  have Iy : InstAt (hideAll s.heap tabs) y (csObj dx S tf ep led) 75 (some (dictOf [] 0)) := ⟨hy, rfl, rfl, hdx⟩
  refine kso_call (by show un + 1 + 1 < _; omega) G.good.X (InstAt.keeps' Iy fun b o e => of_hideAll _ e) cs_str cs_strf (wpAny_never ?_)
  exact str_cs (dp := dp) (un := un + 1 + 1) hdx (by omega) (by omega) G hS hy hle fun s' t W => h s' t W
end

end
section
theorem aro_eta {A : Around} (h : A.handled = none) : A = aro A.depth A.units A.frames A.guards := by
  obtain ⟨a, b, c, d, e⟩ := A
  cases h
  rfl
theorem cs_name : nsIn (K39 w.params) mainGlobals "CandidateSet" = some (some (.ref 75)) := by k_is
theorem cs_keep : keepIn (K39 w.params) (.ref 75) = true := by k_is
theorem nameG {M : Model} {A : Around} {E : Value → Shared → Prop} {s : Shared} {env : Env} {x : Str} {pos : Pos} {v : Value} {Q : Value → Shared → Prop} {h₀ : Heap} {p : Program} {loose : List Str} {mg mb : Str → Option Value} {K : Frag}
    (k : Keep h₀ s.heap) (X : K.In h₀) (T : TopRead p loose mg mb h₀) (hg : env.globals = mainGlobals) (e : nsIn K mainGlobals x = some (some v)) (hk : env.scope.kind = .function) (hl : env.kindOf x = some .globalImplicit) (hd : (x == ("__debug__" : Str)) = false) (h : Q v s) : wpAny M A (eval (.Name x pos) env) Q E s :=
  wpAny_Name (ks_loadName_global hk hl (loadGlobal_global (hg ▸ T.g.keeps k) (mg_of X T.g e) h)) hd
/-- CandidateSet(committee), in any inner frame -/
theorem elt84 {A' : Around} {E' : Value → Shared → Prop} {s : Shared} {g : Heap} {env : Env} {m : Str → Option Value} {T C : Addr} {l : List Nat} {p0 p1 p2 : Pos} {Q : Value → Shared → Prop} (hA : A'.handled = none) (hd : A'.depth + 10 < recursionLimit) (B : BaseT w mg mb g) (k : Keep g s.heap) (t : TabAt s.heap) (Sx : Src w g T l)
    (hn : s.heap.Ns env.locals m) (hm : m (Str.ofString "committee") = some (.ref T)) (hg : env.globals = mainGlobals) (hk : env.scope.kind = .function) (h1 : env.kindOf (Str.ofString "committee") = some .local) (h2 : env.kindOf (Str.ofString "CandidateSet") = some .globalImplicit)
    (h : ∀ s' y dx tf ep led, s.heap.get? y = none → Went w s s' → s'.heap.get? y = some (csObj dx l tf ep led) → LedOk w led → s'.heap.get? dx = some (dictOf [] 0) → s.heap.get? dx = none → Q (.ref y) s') :
    wpAny (model PP w) A' (eval (.Call (.Name (Str.ofString "CandidateSet") p0) [.Name (Str.ofString "committee") p1] [] p2) env) Q E' s := by
  rw [aro_eta hA]
  refine wpAny_Call_Name_kw ?_
  refine nameG k B.X B.T hg cs_name hk h2 (by decide) ?_
  refine callWith_K B.X cs_keep (spliced_more (nameL hn hm hk h1 (by decide) (spliced_none ⟨B.X.keeps k, ?_⟩)))
  exact new_cs hd (B.goodT k t) (Sx.keeps (B.keepT k)) h
theorem forin_nil {M : Model} {A : Around} {E : Value → Shared → Prop} {s : Shared} {f : Expr → Bool → Sem (ForInStep Bool)} : wpAny M A (forIn ([] : List Expr) true f) (fun ok s₃ => ok = true ∧ s₃ = s) E s := by
  rw [List.forIn_nil]
  exact wpAny_pure ⟨rfl, rfl⟩
/-- what a turn of the generator may have done since it was woken -/
structure LS (w : World) (C I : Addr) (s₀ s : Shared) : Prop where
  k : ∀ b o, b ≠ C → b ≠ I → b ∉ tabs → s₀.heap.get? b = some o → s.heap.get? b = some o
  tab : TabAt s.heap
  gens : GensOk s₀.gens s.gens
  drawn : s.drawn = s₀.drawn
  os : s.os = s₀.os
theorem LS.rfl' {C I : Addr} {s : Shared} (t : TabAt s.heap) : LS w C I s s := ⟨fun _ _ _ _ _ e => e, t, GensOk.rfl', rfl, rfl⟩
theorem LS.went {C I : Addr} {a b c : Shared} (x : LS w C I a b) (W : Went w b c) : LS w C I a c := ⟨fun p o h1 h2 h3 e => W.k _ _ h3 (x.k p o h1 h2 h3 e), W.tab, x.gens.trans W.gens, W.drawn.trans x.drawn, W.os.trans x.os⟩
theorem tab_ext {h h' : Heap} {z : Addr} (t : TabAt h) (hz : z ∉ tabs) (hc : ∀ q ∈ ([(56, 52), (84, 80), (92, 88)] : List (Addr × Addr)), z ≠ q.1) (k : ∀ b o, b ≠ z → h.get? b = some o → h'.get? b = some o) : TabAt h' := fun q hq => by
  refine code_at (fun b hb o e => k b o ?_ e) (t q hq)
  simp only [List.mem_cons, List.not_mem_nil, or_false] at hb
  rcases hb with rfl | rfl
  · exact (hc q hq).symm
  · rintro rfl
    simp only [List.mem_cons, List.not_mem_nil, or_false] at hq
    rcases hq with rfl | rfl | rfl <;> exact hz (by decide)
theorem LS.step {C I z : Addr} {a b : Shared} {h' : Heap} {tk : Nat} (x : LS w C I a b) (hz : z = C ∨ z = I) (hzt : z ∉ tabs) (hc : ∀ q ∈ ([(56, 52), (84, 80), (92, 88)] : List (Addr × Addr)), z ≠ q.1) (k : ∀ p o, p ≠ z → b.heap.get? p = some o → h'.get? p = some o) : LS w C I a { b with heap := h', toks := tk } :=
  ⟨fun p o h1 h2 h3 e => k p o (by rcases hz with rfl | rfl <;> assumption) (x.k p o h1 h2 h3 e), tab_ext x.tab hzt hc k, x.gens, x.drawn, x.os⟩
/-- the i-th value told -/
def ToldS (w : World) (Cs : Nat → List Nat) (i : Nat) (v : Value) (h : Heap) : Prop := ∃ y dx tf ep led, v = .ref y ∧ h.get? y = some (csObj dx (Cs i) tf ep led) ∧ h.get? dx = some (dictOf [] 0) ∧ LedOk w led
def WokeS (g₀ : Heap) (C I : Addr) (h h' : Heap) : Prop := (∀ b ∈ [C, I], ∀ o, h.get? b = some o → h'.get? b = some o) ∧ Keep g₀ h' ∧ TabAt h'
def lProto (w : World) (g₀ : Heap) (C I : Addr) (n : Nat) (Cs : Nat → List Nat) : Protocol := fun m s₀ v s kap =>
  (∃ y dx, v = .ref y ∧ s₀.heap.get? y = none ∧ s₀.heap.get? dx = none ∧ ∃ tf ep led, s.heap.get? y = some (csObj dx (Cs (n - 1 - m)) tf ep led) ∧ s.heap.get? dx = some (dictOf [] 0) ∧ LedOk w led) ∧ (LS w C I s₀ s ∧ (∃ o, s.heap.get? C = some o) ∧ ∃ o, s.heap.get? I = some o) ∧ ∀ s'' : Shared, WokeS g₀ C I s.heap s''.heap → kap (.send .none) s''
abbrev sc84 : Scope := { kind := .function, names := [(Str.ofString ".0", .local), (Str.ofString "committee", .local), (Str.ofString "CandidateSet", .globalImplicit)], isGenerator := true, isCoroutine := false }
abbrev gx84 (p0 p1 p2 p3 p4 pos : Pos) : Expr := .GeneratorExp (.Call (.Name (Str.ofString "CandidateSet") p0) [.Name (Str.ofString "committee") p1] [] p2) [⟨.Name (Str.ofString "committee") p3, .Name (Str.ofString "committees") p4, [], 0⟩] sc84 pos
section
variable {A : Around} {g₀ : Heap} {C I ax : Addr} {items : Array Value} {Cs : Nat → List Nat} {p0 p1 p2 p3 p4 pos : Pos} {env : Env} {code : Value}
theorem seg_loud (hh : A.handled = none) (hd : A.depth + 30 < recursionLimit) (B : BaseT w mg mb g₀) (hl : g₀.IsList ax items) (hT : ∀ (i : Nat) (v : Value), items[i]? = some v → ∃ T, v = .ref T ∧ Src w g₀ T (Cs i)) (hCt : C ∉ tabs) (hIt : I ∉ tabs) (hIC : I ≠ C) (hCg : g₀.get? C = none) (hIg : g₀.get? I = none)
    (hC3 : ∀ q ∈ ([(56, 52), (84, 80), (92, 88)] : List (Addr × Addr)), C ≠ q.1) (hI3 : ∀ q ∈ ([(56, 52), (84, 80), (92, 88)] : List (Addr × Addr)), I ≠ q.1) (hgl : env.globals = mainGlobals) :
    ∀ (k i : Nat) (s₀ s : Shared) (m : Str → Option Value), items.size - i = k → i ≤ items.size → s.heap.IsListIter I ax i → s.heap.Ns C m → LS w C I s₀ s → Keep g₀ s.heap →
      Seg (model PP w) A (fun n s₀ r s₁ => r = .ok .next ∧ (n = 0 ∧ LS w C I s₀ s₁)) (lProto w g₀ C I items.size Cs) (items.size - i) s₀
        (.compLoop (gx84 p0 p1 p2 p3 p4 pos) 0 (.ref I) .none (genEnv sc84 [] C code builtinsNs env))
        ((model PP w).den (.compLoop (gx84 p0 p1 p2 p3 p4 pos) 0 (.ref I) .none (genEnv sc84 [] C code builtinsNs env))) [] s := by
  have hh' : (A.over (.compLoop (gx84 p0 p1 p2 p3 p4 pos) 0 (.ref I) .none (genEnv sc84 [] C code builtinsNs env)) []).handled = none := hh
  have hd' : (A.over (.compLoop (gx84 p0 p1 p2 p3 p4 pos) 0 (.ref I) .none (genEnv sc84 [] C code builtinsNs env)) []).depth + 10 < recursionLimit := by
    show A.depth + 0 + (Code.compLoop (gx84 p0 p1 p2 p3 p4 pos) 0 (.ref I) .none (genEnv sc84 [] C code builtinsNs env)).weight + 10 < _
    have : (Code.compLoop (gx84 p0 p1 p2 p3 p4 pos) 0 (.ref I) .none (genEnv sc84 [] C code builtinsNs env)).weight ≤ 2 := Nat.le_of_ble_eq_true rfl
    omega
  have gne : ∀ {b : Addr} {o : Obj} {z : Addr}, g₀.get? z = none → g₀.get? b = some o → b ≠ z := fun hz e q => by rw [q, hz] at e; cases e
  intro k
  induction k with
  | zero =>
    intro i s₀ s m hk hi hst hn hls hg
    have hin : i = items.size := by omega
    subst hin
    show Seg _ A _ _ _ s₀ _ ((compTurn (gx84 p0 p1 p2 p3 p4 pos) 0 (.ref I) .none (genEnv sc84 [] C code builtinsNs env)).onRaise (leaving (genEnv sc84 [] C code builtinsNs env))) [] s
    rw [compTurn_gen, Sem.onRaise_eq_wrap]
    refine seg_bind_wrap (wpAny_standAt ?_)
    refine seg_bind_wrap (wpAny_pyNext_list_end hh' hst (let ⟨o, e, r⟩ := hl; ⟨o, hg _ _ e, r⟩) (by simp) fun h' he' => ?_)
    exact seg_end (.ok .next) ⟨rfl, Nat.sub_self _, hls.step (.inr rfl) hIt hI3 fun b o hb e => he' b o hb e⟩
  | succ k ih =>
    intro i s₀ s m hk hi hst hn hls hg
    have hlt : i < items.size := by omega
    obtain ⟨T, hTi, Sx⟩ := hT i items[i] (by simp [hlt])
    show Seg _ A _ _ _ s₀ _ ((compTurn (gx84 p0 p1 p2 p3 p4 pos) 0 (.ref I) .none (genEnv sc84 [] C code builtinsNs env)).onRaise (leaving (genEnv sc84 [] C code builtinsNs env))) [] s
    rw [compTurn_gen, Sem.onRaise_eq_wrap]
    refine seg_bind_wrap (wpAny_standAt ?_)
    refine seg_bind_wrap (wpAny_pyNext_list_item hst (let ⟨o, e, r⟩ := hl; ⟨o, hg _ _ e, r⟩) (x := items[i]) (by simp [hlt]) fun h₁ hst₁ hs₁ => ?_)
    rw [hTi]
    refine seg_bind_wrap (wpAny_of_eq (rfl : letOwnedTupleGo (.Name (Str.ofString "committee") p3) (.ref I) (.ref T) = pure ()) ?_)
    refine seg_bind_wrap (wpAny_assign_Name (wpAny_storeName_local (env := genEnv sc84 [] C code builtinsNs env) rfl (hn.sameBut hs₁ (Ne.symm hIC)) (fun h₂ hn₂ hs₂ => ?_) rfl))
    have hls₁ := hls.step (tk := s.toks) (.inr rfl) hIt hI3 hs₁.extBut
    have hls₂ := LS.step (b := { s with heap := h₁ }) (tk := s.toks + 1) hls₁ (.inl rfl) hCt hC3 hs₂.extBut
    have hst₂ : h₂.IsListIter I ax (i + 1) := hst₁.extBut hs₂.extBut hIC
    have hg₂ : Keep g₀ h₂ := fun b o e => hs₂.extBut b o (gne hCg e) (hs₁.extBut b o (gne hIg e) (hg b o e))
    refine seg_bind_wrap (wpAny_mono forin_nil (fun ok s₃ h₃ => ?_) fun _ _ e => e)
    obtain ⟨rfl, rfl⟩ := h₃
    simp only [if_true]
    have hy : ∀ v, yieldOut (genEnv sc84 [] C code builtinsNs env) v = yieldValue v := fun v => by simp only [yieldOut, Bool.false_eq_true, if_false, genEnv]
    simp only [hy]
    rw [Sem.bind_eq_wrap', Sem.bind_eq_wrap', Sem.wrap_wrap, Sem.wrap_wrap]
    refine seg_wrap (elt84 (C := C) hh' hd' B hg₂ hls₂.tab Sx hn₂ (if_pos rfl) hgl rfl rfl rfl fun s' y dx tf ep led zy W ey hle edx zdx => ?_)
    have e1 : items.size - i = (items.size - (i + 1)) + 1 := by omega
    rw [e1]
    have old : ∀ {z : Addr}, h₂.get? z = none → s₀.heap.get? z = none := fun {z} hz => by
      cases q : s₀.heap.get? z with
      | none => rfl
      | some o =>
        obtain ⟨oC, _, _, eC, _⟩ := hn₂
        obtain ⟨oI, eI, _⟩ := hst₂
        have := hls₂.k z o (fun r => by rw [r, show h₂.get? C = some oC from eC] at hz; cases hz) (fun r => by rw [r, eI] at hz; cases hz) (fresh_tabs hls₂.tab hz) q
        rw [hz] at this; cases this
    refine seg_at (seg_yield rfl rfl rfl ⟨⟨y, dx, rfl, old zy, old zdx, tf, ep, led, ?_, edx, hle⟩, ⟨hls₂.went W, (let ⟨o, _, _, e, _⟩ := hn₂; ⟨o, W.k _ _ hCt e⟩), (let ⟨o, e, _⟩ := hst₂; ⟨o, W.k _ _ hIt e⟩)⟩, fun s'' hw => ?_⟩)
    · have : items.size - 1 - (items.size - (i + 1)) = i := by omega
      rw [this]
      exact ey
    · obtain ⟨w1, w2, w3⟩ := hw
      have hst₃ : s'.heap.IsListIter I ax (i + 1) := hst₂.at fun o e => W.k _ _ hIt e
      refine seg_again rfl (ih (i + 1) s'' s'' _ (by omega) hlt (hst₃.at fun o e => w1 I (by simp) o e) ((hn₂.at' fun o e => W.k _ _ hCt e).at' fun o e => w1 C (by simp) o e) (LS.rfl' w3) w2)
end

end
section
theorem tree_type (a : Addr) : Builtin.«list.sort» ⟨[.ref a], [(Str.ofString "key", .type "str")]⟩ = ksk_tree a (.type "str") false := rfl
/-- strictly ascending signs -/
abbrev ltS (a b : Str) : Prop := strKind.klt a.cps.toList b.cps.toList
def keyP (p : Keyed) : List Nat := (strKind.keyOf p.1).getD strKind.dflt
theorem keyP_str {x : Str} {t : Tok} {q : Value} : keyP (.str x t, q) = x.cps.toList := rfl
theorem KK_keyP {xs : Array Keyed} {i : Nat} (hi : i < xs.size) : KK strKind xs i = keyP xs[i] := by
  unfold KK keyP; rw [getElem?_pos xs i hi]
theorem zip_back {vs : List Value} {ks : List Str} {kA : List Value} {xs : Array Keyed} (hK : StrsAre kA ks) (hl : ks.length = vs.length) (up : ks.Pairwise ltS) (hp : xs.toList.Perm (kA.zip vs)) (hs : SortedToK strKind xs xs.size) : (xs.map (·.2)).toList = vs := by
  have hlen : kA.length = vs.length := hK.length.trans hl
  have hkey : ∀ (i : Nat) (hi : i < ks.length), ∃ t, kA[i]? = some (.str ks[i] t) := fun i hi => hK.get i ks[i] (List.getElem?_eq_getElem hi)
  have hmem : ∀ p, p ∈ kA.zip vs → ∃ i, ∃ (hi : i < ks.length), (kA.zip vs)[i]? = some p ∧ keyP p = ks[i].cps.toList := fun p hp' => by
    obtain ⟨i, hi, e⟩ := List.mem_iff_getElem.mp hp'
    have hi' : i < ks.length := by rw [List.length_zip] at hi; omega
    obtain ⟨t, ht⟩ := hkey i hi'
    refine ⟨i, hi', by rw [List.getElem?_eq_getElem hi, e], ?_⟩
    rw [List.getElem_zip] at e
    have : kA[i]'(by omega) = .str ks[i] t := by
      have := List.getElem?_eq_getElem (l := kA) (i := i) (by omega)
      rw [ht] at this
      exact (Option.some.inj this).symm
    rw [← e, this]
    rfl
  have hup : ∀ (i j : Nat) (hi : i < ks.length) (hj : j < ks.length), i < j → strKind.klt ks[i].cps.toList ks[j].cps.toList := fun i j hi hj hij => List.pairwise_iff_getElem.mp up i j hi hj hij
  have e : xs.toList = kA.zip vs := by
    refine List.Perm.eq_of_pairwise (le := fun p q => strKind.kle (keyP p) (keyP q)) (fun p q hp1 hq1 h1 h2 => ?_) ?_ ?_ hp
    · obtain ⟨i, hi, ei, ki⟩ := hmem p (hp.mem_iff.mp hp1)
      obtain ⟨j, hj, ej, kj⟩ := hmem q hq1
      have hk := KeyOrd.kle_antisymm h1 h2
      rcases Nat.lt_trichotomy i j with h | h | h
      · have := hup i j hi hj h
        rw [← ki, ← kj, hk] at this
        exact absurd this (KeyOrd.not_klt_of_kle (KeyOrd.kle_refl _))
      · subst h
        rw [ei] at ej
        exact Option.some.inj ej
      · have := hup j i hj hi h
        rw [← ki, ← kj, hk] at this
        exact absurd this (KeyOrd.not_klt_of_kle (KeyOrd.kle_refl _))
    · rw [List.pairwise_iff_getElem]
      intro i j hi hj hij
      have hi' : i < xs.size := by simpa using hi
      have hj' : j < xs.size := by simpa using hj
      have := hs i j (Nat.le_of_lt hij) hj'
      rw [KK_keyP hi', KK_keyP hj'] at this
      simpa using this
    · rw [List.pairwise_iff_getElem]
      intro i j hi hj hij
      obtain ⟨i', hi', ei, ki⟩ := hmem _ (List.getElem_mem hi)
      have hi2 : i < ks.length := by rw [List.length_zip] at hi; omega
      have hj2 : j < ks.length := by rw [List.length_zip] at hj; omega
      have key : ∀ (n : Nat) (hn : n < (kA.zip vs).length) (hn2 : n < ks.length), keyP (kA.zip vs)[n] = ks[n].cps.toList := fun n hn hn2 => by
        obtain ⟨t, ht⟩ := hkey n hn2
        have h3 : kA[n]'(by rw [List.length_zip] at hn; omega) = .str ks[n] t := by
          have := List.getElem?_eq_getElem (l := kA) (i := n) (by rw [List.length_zip] at hn; omega)
          rw [ht] at this
          exact (Option.some.inj this).symm
        rw [List.getElem_zip, h3]
        rfl
      rw [key i hi hi2, key j hj hj2]
      exact KeyOrd.klt_asymm (hup i j hi2 hj2 hij)
  rw [Array.toList_map, e]
  have : (kA.zip vs).map Prod.snd = vs := List.map_snd_zip (by omega)
  exact this
theorem kind_strs {keys : Array Value} {ks : List Str} (hk : StrsAre keys.toList ks) (h2 : 2 ≤ keys.size) : keyKind' keys = pure oneType' := by
  obtain ⟨v₁, v₂, rest, e⟩ : ∃ v₁ v₂ rest, keys.toList = v₁ :: v₂ :: rest := by
    have hl : 2 ≤ keys.toList.length := by rw [Array.length_toList]; exact h2
    cases q : keys.toList with
    | nil => rw [q] at hl; simp at hl
    | cons v₁ r =>
      cases r with
      | nil => rw [q] at hl; simp at hl
      | cons v₂ rest => exact ⟨v₁, v₂, rest, rfl⟩
  have ek : keys = (v₁ :: v₂ :: rest).toArray := by rw [← e, Array.toArray_toList]
  rw [ek]
  exact keyKind_strs (by rw [← e]; exact hk)
theorem keysOf_zip {keys : Array Value} {vs : List Value} {ks : List Str} (hk : StrsAre keys.toList ks) : KeysOf strKind (keys.zip vs.toArray) := by
  intro p hp
  rw [ksk_zip] at hp
  obtain ⟨x, y⟩ := p
  obtain ⟨z, t, e⟩ := hk.all _ (List.of_mem_zip hp).1
  exact ⟨z.cps.toList, by rw [e]⟩
section
variable {A : Around} {E : Value → Shared → Prop} {s : Shared} {a kS : Addr} {vs : List Value} {ks : List Str} {keys : Array Value} {e e1 : Nat} {P : PySem.Fin → Shared → Prop}
theorem key_tail {st : SortSt} (nk : s.heap.get? kS = some (seqObj "list" keys e)) (na : s.heap.get? a = some (seqObj "list" #[] e1)) (hka : kS ≠ a) (hk : StrsAre keys.toList ks) (hlen : ks.length = vs.length) (up : ks.Pairwise ltS) (h64 : vs.length < 64)
    (hp : (arrOf st).Perm (keys.zip vs.toArray)) (hs : SortedToK strKind (arrOf st) (arrOf st).size) (hfl : failedOf st = none)
    (h : ∀ h' c, (∀ b o, b ≠ kS → b ≠ a → s.heap.get? b = some o → h'.get? b = some o) → h'.get? a = some (seqObj "list" vs.toArray c) → P (.done (.ret .none)) { s with heap := h' }) :
    wpAny (model PP w) A (ksk_tail a false e1 (.ref kS) st) P E s := by
  have hsz : keys.size = vs.length := by
    have h1 := hk.length
    rw [Array.length_toList] at h1
    omega
  have hout : ((arrOf st).map (·.2)).toList = vs := zip_back hk hlen up (by rw [← ksk_zip]; exact Array.perm_iff_toList_perm.mp hp) hs
  have houtA : (arrOf st).map (·.2) = vs.toArray := by rw [← hout, Array.toArray_toList]
  have s1 := Heap.SameBut.update s.heap kS (Obj.mapSeq fun _ => (#[] : Array Value))
  have na1 : (s.heap.update kS (Obj.mapSeq fun _ => (#[] : Array Value))).get? a = some (seqObj "list" #[] e1) := (s1.2 a hka.symm).trans na
  have s2 := Heap.SameBut.update (s.heap.update kS (Obj.mapSeq fun _ => (#[] : Array Value))) a (Obj.mapSeq fun _ => vs.toArray)
  obtain ⟨c2, hc2⟩ : ∃ c2, ((s.heap.update kS (Obj.mapSeq fun _ => (#[] : Array Value))).update a (Obj.mapSeq fun _ => vs.toArray)).get? a = some (seqObj "list" vs.toArray c2) := ⟨_, get?_update_seq na1 fun _ => vs.toArray⟩
  unfold ksk_tail
  try dsimp only
  refine wpAny_bind (listUpdate_at nk rfl ?_ (by rw [hsz, sizeLine_eq]; omega) (Nat.zero_le _))
  refine wpAny_bind (wpAny_letGo ?_)
  refine wpAny_bind (seqEpoch_at na1 rfl ?_)
  rw [houtA]
  refine wpAny_bind (listUpdate_at na1 rfl ?_ (Nat.zero_le _) (by simp only [Bool.false_eq_true, if_false, List.size_toArray]; rw [sizeLine_eq]; omega))
  rw [hfl]
  simp only [bne_self_eq_false, Bool.false_eq_true, if_false]
  exact wpAny_pure (h _ c2 (fun b o h1 h2 eb => (s2.2 b h2).trans ((s1.2 b h1).trans eb)) hc2)
theorem key_end (nk : s.heap.get? kS = some (seqObj "list" keys e)) (na : s.heap.get? a = some (seqObj "list" #[] e1)) (hka : kS ≠ a) (hk : StrsAre keys.toList ks) (hlen : ks.length = vs.length) (up : ks.Pairwise ltS) (h64 : vs.length < 64)
    (h : ∀ h' c, (∀ b o, b ≠ kS → b ≠ a → s.heap.get? b = some o → h'.get? b = some o) → h'.get? a = some (seqObj "list" vs.toArray c) → P (.done (.ret .none)) { s with heap := h' }) :
    wpAny (model PP w) A (ksk_end a false vs.toArray e1 (.ref kS) keys) P E s := by
  have hsz : keys.size = vs.length := by
    have h1 := hk.length
    rw [Array.length_toList] at h1
    omega
  have hzs : (keys.zip vs.toArray).size = vs.length := by rw [Array.size_zip, hsz, List.size_toArray, Nat.min_self]
  unfold ksk_end
  simp only [Bool.false_eq_true, if_false]
  by_cases h2 : vs.toArray.size < 2
  · rw [if_pos h2, if_pos h2]
    refine wpAny_bind (wpAny_pure ?_)
    rw [StateT.run_pure]
    refine wpAny_bind (wpAny_pure ?_)
    try dsimp only
    refine key_tail (st := SortSt.mk' general' (keys.zip vs.toArray) #[] 7 none) nk na hka hk hlen up h64 (Array.Perm.refl _) ?_ rfl h
    intro i j hij hj
    have hj2 : j < (keys.zip vs.toArray).size := hj
    rw [hzs] at hj2
    rw [List.size_toArray] at h2
    have : i = j := by omega
    subst this
    exact KeyOrd.kle_refl _
  · rw [if_neg h2, if_neg h2]
    rw [List.size_toArray] at h2
    rw [kind_strs hk (by rw [hsz]; omega)]
    refine wpAny_bind (wpAny_pure ?_)
    refine wpAny_bind (wpAny_mono (wpS_sortRunsK (κ := strKind) strKind_oneLt (a₀ := keys.zip vs.toArray) (st := SortSt.mk' oneType' (keys.zip vs.toArray) #[] 7 none)
      (Q := fun _ st' => (arrOf st').Perm (keys.zip vs.toArray) ∧ failedOf st' = none ∧ SortedToK strKind (arrOf st') (keys.zip vs.toArray).size)
      (keysOf_zip hk) ⟨Array.Perm.refl _, rfl, rfl, rfl⟩ (by rw [hzs]; omega) (by rw [hzs]; exact h64) fun st' a1 a2 a3 => ⟨a1, a2, a3⟩) ?_ fun _ _ e => e)
    rintro ⟨⟨⟩, st'⟩ s' ⟨rfl, hp, hf, hs⟩
    try dsimp only
    exact key_tail nk na hka hk hlen up h64 hp (by rw [hp.size_eq]; exact hs) hf h
end

end
section
/-- between the calls of the key: but for the tables and the store of keys all stands -/
structure KW (w : World) (kS : Addr) (s₀ s : Shared) : Prop where
  k : ∀ b o, b ≠ kS → b ∉ tabs → s₀.heap.get? b = some o → s.heap.get? b = some o
  tab : TabAt s.heap
  gens : GensOk s₀.gens s.gens
  drawn : s.drawn = s₀.drawn
  os : s.os = s₀.os
def ToldA (w : World) (Cs : Nat → List Nat) (vs : List Value) (h : Heap) : Prop := ∀ (j : Nat) (v : Value), vs[j]? = some v → ∃ y dx tf ep led, v = .ref y ∧ h.get? y = some (csObj dx (Cs j) tf ep led) ∧ h.get? dx = some (dictOf [] 0) ∧ LedOk w led ∧ y ∉ tabs ∧ dx ∉ tabs
theorem strs_snoc {vs : List Value} {ss : List Str} {x : Str} {t : Tok} (h : StrsAre vs ss) : StrsAre (vs ++ [.str x t]) (ss ++ [x]) := h.append' (.cons x t .nil)
theorem code_ne {g : Heap} (B : BaseT w mg mb g) {z : Addr} (hz : g.get? z = none) : ∀ q ∈ ([(56, 52), (84, 80), (92, 88)] : List (Addr × Addr)), z ≠ q.1 := fun q hq e => by
  obtain ⟨o, ho⟩ := B.code q hq
  rw [← e, hz] at ho; cases ho
section
variable {dp un : Nat} {fr : Option (List Env)} {gd : Option (List Code)} {s : Shared} {E : Value → Shared → Prop} {a kS : Addr} {vs : List Value} {Cs : Nat → List Nat} {e1 : Nat} {P : PySem.Fin → Shared → Prop} {g₀ : Heap}
theorem key_rest (hdp : dp + 30 < recursionLimit) (hu : un + 520 < cLine) (B : BaseT w mg mb g₀) (kg : Keep g₀ s.heap) (t : TabAt s.heap) (hk0 : g₀.get? kS = none) (ha0 : g₀.get? a = none) (hkt : kS ∉ tabs) (hat : a ∉ tabs)
    (nk : s.heap.get? kS = some (seqObj "list" #[] 0)) (na : s.heap.get? a = some (seqObj "list" #[] e1)) (hka : kS ≠ a) (hT : ToldA w Cs vs s.heap) (hC : ∀ i < vs.length, Cs i ∈ sub4) (up : ((List.range vs.length).map fun i => keyS (Cs i)).Pairwise ltS) (h64 : vs.length < 64)
    (h : ∀ s' c, (∀ b o, b ≠ kS → b ≠ a → b ∉ tabs → s.heap.get? b = some o → s'.heap.get? b = some o) → TabAt s'.heap → GensOk s.gens s'.gens → s'.drawn = s.drawn → s'.os = s.os → s'.heap.get? a = some (seqObj "list" vs.toArray c) → P (.done (.ret .none)) s') :
    wpAny (model PP w) (aro dp un fr gd) (ksk_rest a (.type "str") false vs.toArray e1 (.ref kS)) P E s := by
  unfold ksk_rest
  refine wpAny_bind (wpAny_rule ?_)
  first
    | rw [List.forIn_toArray]
    | (rw [← Array.forIn_toList]; simp only [List.toList_toArray])
    | rw [← Array.forIn_toList]
  refine wpAny_bind (ksk_fold (fun i s' => ∃ kA e, s'.heap.get? kS = some (seqObj "list" kA e) ∧ StrsAre kA.toList ((List.range i).map fun j => keyS (Cs j)) ∧ KW w kS s s') vs 0 s ⟨#[], 0, nk, .nil, ⟨fun _ _ _ _ e => e, t, GensOk.rfl', rfl, rfl⟩⟩ ?step ?done)
  case step =>
    rintro j x s' hx ⟨kA, e, ek, hK, W⟩
    simp only [Nat.zero_add] at hK ⊢
    have hj : j < vs.length := (List.getElem?_eq_some_iff.mp hx).1
    have hz : kA.size = j := by
      have h1 := hK.length
      rw [Array.length_toList] at h1
      simpa using h1
    obtain ⟨y, dx, tf, ep, led, rfl, ey, edx, hle, yt, dt⟩ := hT j x hx
    have offk : ∀ {b : Addr} {o : Obj}, s.heap.get? b = some o → o.cls ≠ .type "list" → b ≠ kS := fun eb hc q => by rw [q, nk] at eb; cases eb; exact hc rfl
    have ey' := W.k y _ (offk ey (by simp)) yt ey
    have edx' : s'.heap.get? dx = some (dictOf [] 0) := W.k dx _ (offk edx (by simp)) dt edx
    have kg' : Keep g₀ s'.heap := fun b o eb => W.k b o (fun q => by rw [q, hk0] at eb; cases eb) (fun hm => by rw [B.no b hm] at eb; cases eb) (kg b o eb)
    refine wpAny_bind (wpAny_attempt (wpAny_mono (call_str_cs (Q := fun v s'' => ∃ t, v = .str (keyS (Cs j)) t ∧ Went w s' s'') (E := never) (hideAll_get _ edx' dt) hdp (by omega) (B.goodT kg' W.tab) (hC j hj) (hideAll_get _ ey' yt) hle fun s₂ t W₂ => ⟨t, rfl, W₂⟩) (fun v s'' he => ?_) fun _ _ hF => hF.elim))
    obtain ⟨t2, rfl, W₂⟩ := he
    try dsimp only
    have ek₂ := W₂.k _ _ hkt ek
    obtain ⟨c2, hc2⟩ : ∃ c2, (s''.heap.update kS (Obj.mapSeq (·.push (.str (keyS (Cs j)) t2)))).get? kS = some (seqObj "list" (kA.push (.str (keyS (Cs j)) t2)) c2) := ⟨_, get?_update_seq ek₂ (·.push (.str (keyS (Cs j)) t2))⟩
    have s1 := Heap.SameBut.update s''.heap kS (Obj.mapSeq (·.push (.str (keyS (Cs j)) t2)))
    refine wpAny_bind (listUpdate_at ek₂ rfl ?_ (by rw [hz, sizeLine_eq]; omega) (Nat.le_trans (Nat.le_of_eq (Array.size_push ..)) (by rw [hz, sizeLine_eq]; omega)))
    refine wpAny_pure ⟨rfl, kA.push (.str (keyS (Cs j)) t2), c2, hc2, ?_, ?_⟩
    · rw [Array.toList_push, List.range_succ, List.map_append]
      exact strs_snoc hK
    · exact ⟨fun b o h1 h2 eb => (s1.2 b h1).trans (W₂.k b o h2 (W.k b o h1 h2 eb)), tab_ext W₂.tab hkt (code_ne B hk0) fun b o hb eb => (s1.2 b hb).trans eb, W.gens.trans W₂.gens, W₂.drawn.trans W.drawn, W₂.os.trans W.os⟩
  case done =>
    rintro s' ⟨kA, e, ek, hK, W⟩
    rw [Nat.zero_add] at hK
    have na' := W.k a _ (Ne.symm hka) hat na
    try dsimp only
    refine wpAny_bind (listItems_at ek rfl ?_)
    refine key_end ek na' hka hK (by simp) up h64 fun h' c kk hc => ?_
    refine h { s' with heap := h' } c (fun b o h1 h2 h3 eb => kk b o h1 h2 (W.k b o h1 h3 eb)) ?_ W.gens W.drawn W.os hc
    intro q hq
    refine code_at (fun b hb o eb => kk b o ?_ ?_ eb) (W.tab q hq)
    · simp only [List.mem_cons, List.not_mem_nil, or_false] at hb
      rcases hb with rfl | rfl
      · exact (code_ne B hk0 q hq).symm
      · rintro rfl; simp only [List.mem_cons, List.not_mem_nil, or_false] at hq; rcases hq with rfl | rfl | rfl <;> exact hkt (by decide)
    · simp only [List.mem_cons, List.not_mem_nil, or_false] at hb
      rcases hb with rfl | rfl
      · exact (code_ne B ha0 q hq).symm
      · rintro rfl; simp only [List.mem_cons, List.not_mem_nil, or_false] at hq; rcases hq with rfl | rfl | rfl <;> exact hat (by decide)
end

end
section
theorem AllBare.setG {s : Shared} {g : Nat} {y : GenState} (x : AllBare s.gens) (hb : y.bare = true) : AllBare (s.setGen g y).gens := fun z hz => by
  rcases Array.mem_or_eq_of_mem_setIfInBounds hz with h | h
  · exact x z h
  · rw [h]; exact hb
theorem GensOk.setG {G0 : Array GenState} {s : Shared} {g : Nat} {y : GenState} (x : GensOk G0 s.gens) (hg : G0.size ≤ g) (hb : y.bare = true) : GensOk G0 (s.setGen g y).gens := by
  refine ⟨by simp only [Shared.setGen, Array.size_setIfInBounds]; exact x.1, fun k hk => ?_, fun h => AllBare.setG (x.2.2 h) hb⟩
  have : k ≠ g := by omega
  simp only [Shared.setGen]
  rw [Array.getElem?_setIfInBounds]
  simp only [Ne.symm this, if_false]
  exact x.2.1 k hk
abbrev GoesL (w : World) (A : Around) (g₀ : Heap) (C I : Addr) (n : Nat) (Cs : Nat → List Nat) (gs : GenState) (m : Nat) (s : Shared) : Prop :=
  gs.Goes (model PP w) A.in1 (fun n s₀ r s₁ => r = .ok .next ∧ (n = 0 ∧ LS w C I s₀ s₁)) (lProto w g₀ C I n Cs) m (.send .none) s
/-- what has been told so far; its objects are new -/
def ToldN (w : World) (Cs : Nat → List Nat) (hI : Heap) (no : List Addr) (vs : List Value) (h : Heap) : Prop := ∀ (j : Nat) (v : Value), vs[j]? = some v → ∃ y dx tf ep led, v = .ref y ∧ h.get? y = some (csObj dx (Cs j) tf ep led) ∧ h.get? dx = some (dictOf [] 0) ∧ LedOk w led ∧ (y ∉ tabs ∧ y ∉ no ∧ hI.get? y = none) ∧ (dx ∉ tabs ∧ dx ∉ no ∧ hI.get? dx = none)
structure JB (w : World) (g₀ hI : Heap) (C I S : Addr) (G0 : Array GenState) (dr : Drawn) (os : OsState) (Cs : Nat → List Nat) (vs : List Value) (s : Shared) : Prop where
  kg : Keep g₀ s.heap
  tab : TabAt s.heap
  told : ToldN w Cs hI [C, I, S] vs s.heap
  gens : GensOk G0 s.gens
  drawn : s.drawn = dr
  os : s.os = os
  k : ∀ b o, b ∉ [C, I, S] → b ∉ tabs → hI.get? b = some o → s.heap.get? b = some o
section
variable {A : Around} {g₀ hI : Heap} {C I S a : Addr} {G0 : Array GenState} {dr : Drawn} {os : OsState} {Cs : Nat → List Nat} {n : Nat}
theorem JB.next {vs : List Value} {s s₁ : Shared} {y dx : Addr} {tf : Nat → Tok} {ep : Nat} {led : Bool} {gN : Nat} {g1 g2 : GenState} {oS : Obj} (J : JB w g₀ hI C I S G0 dr os Cs vs s) (hg1 : g1.bare = true) (hg2 : g2.bare = true) (hN : G0.size ≤ gN) (L : LS w C I (s.setGen gN g1) s₁) (hCg : g₀.get? C = none) (hIg : g₀.get? I = none) (hno : ∀ b ∈ tabs, g₀.get? b = none)
    (eS : s.heap.get? S = some oS) (zy : s.heap.get? y = none) (zdx : s.heap.get? dx = none) (ey : s₁.heap.get? y = some (csObj dx (Cs vs.length) tf ep led)) (edx : s₁.heap.get? dx = some (dictOf [] 0)) (hle : LedOk w led) (hCS : C ≠ S) (hIS : I ≠ S) (hSt : S ∉ tabs) (hCt : C ∉ tabs) (hIt : I ∉ tabs)
    (hC1 : ∃ o, s.heap.get? C = some o) (hI1 : ∃ o, s.heap.get? I = some o) :
    JB w g₀ hI C I S G0 dr os Cs (vs ++ [.ref y]) (s₁.setGen gN g2) := by
  obtain ⟨kg, tab, told, gens, hd, ho, k⟩ := J
  obtain ⟨oC, eC⟩ := hC1
  obtain ⟨oI, eI⟩ := hI1
  have k1 : ∀ b o, b ≠ C → b ≠ I → b ∉ tabs → s.heap.get? b = some o → s₁.heap.get? b = some o := L.k
  have fresh : ∀ {z : Addr}, s.heap.get? z = none → z ∉ tabs ∧ z ∉ [C, I, S] ∧ hI.get? z = none := fun {z} hz => by
    have zt := fresh_tabs tab hz
    have zn : z ∉ [C, I, S] := by
      simp only [List.mem_cons, List.not_mem_nil, or_false, not_or]
      exact ⟨(fun q => by rw [q, eC] at hz; cases hz), (fun q => by rw [q, eI] at hz; cases hz), (fun q => by rw [q, eS] at hz; cases hz)⟩
    refine ⟨zt, zn, ?_⟩
    cases q : hI.get? z with
    | none => rfl
    | some o => rw [k z o zn zt q] at hz; cases hz
  refine ⟨fun b o e => k1 b o (fun q => by rw [q, hCg] at e; cases e) (fun q => by rw [q, hIg] at e; cases e) (fun hm => by rw [hno b hm] at e; cases e) (kg b o e), L.tab, fun j v hj => ?_, GensOk.setG ((gens.setG hN hg1).trans L.gens) hN hg2, L.drawn.trans hd, L.os.trans ho,
    fun b o hb ht e => k1 b o (fun q => hb (by rw [q]; simp)) (fun q => hb (by rw [q]; simp)) ht (k b o hb ht e)⟩
  rcases Nat.lt_trichotomy j vs.length with h | h | h
  · rw [List.getElem?_append_left h] at hj
    obtain ⟨y', dx', tf', ep', led', e1, e2, e3, e4, e5, e6⟩ := told j v hj
    have off : ∀ {z : Addr}, z ∉ [C, I, S] → z ≠ C ∧ z ≠ I := fun hz => ⟨fun q => hz (by rw [q]; simp), fun q => hz (by rw [q]; simp)⟩
    exact ⟨y', dx', tf', ep', led', e1, k1 _ _ (off e5.2.1).1 (off e5.2.1).2 e5.1 e2, k1 _ _ (off e6.2.1).1 (off e6.2.1).2 e6.1 e3, e4, e5, e6⟩
  · subst h
    simp at hj
    subst hj
    exact ⟨y, dx, tf, ep, led, rfl, ey, edx, hle, fresh zy, fresh zdx⟩
  · rw [List.getElem?_eq_none (by rw [List.length_append, List.length_singleton]; omega)] at hj; cases hj
theorem lgen_loud {gN : Nat} (hh : A.handled = none) (hroom : A.depth < recursionLimit) (B : BaseT w mg mb g₀) (hN : G0.size ≤ gN) (hCg : g₀.get? C = none) (hIg : g₀.get? I = none) (hSg : g₀.get? S = none) (hCS : C ≠ S) (hIS : I ≠ S) (hSt : S ∉ tabs) (hCt : C ∉ tabs) (hIt : I ∉ tabs) (haS : a ≠ S) (haC : a ≠ C) (haI : a ≠ I) (hat : a ∉ tabs) :
    LGen PP w A a S n (fun vs s => s.heap.IsGen a gN ∧ (∃ gs, s.gens[gN]? = some gs ∧ ∀ s'' : Shared, WokeS g₀ C I s.heap s''.heap → GoesL w A g₀ C I n Cs gs (n - vs.length) s'') ∧ JB w g₀ hI C I S G0 dr os Cs vs s ∧ (∃ o, s.heap.get? C = some o) ∧ ∃ o, s.heap.get? I = some o) (JB w g₀ hI C I S G0 dr os Cs) where
  gen := fun vs s h => ⟨_, h.1⟩
  frame := fun vs s h' tk h htk hk => by
    obtain ⟨⟨o, nm, qn, ho, r⟩, ⟨gs, hgs, hgo⟩, J, ⟨oC, eC⟩, ⟨oI, eI⟩⟩ := h
    refine ⟨⟨o, nm, qn, hk a o haS ho, r⟩, ⟨gs, hgs, fun s'' hw => hgo s'' ⟨fun b hb o e => hw.1 b hb o (hk b o ?_ e), hw.2⟩⟩, ?_, ⟨oC, hk _ _ hCS eC⟩, ⟨oI, hk _ _ hIS eI⟩⟩
    · simp only [List.mem_cons, List.not_mem_nil, or_false] at hb
      rcases hb with rfl | rfl
      · exact hCS
      · exact hIS
    · obtain ⟨kg, tab, told, gens, hd, ho', k⟩ := J
      refine ⟨fun b o e => hk b o (fun q => by rw [q, hSg] at e; cases e) (kg b o e), tab_ext tab hSt (code_ne B hSg) hk, fun j v hj => ?_, gens, hd, ho', fun b o hb ht e => hk b o (fun q => hb (by rw [q]; simp)) (k b o hb ht e)⟩
      obtain ⟨y', dx', tf', ep', led', e1, e2, e3, e4, e5, e6⟩ := told j v hj
      exact ⟨y', dx', tf', ep', led', e1, hk _ _ (fun q => e5.2.1 (by rw [q]; simp)) e2, hk _ _ (fun q => e6.2.1 (by rw [q]; simp)) e3, e4, e5, e6⟩
  item := fun vs s oS E hlt h eS => by
    obtain ⟨hg, ⟨gs, hgs, hgo⟩, J, eC, eI⟩ := h
    obtain ⟨m, hm⟩ : ∃ m, n - vs.length = m + 1 := ⟨n - vs.length - 1, by omega⟩
    rw [hm] at hgo
    refine wpAny_pyNext_genexpQ (P := fun n s₀ s₁ => n = 0 ∧ LS w C I s₀ s₁) hh (B.T.nolimit.keeps J.kg) hroom hg hgs (hgo _ ⟨fun b _ o e => e, J.kg, J.tab⟩) (fun v s₁ gs' hb hv => ?_) (fun s₁ hp h' hk => absurd hp.1 (Nat.succ_ne_zero m))
    obtain ⟨⟨y, dx, rfl, zy, zdx, tf, ep, led, ey, edx, hle⟩, ⟨hL, eC', eI'⟩, hkap⟩ := hv
    have hidx : n - 1 - (m + 1 - 1) = vs.length := by omega
    rw [hidx] at ey
    refine ⟨.ref y, rfl, ⟨let ⟨o, nm, qn, ho, r⟩ := hg; ⟨o, nm, qn, hL.k a o haC haI hat ho, r⟩, ⟨gs', ?_, fun s'' hw => ?_⟩, J.next (g1 := .running) rfl hb hN hL hCg hIg B.no eS zy zdx ey edx hle hCS hIS hSt hCt hIt eC eI, eC', eI'⟩, hL.k S oS (Ne.symm hCS) (Ne.symm hIS) hSt eS⟩
    · have hlt' : gN < (s.setGen gN .running).gens.size := by
        have := setGen_self (x := .running) hgs
        exact (Array.getElem?_eq_some_iff.mp this).1
      exact setGen_self (gs := .running) ((hL.gens.2.1 gN hlt').trans (setGen_self hgs))
    · have e : n - (vs ++ [Value.ref y]).length = m := by rw [List.length_append, List.length_singleton]; omega
      rw [e]
      exact hkap s'' hw
  done := fun vs s oS E hlen h eS => by
    obtain ⟨hg, ⟨gs, hgs, hgo⟩, J, eC, eI⟩ := h
    rw [hlen, Nat.sub_self] at hgo
    refine wpAny_pyNext_genexpQ (P := fun n s₀ s₁ => n = 0 ∧ LS w C I s₀ s₁) hh (B.T.nolimit.keeps J.kg) hroom hg hgs (hgo _ ⟨fun b _ o e => e, J.kg, J.tab⟩) (fun v s₁ gs' hb hv => ?_) (fun s₁ hp h' hk => ?_)
    · obtain ⟨_, ⟨hL, _, _⟩, hkap⟩ := hv
      exact (hkap s₁ ⟨fun b _ o e => e, fun b o e => hL.k b o (fun q => by rw [q, hCg] at e; cases e) (fun q => by rw [q, hIg] at e; cases e) (fun hm => by rw [B.no b hm] at e; cases e) (J.kg b o e), hL.tab⟩).elim
    · obtain ⟨_, hL⟩ := hp
      obtain ⟨kg, tab, told, gens, hd, ho, k⟩ := J
      have k1 : ∀ b o, b ≠ C → b ≠ I → b ∉ tabs → s.heap.get? b = some o → h'.get? b = some o := fun b o h1 h2 h3 e => hk b o (hL.k b o h1 h2 h3 e)
      refine ⟨rfl, ⟨fun b o e => k1 b o (fun q => by rw [q, hCg] at e; cases e) (fun q => by rw [q, hIg] at e; cases e) (fun hm => by rw [B.no b hm] at e; cases e) (kg b o e), fun q hq => code_at (fun b _ o e => hk b o e) (hL.tab q hq), fun j v hj => ?_, GensOk.setG ((gens.setG hN rfl).trans hL.gens) hN rfl, hL.drawn.trans hd, hL.os.trans ho, fun b o hb ht e => k1 b o (fun q => hb (by rw [q]; simp)) (fun q => hb (by rw [q]; simp)) ht (k b o hb ht e)⟩, k1 S oS (Ne.symm hCS) (Ne.symm hIS) hSt eS⟩
      obtain ⟨y', dx', tf', ep', led', e1, e2, e3, e4, e5, e6⟩ := told j v hj
      have off : ∀ {z : Addr}, z ∉ [C, I, S] → z ≠ C ∧ z ≠ I := fun hz => ⟨fun q => hz (by rw [q]; simp), fun q => hz (by rw [q]; simp)⟩
      exact ⟨y', dx', tf', ep', led', e1, k1 _ _ (off e5.2.1).1 (off e5.2.1).2 e5.1 e2, k1 _ _ (off e6.2.1).1 (off e6.2.1).2 e6.1 e3, e4, e5, e6⟩
end

end
section
section
variable {A : Around} {g₀ : Heap} {C I ax : Addr} {items : Array Value} {Cs : Nat → List Nat} {p0 p1 p2 p3 p4 pos : Pos} {env : Env} {code : Value}
theorem seg_loudStart (hh : A.handled = none) (hd : A.depth + 30 < recursionLimit) (B : BaseT w mg mb g₀) (hl : g₀.IsList ax items) (hT : ∀ (i : Nat) (v : Value), items[i]? = some v → ∃ T, v = .ref T ∧ Src w g₀ T (Cs i)) (hCt : C ∉ tabs) (hIt : I ∉ tabs) (hIC : I ≠ C) (hCg : g₀.get? C = none) (hIg : g₀.get? I = none)
    (hgl : env.globals = mainGlobals) (s₀ s : Shared) (m : Str → Option Value) (hst : s.heap.IsListIter I ax 0) (hn : s.heap.Ns C m) (hls : LS w C I s₀ s) (hg : Keep g₀ s.heap) :
      Seg (model PP w) A (fun n s₀ r s₁ => r = .ok .next ∧ (n = 0 ∧ LS w C I s₀ s₁)) (lProto w g₀ C I items.size Cs) items.size s₀
        (.compStart (gx84 p0 p1 p2 p3 p4 pos) 0 (.ref I) .none (genEnv sc84 [] C code builtinsNs env))
        ((model PP w).den (.compStart (gx84 p0 p1 p2 p3 p4 pos) 0 (.ref I) .none (genEnv sc84 [] C code builtinsNs env))) [] s := by
  have loop := seg_loud (p0 := p0) (p1 := p1) (p2 := p2) (p3 := p3) (p4 := p4) (pos := pos) (code := code) hh hd B hl hT hCt hIt hIC hCg hIg (code_ne B hCg) (code_ne B hIg) hgl items.size 0 s₀ s m (Nat.sub_zero _) (Nat.zero_le _) hst hn hls hg
  rw [Nat.sub_zero] at loop
  show Seg _ A _ _ _ s₀ _ ((compStart (gx84 p0 p1 p2 p3 p4 pos) 0 (.ref I) .none (genEnv sc84 [] C code builtinsNs env)).onRaise (leaving (genEnv sc84 [] C code builtinsNs env))) [] s
  unfold compStart
  rw [Sem.onRaise_eq_wrap]
  show Seg _ A _ _ _ s₀ _ ((ask >>= _).wrap _ _ _ _) [] s
  refine seg_bind_wrap (wpAny_askSetting ?_)
  split
  · exact seg_again rfl loop
  · first
      | exact seg_bind_wrap (wpAny_rule (seg_bind_wrap (wpAny_standAt (seg_bind_wrap (wpAny_pyIter_listiter hst (seg_again rfl loop))))))
      | (refine seg_bind_wrap (wpAny_rule ?_); show Seg _ A _ _ _ s₀ _ ((standAt _ >>= _).wrap _ _ _ _) [] s; exact seg_bind_wrap (wpAny_standAt (seg_bind_wrap (wpAny_pyIter_listiter hst (seg_again rfl loop)))))
end
section
variable {A : Around} {E : Value → Shared → Prop} {s : Shared} {g₀ : Heap} {ax : Addr} {items : Array Value} {Cs : Nat → List Nat} {p0 p1 p2 p3 p4 pos : Pos} {env : Env} {m : Str → Option Value} {Q : Value → Shared → Prop}
/-- the generator of sorted_committees is made -/
theorem mk_loud (hh : A.handled = none) (hd : A.depth + 40 < recursionLimit) (B : BaseT w mg mb g₀) (kg : Keep g₀ s.heap) (t : TabAt s.heap) (hn : s.heap.Ns env.locals m) (hm : m (Str.ofString "committees") = some (.ref ax)) (hcode : env.code = .ref 84) (hgl : env.globals = mainGlobals)
    (hk : env.scope.kind = .function) (hkn : env.kindOf (Str.ofString "committees") = some .local) (hl : g₀.IsList ax items) (hT : ∀ (i : Nat) (v : Value), items[i]? = some v → ∃ T, v = .ref T ∧ Src w g₀ T (Cs i))
    (h : ∀ (a C I : Addr) s', s.heap.get? a = none → s.heap.get? C = none → s.heap.get? I = none → a ≠ C → a ≠ I → I ≠ C → s'.heap.IsGen a s.gens.size → (∃ gs, s'.gens[s.gens.size]? = some gs ∧ ∀ s'' : Shared, WokeS g₀ C I s'.heap s''.heap → GoesL w A.in1.in1 g₀ C I items.size Cs gs items.size s'') →
      Keep g₀ s'.heap → TabAt s'.heap → GensOk s.gens s'.gens → s'.drawn = s.drawn → s'.os = s.os → (∀ b o, b ∉ tabs → s.heap.get? b = some o → s'.heap.get? b = some o) → (∃ o, s'.heap.get? C = some o) → (∃ o, s'.heap.get? I = some o) → (∀ b ∈ [a, C, I], b < s'.heap.objs.size) → Q (.ref a) s') :
    wpAny (model PP w) A (eval (gx84 p0 p1 p2 p3 p4 pos) env) Q E s := by
  have hroom : A.depth < recursionLimit := by omega
  have hh2 : A.in1.in1.handled = none := hh
  obtain ⟨bm, ob, M⟩ := B.M
  have hclos : closureFor sc84 env = pure [] := by unfold closureFor; rfl
  have gnt : ∀ {b : Addr} {o : Obj}, g₀.get? b = some o → b ∉ tabs := fun e hb => by rw [B.no _ hb] at e; cases e
  refine wpAny_GeneratorExp_make rfl hclos (by decide) rfl rfl hroom (nameL hn hm hk hkn (by decide) ?_) (fun _ => rfl)
  obtain ⟨oa, hoa, hca, na, hda⟩ := hl
  have hax : s.heap.IsList ax items := ⟨oa, kg _ _ hoa, hca, na, hda⟩
  have hlt := Heap.lt_size (kg _ _ hoa)
  refine wpAny_pyIter_list hax ?_
  have k₁ : Keep s.heap (s.heap.push { cls := .type "list_iterator", data := .fields #[.ref ax, .int 0 0] }) := fun b o e => Heap.get?_push_of_some _ e
  refine ⟨B.T.nolimit.keeps (Keep.trans kg k₁), ?_⟩
  obtain ⟨ps, hP⟩ := t (84, 80) (by decide)
  refine genexprCodeT hcode (hP.keeps k₁) fun code h₃ tk₃ ps' hx₃ hc₃ => ?_
  have g80 : ∀ {b : Addr} {o : Obj}, g₀.get? b = some o → b ≠ 80 := fun e q => gnt e (by rw [q]; decide)
  have kg3 : Keep g₀ h₃ := fun b o e => hx₃ b o (g80 e) (k₁ b o (kg b o e))
  have hMx := M.keeps kg3
  rw [hgl]
  refine wpAny_builtinsFor hMx.ns hMx.name hMx.ne hMx.obj hMx.cls hMx.dict hMx.data ?_
  intro h' hn' hs'
  have hI : (s.heap.push { cls := .type "list_iterator", data := .fields #[.ref ax, .int 0 0] }).get? s.heap.objs.size = some { cls := .type "list_iterator", data := .fields #[.ref ax, .int 0 0] } := Heap.get?_push_size _ rfl
  obtain ⟨o80, e80⟩ := tab_obj t (c := 84) (P := 80) (by decide)
  have lt80 : 80 < s.heap.objs.size := Heap.lt_size e80
  have hI80 : s.heap.objs.size ≠ 80 := Nat.ne_of_gt lt80
  have hI3 := hx₃ _ _ hI80 hI
  have hI3lt := Heap.lt_size hI3
  have kC : ∀ b o, h₃.get? b = some o → h'.get? b = some o := fun b o e => hs'.extBut b o (Nat.ne_of_lt (Heap.lt_size e)) (Heap.get?_push_of_some _ e)
  have hsz : h'.objs.size = h₃.objs.size + 1 := by rw [hs'.1, Heap.size_push]
  have kF : ∀ b o, h'.get? b = some o → (h'.push { cls := .type "generator", data := .fields #[.int s.gens.size 0, .str "<genexpr>" (tk₃ + 1), .str (env.qual ++ "<genexpr>") (tk₃ + 1 + 1)] }).get? b = some o := fun b o e => Heap.get?_push_of_some _ e
  have all : ∀ b o, h₃.get? b = some o → (h'.push { cls := .type "generator", data := .fields #[.int s.gens.size 0, .str "<genexpr>" (tk₃ + 1), .str (env.qual ++ "<genexpr>") (tk₃ + 1 + 1)] }).get? b = some o := fun b o e => kF _ _ (kC _ _ e)
  have old : ∀ b o, b ≠ 80 → s.heap.get? b = some o → (h'.push { cls := .type "generator", data := .fields #[.int s.gens.size 0, .str "<genexpr>" (tk₃ + 1), .str (env.qual ++ "<genexpr>") (tk₃ + 1 + 1)] }).get? b = some o := fun b o hb e => all _ _ (hx₃ b o hb (k₁ b o e))
  have hCI : s.heap.objs.size ≠ h₃.objs.size := Nat.ne_of_lt hI3lt
  have tabF : TabAt (h'.push { cls := .type "generator", data := .fields #[.int s.gens.size 0, .str "<genexpr>" (tk₃ + 1), .str (env.qual ++ "<genexpr>") (tk₃ + 1 + 1)] }) := by
    intro q hq
    simp only [List.mem_cons, List.not_mem_nil, or_false] at hq
    rcases hq with rfl | rfl | rfl
    · exact code_at (fun b hb o e => old b o (by rintro rfl; simp at hb) e) (t (56, 52) (by decide))
    · exact ⟨ps', (hc₃.keeps kC).keeps kF⟩
    · exact code_at (fun b hb o e => old b o (by rintro rfl; simp at hb) e) (t (92, 88) (by decide))
  have gz : ∀ {z : Addr}, s.heap.objs.size ≤ z → g₀.get? z = none := fun {z} hz => none_of_keep kg (Heap.get?_none_of_le hz)
  have nt : ∀ {z : Addr}, s.heap.objs.size ≤ z → z ∉ tabs := fun {z} hz => fresh_tabs t (Heap.get?_none_of_le hz)
  have hC' : s.heap.objs.size ≤ h₃.objs.size := Nat.le_of_lt hI3lt
  have hit : (h'.push { cls := .type "generator", data := .fields #[.int s.gens.size 0, .str "<genexpr>" (tk₃ + 1), .str (env.qual ++ "<genexpr>") (tk₃ + 1 + 1)] }).IsListIter s.heap.objs.size ax 0 := ⟨_, all _ _ hI3, rfl, rfl⟩
  have hnC := hn'.keeps kF
  have hszF : (h'.push { cls := .type "generator", data := .fields #[.int s.gens.size 0, .str "<genexpr>" (tk₃ + 1), .str (env.qual ++ "<genexpr>") (tk₃ + 1 + 1)] }).objs.size = h'.objs.size + 1 := Heap.size_push _ _
  refine h h'.objs.size h₃.objs.size s.heap.objs.size _ (Heap.get?_none_of_le (by rw [hsz]; exact Nat.le_succ_of_le hC')) (Heap.get?_none_of_le hC') (Heap.get?_none_of_le (Nat.le_refl _)) (by rw [hsz]; exact Nat.succ_ne_self _) (by rw [hsz]; exact Nat.ne_of_gt (Nat.lt_succ_of_lt hI3lt)) hCI
    ⟨_, _, _, Heap.get?_push_size _ rfl, rfl, rfl, rfl⟩ ⟨.fresh (.compStart (gx84 p0 p1 p2 p3 p4 pos) 0 (.ref s.heap.objs.size) .none (genEnv sc84 [] h₃.objs.size code builtinsNs env)), by show (s.gens.push _)[s.gens.size]? = some _; simp, fun s'' hw => ⟨rfl, ?_⟩⟩ (fun b o e => all _ _ (kg3 b o e)) tabF (GensOk.push rfl) rfl rfl (fun b o hb e => old b o (fun q => hb (by rw [q]; decide)) e) (let ⟨o, _, _, e, _⟩ := hnC; ⟨o, e⟩) ⟨_, all _ _ hI3⟩ (fun b hb => ?_)
  · have hd3 : A.in1.in1.in1.depth + 30 < recursionLimit := by rw [depth_in1, depth_in1, depth_in1]; omega
    exact seg_loudStart (A := A.in1.in1.in1) hh2 hd3 B ⟨oa, hoa, hca, na, hda⟩ hT (nt hC') (nt (Nat.le_refl _)) hCI (gz hC') (gz (Nat.le_refl _)) hgl s'' s'' _ (hit.at fun o e => hw.1 _ (by simp) o e) (hnC.at' fun o e => hw.1 _ (by simp) o e) (LS.rfl' hw.2.2) hw.2.1
  · rw [hszF]
    simp only [List.mem_cons, List.not_mem_nil, or_false] at hb
    rcases hb with rfl | rfl | rfl
    · exact Nat.lt_succ_self _
    · rw [hsz]; exact Nat.lt_succ_of_lt (Nat.lt_succ_self _)
    · rw [hsz]; exact Nat.lt_succ_of_lt (Nat.lt_succ_of_lt hI3lt)
end

end
section
section
variable {dp un : Nat} {fr : Option (List Env)} {gd : Option (List Code)} {s : Shared} {E : Value → Shared → Prop} {Q : Value → Shared → Prop} {g₀ : Heap} {a C I : Addr} {Cs : Nat → List Nat} {n gN : Nat} {G0 : Array GenState}
/-- sorted(the loud generator, key=str): the sets come as they were told -/
theorem sorted_key (hdp : dp + 50 < recursionLimit) (hu : un + 600 < cLine) (B : BaseT w mg mb g₀) (hN : G0.size ≤ gN) (aC : a ≠ C) (aI : a ≠ I) (zg : ∀ b ∈ [a, C, I], g₀.get? b = none ∧ b ∉ tabs ∧ b < s.heap.objs.size) (hg : s.heap.IsGen a gN)
    (hgo : ∃ gs, s.gens[gN]? = some gs ∧ ∀ s'' : Shared, WokeS g₀ C I s.heap s''.heap → GoesL w (aro dp un fr gd).in1.in1 g₀ C I n Cs gs n s'') (kg : Keep g₀ s.heap) (t : TabAt s.heap) (gens : GensOk G0 s.gens) (eC : ∃ o, s.heap.get? C = some o) (eI : ∃ o, s.heap.get? I = some o)
    (hC : ∀ i < n, Cs i ∈ sub4) (up : ((List.range n).map fun i => keyS (Cs i)).Pairwise ltS) (hn : n ≤ 10)
    (h : ∀ (s' : Shared) (D : Addr) (vs : List Value) (e : Nat), (∀ b o, b ∉ [C, I] → b ∉ tabs → s.heap.get? b = some o → s'.heap.get? b = some o) → TabAt s'.heap → GensOk G0 s'.gens → s'.drawn = s.drawn → s'.os = s.os → (∀ o, D ∉ [C, I] → s.heap.get? D ≠ some o) → D ∉ tabs → s'.heap.get? D = some (seqObj "list" vs.toArray e) → vs.length = n →
      (∀ (j : Nat) (v : Value), vs[j]? = some v → ∃ y dx tf ep led, v = .ref y ∧ s'.heap.get? y = some (csObj dx (Cs j) tf ep led) ∧ LedOk w led ∧ s.heap.get? y = none ∧ y ∉ tabs) → Q (.ref D) s') :
    wpAny (model PP w) (aro dp un fr gd) (call (.builtin "sorted") [.ref a] [(Str.ofString "key", .type "str")]) Q E s := by
  obtain ⟨za, ta, la⟩ := zg a (by simp)
  obtain ⟨zC, tC, lC⟩ := zg C (by simp)
  obtain ⟨zI, tI, lI⟩ := zg I (by simp)
  have zS : g₀.get? s.heap.objs.size = none := none_of_keep kg (Heap.get?_none_of_le (Nat.le_refl _))
  have tS : s.heap.objs.size ∉ tabs := fresh_tabs t (Heap.get?_none_of_le (Nat.le_refl _))
  have W := lgen_loud (n := n) (Cs := Cs) (hI := s.heap) (dr := s.drawn) (os := s.os) (A := (aro dp un fr gd).in1.in1) (S := s.heap.objs.size) rfl (show dp < _ by omega) B hN zC zI zS (Nat.ne_of_lt lC) (Nat.ne_of_lt lI) tS tC tI (Nat.ne_of_lt la) aC aI ta
  refine call_function_entry_kw kind_sorted plain_sorted entry_sorted (ksk_s1 _ _) ?_
  unfold Builtin.«sorted»
  refine wpAny_bind (m := checkCount "sorted" 1 1 _) (wpAny_pure ?_)
  have kp : ∀ b o, s.heap.get? b = some o → (s.heap.push (accO [] 0)).get? b = some o := fun b o e => Heap.get?_push_of_some _ e
  obtain ⟨gs, hgs, hgo⟩ := hgo
  refine wpAny_bind (collectL W (by omega) (Nat.ne_of_lt la) ⟨hg.keeps kp, ⟨gs, hgs, fun s'' hw => hgo s'' ⟨fun b hb o e => hw.1 b hb o (kp _ _ e), hw.2⟩⟩, ⟨fun b o e => kp _ _ (kg b o e), fun q hq => code_at (fun b _ o e => kp b o e) (t q hq), fun j v e => (by simp at e), gens, rfl, rfl, fun b o _ _ e => kp b o e⟩, (let ⟨o, e⟩ := eC; ⟨o, kp _ _ e⟩), (let ⟨o, e⟩ := eI; ⟨o, kp _ _ e⟩)⟩ fun s₁ vs J hlen => ?_)
  obtain ⟨kg1, t1, told, gens1, hd1, ho1, k1⟩ := J
  refine wpAny_bind (wpAny_newList ?_ (by rw [sizeLine_eq]; omega))
  have hoL : (s₁.heap.push (seqObj "list" vs.toArray 0)).get? s₁.heap.objs.size = some (seqObj "list" vs.toArray 0) := Heap.get?_push_size _ rfl
  have hlL : s₁.heap.objs.size < (s₁.heap.push (seqObj "list" vs.toArray 0)).objs.size := by rw [Heap.size_push]; exact Nat.lt_succ_self _
  refine wpAny_bind (wpAny_holding (wpAny_call_entry_kw slot_list_sort ⟨_, hoL, rfl⟩ entry_list_sort ?body (ksk_l1 _ _)))
  show wpAny (model PP w) (aro dp (un + 1 + 1) fr gd) (Builtin.«list.sort» ⟨[.ref s₁.heap.objs.size], [(Str.ofString "key", .type "str")]⟩) _ _ _
  rw [tree_type]
  have s1 := Heap.SameBut.update (s₁.heap.push (seqObj "list" vs.toArray 0)) s₁.heap.objs.size (Obj.mapSeq fun _ => (#[] : Array Value))
  obtain ⟨e1, ho1'⟩ : ∃ e1, ((s₁.heap.push (seqObj "list" vs.toArray 0)).update s₁.heap.objs.size (Obj.mapSeq fun _ => (#[] : Array Value))).get? s₁.heap.objs.size = some (seqObj "list" #[] e1) := ⟨_, get?_update_seq hoL fun _ => #[]⟩
  unfold ksk_tree
  refine wpAny_bind (listItems_at hoL rfl ?_)
  refine wpAny_bind (listUpdate_at hoL rfl ?_ (by rw [List.size_toArray, sizeLine_eq]; omega) (Nat.zero_le _))
  refine wpAny_bind (seqEpoch_at ho1' rfl ?_)
  refine wpAny_bind (wpAny_newTuple ?_ (by show vs.length ≤ _; rw [sizeLine_eq]; omega))
  refine wpAny_bind (wpAny_newList ?_ (Nat.zero_le _))
  refine wpAny_holding ?_
  generalize hH : ((s₁.heap.push (seqObj "list" vs.toArray 0)).update s₁.heap.objs.size (Obj.mapSeq fun _ => (#[] : Array Value))) = H at ho1' s1 ⊢
  have hHs : H.objs.size = s₁.heap.objs.size + 1 := by rw [← hH, Heap.size_update, Heap.size_push]
  have kH : ∀ b o, s₁.heap.get? b = some o → H.get? b = some o := fun b o e => (s1.2 b (Nat.ne_of_lt (Heap.lt_size e))).trans (Heap.get?_push_of_some _ e)
  have hT2 : (H.push (seqObj "tuple" vs.toArray 0)).objs.size = s₁.heap.objs.size + 2 := by rw [Heap.size_push, hHs]
  have kF : ∀ b o, H.get? b = some o → ((H.push (seqObj "tuple" vs.toArray 0)).push (seqObj "list" #[] 0)).get? b = some o := fun b o e => Heap.get?_push_of_some _ (Heap.get?_push_of_some _ e)
  have kA : ∀ b o, s₁.heap.get? b = some o → ((H.push (seqObj "tuple" vs.toArray 0)).push (seqObj "list" #[] 0)).get? b = some o := fun b o e => kF _ _ (kH _ _ e)
  have zn : ∀ {z : Addr}, s₁.heap.objs.size ≤ z → s₁.heap.get? z = none := fun hz => Heap.get?_none_of_le hz
  have zL := zn (Nat.le_refl _)
  have zK : s₁.heap.get? (H.push (seqObj "tuple" vs.toArray 0)).objs.size = none := zn (by rw [hT2]; exact Nat.le_add_right _ _)
  refine key_rest (s := { s₁ with heap := (H.push (seqObj "tuple" vs.toArray 0)).push (seqObj "list" #[] 0) }) (kS := (H.push (seqObj "tuple" vs.toArray 0)).objs.size) (g₀ := g₀) (Cs := Cs) (by omega) (by omega) B (fun b o e => kA _ _ (kg1 b o e)) (fun q hq => code_at (fun b _ o e => kA b o e) (t1 q hq)) (none_of_keep kg1 zK) (none_of_keep kg1 zL)
    (fresh_tabs t1 zK) (fresh_tabs t1 zL) (Heap.get?_push_size _ rfl) (kF _ _ ho1') (by rw [hT2]; exact Nat.ne_of_gt (Nat.lt_add_of_pos_right (by decide))) (fun j v hj => ?_) (fun i hi => hC i (by omega)) (by rw [hlen]; exact up) (by omega) fun s' c kk tt gg dd oo ea => ⟨_, rfl, ?_⟩
  · obtain ⟨y, dx, tf, ep, led, e1, e2, e3, e4, e5, e6⟩ := told j v hj
    exact ⟨y, dx, tf, ep, led, e1, kA _ _ e2, kA _ _ e3, e4, e5.1, e6.1⟩
  · have kE : ∀ b o, b ∉ tabs → s₁.heap.get? b = some o → s'.heap.get? b = some o := fun b o hb e => kk b o (fun q => by rw [q, zK] at e; cases e) (fun q => by rw [q, zL] at e; cases e) hb (kA _ _ e)
    refine wpAny_pure ⟨_, rfl, h s' s₁.heap.objs.size vs c (fun b o hb ht e => kE b o ht (k1 b o (by
        simp only [List.mem_cons, List.not_mem_nil, or_false, not_or] at hb ⊢
        exact ⟨hb.1, hb.2, Nat.ne_of_lt (Heap.lt_size e)⟩) ht e)) tt (gens1.trans gg) (dd.trans hd1) (oo.trans ho1) ?_ (fresh_tabs t1 zL) ea hlen fun j v hj => ?_⟩
    · intro o hno e
      have := k1 _ o (by
        simp only [List.mem_cons, List.not_mem_nil, or_false, not_or] at hno ⊢
        exact ⟨hno.1, hno.2, Nat.ne_of_lt (Heap.lt_size e)⟩) (fresh_tabs t1 zL) e
      rw [zL] at this; cases this
    · obtain ⟨y, dx, tf, ep, led, e1, e2, e3, e4, e5, e6⟩ := told j v hj
      exact ⟨y, dx, tf, ep, led, e1, kE _ _ e5.1 e2, e4, e5.2.2, e5.1⟩
end

end
section
local macro_rules | `(tactic| walk_at "eval GeneratorExp") => `(tactic| refine stopHere ?_)
local macro_rules | `(tactic| walk_at "call builtin:sorted") => `(tactic| refine stopHere ?_)
section
variable {dp un : Nat} {fr : Option (List Env)} {gd : Option (List Code)} {s : Shared} {Q : Value → Shared → Prop} {ax : Addr} {items : Array Value} {Cs : Nat → List Nat}
theorem sorted_coms (hdp : dp + 60 < recursionLimit) (hu : un + 700 < cLine) (G : GoodT w mg mb s.heap) (hl : (hideAll s.heap tabs).IsList ax items)
    (hT : ∀ (i : Nat) (v : Value), items[i]? = some v → ∃ T us, v = .ref T ∧ (hideAll s.heap tabs).get? T = some (tupOf us) ∧ IntsAre us ((Cs i).map fun (k : Nat) => (k : Int))) (hC : ∀ i < items.size, Cs i ∈ sub4) (up : ((List.range items.size).map fun i => keyS (Cs i)).Pairwise ltS) (hn : items.size ≤ 10)
    (h : ∀ (s' : Shared) (D : Addr) (vs : List Value) (e : Nat), Went w s s' → s.heap.get? D = none → D ∉ tabs → s'.heap.get? D = some (seqObj "list" vs.toArray e) → vs.length = items.size →
      (∀ (j : Nat) (v : Value), vs[j]? = some v → ∃ y dx tf ep led, v = .ref y ∧ s'.heap.get? y = some (csObj dx (Cs j) tf ep led) ∧ LedOk w led ∧ s.heap.get? y = none ∧ y ∉ tabs) → Q (.ref D) s') :
    wpAny (model PP w) (aro dp un fr gd) (call (.ref 85) [.ref ax]) Q never s := by
  have B := G.base
  obtain ⟨o1, q1⟩ := tab_obj G.tab (c := 56) (P := 52) (by decide)
  obtain ⟨o2, q2⟩ := tab_obj G.tab (c := 84) (P := 80) (by decide)
  obtain ⟨o3, q3⟩ := tab_obj G.tab (c := 92) (P := 88) (by decide)
  have hTs : ∀ (i : Nat) (v : Value), items[i]? = some v → ∃ T, v = .ref T ∧ Src w (hideAll s.heap tabs) T (Cs i) := fun i v e => by
    obtain ⟨T, us, rfl, eT, hI⟩ := hT i v e
    have hi : i < items.size := (Array.getElem?_eq_some_iff.mp e).1
    refine ⟨T, rfl, src_tuple (items := us.toArray) (hC i hi) ⟨_, eT, rfl, _, rfl⟩ (by have := hI.length; simpa using this) fun j v hj => ?_⟩
    obtain ⟨k, t, rfl, q⟩ := hI.at j v (by simpa using hj)
    rw [List.getElem?_map] at q
    cases r : (Cs i)[j]? with
    | none => rw [r] at q; cases q
    | some z =>
      rw [r] at q
      cases q
      exact ⟨t, by rw [List.getD_eq_getElem?_getD, r]; rfl⟩
  refine wpAny_call ?_
  refine' enterL (binds := [(Str.ofString "committees", .ref ax)]) (tabL o1 o2 o3) ?hled B.X B.T ?k6 ?k7 ?k8 ?k9 ?kB ?_ ?c2 ?c3 ?c4 ?c5
  case hled => intro q hq; simp only [List.mem_cons, List.not_mem_nil, or_false] at hq; rcases hq with rfl | rfl | rfl <;> assumption
  walk_at "m_cases"
  intro g' L' h' hg' hL' F' N' X' T'
  have hL' : L' = s.heap.objs.size := hL'
  obtain rfl : g' = hideAll s.heap tabs := hg'
  have hLt : L' ∉ tabs := fresh_tabs G.tab (Heap.get?_none_of_le (Nat.le_of_eq hL'.symm))
  have Nt : News (hideAll s.heap tabs) L' s.heap (tabL o1 o2 o3) := newsTabs B q1 q2 q3 hLt
  k_steps
  rename Fr _ _ _ _ => F1
  rename News _ _ _ _ => N1
  have t' : TabAt h' := tabsBack B (fun b o e => of_hideAll _ e) G.tab N1 F1.keep N' (fun p hp => hp)
  refine mk_loud (g₀ := hideAll s.heap tabs) (items := items) (Cs := Cs) rfl (by walk_at "m_around") B F1.keep t' F1.ns rfl rfl rfl rfl rfl hl hTs fun a C I s₁ za zC zI aC aI IC hgen hgo kg1 t1 gk1 hd1 ho1 k1 eC eI hb => ?_
  have F2 : Fr (hideAll s.heap tabs) L' s₁.heap _ := ⟨F1.ns.at' fun o e => k1 _ _ hLt e, kg1, F1.above⟩
  have N2 : News (hideAll s.heap tabs) L' s₁.heap [] := News.nil
  have F1k := F1.keep
  have newz : ∀ {z : Addr}, h'.get? z = none → s.heap.get? z = none := fun {z} hz => by
    cases q : s.heap.get? z with
    | none => rfl
    | some o => rw [F1k _ _ (hideAll_get _ q (fresh_tabs t' hz))] at hz; cases hz
  have L0 : s.heap.get? L' = none := Heap.get?_none_of_le (Nat.le_of_eq hL'.symm)
  clear F1 N1 N'
  k_steps
  show wpAny _ _ (call (.builtin "sorted") [.ref a] [(Str.ofString "key", .type "str")]) _ _ _
  refine sorted_key (g₀ := hideAll s.heap tabs) (Cs := Cs) (n := items.size) (gN := s.gens.size) (G0 := s.gens) (by walk_at "m_around") (by walk_at "m_around") B (Nat.le_refl _) aC aI (fun b hb' => ?_) hgen hgo kg1 t1 gk1 eC eI hC up hn fun s₂ D vs e k2 t2 g2 d2 o2' Dn Dt eD hlen told => ?_
  · refine ⟨none_of_keep F1k ?_, fresh_tabs t' ?_, hb b hb'⟩
    all_goals
      simp only [List.mem_cons, List.not_mem_nil, or_false] at hb'
      rcases hb' with rfl | rfl | rfl <;> assumption
  · have offCI : ∀ {b : Addr} {o : Obj}, h'.get? b = some o → b ∉ [C, I] := fun e hm => by
      simp only [List.mem_cons, List.not_mem_nil, or_false] at hm
      rcases hm with rfl | rfl
      · rw [show h'.get? _ = none from zC] at e; cases e
      · rw [show h'.get? _ = none from zI] at e; cases e
    have kAll : ∀ b o, b ∉ tabs → s.heap.get? b = some o → s₂.heap.get? b = some o := fun b o hbt e => by
      have e1 := F1k _ _ (hideAll_get _ e hbt)
      exact k2 b o (offCI e1) hbt (k1 b o hbt e1)
    have new2 : ∀ {z : Addr}, z ∉ tabs → (∀ o, z ∉ [C, I] → s₁.heap.get? z ≠ some o) → s.heap.get? z = none := fun {z} hz hn => by
      cases q : s.heap.get? z with
      | none => rfl
      | some o =>
        have e1 := F1k _ _ (hideAll_get _ q hz)
        exact absurd (k1 z o hz e1) (hn o (offCI e1))
    refine h s₂ D vs e ⟨kAll, t2, g2, d2.trans hd1, o2'.trans ho1⟩ (new2 Dt Dn) Dt eD hlen fun j v hj => ?_
    obtain ⟨y, dx, tf, ep, led, e1, e2, e3, e4, e5⟩ := told j v hj
    exact ⟨y, dx, tf, ep, led, e1, e2, e3, new2 e5 (fun o _ q => by rw [e4] at q; cases q), e5⟩
end

end
section
theorem ints_arr {cs : Array Value} {n : Nat} (hs : cs.size = n) (h : ∀ i (v : Value), cs[i]? = some v → ∃ t, v = .int (i : Nat) t) (i : Nat) (hi : i < n) : ∃ t, cs[i]? = some (.int (i : Nat) t) := by
  obtain ⟨t, ht⟩ := h i cs[i] (by rw [Array.getElem?_eq_getElem])
  exact ⟨t, by rw [Array.getElem?_eq_getElem (by omega), ht]⟩
theorem arr3 {cs : Array Value} (hs : cs.size = 3) (h : ∀ i (v : Value), cs[i]? = some v → ∃ t, v = .int (i : Nat) t) : ∃ t0 t1 t2, cs = List.toArray [.int 0 t0, .int 1 t1, .int 2 t2] := by
  obtain ⟨t0, e0⟩ := ints_arr hs h 0 (by decide)
  obtain ⟨t1, e1⟩ := ints_arr hs h 1 (by decide)
  obtain ⟨t2, e2⟩ := ints_arr hs h 2 (by decide)
  refine ⟨t0, t1, t2, Array.ext_getElem? fun i => ?_⟩
  match i with
  | 0 => rw [e0]; rfl
  | 1 => rw [e1]; rfl
  | 2 => rw [e2]; rfl
  | i + 3 => rw [Array.getElem?_eq_none (by omega), Array.getElem?_eq_none (by simp)]
theorem arr4 {cs : Array Value} (hs : cs.size = 4) (h : ∀ i (v : Value), cs[i]? = some v → ∃ t, v = .int (i : Nat) t) : ∃ t0 t1 t2 t3, cs = List.toArray [.int 0 t0, .int 1 t1, .int 2 t2, .int 3 t3] := by
  obtain ⟨t0, e0⟩ := ints_arr hs h 0 (by decide)
  obtain ⟨t1, e1⟩ := ints_arr hs h 1 (by decide)
  obtain ⟨t2, e2⟩ := ints_arr hs h 2 (by decide)
  obtain ⟨t3, e3⟩ := ints_arr hs h 3 (by decide)
  refine ⟨t0, t1, t2, t3, Array.ext_getElem? fun i => ?_⟩
  match i with
  | 0 => rw [e0]; rfl
  | 1 => rw [e1]; rfl
  | 2 => rw [e2]; rfl
  | 3 => rw [e3]; rfl
  | i + 4 => rw [Array.getElem?_eq_none (by omega), Array.getElem?_eq_none (by simp)]
section
variable {dp un : Nat} {fr : Option (List Env)} {gd : Option (List Code)} {s : Shared} {Q : Value → Shared → Prop} {lc p : Addr} {cs : Array Value} {t : Tok} {q : Nat × Nat}
theorem comb_new (hq : q ∈ cases4) (hdp : dp + 20 < recursionLimit) (hu : un + 200 < cLine) (G : Good w mg mb s.heap) (hl : s.heap.IsList lc cs) (hs : cs.size = q.1) (hc : ∀ i (v : Value), cs[i]? = some v → ∃ t, v = .int (i : Nat) t)
    (h : ∀ h' tk p ix, Keep s.heap h' → CombSt s.heap h' q 0 p ix → Q (.ref p) { s with heap := h', toks := tk }) :
    wpAny (model PP w) (aro dp un fr gd) (call (.ref 147) [.ref lc, .int (q.2 : Nat) t]) Q never s := by
  simp only [cases4, List.mem_cons, List.not_mem_nil, or_false] at hq
  rcases hq with rfl | rfl | rfl
  · obtain ⟨t0, t1, t2, rfl⟩ := arr3 hs hc
    exact comb_new32 hdp hu G hl h
  · obtain ⟨t0, t1, t2, t3, rfl⟩ := arr4 hs hc
    exact comb_new42 hdp hu G hl h
  · obtain ⟨t0, t1, t2, t3, rfl⟩ := arr4 hs hc
    exact comb_new43 hdp hu G hl h
theorem comb_iter (hdp : dp + 12 < recursionLimit) (hu : un + 130 < cLine) (G : Good w mg mb s.heap) (h : ∀ h' tk, Keep s.heap h' → Q (.ref p) { s with heap := h', toks := tk }) :
    wpAny (model PP w) (aro dp un fr gd) (call (.ref 136) [.ref p]) Q never s := by
  have X := G.X
  have T := G.T
  refine wpAny_call ?_
  refine' enterL (binds := [(Str.ofString "self", .ref p)]) [] (List.forall_mem_nil _) X T ?k6 ?k7 ?k8 ?k9 ?kB ?_ ?c2 ?c3 ?c4 ?c5
  walk_at "m_cases"
  intro g' L' h' hg' hL' F' N' X' T'
  obtain rfl : g' = s.heap := hg'
  k_steps
  exact h _ _ F'.keep
end
/-- the best score so far, and the committees that have it -/
def optStep (f : List Nat → Int) (b : Int × List (List Nat)) (C : List Nat) : Int × List (List Nat) := if b.1 < f C then (f C, [C]) else if f C = b.1 then (b.1, b.2 ++ [C]) else b
def optOf (f : List Nat → Int) (l : List (List Nat)) : Int × List (List Nat) := l.foldl (optStep f) (-6, [])
theorem optOf_snoc (f : List Nat → Int) (l : List (List Nat)) (C : List Nat) : optOf f (l ++ [C]) = optStep f (optOf f l) C := by
  unfold optOf
  rw [List.foldl_append]
  rfl
theorem snoc_ind {α : Type} {P : List α → Prop} (h0 : P []) (h1 : ∀ l a, P l → P (l ++ [a])) (l : List α) : P l := by
  rw [← List.reverse_reverse l]
  generalize l.reverse = r
  induction r with
  | nil => exact h0
  | cons a r ih => rw [List.reverse_cons]; exact h1 _ _ ih
theorem optOf_spec (f : List Nat → Int) : ∀ l : List (List Nat), (∀ C ∈ l, 0 ≤ f C) → (∀ C ∈ l, f C ≤ (optOf f l).1) ∧ (l ≠ [] → ∃ C ∈ l, f C = (optOf f l).1) ∧ (l = [] → (optOf f l).1 = -6) ∧ (optOf f l).2 = l.filter (fun C => f C == (optOf f l).1) := by
  refine snoc_ind ?_ ?_
  · intro _; refine ⟨(fun C h => nomatch h), (fun h => absurd rfl h), (fun _ => rfl), rfl⟩
  · intro l C ih h0
    obtain ⟨h1, h2, h3, h4⟩ := ih fun D hD => h0 D (List.mem_append_left _ hD)
    have hC := h0 C (by simp)
    rw [optOf_snoc]
    have ne : l ++ [C] ≠ [] := by simp
    unfold optStep
    by_cases c1 : (optOf f l).1 < f C
    · rw [if_pos c1]
      refine ⟨fun D hD => ?_, fun _ => ⟨C, by simp, rfl⟩, fun e => absurd e ne, ?_⟩
      · rcases List.mem_append.mp hD with hD | hD
        · exact Int.le_of_lt (Int.lt_of_le_of_lt (h1 D hD) c1)
        · rw [List.mem_singleton.mp hD]; exact Int.le_refl _
      · rw [List.filter_append]
        have : l.filter (fun D => f D == f C) = [] := by
          rw [List.filter_eq_nil_iff]
          intro D hD hh
          have := h1 D hD
          rw [beq_iff_eq] at hh
          omega
        simp [this]
    · rw [if_neg c1]
      have key : ∀ D ∈ l ++ [C], f D ≤ (optOf f l).1 := fun D hD => by
        rcases List.mem_append.mp hD with hD | hD
        · exact h1 D hD
        · rw [List.mem_singleton.mp hD]; omega
      have hl : l ≠ [] := fun e => by rw [h3 e] at c1; omega
      by_cases c2 : f C = (optOf f l).1
      · rw [if_pos c2]
        refine ⟨key, fun _ => ⟨C, by simp, c2⟩, fun e => absurd e ne, ?_⟩
        rw [List.filter_append, ← h4]
        simp [c2]
      · rw [if_neg c2]
        refine ⟨key, fun _ => ?_, fun e => absurd e ne, ?_⟩
        · obtain ⟨D, hD, e⟩ := h2 hl
          exact ⟨D, List.mem_append_left _ hD, e⟩
        · rw [List.filter_append, ← h4]
          simp [c2]
/-- frames under way -/
def FS (h : Heap) (l : List Env) : Prop := ∀ env ∈ l, env.scope.kind ≠ .module ∧ ∃ L o es ep, env.frame = some L ∧ h.get? L = some o ∧ o.data = .dict es ep
theorem FS.fun {h : Heap} : ∀ {l : List Env}, FS h l → h.FunFrames noHeap l
  | [], _ => trivial
  | env :: l, x => by
    obtain ⟨hk, L, o, es, ep, e1, e2, e3⟩ := x env (.head _)
    exact ⟨hk, ⟨L, o, e1, noHeap_none, e2, fun vs q => by rw [e3] at q; cases q⟩, FS.fun fun e he => x e (.tail _ he)⟩
theorem FS.keep {h h' : Heap} {l : List Env} (x : FS h l) (k : ∀ b ∈ l.filterMap (·.frame), ∀ o, h.get? b = some o → ∃ o', h'.get? b = some o' ∧ o'.data = o.data) : FS h' l := fun env he => by
  obtain ⟨hk, L, o, es, ep, e1, e2, e3⟩ := x env he
  obtain ⟨o', e4, e5⟩ := k L (List.mem_filterMap.mpr ⟨env, he, e1⟩) o e2
  exact ⟨hk, L, o', es, ep, e1, e4, e5.trans e3⟩
theorem FS.cons {h h0 : Heap} {L a : Addr} {m : Str → Option Value} {name : Str} {scope : Scope} {cd : Value} {l : List Env} (F : Fr h0 L h m) (hk : scope.kind = .function) (x : FS h l) : FS h (envOf name scope L a cd :: l) := fun env he => by
  rcases List.mem_cons.mp he with rfl | he
  · obtain ⟨o, es, ep, e1, e2, _⟩ := F.ns
    exact ⟨by show scope.kind ≠ .module; rw [hk]; decide, L, o, es, ep, rfl, e1, e2⟩
  · exact x env he
/-- from one state of a run to a later one: the code tables, the generators, and the frames' slots apart -/
structure FW (fs : List Addr) (s s' : Shared) : Prop where
  k : ∀ b o, b ∉ tabs → b ∉ fs → s.heap.get? b = some o → s'.heap.get? b = some o
  sl : ∀ b ∈ fs, ∀ o, s.heap.get? b = some o → ∃ sl, s'.heap.get? b = some { o with slots := sl }
  tab : TabAt s'.heap
  gens : GensOk s.gens s'.gens
  drawn : s'.drawn = s.drawn
  os : s'.os = s.os
theorem pick_list {P : Addr × Obj → Prop} : ∀ {vs : List Value} {R : Nat → Value → Addr × Obj → Prop}, (∀ (j : Nat) (v : Value), vs[j]? = some v → ∃ a, R j v a ∧ P a) → ∃ nl : List (Addr × Obj), (∀ (j : Nat) (v : Value), vs[j]? = some v → ∃ a ∈ nl, R j v a) ∧ ∀ a ∈ nl, P a
  | [], R, _ => ⟨[], (fun j v h => by simp at h), (fun a ha => by cases ha)⟩
  | v :: vs, R, h => by
    obtain ⟨a, h1, h2⟩ := h 0 v rfl
    obtain ⟨nl, h3, h4⟩ := pick_list (vs := vs) (R := fun j => R (j + 1)) fun j u e => h (j + 1) u (by simpa using e)
    refine ⟨a :: nl, fun j u e => ?_, fun b hb => ?_⟩
    · cases j with
      | zero => cases e; exact ⟨a, .head _, h1⟩
      | succ j =>
        obtain ⟨b, hb, hR⟩ := h3 j u (by simpa using e)
        exact ⟨b, .tail _ hb, hR⟩
    · rcases List.mem_cons.mp hb with rfl | hb
      · exact h2
      · exact h4 b hb
theorem slots_list {h : Heap} : ∀ {fl : List (Addr × Obj)}, (∀ p ∈ fl, ∃ sl, h.get? p.1 = some { p.2 with slots := sl }) → ∃ fl' : List (Addr × Obj), (∀ p ∈ fl', h.get? p.1 = some p.2 ∧ ∃ p' ∈ fl, p'.1 = p.1) ∧ ∀ p ∈ fl, ∃ sl, (p.1, ({ p.2 with slots := sl } : Obj)) ∈ fl'
  | [], _ => ⟨[], (fun a ha => by cases ha), (fun a ha => by cases ha)⟩
  | a :: fl, x => by
    obtain ⟨sl, e⟩ := x a (.head _)
    obtain ⟨fl', h1, h2⟩ := slots_list (fl := fl) fun p hp => x p (.tail _ hp)
    refine ⟨(a.1, { a.2 with slots := sl }) :: fl', fun p hp => ?_, fun p hp => ?_⟩
    · rcases List.mem_cons.mp hp with rfl | hp
      · exact ⟨e, a, .head _, rfl⟩
      · obtain ⟨g1, p', g2, g3⟩ := h1 p hp
        exact ⟨g1, p', .tail _ g2, g3⟩
    · rcases List.mem_cons.mp hp with rfl | hp
      · exact ⟨sl, .head _⟩
      · obtain ⟨sl', g⟩ := h2 p hp
        exact ⟨sl', .tail _ g⟩
theorem optOf_sub (f : List Nat → Int) : ∀ l : List (List Nat), List.Sublist (optOf f l).2 l := by
  refine snoc_ind (List.Sublist.refl _) fun l C ih => ?_
  rw [optOf_snoc]
  unfold optStep
  split
  · exact List.sublist_append_right l [C]
  · split
    · exact ih.append (List.Sublist.refl _)
    · exact ih.trans (List.sublist_append_left _ _)
theorem combos_up : ∀ p ∈ cases4, ((combos p).map keyS).Pairwise ltS := by
  have h : ∀ p ∈ cases4, ((combos p).map keyS).Pairwise (fun a b => decide (a.cps.toList < b.cps.toList) = true) := by decide +kernel
  exact h
theorem map_range_getD {α β : Type} (f : α → β) (d : α) (l : List α) : (List.range l.length).map (fun i => f (l.getD i d)) = l.map f := by
  refine List.ext_getElem (by simp) fun i h1 h2 => ?_
  simp only [List.getElem_map, List.getElem_range]
  rw [List.getD_eq_getElem?_getD, List.getElem?_eq_getElem (by simpa using h1)]
  rfl

end
section
local macro_rules | `(tactic| walk_at "eval Name") => `(tactic| (k_here; (refine' ld ?k1 ?k2 ?_; (case k1 => k_asm); (case k2 => first | exact rfl | assumption); k_whole)))
local macro_rules | `(tactic| walk_at "loadName") => `(tactic| (k_here; (refine' wpAny_loadName_local ?k3 ?k4 ?k1 ?k2 ?_; (case k3 => exact rfl); (case k4 => exact rfl); (case k1 => exact Fr.ns (by k_asm)); (case k2 => first | exact rfl | assumption); k_whole)))
local macro_rules | `(tactic| walk_at "And") => `(tactic| ((with_reducible show (Flow.next = Flow.next) ∧ _); refine stopHere ?_))
local macro_rules | `(tactic| walk_at "call ref") => `(tactic| refine stopHere ?_)
local macro_rules | `(tactic| walk_at "exec For Name Call cons nil") => `(tactic| refine stopHere ?_)
local macro_rules | `(tactic| walk_at "pyIter ref") => `(tactic| refine stopHere ?_)
local macro_rules | `(tactic| walk_at "call builtin:list.append") => `(tactic| refine stopHere ?_)
theorem CombSt.keeps {g h h' : Heap} {q : Nat × Nat} {i : Nat} {p ix : Addr} (S : CombSt g h q i p ix) (k : Keep h h') : CombSt g h' q i p ix := by
  obtain ⟨zz, dx, D, tr, ys, e, vs, z3, e1, e2, e3, e4, r⟩ := S
  exact ⟨zz, dx, D, tr, ys, e, vs, z3, k _ _ e1, k _ _ e2, k _ _ e3, k _ _ e4, r⟩
theorem NewN.rebase {g h1 h2 : Heap} {L L2 : Addr} {m : Str → Option Value} {v : Value} {S : Int} (V : NewN h1 L2 h2 v S) (F : Fr g L h1 m) : NewN g L h2 v S := by
  rcases V with ⟨k, t, e, q⟩ | ⟨x, dx, a1, b1, n, t1, a2, b2, d, t2, c, e, q, N⟩
  · exact .inl ⟨k, t, e, q⟩
  · refine .inr ⟨x, dx, a1, b1, n, t1, a2, b2, d, t2, c, e, q, fun p hp => ?_⟩
    obtain ⟨z1, z2⟩ := Fr.fresh F (N p hp).2.2
    exact ⟨(N p hp).1, z2, z1⟩
section
variable {dp un : Nat} {outer : List Env} {gd : Option (List Code)} {s : Shared} {Q : Value → Shared → Prop} {p : Addr} {q : Nat × Nat} {vs : List (Addr × List Nat × Int)} {t0 t1 : Tok}
theorem combos_len : ∀ p ∈ cases4, ∀ C ∈ combos p, C.length ≤ 3 := by decide +kernel
theorem src_tup {h : Heap} {T : Addr} {us : List Value} {C : List Nat} (hC : C ∈ sub4) (eT : h.get? T = some (tupOf us)) (hI : IntsAre us (C.map fun (k : Nat) => (k : Int))) : Src w h T C := by
  refine src_tuple (items := us.toArray) hC ⟨_, eT, rfl, _, rfl⟩ (by have := hI.length; simpa using this) fun j v hj => ?_
  obtain ⟨k, t, rfl, q⟩ := hI.at j v (by simpa using hj)
  rw [List.getElem?_map] at q
  cases r : C[j]? with
  | none => rw [r] at q; cases q
  | some z =>
    rw [r] at q
    cases q
    exact ⟨t, by rw [List.getD_eq_getElem?_getD, r]; rfl⟩
theorem turn_never {M : Model} {A : Around} {tgt : Expr} {env : Env} {v : Value} {body : List Stmt} {Qf : Flow → Shared → Prop} {Ef Ea : Value → Shared → Prop} {s : Shared}
    (h : wpAny M A (assign tgt env v) (fun _ s₂ => wpAny M A (execs body env) (fun f s₃ => f = .next ∧ Qf .next s₃) never s₂) never s) : wpAny M A (assign tgt env v) (fun _ s₂ => wpAny M A (execs body env) Qf Ef s₂) Ea s :=
  wpAny_mono h (fun _ s₂ h₂ => wpAny_mono h₂ (fun f s₃ h₃ => by obtain ⟨rfl, q⟩ := h₃; exact q) fun _ _ e => e.elim) fun _ _ e => e.elim
theorem optOf_len (f : List Nat → Int) : ∀ l : List (List Nat), (optOf f l).2.length ≤ l.length := by
  refine snoc_ind (Nat.le_refl _) fun l C ih => ?_
  rw [optOf_snoc, List.length_append, List.length_singleton]
  unfold optStep
  split
  · show 1 ≤ _; omega
  · split
    · show ((optOf f l).2 ++ [C]).length ≤ _; rw [List.length_append, List.length_singleton]; omega
    · omega
theorem combos_few : ∀ p ∈ cases4, (combos p).length ≤ 10 := by decide +kernel
theorem allLt_mem {d : Nat} {l : List (Addr × Obj)} (h : AllLt d l) (p : Addr × Obj) (hp : p ∈ l) : @LT.lt Nat _ p.1 d := by
  induction l with
  | nil => cases hp
  | cons a l ih =>
    rcases List.mem_cons.mp hp with rfl | hp
    · exact h.1
    · exact ih h.2 hp
theorem fs_list {h : Heap} : ∀ {l : List Env}, FS h l → ∃ fl : List (Addr × Obj), fl.map Prod.fst = l.filterMap (·.frame) ∧ ∀ p ∈ fl, h.get? p.1 = some p.2 ∧ ∃ es ep, p.2.data = .dict es ep
  | [], _ => ⟨[], rfl, fun _ hp => nomatch hp⟩
  | env :: l, x => by
    obtain ⟨hk, L, o, es, ep, e1, e2, e3⟩ := x env (.head _)
    obtain ⟨fl, h1, h2⟩ := fs_list (l := l) fun e he => x e (.tail _ he)
    refine ⟨(L, o) :: fl, by rw [List.filterMap_cons, e1, List.map_cons, h1], fun p hp => ?_⟩
    rcases List.mem_cons.mp hp with rfl | hp
    · exact ⟨e2, es, ep, e3⟩
    · exact h2 p hp
/-- the state of the search when i committees have been looked at -/
def BFJ (w : World) (g hp : Heap) (L p : Addr) (q : Nat × Nat) (x ix : Addr) (f : List Nat → Int) (t0 : Tok) (base : List (Addr × Obj)) (s : Shared) (i : Nat) (s' : Shared) : Prop :=
  ∃ h' tk m' v Dl ts nn nl, s' = { s with heap := h', toks := tk } ∧ Fr g L h' m' ∧ (m' (Str.ofString "scorefct_id") = some (.str (Str.ofString "pav") t0) ∧ m' (Str.ofString "profile") = some (.ref p) ∧ m' (Str.ofString "resolute") = some (.bool false) ∧ m' (Str.ofString "max_num_of_committees") = some .none ∧
      m' (Str.ofString "opt_committees") = some (.ref Dl) ∧ m' (Str.ofString "opt_thiele_score") = some v) ∧ NewN g L h' v (optOf f ((combos q).take i)).1 ∧ News g L h' ((Dl, W.listOf (List.toArray ts) nn) :: nl) ∧ (∀ p ∈ base, p ∈ nl) ∧ (∀ p ∈ nl, p.1 ≠ x ∧ p.1 ≠ ix ∧ p.1 ≠ Dl) ∧ (Dl ≠ x ∧ Dl ≠ ix) ∧
    ts.length = (optOf f ((combos q).take i)).2.length ∧ (∀ (j : Nat) (v : Value), ts[j]? = some v → ∃ T us, v = .ref T ∧ (T, tupOf us) ∈ nl ∧ IntsAre us (((optOf f ((combos q).take i)).2.getD j []).map fun (k : Nat) => (k : Int))) ∧ CombSt hp h' q i x ix
theorem bruteforce (hdp : dp + 80 < recursionLimit) (hu : un + 900 < cLine) (hq : q ∈ cases4) (B : BaseT w mg mb (hideAll s.heap (tabs ++ outer.filterMap (·.frame)))) (t : TabAt s.heap) (hF : FS s.heap outer) (hft : ∀ b ∈ outer.filterMap (·.frame), b ∉ tabs) (P : ProfAt w (hideAll s.heap (tabs ++ outer.filterMap (·.frame))) p q.1 vs)
    (h : ∀ (s' : Shared) (T D dI : Addr) (ws : List Value) (e : Nat), FW (outer.filterMap (·.frame)) s s' → s'.heap.get? T = some (tupOf [.ref D, .ref dI]) → s'.heap.get? D = some (seqObj "list" ws.toArray e) → ws.length = (optOf (fun C => scoreOf C vs) (combos q)).2.length →
      (∀ (j : Nat) (v : Value), ws[j]? = some v → ∃ y dx tf ep led, v = .ref y ∧ s'.heap.get? y = some (csObj dx ((optOf (fun C => scoreOf C vs) (combos q)).2.getD j []) tf ep led) ∧ LedOk w led ∧ s.heap.get? y = none ∧ y ∉ tabs) →
      s.heap.get? T = none → s.heap.get? D = none → T ∉ tabs → D ∉ tabs → Q (.ref T) s') :
    wpAny (model PP w) (aro dp un (some outer) gd) (call (.ref 524) [] [(Str.ofString "scorefct_id", .str (Str.ofString "pav") t0), (Str.ofString "profile", .ref p), (Str.ofString "committeesize", .int (q.2 : Nat) t1), (Str.ofString "resolute", .bool false), (Str.ofString "max_num_of_committees", .none)]) Q never s := by
  have kg0 : Keep (hideAll s.heap (tabs ++ outer.filterMap (·.frame))) s.heap := fun b o e => of_hideAll _ e
  obtain ⟨o1, q1⟩ := tab_obj t (c := 56) (P := 52) (by decide)
  obtain ⟨o2, q2⟩ := tab_obj t (c := 84) (P := 80) (by decide)
  obtain ⟨o3, q3⟩ := tab_obj t (c := 92) (P := 88) (by decide)
  have X1 : (K39 w.params).In s.heap := B.X.keeps kg0
  obtain ⟨fl, hfl, hfo⟩ := fs_list hF
  have hmap : (tabL o1 o2 o3 ++ fl).map (·.1) = tabs ++ outer.filterMap (·.frame) := by rw [List.map_append, ← hfl]; rfl
  refine wpAny_call ?_
  refine' enterL (binds := [(Str.ofString "scorefct_id", .str (Str.ofString "pav") t0), (Str.ofString "profile", .ref p), (Str.ofString "committeesize", .int (q.2 : Nat) t1), (Str.ofString "resolute", .bool false), (Str.ofString "max_num_of_committees", .none)]) (tabL o1 o2 o3 ++ fl) ?hled (hmap ▸ B.X) (hmap ▸ B.T) ?k6 ?k7 ?k8 ?k9 ?kB ?_ ?c2 ?c3 ?c4 ?c5
  case hled =>
    intro a ha
    rcases List.mem_append.mp ha with ha | ha
    · simp only [List.mem_cons, List.not_mem_nil, or_false] at ha; rcases ha with rfl | rfl | rfl <;> assumption
    · exact (hfo a ha).1
  case k6 => k_is
  case k7 => k_is
  case k8 => k_room
  case k9 => first | exact BindsTo.of_eq rfl | exact binds_K X1 rfl (by k_is) rfl rfl rfl
  case c5 => decide
  case kB => exact locs rfl
  case c2 => exact rfl
  case c3 => exact rfl
  case c4 => exact rfl
  intro g' L' h' hg' hL' F' N' X' T'
  have hL' : L' = s.heap.objs.size := hL'
  have hg'' : g' = hideAll s.heap (tabs ++ outer.filterMap (·.frame)) := hg'.trans (by rw [hmap])
  rw [← hg''] at B P kg0
  have hLt : L' ∉ tabs := fresh_tabs t (Heap.get?_none_of_le (Nat.le_of_eq hL'.symm))
  obtain ⟨dpp, lc, ln, lv, h1, a1, h2', a2, h3, a3, cc, cs, nn, e1, e2, e3, e4, e5, e6, e7⟩ := id P
  have Ip : InstAt g' p (instObj 681 dpp) 681 (some (dictOf (pfEs h1 a1 lc h2' a2 ln h3 a3 lv) cc)) := ⟨e1, rfl, rfl, e2⟩
  have N0 : News g' L' h' ((52, o1) :: (80, o2) :: (88, o3) :: fl) := N'
  clear N' hg'
  k_steps
  rename (52 : Nat) < _ ∧ _ => hl0
  show wpAny _ _ _ _ _ _
  refine wpAny_For ?_
  k_steps
  rename Fr _ _ _ _ => F1
  rename News _ _ _ _ => N1
  show wpAny _ _ (call (.ref 147) [.ref lc, .int ((q.2 : Nat) : Int) t1]) _ _ _
  obtain ⟨oc, eoc, rc⟩ := e3
  refine' comb_new hq ?d1 ?u1 ?G1 ?hl e4 e5 fun h4 tk4 x ix k4 St => ?_
  case d1 => walk_at "m_around"
  case u1 => walk_at "m_around"
  case G1 => exact ⟨X'.keeps F1.keep, T'.keeps F1.keep⟩
  case hl => exact ⟨oc, F1.keep _ _ eoc, rc⟩
  have F2 := Fr.kept F1 k4
  have N2 := News.kept N1 k4
  have F1k := F1.keep
  have FpL := F1.ns
  obtain ⟨⟨z1, z2⟩, dx, D, tr, ys, ce, cvs, ⟨z3, z4⟩, c1, c2, c3, c4, c5, c6⟩ := id St
  have nd1 := News.dif N1 z1
  have nd2 := News.dif N1 z2
  clear F1 N1
  k_steps
  rename Fr _ _ _ _ => F3
  rename News _ _ _ _ => N3
  have kz : Keep g' _ := F1k
  refine owit_iter F3 X' (⟨c1, rfl, rfl, c2⟩ : InstAt _ x _ 147 (some (dictOf [] 0))) ci_iter cf_iter ?_
  refine wpAny_mono (comb_iter (mg := mg) (mb := mb) ?d2 ?u2 ?G2 fun h5 tk5 k5 => ?_) (fun _ _ z => z) fun _ _ z => z.elim
  case d2 => walk_at "m_around"
  case u2 => walk_at "m_around"
  case G2 => exact ⟨X'.keeps F3.keep, T'.keeps F3.keep⟩
  refine owit_it (Fr.kept F3 k5) X' (⟨k5 _ _ c1, rfl, rfl, k5 _ _ c2⟩ : InstAt _ x _ 147 (some (dictOf [] 0))) ci_next ?_
  have F4 := Fr.kept F3 k5
  have N4 := News.kept N3 k5
  have hxL : x ≠ L' := fun e => by rw [e] at z1; obtain ⟨_, _, _, eL, _⟩ := FpL; rw [eL] at z1; cases z1
  have hixL : ix ≠ L' := fun e => by rw [e] at z2; obtain ⟨_, _, _, eL, _⟩ := FpL; rw [eL] at z2; cases z2
  have hdxL : dx ≠ L' := fun e => by rw [e] at z3; obtain ⟨_, _, _, eL, _⟩ := FpL; rw [eL] at z3; cases z3
  have St0 := CombSt.keeps St k5
  clear F3 N3
  refine codeAny_forLoop (fun k s' => ∃ i, i ≤ (combos q).length ∧ k = (combos q).length - i ∧ BFJ w g' _ L' p q x ix (fun C => scoreOf C vs) t0 ((52, o1) :: (80, o2) :: (88, o3) :: fl) s i s') ?step (combos q).length ⟨0, Nat.zero_le _, rfl, _, _, _, _, _, [], _, _, rfl, F4, ⟨rfl, rfl, rfl, rfl, rfl, rfl⟩, .inl ⟨-1, _, rfl, rfl⟩, N4, fun _ h => h, ?off, ?offD, rfl, (fun j v h => nomatch h), St0⟩
  case off =>
    intro a ha
    refine ⟨nd1 a (.tail _ ha), nd2 a (.tail _ ha), ?_⟩
    simp only [List.mem_cons] at ha
    rcases ha with rfl | rfl | rfl | ha
    · exact Nat.ne_of_lt hl0.1
    · exact Nat.ne_of_lt hl0.2.1
    · exact Nat.ne_of_lt hl0.2.2.1
    · exact Nat.ne_of_lt (allLt_mem hl0.2.2.2 a ha)
  case offD => exact ⟨nd1 _ (.head _), nd2 _ (.head _)⟩
  case step =>
    rintro k s' ⟨i, hi, rfl, h6, tk6, m6, v6, Dl, ts, nn6, nl, rfl, F6, ⟨r1, r2, r3, r4, r5, r6⟩, V6, N6, hb6, ho6, hoD, hlen, hts, St6⟩
    rcases Nat.lt_or_ge i (combos q).length with hlt | hge
    · have hFS : FS h6 outer := FS.keep hF fun b hb o e => by
        rw [← hfl] at hb
        obtain ⟨a, ha, rfl⟩ := List.mem_map.mp hb
        have e9 := (hfo a ha).1
        rw [e] at e9
        exact ⟨_, (N6 a (.tail _ (hb6 a (.tail _ (.tail _ (.tail _ ha)))))).1, by rw [Option.some.inj e9]⟩
      refine comb_item (gz := _) (g := g') (L := L') (m := m6) hq hlt (by walk_at "m_around") (by walk_at "m_around") (FS.fun (FS.cons F6 rfl hFS)) ⟨X', T'⟩ F6 kz St6 fun h7 tk7 T us zT k7 St7 eT hus => ?_
      obtain ⟨⟨y1, y2⟩, ydx, yD, ytr, yys, yce, ycvs, ⟨y3, y4⟩, d1, d2, d3, d4, d5, d6⟩ := id St6
      have gx : g'.get? x = none := none_of_keep kz y1
      have gix : g'.get? ix = none := none_of_keep kz y2
      have F7 : Fr g' L' h7 m6 := ⟨F6.ns.at' fun o e => k7 _ _ (by simp [Ne.symm hxL, Ne.symm hixL]) e, fun b o e => k7 _ _ (by
        simp only [List.mem_cons, List.not_mem_nil, or_false, not_or]
        exact ⟨(fun z => by rw [z, gx] at e; cases e), (fun z => by rw [z, gix] at e; cases e)⟩) (F6.keep b o e), F6.above⟩
      have N7 : News g' L' h7 ((Dl, W.listOf (List.toArray ts) nn6) :: nl) := fun a ha => ⟨k7 _ _ (by
        simp only [List.mem_cons, List.not_mem_nil, or_false, not_or]
        rcases List.mem_cons.mp ha with rfl | ha
        · exact hoD
        · exact ⟨(ho6 a ha).1, (ho6 a ha).2.1⟩) (N6 a ha).1, (N6 a ha).2⟩
      obtain ⟨nlv, Nv, hcls, back⟩ := V6.track
      have clx : ∀ a ∈ nlv, a.1 ≠ x ∧ a.1 ≠ ix := fun a ha => by
        have ea := (Nv a ha).1
        refine ⟨fun z => ?_, fun z => ?_⟩
        · rw [z, d1] at ea
          have := congrArg Obj.cls (Option.some.inj ea)
          rcases hcls a ha with h | h <;> (rw [h] at this; simp at this)
        · rw [z, d4] at ea
          have := congrArg Obj.cls (Option.some.inj ea)
          rcases hcls a ha with h | h <;> (rw [h] at this; simp at this)
      have Nv7 : News g' L' h7 nlv := fun a ha => ⟨k7 _ _ (by simp [clx a ha]) (Nv a ha).1, (Nv a ha).2⟩
      obtain ⟨gT, TL⟩ := Fr.fresh F6 zT
      have Tx : T ≠ x := fun z => by rw [z, d1] at zT; cases zT
      have Tix : T ≠ ix := fun z => by rw [z, d4] at zT; cases zT
      obtain ⟨⟨w1, w2⟩, wdx, wD, wtr, wys, wce, wcvs, ⟨w3, w4⟩, f1, f2, f3, f4, f5, f6⟩ := id St7
      have Lp : ∀ {z : Addr}, (_ : Heap).get? z = none → z ≠ L' := fun {z} hz e => by rw [e] at hz; obtain ⟨_, _, _, eL, _⟩ := FpL; rw [eL] at hz; cases hz
      have N8 : News g' L' h7 ((T, tupOf us) :: (Dl, W.listOf (List.toArray ts) nn6) :: (x, cmbO wdx ix wD false q.2 wtr false) :: (ix, W.listOf (List.toArray wys) wce) :: (wdx, dictOf [] 0) :: (wD, tupOf wcvs) :: (nlv ++ nl)) := News.cons' (fun a ha => by
        rcases List.mem_cons.mp ha with rfl | ha
        · exact N7 _ (.head _)
        · rcases List.mem_cons.mp ha with rfl | ha
          · exact ⟨f1, Lp w1, none_of_keep kz w1⟩
          · rcases List.mem_cons.mp ha with rfl | ha
            · exact ⟨f4, Lp w2, none_of_keep kz w2⟩
            · rcases List.mem_cons.mp ha with rfl | ha
              · exact ⟨f2, Lp w3, none_of_keep kz w3⟩
              · rcases List.mem_cons.mp ha with rfl | ha
                · exact ⟨f3, Lp w4, none_of_keep kz w4⟩
                · rcases List.mem_append.mp ha with ha | ha
                  · exact Nv7 a ha
                  · exact N7 a (.tail _ ha)) eT TL gT
      have hCm : (combos q).getD i [] ∈ combos q := by rw [List.getD_eq_getElem?_getD, List.getElem?_eq_getElem hlt]; exact List.getElem_mem hlt
      have hCs := combos_sub q hq _ hCm
      have hC3 := combos_len q hq _ hCm
      clear F6 N6 F4 N4 N7 Nv7 Nv
      refine turn_never ?_
      refine wpAny_assign_Name ?_
      k_steps
      rename Fr _ _ _ _ => F9
      rename News _ _ _ _ => N9
      show wpAny _ _ (call (.ref 346) [_, .ref p, .ref T]) _ _ _
      refine' thiele (C := (combos q).getD i []) ?d3 ?u3 ?G3 ?P3 ?Sc hC3 fun v9 h10 tk10 L10 k10 V10 => ?_
      case d3 => walk_at "m_around"
      case u3 => walk_at "m_around"
      case G3 => exact ⟨X'.keeps F9.keep, T'.keeps F9.keep⟩
      case P3 => exact P.keeps F9.keep
      case Sc => exact src_tup hCs (N9 _ (.head _)).1 hus
      have V11 := V10.rebase F9
      have F11 := Fr.kept F9 k10
      obtain ⟨nl9, Nv9, hcl9, back9⟩ := V11.track
      have t6 : ∀ {a : Addr × Obj} {a1 a2 a3 a4 a5 a6 : Addr × Obj} {l : List (Addr × Obj)}, a ∈ l → a ∈ a1 :: a2 :: a3 :: a4 :: a5 :: a6 :: l := fun h => .tail _ (.tail _ (.tail _ (.tail _ (.tail _ (.tail _ h)))))
      have N11 : News g' L' h10 ((T, tupOf us) :: (Dl, W.listOf (List.toArray ts) nn6) :: (x, cmbO wdx ix wD false q.2 wtr false) :: (ix, W.listOf (List.toArray wys) wce) :: (wdx, dictOf [] 0) :: (wD, tupOf wcvs) :: (nl9 ++ (nlv ++ nl))) := fun a ha => by
        have K := News.kept N9 k10
        simp only [List.mem_cons] at ha
        rcases ha with rfl | rfl | rfl | rfl | rfl | rfl | ha
        · exact K _ (by simp)
        · exact K _ (by simp)
        · exact K _ (by simp)
        · exact K _ (by simp)
        · exact K _ (by simp)
        · exact K _ (by simp)
        · rcases List.mem_append.mp ha with ha | ha
          · exact Nv9 a ha
          · exact K a (t6 ha)
      have m9 : ∀ a ∈ nl9, a ∈ ((T, tupOf us) :: (Dl, W.listOf (List.toArray ts) nn6) :: (x, cmbO wdx ix wD false q.2 wtr false) :: (ix, W.listOf (List.toArray wys) wce) :: (wdx, dictOf [] 0) :: (wD, tupOf wcvs) :: (nl9 ++ (nlv ++ nl))) := fun a ha => t6 (List.mem_append_left _ ha)
      have mv : ∀ a ∈ nlv, a ∈ ((T, tupOf us) :: (Dl, W.listOf (List.toArray ts) nn6) :: (x, cmbO wdx ix wD false q.2 wtr false) :: (ix, W.listOf (List.toArray wys) wce) :: (wdx, dictOf [] 0) :: (wD, tupOf wcvs) :: (nl9 ++ (nlv ++ nl))) := fun a ha => t6 (List.mem_append_right _ (List.mem_append_left _ ha))
      have mn : ∀ a ∈ nl, a ∈ ((T, tupOf us) :: (Dl, W.listOf (List.toArray ts) nn6) :: (x, cmbO wdx ix wD false q.2 wtr false) :: (ix, W.listOf (List.toArray wys) wce) :: (wdx, dictOf [] 0) :: (wD, tupOf wcvs) :: (nl9 ++ (nlv ++ nl))) := fun a ha => t6 (List.mem_append_right _ (List.mem_append_right _ ha))
      have off9 : ∀ a ∈ nl9, a.1 ≠ x ∧ a.1 ≠ ix := fun a ha => by
        have ea := (Nv9 a ha).1
        have ex := (N11 (x, _) (.tail _ (.tail _ (.head _)))).1
        have ei := (N11 (ix, _) (.tail _ (.tail _ (.tail _ (.head _))))).1
        refine ⟨fun z => ?_, fun z => ?_⟩
        · rw [z, ex] at ea
          have := congrArg Obj.cls (Option.some.inj ea)
          rcases hcl9 a ha with h | h <;> (rw [h] at this; simp at this)
        · rw [z, ei] at ea
          have := congrArg Obj.cls (Option.some.inj ea)
          rcases hcl9 a ha with h | h <;> (rw [h] at this; simp at this)
      have offAll : ∀ a ∈ (T, tupOf us) :: (nl9 ++ (nlv ++ nl)), a.1 ≠ x ∧ a.1 ≠ ix := fun a ha => by
        rcases List.mem_cons.mp ha with rfl | ha
        · exact ⟨Tx, Tix⟩
        · rcases List.mem_append.mp ha with ha | ha
          · exact off9 a ha
          · rcases List.mem_append.mp ha with ha | ha
            · exact clx a ha
            · exact ⟨(ho6 a ha).1, (ho6 a ha).2.1⟩
      have clsDl : ∀ {z : Addr} {o : Obj}, h10.get? z = some o → o.cls ≠ .type "list" → z ≠ Dl := fun {z} {o} e hc q => by
        have := (N11 (Dl, _) (.tail _ (.head _))).1
        rw [← q, e] at this
        exact hc (by rw [Option.some.inj this])
      have TDl : T ≠ Dl := clsDl (N11 (T, _) (.head _)).1 (by simp)
      have wdxDl : wdx ≠ Dl := clsDl (N11 (wdx, _) (.tail _ (.tail _ (.tail _ (.tail _ (.head _)))))).1 (by simp)
      have wDDl : wD ≠ Dl := clsDl (N11 (wD, _) (.tail _ (.tail _ (.tail _ (.tail _ (.tail _ (.head _))))))).1 (by simp)
      have offDl : ∀ a ∈ (T, tupOf us) :: (nl9 ++ (nlv ++ nl)), a.1 ≠ Dl := fun a ha => by
        rcases List.mem_cons.mp ha with rfl | ha
        · exact TDl
        · rcases List.mem_append.mp ha with h1 | ha1
          · exact clsDl (N11 a (t6 ha)).1 (by rcases hcl9 a h1 with h | h <;> (rw [h]; simp))
          · rcases List.mem_append.mp ha1 with h1 | h1
            · exact clsDl (N11 a (t6 ha)).1 (by rcases hcls a h1 with h | h <;> (rw [h]; simp))
            · exact (ho6 a h1).2.2
      have baseIn : ∀ a ∈ ((52, o1) :: (80, o2) :: (88, o3) :: fl : List (Addr × Obj)), a ∈ (T, tupOf us) :: (nl9 ++ (nlv ++ nl)) := fun a ha => .tail _ (List.mem_append_right _ (List.mem_append_right _ (hb6 a ha)))
      have hstep : optOf (fun C => scoreOf C vs) ((combos q).take (i + 1)) = optStep (fun C => scoreOf C vs) (optOf (fun C => scoreOf C vs) ((combos q).take i)) ((combos q).getD i []) := by
        rw [List.take_succ_eq_append_getElem hlt, optOf_snoc, List.getD_eq_getElem?_getD, List.getElem?_eq_getElem hlt]
        rfl
      clear F9 N9 Nv9
      k_steps
      rename Fr _ _ _ _ => F12
      rename News _ _ _ _ => N12
      refine' gt_num ?d4 ?u4 ?G4 (back9 _ _ N12 m9).num (back _ _ N12 mv).num fun h13 tk13 k13 => ?_
      case d4 => walk_at "m_around"
      case u4 => walk_at "m_around"
      case G4 => exact ⟨X'.keeps F12.keep, T'.keeps F12.keep⟩
      have F13 := Fr.kept F12 k13
      have N13 := News.kept N12 k13
      clear F12 N12
      by_cases c1 : (optOf (fun C => scoreOf C vs) ((combos q).take i)).1 < scoreOf ((combos q).getD i []) vs
      · rw [decide_eq_true c1]
        k_steps
        rename Fr _ _ _ _ => F14
        rename News _ _ _ _ => N14
        rename (T : Nat) < _ ∧ _ => hl1
        have hs1 : optOf (fun C => scoreOf C vs) ((combos q).take (i + 1)) = (scoreOf ((combos q).getD i []) vs, [(combos q).getD i []]) := by rw [hstep]; exact if_pos c1
        have hl3 : (x : Nat) < _ ∧ (ix : Nat) < _ := ⟨hl1.2.2.1, hl1.2.2.2.1⟩
        refine ⟨rfl, (combos q).length - (i + 1), by omega, i + 1, hlt, rfl, _, _, _, _, _, [.ref T], 0, (T, tupOf us) :: (nl9 ++ (nlv ++ nl)), rfl, F14, ⟨r1, r2, r3, r4, rfl, rfl⟩, ?_, ?_, baseIn, fun a ha => ⟨(offAll a ha).1, (offAll a ha).2, ?_⟩, ?_, ?_, ?_, ?_⟩
        · rw [hs1]
          exact back9 _ _ N14 fun a ha => .tail _ (m9 a ha)
        · intro a ha
          rcases List.mem_cons.mp ha with rfl | ha
          · exact N14 _ (.head _)
          · rcases List.mem_cons.mp ha with rfl | ha
            · exact N14 _ (.tail _ (.head _))
            · exact N14 a (.tail _ (t6 ha))
        · rcases List.mem_cons.mp ha with rfl | ha
          · exact Nat.ne_of_lt hl1.1
          · exact Nat.ne_of_lt (allLt_mem hl1.2.2.2.2.2.2 a ha)
        · exact ⟨Nat.ne_of_gt hl3.1, Nat.ne_of_gt hl3.2⟩
        · rw [hs1]; rfl
        · intro j v hj
          rw [hs1]
          match j with
          | 0 => cases hj; exact ⟨T, us, rfl, .head _, hus⟩
          | j + 1 => simp at hj
        · exact ⟨⟨w1, w2⟩, wdx, wD, wtr, wys, wce, wcvs, ⟨w3, w4⟩, (N14 (x, _) (.tail _ (.tail _ (.tail _ (.head _))))).1, (N14 (wdx, _) (.tail _ (.tail _ (.tail _ (.tail _ (.tail _ (.head _))))))).1, (N14 (wD, _) (.tail _ (.tail _ (.tail _ (.tail _ (.tail _ (.tail _ (.head _)))))))).1, (N14 (ix, _) (.tail _ (.tail _ (.tail _ (.tail _ (.head _)))))).1, f5, f6⟩
      · rw [decide_eq_false c1]
        k_steps
        rename Fr _ _ _ _ => F14
        rename News _ _ _ _ => N14
        refine' eq_num ?d5 ?u5 ?G5 (back9 _ _ N14 m9).num (back _ _ N14 mv).num fun h15 tk15 k15 => ?_
        case d5 => walk_at "m_around"
        case u5 => walk_at "m_around"
        case G5 => exact ⟨X'.keeps F14.keep, T'.keeps F14.keep⟩
        have F15 := Fr.kept F14 k15
        have N15 := News.kept N14 k15
        clear F14 N14
        by_cases c2 : scoreOf ((combos q).getD i []) vs = (optOf (fun C => scoreOf C vs) ((combos q).take i)).1
        · rw [decide_eq_true c2]
          k_steps
          rename Fr _ _ _ _ => F16
          rename News _ _ _ _ => N16
          show wpAny _ _ (call (.builtin "list.append") [.ref Dl, .ref T]) _ _ _
          have hts' : ts.length ≤ 10 := by
            rw [hlen]
            exact Nat.le_trans (optOf_len _ _) (Nat.le_trans (List.length_take_le _ _) (Nat.le_trans hi (combos_few q hq)))
          refine wpAny_list_append_plain ⟨nn6, (N16 _ (.tail _ (.head _))).1⟩ (fun h17 hl17 hs17 => ?_) (by rw [List.size_toArray, sizeLine_eq]; omega)
          obtain ⟨nn7, hl17⟩ := hl17
          have DlL := (N16 (Dl, _) (.tail _ (.head _))).2
          have F17 := ksk_fr F16 hs17 DlL.1 DlL.2
          have N17 : News g' L' h17 ((T, tupOf us) :: (Dl, W.listOf (List.toArray (ts ++ [.ref T])) nn7) :: (x, cmbO wdx ix wD false q.2 wtr false) :: (ix, W.listOf (List.toArray wys) wce) :: (wdx, dictOf [] 0) :: (wD, tupOf wcvs) :: (nl9 ++ (nlv ++ nl))) := fun a ha => by
            have oth : ∀ {b : Addr × Obj}, b ∈ _ → b.1 ≠ Dl → h17.get? b.1 = some b.2 ∧ b.1 ≠ L' ∧ g'.get? b.1 = none := fun hb ne => ⟨(hs17.2 _ ne).trans (N16 _ hb).1, (N16 _ hb).2⟩
            simp only [List.mem_cons] at ha
            rcases ha with rfl | rfl | rfl | rfl | rfl | rfl | ha
            · exact oth (.head _) TDl
            · exact ⟨by rw [hl17]; simp [W.listOf], DlL⟩
            · exact oth (.tail _ (.tail _ (.head _))) (Ne.symm hoD.1)
            · exact oth (.tail _ (.tail _ (.tail _ (.head _)))) (Ne.symm hoD.2)
            · exact oth (.tail _ (.tail _ (.tail _ (.tail _ (.head _))))) wdxDl
            · exact oth (.tail _ (.tail _ (.tail _ (.tail _ (.tail _ (.head _)))))) wDDl
            · exact oth (t6 ha) (offDl a (.tail _ ha))
          clear N16 F16
          k_steps
          rename Fr _ _ _ _ => F18
          rename News _ _ _ _ => N18
          have hs2 : optOf (fun C => scoreOf C vs) ((combos q).take (i + 1)) = ((optOf (fun C => scoreOf C vs) ((combos q).take i)).1, (optOf (fun C => scoreOf C vs) ((combos q).take i)).2 ++ [(combos q).getD i []]) := by rw [hstep]; unfold optStep; rw [if_neg c1, if_pos c2]
          have mv' : ∀ a ∈ nlv, a ∈ (T, tupOf us) :: (Dl, W.listOf (List.toArray (ts ++ [.ref T])) nn7) :: (x, cmbO wdx ix wD false q.2 wtr false) :: (ix, W.listOf (List.toArray wys) wce) :: (wdx, dictOf [] 0) :: (wD, tupOf wcvs) :: (nl9 ++ (nlv ++ nl)) := fun a ha => t6 (List.mem_append_right _ (List.mem_append_left _ ha))
          refine ⟨rfl, (combos q).length - (i + 1), by omega, i + 1, hlt, rfl, _, _, _, _, Dl, ts ++ [.ref T], nn7, (T, tupOf us) :: (nl9 ++ (nlv ++ nl)), rfl, F18, ⟨r1, r2, r3, r4, r5, r6⟩, ?_, ?_, baseIn, fun a ha => ⟨(offAll a ha).1, (offAll a ha).2, offDl a ha⟩, hoD, ?_, ?_, ?_⟩
          · rw [hs2]
            exact back _ _ N18 mv'
          · intro a ha
            rcases List.mem_cons.mp ha with rfl | ha
            · exact N18 _ (.tail _ (.head _))
            · rcases List.mem_cons.mp ha with rfl | ha
              · exact N18 _ (.head _)
              · exact N18 a (t6 ha)
          · rw [hs2, List.length_append, List.length_append, hlen]; rfl
          · intro j v hj
            rw [hs2]
            rcases Nat.lt_trichotomy j ts.length with hh | hh | hh
            · rw [List.getElem?_append_left hh] at hj
              obtain ⟨T', us', g1, g2, g3⟩ := hts j v hj
              refine ⟨T', us', g1, .tail _ (List.mem_append_right _ (List.mem_append_right _ g2)), ?_⟩
              rw [List.getD_eq_getElem?_getD, List.getElem?_append_left (by rw [← hlen]; exact hh), ← List.getD_eq_getElem?_getD]
              exact g3
            · subst hh
              simp at hj
              subst hj
              refine ⟨T, us, rfl, .head _, ?_⟩
              rw [List.getD_eq_getElem?_getD, hlen, List.getElem?_append_right (Nat.le_refl _), Nat.sub_self]
              exact hus
            · rw [List.getElem?_eq_none (by rw [List.length_append, List.length_singleton]; omega)] at hj; cases hj
          · exact ⟨⟨w1, w2⟩, wdx, wD, wtr, wys, wce, wcvs, ⟨w3, w4⟩, (N18 (x, _) (.tail _ (.tail _ (.head _)))).1, (N18 (wdx, _) (.tail _ (.tail _ (.tail _ (.tail _ (.head _)))))).1, (N18 (wD, _) (.tail _ (.tail _ (.tail _ (.tail _ (.tail _ (.head _))))))).1, (N18 (ix, _) (.tail _ (.tail _ (.tail _ (.head _))))).1, f5, f6⟩
        · rw [decide_eq_false c2]
          k_steps
          rename Fr _ _ _ _ => F18
          rename News _ _ _ _ => N18
          have hs3 : optOf (fun C => scoreOf C vs) ((combos q).take (i + 1)) = optOf (fun C => scoreOf C vs) ((combos q).take i) := by rw [hstep]; unfold optStep; rw [if_neg c1, if_neg c2]
          have mv' := mv
          refine ⟨rfl, (combos q).length - (i + 1), by omega, i + 1, hlt, rfl, _, _, _, _, Dl, ts, nn6, (T, tupOf us) :: (nl9 ++ (nlv ++ nl)), rfl, F18, ⟨r1, r2, r3, r4, r5, r6⟩, ?_, ?_, baseIn, fun a ha => ⟨(offAll a ha).1, (offAll a ha).2, offDl a ha⟩, hoD, ?_, ?_, ?_⟩
          · rw [hs3]
            exact back _ _ N18 mv'
          · intro a ha
            rcases List.mem_cons.mp ha with rfl | ha
            · exact N18 _ (.tail _ (.head _))
            · rcases List.mem_cons.mp ha with rfl | ha
              · exact N18 _ (.head _)
              · exact N18 a (t6 ha)
          · rw [hs3]; exact hlen
          · intro j v hj
            rw [hs3]
            obtain ⟨T', us', g1, g2, g3⟩ := hts j v hj
            exact ⟨T', us', g1, .tail _ (List.mem_append_right _ (List.mem_append_right _ g2)), g3⟩
          · exact ⟨⟨w1, w2⟩, wdx, wD, wtr, wys, wce, wcvs, ⟨w3, w4⟩, (N18 (x, _) (.tail _ (.tail _ (.head _)))).1, (N18 (wdx, _) (.tail _ (.tail _ (.tail _ (.tail _ (.head _)))))).1, (N18 (wD, _) (.tail _ (.tail _ (.tail _ (.tail _ (.tail _ (.head _))))))).1, (N18 (ix, _) (.tail _ (.tail _ (.tail _ (.head _))))).1, f5, f6⟩
    · have hin : i = (combos q).length := Nat.le_antisymm hi hge
      subst hin
      have hFS : FS h6 outer := FS.keep hF fun b hb o e => by
        rw [← hfl] at hb
        obtain ⟨a, ha, rfl⟩ := List.mem_map.mp hb
        have e9 := (hfo a ha).1
        rw [e] at e9
        exact ⟨_, (N6 a (.tail _ (hb6 a (.tail _ (.tail _ (.tail _ ha)))))).1, by rw [Option.some.inj e9]⟩
      rw [List.take_length] at V6 hlen hts
      refine comb_done (gz := _) (g := g') (L := L') (m := m6) hq (by walk_at "m_around") (by walk_at "m_around") (FS.fun (FS.cons F6 rfl hFS)) ⟨X', T'⟩ F6 kz St6 fun h7 tk7 k7 u7 => ?_
      obtain ⟨⟨y1, y2⟩, ydx, yD, ytr, yys, yce, ycvs, ⟨y3, y4⟩, d1, d2, d3, d4, d5, d6⟩ := id St6
      have gx : g'.get? x = none := none_of_keep kz y1
      have gix : g'.get? ix = none := none_of_keep kz y2
      have gL : g'.get? L' = none := by rw [hg'']; exact none_of_keep (fun b o e => of_hideAll _ e) (Heap.get?_none_of_le (Nat.le_of_eq hL'.symm))
      have gf : ∀ b ∈ outer.filterMap (·.frame), g'.get? b = none := fun b hb => by rw [hg'']; exact hideAll_none _ (List.mem_append_right _ hb)
      have base7 : Keep g' h7 := fun b o e => k7 b o (by
        simp only [List.mem_cons, List.not_mem_nil, or_false, not_or]
        exact ⟨(fun z => by rw [z, gx] at e; cases e), (fun z => by rw [z, gix] at e; cases e)⟩) (fun hm => by
        rcases List.mem_cons.mp hm with z | hm
        · rw [z, gL] at e; cases e
        · rw [gf b hm] at e; cases e) (F6.keep b o e)
      have F8 : Fr g' L' h7 m6 := by
        refine ⟨?_, base7, F6.above⟩
        obtain ⟨o, es, ep, e1, e2, e3⟩ := F6.ns
        obtain ⟨sl, e4⟩ := u7 L' o (by simp [Ne.symm hxL, Ne.symm hixL]) e1 (fun vs q => by rw [e2] at q; cases q)
        exact ⟨_, es, ep, e4, e2, e3⟩
      have flE : ∀ a ∈ fl, h6.get? a.1 = some a.2 := fun a ha => (N6 a (.tail _ (hb6 a (.tail _ (.tail _ (.tail _ ha)))))).1
      have keep7 : ∀ b o, b ≠ x → b ≠ ix → b ≠ L' → (∀ a ∈ fl, a.1 ≠ b) → h6.get? b = some o → h7.get? b = some o := fun b o n1 n2 n3 n4 e => k7 b o (by simp [n1, n2]) (fun hm => by
        rcases List.mem_cons.mp hm with z | hm
        · exact n3 z
        · rw [show (outer.filterMap (·.frame)) = fl.map Prod.fst from hfl.symm] at hm
          obtain ⟨a, ha, z⟩ := List.mem_map.mp hm
          exact n4 a ha z) e
      have flD : ∀ a ∈ fl, ∃ sl, h7.get? a.1 = some { a.2 with slots := sl } := fun a ha => u7 _ _ (by
        have := ho6 a (hb6 a (.tail _ (.tail _ (.tail _ ha))))
        simp [this.1, this.2.1]) (flE a ha) (fun vs q => by obtain ⟨es, ep, q'⟩ := (hfo a ha).2; rw [q'] at q; cases q)
      obtain ⟨fl', hf1, hf2⟩ := slots_list flD
      have fl7 : News g' L' h7 fl' := fun a ha => by
        obtain ⟨z1, p', hp', z2⟩ := hf1 a ha
        have := N6 p' (.tail _ (hb6 p' (.tail _ (.tail _ (.tail _ hp')))))
        exact ⟨z1, by rw [← z2]; exact this.2⟩
      have DlFl : ∀ a ∈ fl, a.1 ≠ Dl := fun a ha => (ho6 a (hb6 a (.tail _ (.tail _ (.tail _ ha))))).2.2
      have D7 : h7.get? Dl = some (W.listOf ts.toArray nn6) := keep7 _ _ hoD.1 hoD.2 (N6 _ (.head _)).2.1 DlFl (N6 _ (.head _)).1
      have tabF : ∀ b ∈ tabs, ∃ o ps, h6.get? b = some o ∧ o.data = .fields ps := fun b hb => by
        have : ∃ c o, (c, b) ∈ ([(56, 52), (84, 80), (92, 88)] : List (Addr × Addr)) ∧ s.heap.get? b = some o ∧ (b, o) ∈ nl := by
          simp only [List.mem_cons, List.not_mem_nil, or_false] at hb
          rcases hb with rfl | rfl | rfl
          · exact ⟨56, o1, by decide, q1, hb6 _ (.head _)⟩
          · exact ⟨84, o2, by decide, q2, hb6 _ (.tail _ (.head _))⟩
          · exact ⟨92, o3, by decide, q3, hb6 _ (.tail _ (.tail _ (.head _)))⟩
        obtain ⟨c, o, hc, eo, hm⟩ := this
        obtain ⟨ps, o', vs', file, tf, flags, tg, inF, text, tt, op, a1, a2, a3, a4, a5, a6, a7, a8, a9⟩ := t _ hc
        have : o = op := Option.some.inj (eo.symm.trans a8)
        exact ⟨o, ps, (N6 _ (.tail _ hm)).1, by rw [this]; exact a9.1⟩
      obtain ⟨tl, htl, tl7⟩ := pick_list (vs := ts) (R := fun j v a => ∃ T us, v = .ref T ∧ a = (T, tupOf us) ∧ IntsAre us (((optOf (fun C => scoreOf C vs) (combos q)).2.getD j []).map fun (k : Nat) => (k : Int))) (P := fun a => (h7.get? a.1 = some a.2 ∧ a.1 ≠ L' ∧ g'.get? a.1 = none) ∧ a.1 ∉ tabs) fun j v hj => by
        obtain ⟨T, us, e1, e2, e3⟩ := hts j v hj
        have n6 := N6 (T, _) (.tail _ e2)
        have o6 := ho6 _ e2
        refine ⟨(T, tupOf us), ⟨T, us, e1, rfl, e3⟩, ⟨keep7 _ _ o6.1 o6.2.1 n6.2.1 (fun a ha z => ?_) n6.1, n6.2⟩, fun hm => ?_⟩
        · have ea := flE a ha
          rw [z, n6.1] at ea
          obtain ⟨es, ep, q'⟩ := (hfo a ha).2
          rw [← Option.some.inj ea] at q'
          cases q'
        · obtain ⟨o, ps, e4, e5⟩ := tabF T hm
          rw [n6.1] at e4
          rw [← Option.some.inj e4] at e5
          cases e5
      have NT : News g' L' h7 (tabL o1 o2 o3) := fun a ha => by
        have hb : a ∈ ((52, o1) :: (80, o2) :: (88, o3) :: fl : List (Addr × Obj)) := by
          simp only [List.mem_cons, List.not_mem_nil, or_false] at ha ⊢
          rcases ha with rfl | rfl | rfl <;> simp
        have n6 := N6 a (.tail _ (hb6 a hb))
        have o6 := ho6 _ (hb6 a hb)
        refine ⟨keep7 _ _ o6.1 o6.2.1 n6.2.1 (fun b hb' z => ?_) n6.1, n6.2⟩
        refine hft b.1 (by rw [← hfl]; exact List.mem_map.mpr ⟨b, hb', rfl⟩) ?_
        rw [z]
        simp only [List.mem_cons, List.not_mem_nil, or_false] at ha
        rcases ha with rfl | rfl | rfl <;> simp
      have N7 : News g' L' h7 ((Dl, W.listOf ts.toArray nn6) :: (52, o1) :: (80, o2) :: (88, o3) :: (tl ++ fl')) := News.cons' (fun a ha => by
        simp only [List.mem_cons] at ha
        rcases ha with rfl | rfl | rfl | ha
        · exact NT _ (.head _)
        · exact NT _ (.tail _ (.head _))
        · exact NT _ (.tail _ (.tail _ (.head _)))
        · rcases List.mem_append.mp ha with ha | ha
          · exact (tl7 a ha).1
          · exact fl7 a ha) D7 (N6 _ (.head _)).2.1 (N6 _ (.head _)).2.2
      have hts' : ts.length ≤ 10 := by
        rw [hlen]
        exact Nat.le_trans (optOf_len _ _) (combos_few q hq)
      have TS : TabAt s.heap := t
      have T9f : ∀ {h9 : Heap} {nl9 : List (Addr × Obj)}, Keep g' h9 → News g' L' h9 nl9 → (∀ a ∈ tabL o1 o2 o3, a ∈ nl9) → TabAt h9 := fun {h9} {nl9} k9 N9 hs => by
        have NS : News g' L' s.heap (tabL o1 o2 o3) := fun a ha => by
          refine ⟨?_, (NT a ha).2⟩
          simp only [List.mem_cons, List.not_mem_nil, or_false] at ha
          rcases ha with rfl | rfl | rfl <;> assumption
        exact tabsBack B kg0 t NS k9 N9 hs
      clear NT
      have nlD := (N6 _ (.head _)).1
      clear F6 N6 F4 N4 St6 St0 St k7 u7
      show wpAny _ _ (execs [] _) _ _ _
      refine wpAny_execs_nil ?_
      k_steps
      rename Fr _ _ _ _ => F9
      rename News _ _ _ _ => N9
      have T9 : TabAt _ := T9f F9.keep N9 fun a ha => by
        simp only [List.mem_cons, List.not_mem_nil, or_false] at ha
        rcases ha with rfl | rfl | rfl <;> simp
      have Dl9 : Dl ∉ tabs := fun hm => by
        obtain ⟨o, ps, e4, e5⟩ := tabF Dl hm
        rw [nlD] at e4
        rw [← Option.some.inj e4] at e5
        cases e5
      show wpAny _ _ (call (.ref 85) [.ref Dl] []) _ _ _
      refine sorted_coms (items := ts.toArray) (Cs := fun j => (optOf (fun C => scoreOf C vs) (combos q)).2.getD j []) ?da ?ua (B.goodT F9.keep T9) ?la ?ta ?ca ?pa ?na fun s2 D ws e W zD Dt eD hwl told => ?_
      case da => walk_at "m_around"
      case ua => walk_at "m_around"
      case la => exact ⟨_, hideAll_get _ (N9 _ (.head _)).1 Dl9, rfl, _, rfl⟩
      case ta =>
        intro j v hj
        obtain ⟨a, ha, T, us, e1, e2, e3⟩ := htl j v (by simpa using hj)
        subst e2
        exact ⟨T, us, e1, hideAll_get _ (N9 (T, tupOf us) (by simp [ha])).1 (tl7 _ ha).2, e3⟩
      case ca =>
        intro j hj
        rw [List.size_toArray, hlen] at hj
        refine combos_sub q hq _ ((optOf_sub (fun C => scoreOf C vs) (combos q)).subset ?_)
        rw [List.getD_eq_getElem?_getD, List.getElem?_eq_getElem hj]
        exact List.getElem_mem hj
      case pa =>
        rw [List.size_toArray, hlen, map_range_getD keyS []]
        exact List.Pairwise.sublist ((optOf_sub _ _).map _) (combos_up q hq)
      case na => rw [List.size_toArray]; exact hts'
      have F10 := W.fr B hLt F9
      obtain ⟨p1, p2, p3, NT2⟩ := tabsIn (h := s2.heap) B W.tab hLt
      have flt : ∀ a ∈ fl', a.1 ∉ tabs := fun a ha => by
        obtain ⟨_, p', hp', z⟩ := hf1 a ha
        exact hft a.1 (by rw [← hfl]; exact List.mem_map.mpr ⟨p', hp', z⟩)
      have N9f : News g' L' s2.heap fl' := W.nw (fun a ha => N9 a (by simp [ha])) flt
      have zs : ∀ {z : Addr}, h7.get? z = none → z ∉ tabs → s.heap.get? z = none := fun {z} hz hzt => by
        cases e9 : s.heap.get? z with
        | none => rfl
        | some o =>
          by_cases hf : z ∈ outer.filterMap (·.frame)
          · rw [← hfl] at hf
            obtain ⟨a, ha, rfl⟩ := List.mem_map.mp hf
            obtain ⟨sl, hm⟩ := hf2 a ha
            rw [(N9 _ (.tail _ (.tail _ (.tail _ (.tail _ (List.mem_append_right _ hm)))))).1] at hz
            cases hz
          · rw [F9.keep z o (by rw [hg'']; exact hideAll_get _ e9 (by simp only [List.mem_append, not_or]; exact ⟨hzt, hf⟩))] at hz
            cases hz
      obtain ⟨wl, hwl2, wl2⟩ := pick_list (vs := ws) (R := fun j v a => ∃ y dx tf ep led, v = .ref y ∧ a = (y, csObj dx ((optOf (fun C => scoreOf C vs) (combos q)).2.getD j []) tf ep led) ∧ LedOk w led) (P := fun a => (s2.heap.get? a.1 = some a.2 ∧ a.1 ≠ L' ∧ g'.get? a.1 = none) ∧ s.heap.get? a.1 = none ∧ a.1 ∉ tabs) fun j v hj => by
        obtain ⟨y, dx, tf, ep, led, e1, e2, e3, e4, e5⟩ := told j v hj
        obtain ⟨z1, z2⟩ := Fr.fresh F9 e4
        exact ⟨_, ⟨y, dx, tf, ep, led, e1, rfl, e3⟩, ⟨e2, z2, z1⟩, zs e4 e5, e5⟩
      obtain ⟨zD1, zD2⟩ := Fr.fresh F9 zD
      have zD3 := zs zD Dt
      have N10 : News g' L' s2.heap ((D, seqObj "list" ws.toArray e) :: (52, p1) :: (80, p2) :: (88, p3) :: (wl ++ fl')) := News.cons' (fun a ha => by
        simp only [List.mem_cons] at ha
        rcases ha with rfl | rfl | rfl | ha
        · exact NT2 _ (.head _)
        · exact NT2 _ (.tail _ (.head _))
        · exact NT2 _ (.tail _ (.tail _ (.head _)))
        · rcases List.mem_append.mp ha with ha | ha
          · exact (wl2 a ha).1
          · exact N9f a ha) eD zD2 zD1
      have Wt := W.tab
      have Wg := W.gens
      have Wd := W.drawn
      have Wo := W.os
      have zs2 : ∀ {z : Addr}, s2.heap.get? z = none → s.heap.get? z = none := fun {z} hz => by
        refine zs ?_ ?_
        · cases e9 : h7.get? z with
          | none => rfl
          | some o => rw [W.k z o (fresh_tabs Wt hz) e9] at hz; cases hz
        · exact fresh_tabs Wt hz
      have F10k := F10.keep
      have NT2f : ∀ (P : Prop), (News g' L' s2.heap (tabL p1 p2 p3) → P) → P := fun _ f => f NT2
      clear F9 N9 W told
      obtain ⟨h2, gens2, dr2, tk2, os2⟩ := s2
      k_steps
      rename Fr _ _ _ _ => F11
      rename News _ _ _ _ => N11
      rename_i D' _ l9
      have D'tabs : D' ∉ tabs := fun hm => by
        simp only [List.mem_cons, List.not_mem_nil, or_false] at hm
        obtain ⟨_, _, l1, l2, l3, _⟩ := l9
        rcases hm with hm | hm | hm
        · exact absurd hm (Nat.ne_of_gt l1)
        · exact absurd hm (Nat.ne_of_gt l2)
        · exact absurd hm (Nat.ne_of_gt l3)
      have D'fr : D' ∉ outer.filterMap (·.frame) := fun hm => by
        rw [← hfl] at hm
        obtain ⟨a, ha, rfl⟩ := List.mem_map.mp hm
        obtain ⟨sl, hm⟩ := hf2 a ha
        exact absurd (allLt_mem l9.2.2.2.2.2 _ (List.mem_append_right wl hm)) (Nat.lt_irrefl _)
      have zD' : s.heap.get? D' = none := by
        cases e9 : s.heap.get? D' with
        | none => rfl
        | some o =>
          have := (N11 _ (.head _)).2.2
          rw [hg'', hideAll_get _ e9 (by simp only [List.mem_append, not_or]; exact ⟨D'tabs, D'fr⟩)] at this
          cases this
      refine h _ D' D _ ws e ⟨fun b o hb1 hb2 e9 => F11.keep b o (by rw [hg'']; exact hideAll_get _ e9 (by simp only [List.mem_append, not_or]; exact ⟨hb1, hb2⟩)), fun b hb o e9 => ?_, ?_, Wg, Wd, Wo⟩ (N11 _ (.head _)).1 (N11 _ (.tail _ (.tail _ (.head _)))).1 (by rw [hwl, List.size_toArray, hlen]) (fun j v hj => ?_) zD' zD3 D'tabs Dt
      · rw [← hfl] at hb
        obtain ⟨a, ha, rfl⟩ := List.mem_map.mp hb
        obtain ⟨sl, hm⟩ := hf2 a ha
        have ea := (hfo a ha).1
        rw [e9] at ea
        refine ⟨sl, ?_⟩
        rw [Option.some.inj ea]
        exact (N11 _ (.tail _ (.tail _ (.tail _ (.tail _ (.tail _ (.tail _ (List.mem_append_right _ hm)))))))).1
      · exact NT2f _ fun NT2 => tabsBack B F10k Wt NT2 F11.keep N11 fun a ha => by
          simp only [List.mem_cons, List.not_mem_nil, or_false] at ha
          rcases ha with rfl | rfl | rfl <;> simp
      · obtain ⟨a, ha, y, dx, tf, ep, led, e1, e2, e3⟩ := hwl2 j v hj
        subst e2
        have := N11 (y, _) (.tail _ (.tail _ (.tail _ (.tail _ (.tail _ (.tail _ (List.mem_append_left _ ha)))))))
        exact ⟨y, dx, tf, ep, led, e1, this.1, e3, (wl2 _ ha).2⟩
end

end
section
local macro_rules | `(tactic| walk_at "exec For Name Attribute cons nil") => `(tactic| (k_here; (rename Fr _ _ _ _ => lF'); (with_unfolding_all refine' For_turns lF' ?_ (fun _ => rfl) ?hE; (case hE => passes_own); k_whole)))
section
variable {A : Around} {E : Value → Shared → Prop} {s : Shared} {h₀ : Heap} {L : Addr} {m : Str → Option Value}
theorem inK_list {ax : Addr} {lo : Obj} {vs : List Value} {n : Nat} {ys : List Str} {k : Str} {t : Tok} {Q : Value → Shared → Prop} (F : Fr h₀ L s.heap m) (X : (K39 w.params).In h₀) (hk : (K39 w.params).lookup ax = some lo) (hc : lo.cls = .type "list") (hd' : lo.data = .seq vs.toArray n) (hi : StrsAre vs ys)
    (h : Q (.bool (ys.any (· == k))) s) : wpAny (model PP w) A (compareOp .In (.str k t) (.ref ax)) Q E s :=
  in_list_strs ⟨lo, F.keep _ _ (X _ _ hk), hc, n, hd'⟩ hi h
theorem notinK_tup {ax : Addr} {lo : Obj} {vs : List Value} {n : Nat} {ys : List Str} {k : Str} {t : Tok} {Q : Value → Shared → Prop} (F : Fr h₀ L s.heap m) (X : (K39 w.params).In h₀) (hk : (K39 w.params).lookup ax = some lo) (hc : lo.cls = .type "tuple") (hd' : lo.data = .seq vs.toArray n) (hi : StrsAre vs ys)
    (h : Q (.bool (!(ys.any (· == k)))) s) : wpAny (model PP w) A (compareOp .NotIn (.str k t) (.ref ax)) Q E s :=
  notin_tuple_strs ⟨lo, F.keep _ _ (X _ _ hk), hc, n, hd'⟩ hi h
end
local macro_rules | `(tactic| walk_at "compareOp In str ref") => `(tactic| (k_here; (with_unfolding_all refine' inK_list ?F ?X ?k ?c ?d ?i ?_; (case F => k_asm); (case X => k_asm); (case k => k_is); (case c => exact rfl); (case d => exact rfl); (case i => kde_strs); k_whole)))
abbrev ruEs (h1 : Int) (a1 : Tok) (v1 : Value) (h2 : Int) (a2 : Tok) (v2 : Value) (h3 : Int) (a3 : Tok) (v3 : Value) (h4 : Int) (a4 : Tok) (h5 : Int) (a5 : Tok) (h6 : Int) (a6 : Tok) (v6 : Value) : List DictEntry := [⟨h1, .str (Str.ofString "rule_id") a1, v1⟩, ⟨h2, .str (Str.ofString "shortname") a2, v2⟩, ⟨h3, .str (Str.ofString "longname") a3, v3⟩, ⟨h4, .str (Str.ofString "algorithms") a4, .ref 410⟩, ⟨h5, .str (Str.ofString "resolute_values") a5, .ref 411⟩, ⟨h6, .str (Str.ofString "available_algorithms") a6, v6⟩]
/-- a Rule for pav -/
def RuleD (h : Heap) (x dx : Addr) : Prop := ∃ (h1 : Int) (a1 : Tok) (v1 : Value) (h2 : Int) (a2 : Tok) (v2 : Value) (h3 : Int) (a3 : Tok) (v3 : Value) (h4 : Int) (a4 : Tok) (h5 : Int) (a5 : Tok) (h6 : Int) (a6 : Tok) (v6 : Value) (c : Nat), h.get? x = some (instObj 437 dx) ∧ h.get? dx = some (dictOf (ruEs h1 a1 v1 h2 a2 v2 h3 a3 v3 h4 a4 h5 a5 h6 a6 v6) c)
/-- a Rule for pav, its dict aside -/
def RuleAt (h : Heap) (x : Addr) : Prop := ∃ dx, RuleD h x dx
theorem RuleAt.keeps {h h' : Heap} {x : Addr} (R : RuleAt h x) (k : Keep h h') : RuleAt h' x := by
  obtain ⟨dx, h1, a1, v1, h2, a2, v2, h3, a3, v3, h4, a4, h5, a5, h6, a6, v6, c, e1, e2⟩ := R
  exact ⟨dx, h1, a1, v1, h2, a2, v2, h3, a3, v3, h4, a4, h5, a5, h6, a6, v6, c, k _ _ e1, k _ _ e2⟩
section
variable {dp un : Nat} {fr : Option (List Env)} {gd : Option (List Code)} {s : Shared} {Q : Value → Shared → Prop} {t : Tok}
theorem rule_new (hdp : dp + 20 < recursionLimit) (hu : un + 200 < cLine) (G : Good w mg mb s.heap)
    (h : ∀ h' tk x dx, s.heap.get? x = none → s.heap.get? dx = none → Keep s.heap h' → RuleD h' x dx → Q (.ref x) { s with heap := h', toks := tk }) :
    wpAny (model PP w) (aro dp un fr gd) (call (.ref 437) [.str (Str.ofString "pav") t]) Q never s := by
  refine wpAny_call (makeL G.X (by k_is) (by k_is) (by k_is) fun x dx h₁ hx hdx hh₁ e1 e2 n1 n2 kk => ?_)
  have X := G.X.keeps kk
  have T := G.T.keeps kk
  have X1 : (K39 w.params).In h₁ := X.keeps fun b o e => of_hideAll _ e
  refine' enterL (binds := [(Str.ofString "self", .ref x), (Str.ofString "rule_id", .str (Str.ofString "pav") t)]) [(x, instObj 437 dx), (dx, dictOf [] 0)] ?hled X T ?k6 ?k7 ?k8 ?k9 ?kB ?_ ?c2 ?c3 ?c4 ?c5
  case hled => intro q hq; simp only [List.mem_cons, List.not_mem_nil, or_false] at hq; rcases hq with rfl | rfl <;> assumption
  walk_at "m_cases"
  intro g' L' h' hg' hL' F' N' X' T'
  have hL1 : (dx : Nat) < (L' : Nat) := by rw [hL']; exact Heap.lt_size e2
  have hL2 : (x : Nat) < (L' : Nat) := by rw [hL']; exact Heap.lt_size e1
  k_steps
  rename Fr _ _ _ _ => F9
  rename News _ _ _ _ => N9
  refine ⟨rfl, h _ _ x dx n1 n2 (fun b' o e => F9.keep _ _ (by rw [hg']; exact kk _ _ e)) ?_⟩
  exact ⟨_, _, _, _, _, _, _, _, _, _, _, _, _, _, _, _, _, (N9 _ (.tail _ (.head _))).1, (N9 _ (.tail _ (.tail _ (.head _)))).1⟩
end

end
section
section
variable {A : Around} {E : Value → Shared → Prop} {s : Shared} {h₀ : Heap} {L : Addr} {m : Str → Option Value}
theorem notinK_bools {ax : Addr} {lo : Obj} {n : Nat} {k : Bool} {Q : Value → Shared → Prop} (F : Fr h₀ L s.heap m) (X : (K39 w.params).In h₀) (hk : (K39 w.params).lookup ax = some lo) (hc : lo.cls = .type "tuple") (hd' : lo.data = .seq [.bool false, .bool true].toArray n)
    (h : Q (.bool (!([false, true].any (· == k)))) s) : wpAny (model PP w) A (compareOp .NotIn (.bool k) (.ref ax)) Q E s := by
  refine PySem.SeqAt.notIn_tupleAt (fun v => match v with | .bool b => b == k | _ => false) ⟨lo, F.keep _ _ (X _ _ hk), hc, n, hd'⟩ (fun y hy => ?_) ?_
  · simp only [List.mem_toArray, List.mem_cons, List.not_mem_nil, or_false] at hy
    rcases hy with rfl | rfl
    · exact PySem.SeqAt.EqAt.bool_bool false k
    · exact PySem.SeqAt.EqAt.bool_bool true k
  · simpa using h
theorem eq_no {a b : Int} {t u : Tok} {Q : Value → Shared → Prop} (hn : ¬ a = b) (h : Q (.bool false) s) : wpAny (model PP w) A (compareOp .Eq (.int a t) (.int b u)) Q E s := eq_int (by rw [show (a == b) = false from beq_eq_false_iff_ne.mpr hn]; exact h)
theorem lt_no {a b : Int} {t u : Tok} {Q : Value → Shared → Prop} (hn : ¬ a < b) (h : Q (.bool false) s) : wpAny (model PP w) A (compareOp .Lt (.int a t) (.int b u)) Q E s := lt_int (by rw [decide_eq_false hn]; exact h)
theorem gt_no {a b : Int} {t u : Tok} {Q : Value → Shared → Prop} (hn : ¬ a > b) (h : Q (.bool false) s) : wpAny (model PP w) A (compareOp .Gt (.int a t) (.int b u)) Q E s := gt_int (by rw [decide_eq_false hn]; exact h)
end
local macro_rules | `(tactic| walk_at "compareOp Lt int int") => `(tactic| refine lt_no (by omega) ?_)
local macro_rules | `(tactic| walk_at "compareOp Gt int int") => `(tactic| refine gt_no (by omega) ?_)
local macro_rules | `(tactic| walk_at "compareOp Eq int int") => `(tactic| refine eq_no (by omega) ?_)
local macro_rules | `(tactic| walk_at "getAttr ref") => `(tactic| ((with_reducible show wpAny _ _ (getAttr _ (Str.ofString "num_cand") _) _ _ _); refine stopHere ?_))
local macro_rules | `(tactic| walk_at "call ref") => `(tactic| ((with_reducible show wpAny _ _ (call (Value.ref 580) _ _) _ _ _); refine stopHere ?_))
local macro_rules | `(tactic| walk_at "compareOp NotIn str ref") => `(tactic| (k_here; (with_unfolding_all refine' notinK_tup ?F ?X ?k ?c ?d ?i ?_; (case F => k_asm); (case X => k_asm); (case k => k_is); (case c => exact rfl); (case d => exact rfl); (case i => kde_strs); k_whole)))
local macro_rules | `(tactic| walk_at "compareOp NotIn bool ref") => `(tactic| (k_here; (with_unfolding_all refine' notinK_bools ?F ?X ?k ?c ?d ?_; (case F => k_asm); (case X => k_asm); (case k => k_is); (case c => exact rfl); (case d => exact rfl); k_whole)))
section
variable {dp un : Nat} {fr : Option (List Env)} {gd : Option (List Code)} {s : Shared} {Q : Value → Shared → Prop} {x p : Addr} {q : Nat × Nat} {vs : List (Addr × List Nat × Int)} {t0 t1 : Tok}
theorem verify (hq : q ∈ cases4) (hdp : dp + 20 < recursionLimit) (hu : un + 400 < cLine) (G : Good w mg mb s.heap) (R : RuleAt s.heap x) (P : ProfAt w s.heap p q.1 vs) (hv0 : vs ≠ []) (hv4 : vs.length ≤ 4)
    (h : ∀ h' tk v, Keep s.heap h' → Q v { s with heap := h', toks := tk }) :
    wpAny (model PP w) (aro dp un fr gd) (call (.ref 434) [.ref x] [(Str.ofString "profile", .ref p), (Str.ofString "committeesize", .int (q.2 : Nat) t1), (Str.ofString "algorithm", .str (Str.ofString "brute-force") t0), (Str.ofString "resolute", .bool false), (Str.ofString "max_num_of_committees", .none)]) Q never s := by
  have X := G.X
  have T := G.T
  obtain ⟨dx, h1, a1, v1, h2, a2, v2, h3, a3, v3, h4, a4, h5, a5, h6, a6, v6, c, b1, b2⟩ := R
  have Ix : InstAt s.heap x (instObj 437 dx) 437 (some (dictOf (ruEs h1 a1 v1 h2 a2 v2 h3 a3 v3 h4 a4 h5 a5 h6 a6 v6) c)) := ⟨b1, rfl, rfl, b2⟩
  obtain ⟨dpp, lc, ln, lv, g1, c1, g2, c2, g3, c3, cc, items, nn, e1, e2, e3, e4, e5, e6, e7⟩ := P
  have Ip : InstAt s.heap p (instObj 681 dpp) 681 (some (dictOf (pfEs g1 c1 lc g2 c2 ln g3 c3 lv) cc)) := ⟨e1, rfl, rfl, e2⟩
  have e6v : ∀ {h9 : Heap}, Keep s.heap h9 → h9.IsList lv _ := fun k9 => ⟨_, k9 _ _ e6, rfl, _, rfl⟩
  have hr : 1 ≤ q.2 ∧ q.2 ≤ q.1 ∧ q.1 ≤ 4 := by
    simp only [cases4, List.mem_cons, List.not_mem_nil, or_false] at hq
    rcases hq with rfl | rfl | rfl <;> decide
  refine wpAny_call ?_
  refine' enterL (binds := [(Str.ofString "self", .ref x), (Str.ofString "profile", .ref p), (Str.ofString "committeesize", .int (q.2 : Nat) t1), (Str.ofString "algorithm", .str (Str.ofString "brute-force") t0), (Str.ofString "resolute", .bool false), (Str.ofString "max_num_of_committees", .none)]) [] (List.forall_mem_nil _) X T ?k6 ?k7 ?k8 ?k9 ?kB ?_ ?c2 ?c3 ?c4 ?c5
  walk_at "m_cases"
  intro g' L' h' hg' hL' F' N' X' T'
  obtain rfl : g' = s.heap := hg'
  k_steps
  rename Fr _ _ _ _ => F1
  rename News _ _ _ _ => N1
  refine get_prop F1 X' (InstAt.keeps' Ip F1.keep) (by k_is) (by k_is) (by k_is) (by k_is) (by k_is) (by k_is) ?_
  refine' prof_numC (nn := 0) ?d ?u ⟨X'.keeps F1.keep, T'.keeps F1.keep⟩ (InstAt.keeps' Ip F1.keep) ⟨_, F1.keep _ _ e3.choose_spec.1, e3.choose_spec.2⟩ (by omega) fun h2 tk2 t2 k2 => ?_
  case d => k_room
  case u => k_units
  have F2 := Fr.kept F1 k2
  have N2 := News.kept N1 k2
  clear F1 N1
  show wpAny _ _ (handedOut _) _ _ _
  refine handed_on rfl ?_
  k_steps
  rename Fr _ _ _ _ => F3
  rename News _ _ _ _ => N3
  show wpAny _ _ (call (.ref 580) [.ref p]) _ _ _
  have hvl : 0 < vs.length := List.length_pos_iff.mpr hv0
  have hsz : (List.map (fun q : Addr × List Nat × Int => Value.ref q.1) vs).toArray.size = vs.length := by simp
  refine' prof_len (nn := 0) ?d2 ?u2 ⟨X'.keeps F3.keep, T'.keeps F3.keep⟩ (InstAt.keeps' Ip F3.keep) (e6v F3.keep) ?z2 fun h4 tk4 t4 k4 => ?_
  case d2 => k_room
  case u2 => k_units
  case z2 => rw [hsz]; omega
  have F4 := Fr.kept F3 k4
  have N4 := News.kept N3 k4
  clear F3 N3
  refine ⟨⟨by omega, by rw [hsz]; omega⟩, ?_⟩
  k_steps
  rename Fr _ _ _ _ => F9
  exact h _ _ _ F9.keep
end

end
section
local macro_rules | `(tactic| walk_at "call ref") => `(tactic| refine stopHere ?_)
section
variable {s s' : Shared} {g : Heap} {L : Addr} {m : Str → Option Value} {fs : List Addr} {fl : List (Addr × Obj)}
theorem FW.fr (W : FW (L :: fs) s s') (B : BaseT w mg mb g) (gL : g.get? L = none) (gf : ∀ b ∈ fs, g.get? b = none) (F : Fr g L s.heap m) : Fr g L s'.heap m := by
  refine ⟨?_, fun b o e => W.k b o (fun hb => by rw [B.no b hb] at e; cases e) (fun hb => ?_) (F.keep b o e), F.above⟩
  · obtain ⟨o, es, ep, e1, e2, e3⟩ := F.ns
    obtain ⟨sl, e4⟩ := W.sl L (.head _) o e1
    exact ⟨_, es, ep, e4, e2, e3⟩
  · rcases List.mem_cons.mp hb with rfl | hb
    · rw [gL] at e; cases e
    · rw [gf b hb] at e; cases e
theorem FW.nl (W : FW (L :: fs) s s') (hfs : fl.map Prod.fst = fs) (N : News g L s.heap fl) : ∃ fl' : List (Addr × Obj), News g L s'.heap fl' ∧ (∀ p ∈ fl', ∃ p' ∈ fl, p'.1 = p.1) ∧ ∀ p ∈ fl, ∃ sl, (p.1, ({ p.2 with slots := sl } : Obj)) ∈ fl' := by
  obtain ⟨fl', h1, h2⟩ := slots_list (h := s'.heap) (fl := fl) fun p hp => W.sl p.1 (.tail _ (by rw [← hfs]; exact List.mem_map.mpr ⟨p, hp, rfl⟩)) p.2 (N p hp).1
  refine ⟨fl', fun p hp => ?_, fun p hp => (h1 p hp).2, h2⟩
  obtain ⟨e, p', hp', z⟩ := h1 p hp
  exact ⟨e, by rw [← z]; exact (N p' hp').2⟩
theorem FW.mk' (hfl : fl.map Prod.fst = fs) (hfo : ∀ p ∈ fl, s.heap.get? p.1 = some p.2) (h2 : ∀ p ∈ fl, ∃ sl, s'.heap.get? p.1 = some { p.2 with slots := sl }) (kE : Keep (hideAll s.heap (tabs ++ fs)) s'.heap) (t : TabAt s'.heap) (g1 : GensOk s.gens s'.gens) (d1 : s'.drawn = s.drawn) (o1 : s'.os = s.os) : FW fs s s' := by
  refine ⟨fun b o hb1 hb2 e9 => kE b o (hideAll_get _ e9 (by simp only [List.mem_append, not_or]; exact ⟨hb1, hb2⟩)), fun b hb o e9 => ?_, t, g1, d1, o1⟩
  rw [← hfl] at hb
  obtain ⟨a, ha, rfl⟩ := List.mem_map.mp hb
  have ea := hfo a ha
  rw [e9] at ea
  rw [Option.some.inj ea]
  exact h2 a ha
/-- a base with one frame more hidden -/
theorem hide_more {h1 : Heap} (B : BaseT w mg mb g) (gL : g.get? L = none) (gf : ∀ b ∈ fs, g.get? b = none) (F : Fr g L h1 m) : Keep g (hideAll h1 (tabs ++ L :: fs)) := fun b o e => hideAll_get _ (F.keep b o e) fun hb => by
  rcases List.mem_append.mp hb with hb | hb
  · rw [B.no b hb] at e; cases e
  · rcases List.mem_cons.mp hb with rfl | hb
    · rw [gL] at e; cases e
    · rw [gf b hb] at e; cases e
end
section
variable {dp un : Nat} {outer : List Env} {gd : Option (List Code)} {s : Shared} {Q : Value → Shared → Prop} {p : Addr} {q : Nat × Nat} {vs : List (Addr × List Nat × Int)} {t0 t1 t2 : Tok}
/-- what compute_pav answers -/
abbrev PavPost (w : World) (fs : List Addr) (q : Nat × Nat) (vs : List (Addr × List Nat × Int)) (s : Shared) (Q : Value → Shared → Prop) : Prop :=
  ∀ (s' : Shared) (D : Addr) (ws : List Value) (e : Nat), FW fs s s' → s'.heap.get? D = some (seqObj "list" ws.toArray e) → ws.length = (optOf (fun C => scoreOf C vs) (combos q)).2.length →
    (∀ (j : Nat) (v : Value), ws[j]? = some v → ∃ y dx tf ep led, v = .ref y ∧ s'.heap.get? y = some (csObj dx ((optOf (fun C => scoreOf C vs) (combos q)).2.getD j []) tf ep led) ∧ LedOk w led ∧ s.heap.get? y = none ∧ y ∉ tabs) →
    s.heap.get? D = none → D ∉ tabs → Q (.ref D) s'
theorem compute_thiele (hdp : dp + 90 < recursionLimit) (hu : un + 1100 < cLine) (hq : q ∈ cases4) (hne : (optOf (fun C => scoreOf C vs) (combos q)).2 ≠ []) (hv0 : vs ≠ []) (hv4 : vs.length ≤ 4) (B : BaseT w mg mb (hideAll s.heap (tabs ++ outer.filterMap (·.frame)))) (t : TabAt s.heap) (hF : FS s.heap outer) (hft : ∀ b ∈ outer.filterMap (·.frame), b ∉ tabs) (P : ProfAt w (hideAll s.heap (tabs ++ outer.filterMap (·.frame))) p q.1 vs)
    (h : PavPost w (outer.filterMap (·.frame)) q vs s Q) :
    wpAny (model PP w) (aro dp un (some outer) gd) (call (.ref 516) [] [(Str.ofString "scorefct_id", .str (Str.ofString "pav") t0), (Str.ofString "profile", .ref p), (Str.ofString "committeesize", .int (q.2 : Nat) t1), (Str.ofString "algorithm", .str (Str.ofString "brute-force") t2), (Str.ofString "resolute", .bool false), (Str.ofString "max_num_of_committees", .none), (Str.ofString "lexicographic_tiebreaking", .bool false)]) Q never s := by
  have kg0 : Keep (hideAll s.heap (tabs ++ outer.filterMap (·.frame))) s.heap := fun b o e => of_hideAll _ e
  obtain ⟨o1, q1⟩ := tab_obj t (c := 56) (P := 52) (by decide)
  obtain ⟨o2, q2⟩ := tab_obj t (c := 84) (P := 80) (by decide)
  obtain ⟨o3, q3⟩ := tab_obj t (c := 92) (P := 88) (by decide)
  have X1 : (K39 w.params).In s.heap := B.X.keeps kg0
  obtain ⟨fl, hfl, hfo⟩ := fs_list hF
  have hmap : (tabL o1 o2 o3 ++ fl).map (·.1) = tabs ++ outer.filterMap (·.frame) := by rw [List.map_append, ← hfl]; rfl
  refine wpAny_call ?_
  refine' enterL (binds := [(Str.ofString "scorefct_id", .str (Str.ofString "pav") t0), (Str.ofString "profile", .ref p), (Str.ofString "committeesize", .int (q.2 : Nat) t1), (Str.ofString "algorithm", .str (Str.ofString "brute-force") t2), (Str.ofString "resolute", .bool false), (Str.ofString "max_num_of_committees", .none), (Str.ofString "lexicographic_tiebreaking", .bool false)]) (tabL o1 o2 o3 ++ fl) ?hled (hmap ▸ B.X) (hmap ▸ B.T) ?k6 ?k7 ?k8 ?k9 ?kB ?_ ?c2 ?c3 ?c4 ?c5
  case hled =>
    intro a ha
    rcases List.mem_append.mp ha with ha | ha
    · simp only [List.mem_cons, List.not_mem_nil, or_false] at ha; rcases ha with rfl | rfl | rfl <;> assumption
    · exact (hfo a ha).1
  case k6 => k_is
  case k7 => k_is
  case k8 => k_room
  case k9 => first | exact BindsTo.of_eq rfl | exact binds_K X1 rfl (by k_is) rfl rfl rfl
  case c5 => decide
  case kB => exact locs rfl
  case c2 => exact rfl
  case c3 => exact rfl
  case c4 => exact rfl
  intro g' L' h' hg' hL' F' N' X' T'
  have hL' : L' = s.heap.objs.size := hL'
  have hg'' : g' = hideAll s.heap (tabs ++ outer.filterMap (·.frame)) := hg'.trans (by rw [hmap])
  rw [← hg''] at B P kg0
  have hLt : L' ∉ tabs := fresh_tabs t (Heap.get?_none_of_le (Nat.le_of_eq hL'.symm))
  have sL : s.heap.get? L' = none := Heap.get?_none_of_le (Nat.le_of_eq hL'.symm)
  have gL : g'.get? L' = none := by rw [hg'']; exact none_of_keep (fun b o e => of_hideAll _ e) sL
  have gf : ∀ b ∈ outer.filterMap (·.frame), g'.get? b = none := fun b hb => by rw [hg'']; exact hideAll_none _ (List.mem_append_right _ hb)
  have N0 : News g' L' h' ((52, o1) :: (80, o2) :: (88, o3) :: fl) := N'
  clear N' hg'
  have T9f : ∀ {h9 : Heap} {nl9 : List (Addr × Obj)}, Keep g' h9 → News g' L' h9 nl9 → (∀ a ∈ tabL o1 o2 o3, a ∈ nl9) → TabAt h9 := fun {h9} {nl9} k9 N9 hs => by
    refine tabsBack B kg0 t (fun a ha => ?_) k9 N9 hs
    simp only [List.mem_cons, List.not_mem_nil, or_false] at ha
    rcases ha with rfl | rfl | rfl
    · exact ⟨q1, (N0 _ (.head _)).2⟩
    · exact ⟨q2, (N0 _ (.tail _ (.head _))).2⟩
    · exact ⟨q3, (N0 _ (.tail _ (.tail _ (.head _)))).2⟩
  k_steps
  rename Fr _ _ _ _ => F1
  rename News _ _ _ _ => N1
  show wpAny _ _ (call (.ref 437) [_]) _ _ _
  refine' rule_new ?d1 ?u1 ⟨X'.keeps F1.keep, T'.keeps F1.keep⟩ fun h2 tk2 x dx zx zdx k2 R2 => ?_
  case d1 => walk_at "m_around"
  case u1 => walk_at "m_around"
  have F2 := Fr.kept F1 k2
  have N2 := News.kept N1 k2
  obtain ⟨zx1, zx2⟩ := Fr.fresh F1 zx
  obtain ⟨zd1, zd2⟩ := Fr.fresh F1 zdx
  obtain ⟨h1, a1, v1, h2', a2, v2, h3, a3, v3, h4, a4, h5, a5, h6, a6, v6, c, b1, b2⟩ := id R2
  have N3 := News.cons' (News.cons' N2 b2 zd2 zd1) b1 zx2 zx1
  clear F1 N1 N2
  k_steps
  rename Fr _ _ _ _ => F4
  rename News _ _ _ _ => N4
  show wpAny _ _ (call (.ref 434) [.ref x] [(Str.ofString "profile", .ref p), (Str.ofString "committeesize", .int (q.2 : Nat) t1), (Str.ofString "algorithm", .str (Str.ofString "brute-force") t2), (Str.ofString "resolute", .bool false), (Str.ofString "max_num_of_committees", .none)]) _ _ _
  refine' verify hq ?d2 ?u2 ⟨X'.keeps F4.keep, T'.keeps F4.keep⟩ ⟨dx, h1, a1, v1, h2', a2, v2, h3, a3, v3, h4, a4, h5, a5, h6, a6, v6, c, (N4 _ (.head _)).1, (N4 _ (.tail _ (.head _))).1⟩ (P.keeps F4.keep) hv0 hv4 fun h7 tk7 v7 k7 => ?_
  case d2 => walk_at "m_around"
  case u2 => walk_at "m_around"
  have F5 := Fr.kept F4 k7
  have N5 := News.kept N4 k7
  clear F4 N4
  k_steps
  rename Fr _ _ _ _ => F6
  rename News _ _ _ _ => N6
  show wpAny _ _ (call (.ref 524) [] [(Str.ofString "scorefct_id", .str (Str.ofString "pav") t0), (Str.ofString "profile", .ref p), (Str.ofString "committeesize", .int (q.2 : Nat) t1), (Str.ofString "resolute", .bool false), (Str.ofString "max_num_of_committees", .none)]) _ _ _
  have hFS : FS _ outer := FS.keep hF fun b hb o e => by
    rw [← hfl] at hb
    obtain ⟨a, ha, rfl⟩ := List.mem_map.mp hb
    have e9 := (hfo a ha).1
    rw [e] at e9
    exact ⟨_, (N6 a (by simp [ha])).1, by rw [Option.some.inj e9]⟩
  have hm := hide_more B gL gf F6
  have T6 : TabAt _ := T9f F6.keep N6 fun a ha => by
    simp only [List.mem_cons, List.not_mem_nil, or_false] at ha
    rcases ha with rfl | rfl | rfl <;> simp
  refine bruteforce (p := p) (q := q) (vs := vs) ?d3 ?u3 hq (B.keeps hm ?no3) T6 (FS.cons F6 rfl hFS) ?ft3 (P.keeps hm) fun s8 T D dI ws e W eT eD hwl told zT zD nT nD => ?_
  case d3 => walk_at "m_around"
  case u3 => walk_at "m_around"
  case no3 => exact fun b hb => hideAll_none _ (List.mem_append_left _ hb)
  case ft3 =>
    intro b hb
    rcases List.mem_cons.mp hb with rfl | hb
    · exact hLt
    · exact hft b hb
  have F8 := W.fr B gL gf F6
  have zs : ∀ {z : Addr}, h7.get? z = none → z ∉ tabs → s.heap.get? z = none := fun {z} hz hzt => by
    cases e9 : s.heap.get? z with
    | none => rfl
    | some o =>
      by_cases hf : z ∈ outer.filterMap (·.frame)
      · rw [← hfl] at hf
        obtain ⟨a, ha, rfl⟩ := List.mem_map.mp hf
        rw [(N6 a (by simp [ha])).1] at hz
        cases hz
      · rw [F6.keep z o (by rw [hg'']; exact hideAll_get _ e9 (by simp only [List.mem_append, not_or]; exact ⟨hzt, hf⟩))] at hz
        cases hz
  obtain ⟨wl, hwl2, wl2⟩ := pick_list (vs := ws) (R := fun j v a => ∃ y dx tf ep led, v = .ref y ∧ a = (y, csObj dx ((optOf (fun C => scoreOf C vs) (combos q)).2.getD j []) tf ep led) ∧ LedOk w led) (P := fun a => (s8.heap.get? a.1 = some a.2 ∧ a.1 ≠ L' ∧ g'.get? a.1 = none) ∧ s.heap.get? a.1 = none ∧ a.1 ∉ tabs) fun j v hj => by
    obtain ⟨y, dx, tf, ep, led, e1, e2, e3, e4, e5⟩ := told j v hj
    obtain ⟨z1, z2⟩ := Fr.fresh F6 e4
    exact ⟨_, ⟨y, dx, tf, ep, led, e1, rfl, e3⟩, ⟨e2, z2, z1⟩, zs e4 e5, e5⟩
  obtain ⟨zD1, zD2⟩ := Fr.fresh F6 zD
  obtain ⟨zT1, zT2⟩ := Fr.fresh F6 zT
  have zD3 := zs zD nD
  obtain ⟨p1, p2, p3, NT2⟩ := tabsIn (h := s8.heap) B W.tab hLt
  obtain ⟨fl', N8f, hf1, hf2⟩ := W.nl hfl (fun a ha => N6 a (by simp [ha]))
  have N8 : News g' L' s8.heap ((T, tupOf [.ref D, .ref dI]) :: (D, seqObj "list" ws.toArray e) :: (52, p1) :: (80, p2) :: (88, p3) :: (wl ++ fl')) := News.cons' (News.cons' (fun a ha => by
    simp only [List.mem_cons] at ha
    rcases ha with rfl | rfl | rfl | ha
    · exact NT2 _ (.head _)
    · exact NT2 _ (.tail _ (.head _))
    · exact NT2 _ (.tail _ (.tail _ (.head _)))
    · rcases List.mem_append.mp ha with ha | ha
      · exact (wl2 a ha).1
      · exact N8f a ha) eD zD2 zD1) eT zT2 zT1
  have NT2f : ∀ (P : Prop), (News g' L' s8.heap (tabL p1 p2 p3) → P) → P := fun _ f => f NT2
  have F8k := F8.keep
  have Wt := W.tab
  have Wg := W.gens
  have Wd := W.drawn
  have Wo := W.os
  have hne2 : ws ≠ [] := fun z => by
    rw [z] at hwl
    exact hne (List.length_eq_zero_iff.mp hwl.symm)
  obtain ⟨w0, ws', rfl⟩ := List.exists_cons_of_ne_nil hne2
  have wl3 : ∀ a ∈ wl, s.heap.get? a.1 = none ∧ a.1 ∉ tabs := fun a ha => (wl2 a ha).2
  clear F6 N6 N8f NT2 W told T9f wl2
  obtain ⟨h8, gens8, dr8, tk8, os8⟩ := s8
  k_steps
  rename Fr _ _ _ _ => F9
  rename News _ _ _ _ => N9
  refine h _ D (w0 :: ws') e (FW.mk' hfl (fun a ha => (hfo a ha).1) (fun a ha => ?_) (hg'' ▸ F9.keep) ?_ Wg Wd Wo) (N9 (D, _) (by simp)).1 hwl (fun j v hj => ?_) zD3 nD
  · obtain ⟨sl, hm⟩ := hf2 a ha
    exact ⟨sl, (N9 _ (.tail _ (.tail _ (.tail _ (.tail _ (.tail _ (List.mem_append_right _ hm))))))).1⟩
  · exact NT2f _ fun NT2 => tabsBack B F8k Wt NT2 F9.keep N9 fun a ha => by
      simp only [List.mem_cons, List.not_mem_nil, or_false] at ha
      rcases ha with rfl | rfl | rfl <;> simp
  · obtain ⟨a, ha, y, dx', tf, ep, led, e1, e2, e3⟩ := hwl2 j v hj
    subst e2
    exact ⟨y, dx', tf, ep, led, e1, (N9 _ (.tail _ (.tail _ (.tail _ (.tail _ (.tail _ (List.mem_append_left _ ha))))))).1, e3, wl3 _ ha⟩
end

end
section
local macro_rules | `(tactic| walk_at "call ref") => `(tactic| refine stopHere ?_)
section
variable {dp un : Nat} {outer : List Env} {gd : Option (List Code)} {s : Shared} {Q : Value → Shared → Prop} {p : Addr} {q : Nat × Nat} {vs : List (Addr × List Nat × Int)} {t0 t1 t2 : Tok}
theorem compute_pav (hdp : dp + 100 < recursionLimit) (hu : un + 1300 < cLine) (hq : q ∈ cases4) (hne : (optOf (fun C => scoreOf C vs) (combos q)).2 ≠ []) (hv0 : vs ≠ []) (hv4 : vs.length ≤ 4) (B : BaseT w mg mb (hideAll s.heap (tabs ++ outer.filterMap (·.frame)))) (t : TabAt s.heap) (hF : FS s.heap outer) (hft : ∀ b ∈ outer.filterMap (·.frame), b ∉ tabs) (P : ProfAt w (hideAll s.heap (tabs ++ outer.filterMap (·.frame))) p q.1 vs)
    (h : PavPost w (outer.filterMap (·.frame)) q vs s Q) :
    wpAny (model PP w) (aro dp un (some outer) gd) (call (.ref 540) [.ref p, .int (q.2 : Nat) t1] [(Str.ofString "algorithm", .str (Str.ofString "brute-force") t2), (Str.ofString "resolute", .bool false)]) Q never s := by
  have kg0 : Keep (hideAll s.heap (tabs ++ outer.filterMap (·.frame))) s.heap := fun b o e => of_hideAll _ e
  obtain ⟨o1, q1⟩ := tab_obj t (c := 56) (P := 52) (by decide)
  obtain ⟨o2, q2⟩ := tab_obj t (c := 84) (P := 80) (by decide)
  obtain ⟨o3, q3⟩ := tab_obj t (c := 92) (P := 88) (by decide)
  have X1 : (K39 w.params).In s.heap := B.X.keeps kg0
  obtain ⟨fl, hfl, hfo⟩ := fs_list hF
  have hmap : (tabL o1 o2 o3 ++ fl).map (·.1) = tabs ++ outer.filterMap (·.frame) := by rw [List.map_append, ← hfl]; rfl
  refine wpAny_call ?_
  refine' enterL (binds := [(Str.ofString "profile", .ref p), (Str.ofString "committeesize", .int (q.2 : Nat) t1), (Str.ofString "algorithm", .str (Str.ofString "brute-force") t2), (Str.ofString "resolute", .bool false), (Str.ofString "max_num_of_committees", .none), (Str.ofString "lexicographic_tiebreaking", .bool false)]) (tabL o1 o2 o3 ++ fl) ?hled (hmap ▸ B.X) (hmap ▸ B.T) ?k6 ?k7 ?k8 ?k9 ?kB ?_ ?c2 ?c3 ?c4 ?c5
  case hled =>
    intro a ha
    rcases List.mem_append.mp ha with ha | ha
    · simp only [List.mem_cons, List.not_mem_nil, or_false] at ha; rcases ha with rfl | rfl | rfl <;> assumption
    · exact (hfo a ha).1
  case k6 => k_is
  case k7 => k_is
  case k8 => k_room
  case k9 => first | exact BindsTo.of_eq rfl | exact binds_K X1 rfl (by k_is) rfl rfl rfl
  case c5 => decide
  case kB => exact locs rfl
  case c2 => exact rfl
  case c3 => exact rfl
  case c4 => exact rfl
  intro g' L' h' hg' hL' F' N' X' T'
  have hL' : L' = s.heap.objs.size := hL'
  have hg'' : g' = hideAll s.heap (tabs ++ outer.filterMap (·.frame)) := hg'.trans (by rw [hmap])
  rw [← hg''] at B P kg0
  have hLt : L' ∉ tabs := fresh_tabs t (Heap.get?_none_of_le (Nat.le_of_eq hL'.symm))
  have sL : s.heap.get? L' = none := Heap.get?_none_of_le (Nat.le_of_eq hL'.symm)
  have gL : g'.get? L' = none := by rw [hg'']; exact none_of_keep (fun b o e => of_hideAll _ e) sL
  have gf : ∀ b ∈ outer.filterMap (·.frame), g'.get? b = none := fun b hb => by rw [hg'']; exact hideAll_none _ (List.mem_append_right _ hb)
  have N0 : News g' L' h' ((52, o1) :: (80, o2) :: (88, o3) :: fl) := N'
  clear N' hg'
  have T9f : ∀ {h9 : Heap} {nl9 : List (Addr × Obj)}, Keep g' h9 → News g' L' h9 nl9 → (∀ a ∈ tabL o1 o2 o3, a ∈ nl9) → TabAt h9 := fun {h9} {nl9} k9 N9 hs => by
    refine tabsBack B kg0 t (fun a ha => ?_) k9 N9 hs
    simp only [List.mem_cons, List.not_mem_nil, or_false] at ha
    rcases ha with rfl | rfl | rfl
    · exact ⟨q1, (N0 _ (.head _)).2⟩
    · exact ⟨q2, (N0 _ (.tail _ (.head _))).2⟩
    · exact ⟨q3, (N0 _ (.tail _ (.tail _ (.head _)))).2⟩
  k_steps
  rename Fr _ _ _ _ => F6
  rename News _ _ _ _ => N6
  show wpAny _ _ (call (.ref 516) [] [(Str.ofString "scorefct_id", .str (Str.ofString "pav") _), (Str.ofString "profile", .ref p), (Str.ofString "committeesize", .int (q.2 : Nat) t1), (Str.ofString "algorithm", .str (Str.ofString "brute-force") t2), (Str.ofString "resolute", .bool false), (Str.ofString "max_num_of_committees", .none), (Str.ofString "lexicographic_tiebreaking", .bool false)]) _ _ _
  have hFS : FS _ outer := FS.keep hF fun b hb o e => by
    rw [← hfl] at hb
    obtain ⟨a, ha, rfl⟩ := List.mem_map.mp hb
    have e9 := (hfo a ha).1
    rw [e] at e9
    exact ⟨_, (N6 a (by simp [ha])).1, by rw [Option.some.inj e9]⟩
  have hm := hide_more B gL gf F6
  have T6 : TabAt _ := T9f F6.keep N6 fun a ha => by
    simp only [List.mem_cons, List.not_mem_nil, or_false] at ha
    rcases ha with rfl | rfl | rfl <;> simp
  refine compute_thiele (p := p) (q := q) (vs := vs) ?d3 ?u3 hq hne hv0 hv4 (B.keeps hm ?no3) T6 (FS.cons F6 rfl hFS) ?ft3 (P.keeps hm) fun s8 D ws e W eD hwl told zD nD => ?_
  case d3 => walk_at "m_around"
  case u3 => walk_at "m_around"
  case no3 => exact fun b hb => hideAll_none _ (List.mem_append_left _ hb)
  case ft3 =>
    intro b hb
    rcases List.mem_cons.mp hb with rfl | hb
    · exact hLt
    · exact hft b hb
  have F8 := W.fr B gL gf F6
  have zs : ∀ {z : Addr}, h'.get? z = none → z ∉ tabs → s.heap.get? z = none := fun {z} hz hzt => by
    cases e9 : s.heap.get? z with
    | none => rfl
    | some o =>
      by_cases hf : z ∈ outer.filterMap (·.frame)
      · rw [← hfl] at hf
        obtain ⟨a, ha, rfl⟩ := List.mem_map.mp hf
        rw [(N6 a (by simp [ha])).1] at hz
        cases hz
      · rw [F6.keep z o (by rw [hg'']; exact hideAll_get _ e9 (by simp only [List.mem_append, not_or]; exact ⟨hzt, hf⟩))] at hz
        cases hz
  obtain ⟨wl, hwl2, wl2⟩ := pick_list (vs := ws) (R := fun j v a => ∃ y dx tf ep led, v = .ref y ∧ a = (y, csObj dx ((optOf (fun C => scoreOf C vs) (combos q)).2.getD j []) tf ep led) ∧ LedOk w led) (P := fun a => (s8.heap.get? a.1 = some a.2 ∧ a.1 ≠ L' ∧ g'.get? a.1 = none) ∧ s.heap.get? a.1 = none ∧ a.1 ∉ tabs) fun j v hj => by
    obtain ⟨y, dx, tf, ep, led, e1, e2, e3, e4, e5⟩ := told j v hj
    obtain ⟨z1, z2⟩ := Fr.fresh F6 e4
    exact ⟨_, ⟨y, dx, tf, ep, led, e1, rfl, e3⟩, ⟨e2, z2, z1⟩, zs e4 e5, e5⟩
  obtain ⟨zD1, zD2⟩ := Fr.fresh F6 zD
  have zD3 := zs zD nD
  obtain ⟨p1, p2, p3, NT2⟩ := tabsIn (h := s8.heap) B W.tab hLt
  obtain ⟨fl', N8f, hf1, hf2⟩ := W.nl hfl (fun a ha => N6 a (by simp [ha]))
  have N8 : News g' L' s8.heap ((D, seqObj "list" ws.toArray e) :: (52, p1) :: (80, p2) :: (88, p3) :: (wl ++ fl')) := News.cons' (fun a ha => by
    simp only [List.mem_cons] at ha
    rcases ha with rfl | rfl | rfl | ha
    · exact NT2 _ (.head _)
    · exact NT2 _ (.tail _ (.head _))
    · exact NT2 _ (.tail _ (.tail _ (.head _)))
    · rcases List.mem_append.mp ha with ha | ha
      · exact (wl2 a ha).1
      · exact N8f a ha) eD zD2 zD1
  have NT2f : ∀ (P : Prop), (News g' L' s8.heap (tabL p1 p2 p3) → P) → P := fun _ f => f NT2
  have F8k := F8.keep
  have Wt := W.tab
  have Wg := W.gens
  have Wd := W.drawn
  have Wo := W.os
  have wl3 : ∀ a ∈ wl, s.heap.get? a.1 = none ∧ a.1 ∉ tabs := fun a ha => (wl2 a ha).2
  clear F6 N6 N8f NT2 W told T9f wl2
  obtain ⟨h8, gens8, dr8, tk8, os8⟩ := s8
  k_steps
  rename Fr _ _ _ _ => F9
  rename News _ _ _ _ => N9
  refine h _ D ws e (FW.mk' hfl (fun a ha => (hfo a ha).1) (fun a ha => ?_) (hg'' ▸ F9.keep) ?_ Wg Wd Wo) (N9 (D, _) (by simp)).1 hwl (fun j v hj => ?_) zD3 nD
  · obtain ⟨sl, hm⟩ := hf2 a ha
    exact ⟨sl, (N9 _ (.tail _ (.tail _ (.tail _ (.tail _ (List.mem_append_right _ hm)))))).1⟩
  · exact NT2f _ fun NT2 => tabsBack B F8k Wt NT2 F9.keep N9 fun a ha => by
      simp only [List.mem_cons, List.not_mem_nil, or_false] at ha
      rcases ha with rfl | rfl | rfl <;> simp
  · obtain ⟨a, ha, y, dx', tf, ep, led, e1, e2, e3⟩ := hwl2 j v hj
    subst e2
    exact ⟨y, dx', tf, ep, led, e1, (N9 _ (.tail _ (.tail _ (.tail _ (.tail _ (List.mem_append_left _ ha)))))).1, e3, wl3 _ ha⟩
end

end
section
section
variable {prog : Program} {A : Around} {s : Shared} {K : Frag} {mg mb : Str → Option Value} {p : Program} {loose : List Str}
abbrev cl5 (c1 c2 c3 c4 c5 : Str) (L : Addr) : List (Str × Addr) := [(c5, L + 5), (c4, L + 4), (c3, L + 3), (c2, L + 2), (c1, L + 1)]
abbrev cells5 (L : Addr) : List (Addr × Obj) := [(L + 1, cellObj none), (L + 2, cellObj none), (L + 3, cellObj none), (L + 4, cellObj none), (L + 5, cellObj none)]
theorem push_at {h : Heap} {o : Obj} {a : Nat} (hf : o.isFreed = false) (e : a = h.objs.size) : (h.push o).get? a = some o := by
  subst e; exact Heap.get?_push_size _ hf
/-- a def with five cells of its own, none bound as yet, is entered -/
theorem enterY {R : Result → Shared → Prop} {name qual : Str} {params : Arguments} {body : List Stmt} {scope : Scope} {dV kV doc pm cdv ct oc : Value} {an od : Option Addr} {osl : Array (Option Value)} {f : Addr} {args : Args} {lb : List (Str × Value)} {c1 c2 c3 c4 c5 : Str}
    (led : List (Addr × Obj)) (hled : ∀ q ∈ led, s.heap.get? q.1 = some q.2)
    (X : K.In (hideAll s.heap (led.map (·.1)))) (T : TopRead p loose mg mb (hideAll s.heap (led.map (·.1))))
    (ho : K.lookup f = some ⟨oc, od, .func (fnOf name qual params body scope dV kV doc pm an cdv ct), osl⟩) (hcd : codeIn K cdv qual = true) (hroom : A.depth < recursionLimit)
    (hbind : BindsTo s (fnOf name qual params body scope dV kV doc pm an cdv ct) args lb) (hcells : ∀ n acc, cellsFrom n scope.names acc = (c5, n + 4) :: (c4, n + 3) :: (c3, n + 2) :: (c2, n + 1) :: (c1, n) :: acc)
    (hpush : ∀ h, pushCells h scope.names = ((((h.push (cellObj none)).push (cellObj none)).push (cellObj none)).push (cellObj none)).push (cellObj none))
    (hloc : ∀ y ∈ lb, scope.names.lookup y.1 = some .local)
    (hco : scope.isCoroutine = false) (hgen : scope.isGenerator = false) (hk : scope.kind = .function)
    (h : ∀ g L' h₁, g = hideAll s.heap (led.map (·.1)) → L' = s.heap.objs.size → Fr g L' h₁ (fun y => lb.reverse.lookup y) → News g L' h₁ (cells5 L' ++ led) → K.In g → TopRead p loose mg mb g →
      wpAny (model prog w) (A.deeper (envX qual scope L' f cdv (cl5 c1 c2 c3 c4 c5 L'))) (execs body (envX qual scope L' f cdv (cl5 c1 c2 c3 c4 c5 L')))
        (fun fl s' => R (.ok (.ret (match fl with | .ret v => v | _ => .none))) s') never { s with heap := h₁, toks := s.toks + lb.length }) :
    codeAny (model prog w) A (.call (.ref f) args) R s := by
  have k : Keep (hideAll s.heap (led.map (·.1))) s.heap := fun b o e => of_hideAll _ e
  refine codeAny_call_function (fd := fnOf name qual params body scope dV kV doc pm an cdv ct) (body := body) hroom (k _ _ (X _ _ ho)) rfl hco hgen rfl (codeRec_of (X.keeps k) hcd) (hbind _ _ _ _ ?_)
  simp only [newFunctionEnv, Option.isSome_none, Bool.false_eq_true, if_false]
  refine wpAny_bind (wpAny_alloc ?_)
  refine wpAny_bind (wpAny_layCells _ (fun name kind cells => by cases hkc : kind == NameKind.cell <;> simp [hkc]) _ _ _ _ ?_)
  rw [hcells, hpush, show ({ s with heap := s.heap.push { cls := .type "frame", data := .dict #[] } } : Shared).heap.objs.size = s.heap.objs.size + 1 from Heap.size_push ..]
  generalize hH : (((((s.heap.push { cls := .type "frame", data := .dict #[] }).push (cellObj none)).push (cellObj none)).push (cellObj none)).push (cellObj none)).push (cellObj none) = H
  have hn0 : H.Ns s.heap.objs.size fun _ => none := by
    subst hH
    exact (Heap.Ns.new s.heap (.type "frame")).keeps fun b o e => Heap.get?_push_of_some _ (Heap.get?_push_of_some _ (Heap.get?_push_of_some _ (Heap.get?_push_of_some _ (Heap.get?_push_of_some _ e))))
  have kH : Keep s.heap H := by
    subst hH
    exact fun b o e => Heap.get?_push_of_some _ (Heap.get?_push_of_some _ (Heap.get?_push_of_some _ (Heap.get?_push_of_some _ (Heap.get?_push_of_some _ (Heap.get?_push_of_some _ e)))))
  have hc0 : ∀ i : Nat, 1 ≤ i → i ≤ 5 → H.get? ((s.heap.objs.size : Nat) + i) = some (cellObj none) := by
    subst hH
    intro i h1 h5
    have : i = 1 ∨ i = 2 ∨ i = 3 ∨ i = 4 ∨ i = 5 := by omega
    rcases this with rfl | rfl | rfl | rfl | rfl
    · exact Heap.get?_push_of_some _ (Heap.get?_push_of_some _ (Heap.get?_push_of_some _ (Heap.get?_push_of_some _ (push_at rfl (by simp only [Heap.size_push])))))
    · exact Heap.get?_push_of_some _ (Heap.get?_push_of_some _ (Heap.get?_push_of_some _ (push_at rfl (by simp only [Heap.size_push, Heap.size_push]))))
    · exact Heap.get?_push_of_some _ (Heap.get?_push_of_some _ (push_at rfl (by simp only [Heap.size_push, Heap.size_push, Heap.size_push])))
    · exact Heap.get?_push_of_some _ (push_at rfl (by simp only [Heap.size_push, Heap.size_push, Heap.size_push, Heap.size_push]))
    · exact push_at rfl (by simp only [Heap.size_push, Heap.size_push, Heap.size_push, Heap.size_push, Heap.size_push])
  clear hH
  rw [← List.append_nil lb]
  refine wpAny_bind (storeLocals (env := envX qual scope s.heap.objs.size f cdv (cl5 c1 c2 c3 c4 c5 s.heap.objs.size)) _ (fun _ _ _ => rfl) hk [] lb (fun _ => none) _ _ hn0 hloc fun h' hn' hs' => ?_)
  rw [List.forIn_nil]
  refine wpAny_pure (wpAny_pure ?_)
  have kk : Keep s.heap h' := fun b o e => hs'.extBut b o (Nat.ne_of_lt (Heap.lt_size e)) (kH b o e)
  refine ⟨(T.nolimit.keeps k).keeps kk, ks_codeAny_funcAt (ks_wpAt_mono (wpAt_of_wpAny (h _ s.heap.objs.size h' rfl rfl ⟨nsCongr hn' fun x => by simp, fun b o e => kk _ _ (k _ _ e), Nat.le_of_eq (hideAll_size _ _)⟩ (fun q hq => ?_) X T)) (fun _ _ x => x) fun _ _ x => x.elim)⟩
  rcases List.mem_append.mp hq with hq | hq
  · have cc : ∀ i : Nat, 1 ≤ i → i ≤ 5 → h'.get? ((s.heap.objs.size : Nat) + i) = some (cellObj none) ∧ (s.heap.objs.size : Nat) + i ≠ s.heap.objs.size ∧ (hideAll s.heap (led.map (·.1))).get? ((s.heap.objs.size : Nat) + i) = none := fun i h1 h5 => by
      have ne : (s.heap.objs.size : Nat) + i ≠ s.heap.objs.size := by omega
      exact ⟨hs'.extBut _ _ ne (hc0 i h1 h5), ne, Heap.get?_none_of_le (by rw [hideAll_size]; exact Nat.le_add_right _ _)⟩
    simp only [List.mem_cons, List.not_mem_nil, or_false] at hq
    rcases hq with rfl | rfl | rfl | rfl | rfl
    · exact cc 1 (by omega) (by omega)
    · exact cc 2 (by omega) (by omega)
    · exact cc 3 (by omega) (by omega)
    · exact cc 4 (by omega) (by omega)
    · exact cc 5 (by omega) (by omega)
  · exact ⟨kk _ _ (hled q hq), Nat.ne_of_lt (Heap.lt_size (hled q hq)), hideAll_none _ (List.mem_map_of_mem hq)⟩
end

end
section
section
variable {A : Around} {E : Value → Shared → Prop} {s : Shared}
theorem lt_yes {a b : Int} {t u : Tok} {Q : Value → Shared → Prop} (hn : a < b) (h : Q (.bool true) s) : wpAny (model PP w) A (compareOp .Lt (.int a t) (.int b u)) Q E s := lt_int (by rw [decide_eq_true hn]; exact h)
end
local macro_rules | `(tactic| walk_at "compareOp Lt int int") => `(tactic| refine lt_no (by omega) ?_)
local macro_rules | `(tactic| walk_at "compareOp Lt int int") => `(tactic| refine lt_yes (by omega) ?_)
local macro_rules | `(tactic| walk_at "subscriptTail") => `(tactic| refine stopHere ?_)
section
variable {dp un : Nat} {fr : Option (List Env)} {gd : Option (List Code)} {s : Shared} {Q : Value → Shared → Prop} {sc : Addr} {items : List Value} {ns : List Int} {e0 : Nat} {k o : Int} {t t' : Tok}
theorem law_at (hdp : dp + 4 < recursionLimit) (hu : un + 40 < cLine) (G : Good w mg mb s.heap) (hS : s.heap.IsList sc items.toArray) (hI : IntsAre items ns) (hlen : items.length ≤ 1000) (hk : 0 ≤ k)
    (h : ∀ h' tk v tv, Keep s.heap h' → Q (.int v tv) { s with heap := h', toks := tk }) :
    wpAny (model PP w) (aro dp un fr gd) (call (.ref 729) [.ref sc, .int k t, .int o t']) Q never s := by
  have X := G.X
  have T := G.T
  refine wpAny_call ?_
  refine' enterL (binds := [(Str.ofString "script", .ref sc), (Str.ofString "k", .int k t), (Str.ofString "other", .int o t')]) [] (List.forall_mem_nil _) X T ?k6 ?k7 ?k8 ?k9 ?kB ?_ ?c2 ?c3 ?c4 ?c5
  walk_at "m_cases"
  intro g' L' h' hg' hL' F' N' X' T'
  obtain rfl : g' = s.heap := hg'
  k_steps
  rename Fr _ _ _ _ => F1
  have hsz : items.toArray.size = items.length := by simp
  refine call_len_list (let ⟨o, e, r⟩ := hS; ⟨o, F1.keep _ _ e, r⟩) (by rw [hsz]; omega) ?_
  rw [hsz]
  rcases Int.lt_or_le k (items.length : Int) with c1 | c1
  · k_steps
    rename Fr _ _ _ _ => F2
    exact h _ _ _ _ F2.keep
  · k_steps
    rename Fr _ _ _ _ => F2
    exact h _ _ _ _ F2.keep
end

end
section
def lawDef : Arguments × List Stmt × Scope := match PySem.Challenge.pw_bg0002_01.theDef (Str.ofString "law") with
  | some x => x
  | none => ({ posonlyargs := [], args := [], vararg := none, kwonlyargs := [], kw_defaults := [], kwarg := none, defaults := [] }, [], { kind := .function, names := [], isGenerator := false, isCoroutine := false })
def lawBody : List Stmt := lawDef.2.1
def lawScope : Scope := lawDef.2.2
abbrev lawCells (L : Addr) : List (Str × Addr) := cl5 (Str.ofString "number") (Str.ofString "committee") (Str.ofString "choice") (Str.ofString "group") (Str.ofString "most") L
/-- the frame of the law -/
def lawEnv (L : Addr) : Env := envX (Str.ofString "law") lawScope L 734 (.ref 733) (lawCells L)
/-- what may change while the law runs, its lists and voters aside -/
abbrev lawEx (L : Addr) : List Addr := L :: (L + 1) :: (L + 2) :: (L + 3) :: (L + 4) :: (L + 5) :: tabs
/-- all objects of h but those of the base and those in ex -/
def snap (h g : Heap) (ex : List Addr) : List (Addr × Obj) :=
  (List.range h.objs.size).filterMap fun b => match h.get? b with
    | some o => if b ∈ ex ∨ (g.get? b).isSome then none else some (b, o)
    | none => none
theorem snap_mem {h g : Heap} {ex : List Addr} {p : Addr × Obj} : p ∈ snap h g ex ↔ h.get? p.1 = some p.2 ∧ p.1 ∉ ex ∧ g.get? p.1 = none := by
  unfold snap
  rw [List.mem_filterMap]
  constructor
  · rintro ⟨b, hb, e⟩
    cases q : h.get? b with
    | none => rw [q] at e; cases e
    | some o =>
      rw [q] at e
      dsimp only at e
      by_cases c : b ∈ ex ∨ (g.get? b).isSome
      · rw [if_pos c] at e; cases e
      · rw [if_neg c] at e
        cases e
        rw [not_or] at c
        refine ⟨q, c.1, ?_⟩
        cases r : g.get? b with
        | none => rfl
        | some _ => rw [r] at c; simp at c
  · rintro ⟨e, h1, h2⟩
    refine ⟨p.1, List.mem_range.mpr (Heap.lt_size e), ?_⟩
    rw [e]
    dsimp only
    rw [if_neg (by rw [h2]; simp [h1])]
theorem snap_news {h g : Heap} {L : Addr} {ex : List Addr} (hL : L ∈ ex) : News g L h (snap h g ex) := fun p hp => by
  obtain ⟨e, h1, h2⟩ := snap_mem.mp hp
  exact ⟨e, fun q => h1 (q ▸ hL), h2⟩
theorem snap_keep {h g h' : Heap} {ex : List Addr} (k : Keep g h) (k' : Keep g h') (hs : ∀ p ∈ snap h g ex, h'.get? p.1 = some p.2) : Keep (hideAll h ex) h' := fun b o e => by
  have e1 := of_hideAll _ e
  have hb : b ∉ ex := fun hm => by rw [hideAll_none _ hm] at e; cases e
  cases r : g.get? b with
  | none => exact hs (b, o) (snap_mem.mpr ⟨e1, hb, r⟩)
  | some o2 =>
    have := k _ _ r
    rw [e1] at this
    rw [k' _ _ r, this]
theorem snap_keepN {h g h' : Heap} {L : Addr} {ex : List Addr} {nl : List (Addr × Obj)} (k : Keep g h) (k' : Keep g h') (N : News g L h' nl) (hs : ∀ p ∈ snap h g ex, p ∈ nl) : Keep (hideAll h ex) h' := snap_keep k k' fun p hp => (N p (hs p hp)).1
/-- the cells of the law's frame -/
abbrev lawNews (L : Addr) (c1 c2 c3 c4 c5 o1 o2 o3 : Obj) (rest : List (Addr × Obj)) : List (Addr × Obj) := (L + 1, c1) :: (L + 2, c2) :: (L + 3, c3) :: (L + 4, c4) :: (L + 5, c5) :: (52, o1) :: (80, o2) :: (88, o3) :: rest
/-- the law's frame between two statements: names in m, values of cells in cm -/
structure LawSt (w : World) (mg mb : Str → Option Value) (g : Heap) (L : Addr) (m cm : Str → Option Value) (h : Heap) : Prop where
  B : BaseT w mg mb g
  F : Fr g L h m
  c1 : ∃ o, h.get? (L + 1) = some o ∧ o.data = .cell (cm (Str.ofString "number"))
  c2 : ∃ o, h.get? (L + 2) = some o ∧ o.data = .cell (cm (Str.ofString "committee"))
  c3 : ∃ o, h.get? (L + 3) = some o ∧ o.data = .cell (cm (Str.ofString "choice"))
  c4 : ∃ o, h.get? (L + 4) = some o ∧ o.data = .cell (cm (Str.ofString "group"))
  c5 : ∃ o, h.get? (L + 5) = some o ∧ o.data = .cell (cm (Str.ofString "most"))
  nL : L ∉ tabs
  nC : ∀ i, 1 ≤ i → i ≤ 5 → (L : Nat) + i ∉ tabs
  tab : TabAt h
theorem LawSt.news {g h : Heap} {L : Addr} {m cm : Str → Option Value} (S : LawSt w mg mb g L m cm h) : ∃ c1 c2 c3 c4 c5 o1 o2 o3, c1.data = .cell (cm (Str.ofString "number")) ∧ c2.data = .cell (cm (Str.ofString "committee")) ∧ c3.data = .cell (cm (Str.ofString "choice")) ∧ c4.data = .cell (cm (Str.ofString "group")) ∧
    c5.data = .cell (cm (Str.ofString "most")) ∧ News g L h (tabL o1 o2 o3) ∧ News g L h (lawNews L c1 c2 c3 c4 c5 o1 o2 o3 (snap h g (lawEx L))) := by
  obtain ⟨c1, e1, d1⟩ := S.c1
  obtain ⟨c2, e2, d2⟩ := S.c2
  obtain ⟨c3, e3, d3⟩ := S.c3
  obtain ⟨c4, e4, d4⟩ := S.c4
  obtain ⟨c5, e5, d5⟩ := S.c5
  obtain ⟨o1, o2, o3, NT⟩ := tabsIn S.B S.tab S.nL
  have ab := S.F.above
  have cc : ∀ i : Nat, 1 ≤ i → g.get? ((L : Nat) + i) = none := fun i hi => Heap.get?_none_of_le (Nat.le_trans ab (Nat.le_add_right _ _))
  refine ⟨c1, c2, c3, c4, c5, o1, o2, o3, d1, d2, d3, d4, d5, NT, ?_⟩
  have ne : ∀ i : Nat, 1 ≤ i → (L : Nat) + i ≠ L := fun i hi => Nat.ne_of_gt (Nat.lt_add_of_pos_right hi)
  refine News.cons' (News.cons' (News.cons' (News.cons' (News.cons' ?_ e5 (ne 5 (by omega)) (cc 5 (by omega))) e4 (ne 4 (by omega)) (cc 4 (by omega))) e3 (ne 3 (by omega)) (cc 3 (by omega))) e2 (ne 2 (by omega)) (cc 2 (by omega))) e1 (ne 1 (by omega)) (cc 1 (by omega))
  intro p hp
  simp only [List.mem_cons] at hp
  rcases hp with rfl | rfl | rfl | hp
  · exact NT _ (.head _)
  · exact NT _ (.tail _ (.head _))
  · exact NT _ (.tail _ (.tail _ (.head _)))
  · exact snap_news (ex := lawEx L) (List.mem_cons_self ..) p hp

end
section
section
variable {prog : Program} {A : Around} {s : Shared} {R : Result → Shared → Prop}
abbrev testsOf (ifs : List Expr) (env : Env) : Sem Bool := forIn ifs true fun c r => if r = true then do let ok ← isTrue c env (eval c env); pure (ForInStep.yield ok) else pure (ForInStep.yield r)
theorem compLoopT {elt target iter : Expr} {ifs : List Expr} {scope : Scope} {pos : Pos} {it acc : Value} {env : Env} (I : Nat → Shared → Prop)
    (turn : ∀ n s, I n s → wpAny (model prog w) A (pyNext it) (fun r s₁ => match r with
      | none => R (.ok .next) s₁
      | some v => wpAny (model prog w) A (letOwnedTupleGo target it v) (fun _ s₀ => wpAny (model prog w) A (assign target env v) (fun _ s₂ =>
          wpAny (model prog w) A (testsOf ifs env) (fun ok s₃ =>
            if ok = true then wpAny (model prog w) A (eval elt env) (fun x s₄ =>
              wpAny (model prog w) A (call (.builtin "list.append") [acc, x]) (fun _ s₅ => ∃ m, m < n ∧ I m s₅) (notedBy (model prog w) A env fun e s' => R (.error e) s') s₄) (notedBy (model prog w) A env fun e s' => R (.error e) s') s₃
            else ∃ m, m < n ∧ I m s₃) (notedBy (model prog w) A env fun e s' => R (.error e) s') s₂) (notedBy (model prog w) A env fun e s' => R (.error e) s') s₀) (notedBy (model prog w) A env fun e s' => R (.error e) s') s₁) (notedBy (model prog w) A env fun e s' => R (.error e) s') s)
    (n : Nat) (h : I n s) : codeAny (model prog w) A (.compLoop (.ListComp elt [⟨target, iter, ifs, 0⟩] scope pos) 0 it acc env) R s := by
  refine codeAny_loop rfl I (fun n s hI => ?_) n h
  show wpAny _ A ((compTurn (.ListComp elt [⟨target, iter, ifs, 0⟩] scope pos) 0 it acc env).onRaise (fun x => do noteFrame x env; theTreesLotGoes x)) _ _ s
  refine wpAny_noted ?_
  rw [compTurn_list]
  refine wpAny_bind (wpAny_standAt (wpAny_bind (wpAny_mono (turn n s hI) (fun r s₁ h₁ => ?_) fun _ _ h' => h')))
  cases r with
  | none => exact wpAny_pure h₁
  | some v =>
    refine wpAny_bind (wpAny_mono h₁ (fun _ s₀ h₀' => ?_) fun _ _ h' => h')
    refine wpAny_bind (wpAny_mono h₀' (fun _ s₂ h₂ => wpAny_bind (wpAny_mono h₂ (fun ok s₃ h₃ => ?_) fun _ _ h' => h')) fun _ _ h' => h')
    cases ok with
    | false => exact wpAny_pure ⟨rfl, h₃⟩
    | true =>
      exact wpAny_bind (wpAny_bind (wpAny_mono h₃ (fun x s₄ h₄ => wpAny_bind (wpAny_mono h₄ (fun _ s₅ h₅ => wpAny_pure (wpAny_pure ⟨rfl, h₅⟩)) fun _ _ h' => h')) fun _ _ h' => h'))
/-- what a turn of a comprehension may leave: its own frame C and the iterator's objects wr may differ -/
def Stay (C : Addr) (wr : List Addr) (St : Heap → Prop) (a b : Shared) : Prop :=
  ∃ h tk m, b = { a with heap := h, toks := tk } ∧ h.Ns C m ∧ St h ∧ ∀ x o, x ≠ C → x ∉ wr → a.heap.get? x = some o → h.get? x = some o
/-- a walk whose state right after an item is told apart (Sd) -/
structure Walks2 (prog : Program) (w : World) (A : Around) (I : Addr) (fp wr : List Addr) (n : Nat) (P : Nat → Value → Heap → Prop) (St Sd : Nat → Heap → Prop) : Prop where
  sub : ∀ b ∈ wr, b ∈ fp
  frame : ∀ i h h', St i h → (∀ b ∈ fp, ∀ o, h.get? b = some o → h'.get? b = some o) → St i h'
  item : ∀ i (s : Shared) (Q : Option Value → Shared → Prop) (E : Value → Shared → Prop), i < n → St i s.heap → (∀ v h' tk, P i v h' → Sd (i + 1) h' → (∀ b o, b ∉ wr → s.heap.get? b = some o → h'.get? b = some o) → Q (some v) { s with heap := h', toks := tk }) → wpAny (model prog w) A (pyNext (.ref I)) Q E s
  done : ∀ (s : Shared) (Q : Option Value → Shared → Prop) (E : Value → Shared → Prop), St n s.heap → (∀ h' tk, (∀ b o, b ∉ wr → s.heap.get? b = some o → h'.get? b = some o) → Q none { s with heap := h', toks := tk }) → wpAny (model prog w) A (pyNext (.ref I)) Q E s
  self : ∀ i (s : Shared) (Q : Value → Shared → Prop) (E : Value → Shared → Prop), St i s.heap → Q (.ref I) s → wpAny (model prog w) A (pyIter (.ref I)) Q E s
theorem Walks.two {I : Addr} {fp wr : List Addr} {n : Nat} {P : Nat → Value → Prop} {St : Nat → Heap → Prop} (W : Walks prog w A I fp wr n P St) : Walks2 prog w A I fp wr n (fun i v _ => P i v) St St where
  sub := W.sub
  frame := W.frame
  item := fun i s Q E hi st hQ => W.item i s Q E hi st fun v h' tk hP st' hk => hQ v h' tk hP st' hk
  done := W.done
  self := W.self
/-- one turn of a comprehension -/
def Turn (prog : Program) (w : World) (A : Around) (target : Expr) (ifs : List Expr) (elt : Expr) (cenv : Env) (C I : Addr) (wr : List Addr) (P : Nat → Value → Heap → Prop) (St Sd : Nat → Heap → Prop) (p : Nat → Bool) (F : Nat → Value → Prop) (n : Nat) (s₂ : Shared) : Prop :=
  ∀ i v s₃ m₃ (E' : Value → Shared → Prop), i < n → P i v s₃.heap → s₃.heap.Ns C m₃ → Sd (i + 1) s₃.heap → (∀ b o, b ∉ wr → s₂.heap.get? b = some o → s₃.heap.get? b = some o) →
    wpAny (model prog w) A (letOwnedTupleGo target (.ref I) v) (fun _ sa => wpAny (model prog w) A (assign target cenv v) (fun _ sb => wpAny (model prog w) A (testsOf ifs cenv) (fun ok sc =>
      if ok = true then p i = true ∧ wpAny (model prog w) A (eval elt cenv) (fun y sd => F i y ∧ Stay C wr (St (i + 1)) s₃ sd) E' sc else p i = false ∧ Stay C wr (St (i + 1)) s₃ sc) E' sb) E' sa) E' s₃
theorem range_filter_succ (p : Nat → Bool) (i : Nat) : (List.range (i + 1)).filter p = (List.range i).filter p ++ (if p i then [i] else []) := by
  rw [List.range_succ, List.filter_append]
  cases h : p i <;> simp [h]
theorem compWalk {elt target iter : Expr} {ifs : List Expr} {scope : Scope} {pos : Pos} {I D C : Addr} {fp wr : List Addr} {n : Nat} {P : Nat → Value → Heap → Prop} {St Sd : Nat → Heap → Prop} {cenv : Env} {m : Str → Option Value}
    (W : Walks2 prog w A I fp wr n P St Sd) (p : Nat → Bool) (F : Nat → Value → Prop) (s₂ : Shared) (hC : s₂.heap.get? C = none) (hD : s₂.heap.get? D = none) (hDC : D ≠ C) (hDf : D ∉ fp) (hCf : C ∉ fp)
    (hst : St 0 s.heap) (hacc : s.heap.PlainList D #[]) (hn : s.heap.Ns C m) (hk0 : ∀ b o, s₂.heap.get? b = some o → s.heap.get? b = some o)
    (T : Turn prog w A target ifs elt cenv C I wr P St Sd p F n s₂)
    (hR : ∀ h' tk m' ys, h'.Ns C m' → h'.PlainList D ys → Paired F ((List.range n).filter p) ys.toList → (∀ b o, b ∉ wr → s₂.heap.get? b = some o → h'.get? b = some o) → R (.ok .next) { s with heap := h', toks := tk })
    (hsz : n ≤ sizeLine) : codeAny (model prog w) A (.compLoop (.ListComp elt [⟨target, iter, ifs, 0⟩] scope pos) 0 (.ref I) (.ref D) cenv) R s := by
  have hCw : C ∉ wr := fun h => hCf (W.sub _ h)
  have hDw : D ∉ wr := fun h => hDf (W.sub _ h)
  have ne : ∀ {b o}, s₂.heap.get? b = some o → b ≠ C ∧ b ≠ D := fun {b o} e => ⟨(fun z => by rw [z, hC] at e; cases e), (fun z => by rw [z, hD] at e; cases e)⟩
  refine compLoopT (fun k s' => ∃ h' tk m' ys, ∃ i, s' = { s with heap := h', toks := tk } ∧ St i h' ∧ h'.PlainList D ys ∧ h'.Ns C m' ∧ Paired F ((List.range i).filter p) ys.toList ∧ i ≤ n ∧ k = n + 1 - i ∧
      (∀ b o, b ∉ wr → s₂.heap.get? b = some o → h'.get? b = some o)) ?_ (n + 1) ⟨s.heap, s.toks, m, #[], 0, rfl, hst, hacc, hn, Paired.nil, Nat.zero_le _, rfl, fun b o _ e => hk0 b o e⟩
  rintro k s' ⟨H, tk, m', ys, i, rfl, hst', hacc', hn', hF, hi, rfl, hk⟩
  rcases Nat.lt_or_ge i n with hlt | hge
  · refine W.item i _ _ _ hlt hst' fun v h₁ tk₁ hPv hst₁ hk₁ => ?_
    have hn₁ : h₁.Ns C m' := hn'.at' fun o e => hk₁ _ o hCw e
    have hk2 : ∀ b o, b ∉ wr → s₂.heap.get? b = some o → h₁.get? b = some o := fun b o hb e => hk₁ b o hb (hk b o hb e)
    have hacc₁ : h₁.PlainList D ys := hacc'.at fun o e => hk₁ _ o hDw e
    have hys : ys.size ≤ sizeLine := by
      have e1 := hF.length
      have e2 : ((List.range i).filter p).length ≤ (List.range i).length := List.length_filter_le _ _
      rw [List.length_range] at e2
      have e4 : ys.toList.length = ys.size := by simp
      omega
    refine wpAny_mono (T i v _ _ _ hlt hPv hn₁ hst₁ hk2) (fun _ sa ha => wpAny_mono ha (fun _ sb hb => wpAny_mono hb (fun ok sc hc => ?_) fun _ _ e => e) fun _ _ e => e) fun _ _ e => e
    cases ok with
    | false =>
      simp only [Bool.false_eq_true, if_false] at hc ⊢
      obtain ⟨hp, h₃, tk₃, m₃, rfl, hn₃, hst₃, hk₃⟩ := hc
      refine ⟨n + 1 - (i + 1), by omega, h₃, tk₃, m₃, ys, i + 1, rfl, hst₃, hacc₁.at fun o e => hk₃ _ o hDC hDw e, hn₃, ?_, hlt, rfl, fun b o hb e => hk₃ b o (ne e).1 hb (hk2 b o hb e)⟩
      rw [range_filter_succ, hp]; simpa using hF
    | true =>
      simp only [if_true] at hc ⊢
      obtain ⟨hp, hc⟩ := hc
      refine wpAny_mono hc (fun y sd hd => ?_) fun _ _ e => e
      obtain ⟨hFy, h₄, tk₄, m₄, rfl, hn₄, hst₄, hk₄⟩ := hd
      refine wpAny_list_append_plain (hsz := hys) (hacc₁.at fun o e => hk₄ _ o hDC hDw e) fun h₅ hl₅ hs₅ => ?_
      refine ⟨n + 1 - (i + 1), by omega, h₅, tk₄, m₄, ys.push y, i + 1, rfl, W.frame _ _ _ hst₄ fun b hb o e => hs₅.extBut b o (fun z => hDf (z ▸ hb)) e, hl₅, hn₄.sameBut hs₅ (Ne.symm hDC), ?_, hlt, rfl, fun b o hb e => hs₅.extBut b o (ne e).2 (hk₄ b o (ne e).1 hb (hk2 b o hb e))⟩
      rw [range_filter_succ, hp]; simpa using Paired.snoc hF hFy
  · have hin : i = n := Nat.le_antisymm hi hge
    subst hin
    refine W.done _ _ _ hst' fun h₁ tk₁ hk₁ => ?_
    exact hR h₁ tk₁ m' ys (hn'.at' fun o e => hk₁ _ o hCw e) (hacc'.at fun o e => hk₁ _ o hDw e) hF fun b o hb e => hk₁ b o hb (hk b o hb e)
end

end
section
section
variable {prog : Program} {A : Around} {s : Shared} {E : Value → Shared → Prop} {env : Env}
/-- what a comprehension asks for once its source is at hand -/
def Over (prog : Program) (w : World) (A : Around) (target : Expr) (ifs : List Expr) (elt : Expr) (cenv : Addr → Env) (Q : Value → Shared → Prop) (it : Value) (s₂ : Shared) : Prop :=
  ∃ I fp wr n P St Sd p F, it = .ref I ∧ Walks2 prog w A I fp wr n P St Sd ∧ n ≤ sizeLine ∧ St 0 s₂.heap ∧ (∀ b ∈ fp, b < s₂.heap.objs.size) ∧ (∀ C, s₂.heap.get? C = none → Turn prog w A target ifs elt (cenv C) C I wr P St Sd p F n s₂) ∧
    (∀ D h' tk ys, s₂.heap.get? D = none → h'.PlainList D ys → Paired F ((List.range n).filter p) ys.toList → (∀ b o, b ∉ wr → s₂.heap.get? b = some o → h'.get? b = some o) → Q (.ref D) { s₂ with heap := h', toks := tk })
theorem comp_free {elt target iter : Expr} {ifs : List Expr} {scope : Scope} {cl : List (Str × Addr)} {pos : Pos} {Q : Value → Shared → Prop}
    (hclos : closureFor scope env = pure cl) (hcell : ∀ y ∈ scope.names, y.2 ≠ .cell) (hkind : scope.kind = .function)
    (hnames : ∀ y ∈ scope.names, y.2 = .local → scope.names.lookup y.1 = some .local) (hs : ∀ x, foldedSetIterable iter env x = pure x)
    (h : wpAny (model prog w) A (eval iter env) (fun xv s₁ => wpAny (model prog w) A (pyIter xv) (fun it s₂ => Over prog w A target ifs elt (fun C => compEnvC scope cl C env) Q it s₂) E s₁) E s) :
    wpAny (model prog w) A (eval (.ListComp elt [⟨target, iter, ifs, 0⟩] scope pos) env) Q E s := by
  rw [eval_ListComp]
  refine wpAny_comprehension_free (use := none) rfl hs hclos hkind hnames (wpAny_mono h (fun xv s₁ h₁ => wpAny_mono h₁ (fun it s₂ h₂ => ?_) fun _ _ e => e) fun _ _ e => e)
  obtain ⟨I, fp, wr, n, P, St, Sd, p, F, rfl, W, hsz, hst, hfp, hT, hQ⟩ := h₂
  refine wpAny_newObj_type (wpAny_newFunctionEnv hcell (by intro y hy; simp at hy) (fun h₁ hns₁ hsb₁ => ?_) hkind)
  dsimp only at hns₁ hsb₁ ⊢
  generalize hH2 : s₂.heap.push { cls := .type "list", dict := none, data := .seq ([] : List Value).toArray } = H2 at hns₁ hsb₁ ⊢
  have hC : H2.objs.size = s₂.heap.objs.size + 1 := by rw [← hH2, Heap.size_push]
  have hDC : s₂.heap.objs.size ≠ H2.objs.size := by rw [hC]; exact Nat.ne_of_lt (Nat.lt_succ_self _)
  have below : ∀ b, b < s₂.heap.objs.size → b ≠ H2.objs.size ∧ b ≠ s₂.heap.objs.size := fun b hb => ⟨by rw [hC]; exact Nat.ne_of_lt (Nat.lt_succ_of_lt hb), Nat.ne_of_lt hb⟩
  have hDf : s₂.heap.objs.size ∉ fp := fun hm => Nat.lt_irrefl _ (hfp _ hm)
  have hCf : H2.objs.size ∉ fp := fun hm => by have := hfp _ hm; rw [hC] at this; exact Nat.lt_irrefl _ (Nat.lt_of_succ_lt this)
  have old : ∀ b o, s₂.heap.get? b = some o → h₁.get? b = some o := fun b o e => hsb₁.extBut b o (below b (Heap.lt_size e)).1 (Heap.get?_push_of_some _ (hH2 ▸ Heap.get?_push_of_some _ e))
  have hacc : h₁.PlainList s₂.heap.objs.size #[] := ⟨_, hsb₁.extBut _ _ hDC (Heap.get?_push_of_some _ (hH2 ▸ Heap.get?_push_size _ rfl))⟩
  have hst₁ : St 0 h₁ := W.frame _ _ _ hst fun b _ o e => old b o e
  have fD : s₂.heap.get? s₂.heap.objs.size = none := Heap.get?_none_of_le (Nat.le_refl _)
  have fC : s₂.heap.get? H2.objs.size = none := Heap.get?_none_of_le (by rw [hC]; exact Nat.le_succ _)
  have loop : ∀ s₃ : Shared, s₃ = { s₂ with heap := h₁, toks := s₂.toks + ([] : List (Str × Value)).length } →
      codeAny (model prog w) A (.compLoop (.ListComp elt [⟨target, iter, ifs, 0⟩] scope pos) 0 (.ref I) (.ref s₂.heap.objs.size) (compEnvC scope cl H2.objs.size env))
        (compPost (model prog w) A E none Q (.ref s₂.heap.objs.size) H2.objs.size) s₃ := by
    rintro s₃ rfl
    refine compWalk W p F s₂ fC fD hDC hDf hCf hst₁ hacc hns₁ old (hT _ fC) (fun h' tk m' ys hn' hpl hF hk => ?_) hsz
    exact ⟨m', hn', fun h'' hs'' => hQ _ h'' tk ys fD (hpl.extBut hs''.extBut hDC) hF fun b o hb e => hs''.extBut b o (below b (Heap.lt_size e)).1 (hk b o hb e)⟩
  exact codeAny_compStart_list (loop _ rfl) (W.self 0 _ _ _ hst₁ (loop _ rfl))
theorem Walks2.cellAt {I K : Addr} {fp wr : List Addr} {n : Nat} {P : Nat → Value → Heap → Prop} {St Sd : Nat → Heap → Prop} (W : Walks2 prog w A I fp wr n P St Sd) (hK : K ∉ wr) : Walks2 prog w A I (K :: fp) (K :: wr) n P (fun i h => St i h ∧ ∃ v, h.IsCell K v) (fun i h => Sd i h ∧ ∃ v, h.IsCell K v) where
  sub := fun b hb => by
    rcases List.mem_cons.mp hb with rfl | hb
    · exact List.mem_cons_self ..
    · exact List.mem_cons_of_mem _ (W.sub b hb)
  frame := fun i h h' st hk => ⟨W.frame i h h' st.1 fun b hb o e => hk b (List.mem_cons_of_mem _ hb) o e, let ⟨v, o, e, d⟩ := st.2; ⟨v, o, hk K (List.mem_cons_self ..) o e, d⟩⟩
  item := fun i s Q E hi st hQ => W.item i s Q E hi st.1 fun v h' tk hP st' hk => hQ v h' tk hP ⟨st', let ⟨v, o, e, d⟩ := st.2; ⟨v, o, hk K o hK e, d⟩⟩ fun b o hb e => hk b o (fun h => hb (List.mem_cons_of_mem _ h)) e
  done := fun s Q E st hQ => W.done s Q E st.1 fun h' tk hk => hQ h' tk fun b o hb e => hk b o (fun h => hb (List.mem_cons_of_mem _ h)) e
  self := fun i s Q E st hQ => W.self i s Q E st.1 hQ
/-- the same with one cell of the comprehension's own -/
def OverC (prog : Program) (w : World) (A : Around) (target : Expr) (ifs : List Expr) (elt : Expr) (cenv : Addr → Env) (Q : Value → Shared → Prop) (it : Value) (s₂ : Shared) : Prop :=
  ∃ I fp wr n P St Sd p F, it = .ref I ∧ Walks2 prog w A I fp wr n P St Sd ∧ n ≤ sizeLine ∧ St 0 s₂.heap ∧ (∀ b ∈ fp, b < s₂.heap.objs.size) ∧
    (∀ C, s₂.heap.get? C = none → s₂.heap.get? (C + 1) = none → Turn prog w A target ifs elt (cenv C) C I ((C + 1) :: wr) P (fun i h => St i h ∧ ∃ v, h.IsCell (C + 1) v) (fun i h => Sd i h ∧ ∃ v, h.IsCell (C + 1) v) p F n s₂) ∧
    (∀ D h' tk ys, s₂.heap.get? D = none → h'.PlainList D ys → Paired F ((List.range n).filter p) ys.toList → (∀ b o, b ∉ wr → s₂.heap.get? b = some o → h'.get? b = some o) → Q (.ref D) { s₂ with heap := h', toks := tk })
theorem comp_cell {elt target iter : Expr} {ifs : List Expr} {scope : Scope} {cl : List (Str × Addr)} {cn : Str} {pos : Pos} {Q : Value → Shared → Prop}
    (hclos : closureFor scope env = pure cl) (hcells : ∀ n acc, cellsFrom n scope.names acc = (cn, n) :: acc) (hpush : ∀ h, pushCells h scope.names = h.push (cellObj none)) (hkind : scope.kind = .function)
    (hnames : ∀ y ∈ scope.names, y.2 = .local → scope.names.lookup y.1 = some .local) (hs : ∀ x, foldedSetIterable iter env x = pure x)
    (h : wpAny (model prog w) A (eval iter env) (fun xv s₁ => wpAny (model prog w) A (pyIter xv) (fun it s₂ => OverC prog w A target ifs elt (fun C => { compEnvC scope cl C env with cells := (cn, C + 1) :: cl }) Q it s₂) E s₁) E s) :
    wpAny (model prog w) A (eval (.ListComp elt [⟨target, iter, ifs, 0⟩] scope pos) env) Q E s := by
  rw [eval_ListComp]
  refine wpAny_comprehension_free (use := none) rfl hs hclos hkind hnames (wpAny_mono h (fun xv s₁ h₁ => wpAny_mono h₁ (fun it s₂ h₂ => ?_) fun _ _ e => e) fun _ _ e => e)
  obtain ⟨I, fp, wr, n, P, St, Sd, p, F, rfl, W, hsz, hst, hfp, hT, hQ⟩ := h₂
  refine wpAny_newObj_type ?_
  generalize hH2 : s₂.heap.push { cls := .type "list", dict := none, data := .seq ([] : List Value).toArray } = H2
  have hC : H2.objs.size = s₂.heap.objs.size + 1 := by rw [← hH2, Heap.size_push]
  simp only [newFunctionEnv, Option.isSome_some, if_true]
  refine wpAny_bind (wpAny_alloc ?_)
  refine wpAny_bind (wpAny_layCells _ (fun name kind cells => by cases hkc : kind == NameKind.cell <;> simp [hkc]) _ _ _ _ ?_)
  rw [hcells, hpush]
  dsimp only
  rw [List.forIn_nil]
  refine wpAny_bind (wpAny_pure (wpAny_pure ?_))
  rw [show (H2.push { cls := .type "dict", dict := none, data := .dict #[] }).objs.size = H2.objs.size + 1 from Heap.size_push ..]
  generalize hH1 : (H2.push { cls := .type "dict", dict := none, data := .dict #[] }).push (cellObj none) = h₁
  have hDC : s₂.heap.objs.size ≠ H2.objs.size := by rw [hC]; exact Nat.ne_of_lt (Nat.lt_succ_self _)
  have fD : s₂.heap.get? s₂.heap.objs.size = none := Heap.get?_none_of_le (Nat.le_refl _)
  have fC : s₂.heap.get? H2.objs.size = none := Heap.get?_none_of_le (by rw [hC]; exact Nat.le_succ _)
  have fK : s₂.heap.get? (H2.objs.size + 1) = none := Heap.get?_none_of_le (by rw [hC]; exact Nat.le_succ_of_le (Nat.le_succ _))
  have off : ∀ b, s₂.heap.objs.size ≤ b → b ∉ fp := fun b hb hm => Nat.lt_irrefl _ (Nat.lt_of_le_of_lt hb (hfp _ hm))
  have hKw : H2.objs.size + 1 ∉ wr := fun hm => off _ (by rw [hC]; exact Nat.le_succ_of_le (Nat.le_succ _)) (W.sub _ hm)
  have old : ∀ b o, s₂.heap.get? b = some o → h₁.get? b = some o := fun b o e => by
    rw [← hH1]; exact Heap.get?_push_of_some _ (Heap.get?_push_of_some _ (hH2 ▸ Heap.get?_push_of_some _ e))
  have hacc : h₁.PlainList s₂.heap.objs.size #[] := ⟨_, by rw [← hH1]; exact Heap.get?_push_of_some _ (Heap.get?_push_of_some _ (hH2 ▸ Heap.get?_push_size _ rfl))⟩
  have hn₁ : h₁.Ns H2.objs.size (fun _ => none) := by
    rw [← hH1]; exact (Heap.Ns.new H2 (.type "dict")).keeps fun b o e => Heap.get?_push_of_some _ e
  have hK : h₁.IsCell (H2.objs.size + 1) none := ⟨cellObj none, by rw [← hH1]; exact push_at rfl (by rw [Heap.size_push]), rfl⟩
  have hst₁ : St 0 h₁ := W.frame _ _ _ hst fun b _ o e => old b o e
  have loop : ∀ s₃ : Shared, s₃ = { s₂ with heap := h₁ } →
      codeAny (model prog w) A (.compLoop (.ListComp elt [⟨target, iter, ifs, 0⟩] scope pos) 0 (.ref I) (.ref s₂.heap.objs.size) { compEnvC scope cl H2.objs.size env with cells := (cn, H2.objs.size + 1) :: cl })
        (compPost (model prog w) A E none Q (.ref s₂.heap.objs.size) H2.objs.size) s₃ := by
    rintro s₃ rfl
    refine compWalk (Walks2.cellAt W hKw) p F s₂ fC fD hDC ?_ ?_ ⟨hst₁, none, hK⟩ hacc hn₁ old (hT _ fC fK) (fun h' tk m' ys hn' hpl hF hk => ?_) hsz
    · intro hm
      rcases List.mem_cons.mp hm with z | hm
      · rw [hC] at z; exact absurd z (Nat.ne_of_lt (Nat.lt_succ_of_le (Nat.le_succ _)))
      · exact off _ (Nat.le_refl _) hm
    · intro hm
      rcases List.mem_cons.mp hm with z | hm
      · exact absurd z (Nat.ne_of_lt (Nat.lt_succ_self _))
      · exact off _ (by rw [hC]; exact Nat.le_succ _) hm
    · refine ⟨m', hn', fun h'' hs'' => hQ _ h'' tk ys fD (hpl.extBut hs''.extBut hDC) hF fun b o hb e => hs''.extBut b o (fun z => by rw [z, fC] at e; cases e) (hk b o (fun hm => ?_) e)⟩
      rcases List.mem_cons.mp hm with z | hm
      · rw [z, fK] at e; cases e
      · exact hb hm
  exact codeAny_compStart_list (loop _ rfl) (W.self 0 _ _ _ hst₁ (loop _ rfl))
end

end
section
section
variable {prog : Program} {A : Around} {E : Value → Shared → Prop} {cenv : Env} {C I : Addr} {wr : List Addr} {p : Nat → Bool} {F : Nat → Value → Prop} {n : Nat} {s₂ : Shared} {ifs : List Expr} {elt : Expr}
/-- the tests and the element of a turn, both quiet -/
def QuietT (prog : Program) (w : World) (A : Around) (ifs : List Expr) (elt : Expr) (cenv : Env) (ok1 : Bool) (F : Value → Prop) (E' : Value → Shared → Prop) (s₃ : Shared) : Prop :=
  wpAny (model prog w) A (testsOf ifs cenv) (fun ok s₄ => ok = ok1 ∧ Keeps s₃ s₄ ∧ (ok = true → wpAny (model prog w) A (eval elt cenv) (fun y s₅ => F y ∧ Keeps s₄ s₅) E' s₄)) E' s₃
theorem QuietT.end {i : Nat} {St : Heap → Prop} {E' : Value → Shared → Prop} {s₃ s₀ : Shared} {m : Str → Option Value} (q : QuietT prog w A ifs elt cenv (p i) (F i) E' s₃)
    (hs : ∃ h tk, s₃ = { s₀ with heap := h, toks := tk }) (hn : s₃.heap.Ns C m) (hst : ∀ h, (∀ b o, s₃.heap.get? b = some o → h.get? b = some o) → St h) (hk : ∀ x o, x ≠ C → x ∉ wr → s₀.heap.get? x = some o → s₃.heap.get? x = some o) :
    wpAny (model prog w) A (testsOf ifs cenv) (fun ok sc =>
      if ok = true then p i = true ∧ wpAny (model prog w) A (eval elt cenv) (fun y sd => F i y ∧ Stay C wr St s₀ sd) E' sc else p i = false ∧ Stay C wr St s₀ sc) E' s₃ := by
  refine wpAny_mono q (fun ok sc hq => ?_) fun _ _ e => e
  obtain ⟨hok, ⟨h4, tk4, rfl, k4⟩, he⟩ := hq
  obtain ⟨h3, tk3, rfl⟩ := hs
  cases ok with
  | false => exact ⟨hok.symm, h4, tk4, m, rfl, hn.keeps k4, hst h4 k4, fun x o h1 h2 e => k4 x o (hk x o h1 h2 e)⟩
  | true =>
    refine ⟨hok.symm, wpAny_mono (he rfl) (fun y sd hd => ?_) fun _ _ e => e⟩
    obtain ⟨hF, h5, tk5, rfl, k5⟩ := hd
    exact ⟨hF, h5, tk5, m, rfl, (hn.keeps k4).keeps k5, hst h5 fun b o e => k5 b o (k4 b o e), fun x o h1 h2 e => k5 x o (k4 x o (hk x o h1 h2 e))⟩
theorem turn_name {x : Str} {px : Pos} {P : Nat → Value → Prop} {St : Nat → Heap → Prop} (hL : cenv.locals = C) (hkd : cenv.scope.kind = .function) (hx : cenv.kindOf x = some .local) (hC : s₂.heap.get? C = none)
    (hst : ∀ i h h', St i h → (∀ b o, b ≠ C → h.get? b = some o → h'.get? b = some o) → St i h')
    (q : ∀ i v s₃ m₃ (E' : Value → Shared → Prop), i < n → P i v → s₃.heap.Ns C m₃ → m₃ x = some v → (∀ b o, b ∉ wr → s₂.heap.get? b = some o → s₃.heap.get? b = some o) → QuietT prog w A ifs elt cenv (p i) (F i) E' s₃) :
    Turn prog w A (.Name x px) ifs elt cenv C I wr (fun i v _ => P i v) St St p F n s₂ := by
  intro i v s₃ m₃ E' hi hP hn hst' hk
  subst hL
  show wpAny _ _ (pure ()) _ _ _
  refine wpAny_pure ?_
  refine wpAny_assign_Name (wpAny_storeName_local hx hn (fun h₂ hn₂ hs₂ => ?_) (by rw [hkd]; rfl))
  have up : ∀ b o, b ≠ cenv.locals → s₃.heap.get? b = some o → h₂.get? b = some o := fun b o hb e => hs₂.extBut b o hb e
  exact (q i v { s₃ with heap := h₂, toks := s₃.toks + 1 } _ E' hi hP hn₂ (by simp) fun b o hb e => up b o (fun z => by rw [z, hC] at e; cases e) (hk b o hb e)).end ⟨_, _, rfl⟩ hn₂
    (fun h kh => hst _ _ _ hst' fun b o hb e => kh b o (up b o hb e)) fun x o h1 _ e => up x o h1 e
theorem turn_cell {x : Str} {px : Pos} {P : Nat → Value → Prop} {St : Nat → Heap → Prop} (hL : cenv.locals = C) (hkd : cenv.scope.kind = .function) (hx : cenv.kindOf x = some .cell) (hcl : cenv.cells.lookup x = some (C + 1)) (hC : s₂.heap.get? (C + 1) = none)
    (hst : ∀ i h h', St i h → (∀ b o, b ≠ C + 1 → h.get? b = some o → h'.get? b = some o) → St i h')
    (q : ∀ i v s₃ m₃ (E' : Value → Shared → Prop), i < n → P i v → s₃.heap.Ns C m₃ → s₃.heap.IsCell (C + 1) (some v) → (∀ b o, b ∉ wr → s₂.heap.get? b = some o → s₃.heap.get? b = some o) → QuietT prog w A ifs elt cenv (p i) (F i) E' s₃) :
    Turn prog w A (.Name x px) ifs elt cenv C I ((C + 1) :: wr) (fun i v _ => P i v) (fun i h => St i h ∧ ∃ v, h.IsCell (C + 1) v) (fun i h => St i h ∧ ∃ v, h.IsCell (C + 1) v) p F n s₂ := by
  intro i v s₃ m₃ E' hi hP hn hst' hk
  subst hL
  obtain ⟨hst', v0, hc0⟩ := hst'
  show wpAny _ _ (pure ()) _ _ _
  refine wpAny_pure ?_
  refine wpAny_assign_Name (wpAny_storeName_cell hkd hx hcl hc0 fun h₂ hc₂ hs₂ => ?_)
  have up : ∀ b o, b ≠ cenv.locals + 1 → s₃.heap.get? b = some o → h₂.get? b = some o := fun b o hb e => hs₂.extBut b o hb e
  have hn₂ : h₂.Ns cenv.locals m₃ := hn.sameBut hs₂ (Nat.ne_of_lt (Nat.lt_succ_self _))
  exact (q i v { s₃ with heap := h₂ } _ E' hi hP hn₂ hc₂ fun b o hb e => up b o (fun z => by rw [z, hC] at e; cases e) (hk b o (fun hm => by
      rcases List.mem_cons.mp hm with z | hm
      · rw [z, hC] at e; cases e
      · exact hb hm) e)).end ⟨_, _, rfl⟩ hn₂
    (fun h kh => ⟨hst _ _ _ hst' fun b o hb e => kh b o (up b o hb e), let ⟨o, e, d⟩ := hc₂; ⟨_, o, kh _ _ e, d⟩⟩) fun x o _ h2 e => up x o (fun z => h2 (z ▸ List.mem_cons_self ..)) e
end

end
section
section
variable {prog : Program} {A : Around} {E : Value → Shared → Prop} {cenv : Env} {C I ax : Addr} {p : Nat → Bool} {F : Nat → Value → Prop} {n : Nat} {s₂ : Shared} {ifs : List Expr} {elt : Expr}
theorem turn_pair {a b : Str} {pa pb tp : Pos} {kk : Nat} {items : Array Value} {Pr : Nat → Value → Value → Prop} (hh : A.handled = none) (hL : cenv.locals = C) (hkd : cenv.scope.kind = .function) (ha : cenv.kindOf a = some .local) (hb : cenv.kindOf b = some .local) (hab : a ≠ b) (hC : s₂.heap.get? C = none)
    (hI : s₂.heap.IsListIter I ax 0) (hl : s₂.heap.IsList ax items) (hP : ∀ (i : Nat) (v : Value), items[i]? = some v → ∃ T va vb, v = .ref T ∧ s₂.heap.IsTuple T #[va, vb] ∧ Pr i va vb)
    (q : ∀ i va vb s₃ m₃ (E' : Value → Shared → Prop), i < n → Pr i va vb → s₃.heap.Ns C m₃ → m₃ a = some va → m₃ b = some vb → (∀ b o, b ∉ [I] → s₂.heap.get? b = some o → s₃.heap.get? b = some o) → QuietT prog w A ifs elt cenv (p i) (F i) E' s₃) :
    Turn prog w A (.Tuple [.Name a pa, .Name b pb] kk tp) ifs elt cenv C I [I] (fun i v _ => items[i]? = some v) (fun i h => h.IsListIter I ax i ∧ h.IsList ax items) (fun i h => h.IsListIter I ax i ∧ h.IsList ax items) p F n s₂ := by
  intro i v s₃ m₃ E' hi hPv hn hst' hk
  subst hL
  obtain ⟨T, va, vb, rfl, hT, hPr⟩ := hP i v hPv
  have hTI : T ∉ [I] := by
    rw [List.mem_singleton]
    rintro rfl
    obtain ⟨o, e, c, _⟩ := hT
    obtain ⟨o', e', c', _⟩ := hI
    rw [e] at e'
    cases e'
    rw [c] at c'
    exact absurd c' (by simp)
  refine wpAny_letOwnedTupleGo_listiter hst'.1 ?_
  refine kcp_assign hh (let ⟨o, e, r⟩ := hT; ⟨o, hk _ _ hTI e, r⟩) ha hb (by rw [hkd]; rfl) hn fun h₂ tk₂ hn₂ up => ?_
  have nI : I ≠ cenv.locals := fun z => by obtain ⟨o, e, _⟩ := hI; rw [z, hC] at e; cases e
  have nx : ax ≠ cenv.locals := fun z => by obtain ⟨o, e, _⟩ := hl; rw [z, hC] at e; cases e
  exact (q i va vb { s₃ with heap := h₂, toks := tk₂ } _ E' hi hPr hn₂ (by simp [hab]) (by simp) fun x o hx e => up x o (fun z => by rw [z, hC] at e; cases e) (hk x o hx e)).end ⟨_, _, rfl⟩ hn₂
    (fun h kh => ⟨let ⟨o, e, r⟩ := hst'.1; ⟨o, kh _ _ (up _ _ nI e), r⟩, let ⟨o, e, r⟩ := hst'.2; ⟨o, kh _ _ (up _ _ nx e), r⟩⟩) fun x o h1 _ e => up x o h1 e
/-- an enumerate over a list -/
theorem walk_enum {it : Addr} {items : Array Value} (hh : A.handled = none) (hei : I ≠ it) (hlI : ax ≠ I) (hli : ax ≠ it) : Walks2 prog w A I [I, it, ax] [I, it] items.size (fun i v h => ∃ a t x, v = .ref a ∧ items[i]? = some x ∧ h.IsTuple a #[.int (i : Nat) t, x] ∧ IsEnumOut h I it ((i : Int) + 1) x a)
    (fun i h => (∃ old, IsEnum h I it ((i : Nat) : Int) old) ∧ h.IsListIter it ax i ∧ h.IsList ax items) (fun i h => h.IsListIter it ax i ∧ h.IsList ax items) where
  sub := fun b hb => by simp only [List.mem_cons, List.not_mem_nil, or_false] at hb ⊢; rcases hb with rfl | rfl <;> simp
  frame := fun i h h' st hk => ⟨let ⟨old, e⟩ := st.1; ⟨old, hk I (by simp) _ e⟩, let ⟨o, e, r⟩ := st.2.1; ⟨o, hk it (by simp) o e, r⟩, let ⟨o, e, r⟩ := st.2.2; ⟨o, hk ax (by simp) o e, r⟩⟩
  item := fun i s Q E hi st hQ => by
    obtain ⟨⟨old, he⟩, hit, hl⟩ := st
    refine wpAny_pyNext_enum_item he hit hl (Array.getElem?_eq_getElem hi) hei fun h₁ heo hit₁ ht₁ hz₁ hk₁ => ?_
    refine hQ _ h₁ _ ⟨_, _, _, rfl, Array.getElem?_eq_getElem hi, ⟨_, ht₁, rfl, _, rfl⟩, heo⟩ ⟨hit₁, let ⟨o, e, r⟩ := hl; ⟨o, hk₁ _ _ hlI hli e, r⟩⟩ fun b o hb e => ?_
    simp only [List.mem_cons, List.not_mem_nil, or_false, not_or] at hb
    exact hk₁ b o hb.1 hb.2 e
  done := fun s Q E st hQ => by
    obtain ⟨⟨old, he⟩, hit, hl⟩ := st
    refine wpAny_pyNext_enum_end hh he hit hl (by simp) fun h₁ hs₁ => ?_
    exact hQ h₁ s.toks fun b o hb e => hs₁ b o (fun z => hb (by simp [z])) e
  self := fun i s Q E st hQ => by
    obtain ⟨⟨old, he⟩, hit, hl⟩ := st
    exact wpAny_pyIter_enum he hQ
theorem turn_enum {it : Addr} {a b : Str} {pa pb tp : Pos} {kk : Nat} {items : Array Value} (hh : A.handled = none) (hL : cenv.locals = C) (hkd : cenv.scope.kind = .function) (ha : cenv.kindOf a = some .local) (hb : cenv.kindOf b = some .local) (hab : a ≠ b) (hC : s₂.heap.get? C = none)
    (hI : ∃ o, s₂.heap.get? I = some o) (hit : ∃ o, s₂.heap.get? it = some o) (hl : s₂.heap.IsList ax items) (hei : I ≠ it)
    (q : ∀ i t x s₃ m₃ (E' : Value → Shared → Prop), i < n → items[i]? = some x → s₃.heap.Ns C m₃ → m₃ a = some (.int (i : Nat) t) → m₃ b = some x → (∀ b o, b ∉ [I, it] → s₂.heap.get? b = some o → s₃.heap.get? b = some o) → QuietT prog w A ifs elt cenv (p i) (F i) E' s₃) :
    Turn prog w A (.Tuple [.Name a pa, .Name b pb] kk tp) ifs elt cenv C I [I, it] (fun i v h => ∃ a t x, v = .ref a ∧ items[i]? = some x ∧ h.IsTuple a #[.int (i : Nat) t, x] ∧ IsEnumOut h I it ((i : Int) + 1) x a)
      (fun i h => (∃ old, IsEnum h I it ((i : Nat) : Int) old) ∧ h.IsListIter it ax i ∧ h.IsList ax items) (fun i h => h.IsListIter it ax i ∧ h.IsList ax items) p F n s₂ := by
  intro i v s₃ m₃ E' hi hPv hn hst' hk
  subst hL
  obtain ⟨T, t, x, rfl, hx, hT, heo⟩ := hPv
  refine wpAny_letOwnedTupleGo_enum heo fun h₁ he₁ hs₁ => ?_
  replace hs₁ : Heap.SameBut I s₃.heap h₁ := hs₁
  have hTI : T ≠ I := by
    rintro rfl
    obtain ⟨o, e, c, _⟩ := hT
    rw [show s₃.heap.get? T = _ from heo] at e
    cases e
    exact absurd c (by simp)
  have ne : ∀ {b}, (∃ o, s₂.heap.get? b = some o) → b ≠ cenv.locals := fun {b} hb z => by obtain ⟨o, e⟩ := hb; rw [z, hC] at e; cases e
  have hn₁ : h₁.Ns cenv.locals m₃ := hn.sameBut hs₁ (Ne.symm (ne hI))
  refine kcp_assign hh (let ⟨o, e, r⟩ := hT; ⟨o, (hs₁.2 _ hTI).trans e, r⟩) ha hb (by rw [hkd]; rfl) hn₁ fun h₂ tk₂ hn₂ up => ?_
  have nx : ax ≠ cenv.locals := ne (let ⟨o, e, _⟩ := hl; ⟨o, e⟩)
  have nxI : ax ≠ I := by
    rintro rfl
    obtain ⟨o, e, c, _⟩ := hst'.2
    rw [show s₃.heap.get? ax = _ from heo] at e
    cases e
    exact absurd c (by simp)
  exact (q i t x { s₃ with heap := h₂, toks := tk₂ } _ E' hi hx hn₂ (by simp [hab]) (by simp) fun b o hb' e => up b o (fun z => by rw [z, hC] at e; cases e) ((hs₁.2 b (fun z => hb' (by simp [z]))).trans (hk b o hb' e))).end ⟨_, _, rfl⟩ hn₂
    (fun h kh => ⟨⟨x, kh _ _ (up _ _ (ne hI) (by have := he₁; rw [show ((i : Int) + 1) = (((i + 1 : Nat)) : Int) from by omega] at this; exact this))⟩, let ⟨o, e, r⟩ := hst'.1; ⟨o, kh _ _ (up _ _ (ne hit) ((hs₁.2 _ (Ne.symm hei)).trans e)), r⟩, let ⟨o, e, r⟩ := hst'.2; ⟨o, kh _ _ (up _ _ nx ((hs₁.2 _ nxI).trans e)), r⟩⟩)
    fun b o h1 h2 e => up b o h1 ((hs₁.2 b (fun z => h2 (by simp [z]))).trans e)
end

end
section
local macro_rules | `(tactic| walk_at "eval Name") => `(tactic| first
  | (refine nameL (by assumption) (by assumption) (by assumption) (by assumption) (by assumption) ?_)
  | (refine nameC (by assumption) (by assumption) (by assumption) (by assumption) (by assumption) ?_))
section
variable {A : Around} {E : Value → Shared → Prop} {s : Shared} {env : Env} {m : Str → Option Value}
def bitOf (v : Int) (i : Nat) : Bool := (v.fdiv (2 ^ i)).fmod 2 == 1
/-- number // 2 ** cand % 2 == 1, for a number in a cell -/
theorem bit_test {xn xc : Str} {c : Addr} {v : Int} {tv ti : Tok} {i : Nat} {p0 p1 p2 p3 p4 p5 p6 p7 p8 : Pos} (hi : i < 4) (hkd : env.scope.kind = .function) (hc : env.cells.lookup xn = some c) (hv : s.heap.IsCell c (some (.int v tv))) (h1 : env.kindOf xn = some .cell) (d1 : (xn == ("__debug__" : Str)) = false)
    (hn : s.heap.Ns env.locals m) (hm : m xc = some (.int (i : Nat) ti)) (h2 : env.kindOf xc = some .local) (d2 : (xc == ("__debug__" : Str)) = false) :
    wpAny (model PP w) A (testsOf [.Compare (.BinOp (.BinOp (.Name xn p0) .FloorDiv (.BinOp (.Constant (.int 2) 0 p1) .Pow (.Name xc p2) p3) p4) .Mod (.Constant (.int 2) 0 p5) p6) [.Eq] [.Constant (.int 1) 0 p7] p8] env) (fun ok s₄ => ok = bitOf v i ∧ Keeps s s₄) E s := by
  refine wpAny_tests_one ?_
  have : i = 0 ∨ i = 1 ∨ i = 2 ∨ i = 3 := by omega
  rcases this with rfl | rfl | rfl | rfl
  all_goals (k_steps; exact ⟨_, _, rfl, fun _ _ e => e⟩)
theorem paired_imp {α β : Type} {F G : α → β → Prop} {l : List α} {ys : List β} (h : Paired F l ys) (hi : ∀ a b, F a b → G a b) : Paired G l ys := h.mono hi
/-- [x for x in range(N) if number // 2 ** x % 2 == 1] -/
theorem bit_comp {scope : Scope} {cl : List (Str × Addr)} {iter : Expr} {pos px pe : Pos} {Q : Value → Shared → Prop} {xn xc : Str} {c : Addr} {v : Int} {tv : Tok} {N : Nat} {p0 p1 p2 p3 p4 p5 p6 p7 p8 : Pos} (hh : A.handled = none) (hN : N = 3 ∨ N = 4)
    (hclos : closureFor scope env = pure cl) (hcell : ∀ y ∈ scope.names, y.2 ≠ .cell) (hkind : scope.kind = .function) (hnames : ∀ y ∈ scope.names, y.2 = .local → scope.names.lookup y.1 = some .local) (hs : ∀ x, foldedSetIterable iter env x = pure x)
    (hx : ∀ C, (compEnvC scope cl C env).kindOf xc = some .local) (hf : ∀ C, (compEnvC scope cl C env).kindOf xn = some .cell) (d1 : (xn == ("__debug__" : Str)) = false) (d2 : (xc == ("__debug__" : Str)) = false) (hc : cl.lookup xn = some c) (hv : s.heap.IsCell c (some (.int v tv)))
    (hit : ∀ Q' : Value → Shared → Prop, (∀ r t u z h' tk, IsRange h' r 0 N 1 t u z → Keep s.heap h' → Q' (.ref r) { s with heap := h', toks := tk }) → wpAny (model PP w) A (eval iter env) Q' E s)
    (h : ∀ D h' tk ys, s.heap.get? D = none → Keep s.heap h' → h'.PlainList D ys → Paired (fun (i : Nat) y => ∃ t, y = Value.int (i : Nat) t) ((List.range N).filter (bitOf v)) ys.toList → Q (.ref D) { s with heap := h', toks := tk }) :
    wpAny (model PP w) A (eval (.ListComp (.Name xc pe) [⟨.Name xc px, iter, [.Compare (.BinOp (.BinOp (.Name xn p0) .FloorDiv (.BinOp (.Constant (.int 2) 0 p1) .Pow (.Name xc p2) p3) p4) .Mod (.Constant (.int 2) 0 p5) p6) [.Eq] [.Constant (.int 1) 0 p7] p8], 0⟩] scope pos) env) Q E s := by
  refine comp_free hclos hcell hkind hnames hs (hit _ fun r t u z h₁ tk₁ hr k₁ => ?_)
  have hsm : Builtin.Range.small 0 N 1 = true := by rcases hN with rfl | rfl <;> decide
  refine wpAny_pyIter_range hr hsm ?_
  have k2 : ∀ {o1 : Obj}, Keep s.heap (h₁.push o1) := fun {o1} b o e => Heap.get?_push_of_some _ (k₁ b o e)
  refine ⟨_, _, _, N, _, _, _, bitOf v, fun (i : Nat) y => ∃ t, y = Value.int (i : Nat) t, rfl, Walks.two (Walks.range hh _ 0 1 N), by rw [sizeLine_eq]; omega, ?_, fun b hb => ?_, fun C hC => ?_, fun D h' tk ys hD hpl hF hk => ?_⟩
  · rcases hN with rfl | rfl <;> exact Heap.get?_push_size _ rfl
  · rw [List.mem_singleton.mp hb]; exact Heap.lt_size (Heap.get?_push_size _ rfl)
  · refine turn_name rfl hkind (hx C) hC (fun i h h' st k => k _ _ (fun e => ?_) st) fun i vv s₃ m₃ E' hi hP hn hm hk => ?_
    · rw [← e] at hC
      rw [Heap.get?_push_size _ rfl] at hC
      cases hC
    · obtain ⟨ti, rfl⟩ := hP
      have e0 : (0 : Int) + (i : Int) * 1 = (i : Int) := by omega
      rw [e0] at hm
      have hcell : s₃.heap.IsCell c (some (.int v tv)) := by
        obtain ⟨o, e, d⟩ := hv
        exact ⟨o, hk c o (fun hm' => by
          have := List.mem_singleton.mp hm'
          have h5 := Heap.lt_size (k₁ _ _ e)
          rw [this] at h5
          exact Nat.lt_irrefl _ h5) (k2 _ _ e), d⟩
      refine wpAny_mono (bit_test (by omega) hkind hc hcell (hf C) d1 hn hm (hx C) d2) (fun ok s₄ hq => ⟨hq.1, hq.2, fun _ => ?_⟩) fun _ _ e => e
      obtain ⟨_, h4, tk4, rfl, k4⟩ := hq
      exact nameL (hn.keeps k4) hm hkind (hx C) d2 ⟨⟨ti, rfl⟩, h4, tk4, rfl, fun _ _ e => e⟩
  · refine h D h' tk ys ?_ (fun b o e => hk b o (fun hm => ?_) (k2 _ _ e)) hpl hF
    · exact none_of_keep k2 hD
    · rw [List.mem_singleton.mp hm] at e
      exact Nat.lt_irrefl _ (Heap.lt_size (k₁ _ _ e))
end

end
section
section
variable {prog : Program} {A : Around} {E : Value → Shared → Prop} {s : Shared} {env : Env} {scope : Scope} {cl : List (Str × Addr)} {iter elt : Expr} {ifs : List Expr} {pos : Pos} {Q : Value → Shared → Prop} {ax : Addr} {items : Array Value} {p : Nat → Bool} {F : Nat → Value → Prop}
theorem ks_push {h : Heap} {o : Obj} : Keep h (h.push o) := fun _ _ e => Heap.get?_push_of_some _ e
/-- a comprehension over a list of pairs -/
theorem pair_comp {a b : Str} {pa pb tp : Pos} {kk : Nat} {Pr : Nat → Value → Value → Prop} (hh : A.handled = none) (hclos : closureFor scope env = pure cl) (hcell : ∀ y ∈ scope.names, y.2 ≠ .cell) (hkind : scope.kind = .function)
    (hnames : ∀ y ∈ scope.names, y.2 = .local → scope.names.lookup y.1 = some .local) (hs : ∀ x, foldedSetIterable iter env x = pure x) (ha : ∀ C, (compEnvC scope cl C env).kindOf a = some .local) (hb : ∀ C, (compEnvC scope cl C env).kindOf b = some .local) (hab : a ≠ b)
    (hit : ∀ Q' : Value → Shared → Prop, Q' (.ref ax) s → wpAny (model prog w) A (eval iter env) Q' E s) (hl : s.heap.IsList ax items) (hsz : items.size ≤ 1000)
    (hP : ∀ (i : Nat) (v : Value), items[i]? = some v → ∃ T va vb, v = .ref T ∧ s.heap.IsTuple T #[va, vb] ∧ Pr i va vb)
    (q : ∀ C i va vb s₃ m₃ (E' : Value → Shared → Prop), i < items.size → Pr i va vb → s₃.heap.Ns C m₃ → m₃ a = some va → m₃ b = some vb → Keep s.heap s₃.heap → QuietT prog w A ifs elt (compEnvC scope cl C env) (p i) (F i) E' s₃)
    (h : ∀ D h' tk ys, s.heap.get? D = none → Keep s.heap h' → h'.PlainList D ys → Paired F ((List.range items.size).filter p) ys.toList → Q (.ref D) { s with heap := h', toks := tk }) :
    wpAny (model prog w) A (eval (.ListComp elt [⟨.Tuple [.Name a pa, .Name b pb] kk tp, iter, ifs, 0⟩] scope pos) env) Q E s := by
  refine comp_free hclos hcell hkind hnames hs (hit _ ?_)
  refine wpAny_pyIter_list hl ?_
  have axlt : ax < s.heap.objs.size := by obtain ⟨o, e, _⟩ := hl; exact Heap.lt_size e
  have off : ∀ {b o}, s.heap.get? b = some o → b ∉ [s.heap.objs.size] := fun e hm => by rw [List.mem_singleton.mp hm] at e; exact Nat.lt_irrefl _ (Heap.lt_size e)
  refine ⟨_, _, _, items.size, _, _, _, p, F, rfl, Walks.two (Walks.list hh s.heap.objs.size ax (Nat.ne_of_lt axlt) items), by rw [sizeLine_eq]; omega, ⟨⟨_, Heap.get?_push_size _ rfl, rfl, rfl⟩, let ⟨o, e, r⟩ := hl; ⟨o, ks_push _ _ e, r⟩⟩, fun b hb => ?_, fun C hC => ?_, fun D h' tk ys hD hpl hF hk => ?_⟩
  · simp only [List.mem_cons, List.not_mem_nil, or_false] at hb
    rcases hb with rfl | rfl
    · exact Heap.lt_size (Heap.get?_push_size _ rfl)
    · rw [Heap.size_push]; exact Nat.lt_succ_of_lt axlt
  · exact turn_pair hh rfl hkind (ha C) (hb C) hab hC ⟨_, Heap.get?_push_size _ rfl, rfl, rfl⟩ (let ⟨o, e, r⟩ := hl; ⟨o, ks_push _ _ e, r⟩)
      (fun i v hv => let ⟨T, va, vb, e1, ⟨o, e, r⟩, e3⟩ := hP i v hv; ⟨T, va, vb, e1, ⟨o, ks_push _ _ e, r⟩, e3⟩)
      fun i va vb s₃ m₃ E' hi hPr hn h1 h2 hk => q C i va vb s₃ m₃ E' hi hPr hn h1 h2 fun b o e => hk b o (off e) (ks_push _ _ e)
  · exact h D h' tk ys (none_of_keep ks_push hD) (fun b o e => hk b o (off e) (ks_push _ _ e)) hpl hF
/-- a comprehension over a list -/
theorem name_comp {x : Str} {px : Pos} (hh : A.handled = none) (hclos : closureFor scope env = pure cl) (hcell : ∀ y ∈ scope.names, y.2 ≠ .cell) (hkind : scope.kind = .function)
    (hnames : ∀ y ∈ scope.names, y.2 = .local → scope.names.lookup y.1 = some .local) (hs : ∀ x, foldedSetIterable iter env x = pure x) (hx : ∀ C, (compEnvC scope cl C env).kindOf x = some .local)
    (hit : ∀ Q' : Value → Shared → Prop, Q' (.ref ax) s → wpAny (model prog w) A (eval iter env) Q' E s) (hl : s.heap.IsList ax items) (hsz : items.size ≤ 1000)
    (q : ∀ C i v s₃ m₃ (E' : Value → Shared → Prop), i < items.size → items[i]? = some v → s₃.heap.Ns C m₃ → m₃ x = some v → Keep s.heap s₃.heap → QuietT prog w A ifs elt (compEnvC scope cl C env) (p i) (F i) E' s₃)
    (h : ∀ D h' tk ys, s.heap.get? D = none → Keep s.heap h' → h'.PlainList D ys → Paired F ((List.range items.size).filter p) ys.toList → Q (.ref D) { s with heap := h', toks := tk }) :
    wpAny (model prog w) A (eval (.ListComp elt [⟨.Name x px, iter, ifs, 0⟩] scope pos) env) Q E s := by
  refine comp_free hclos hcell hkind hnames hs (hit _ ?_)
  refine wpAny_pyIter_list hl ?_
  have axlt : ax < s.heap.objs.size := by obtain ⟨o, e, _⟩ := hl; exact Heap.lt_size e
  have off : ∀ {b o}, s.heap.get? b = some o → b ∉ [s.heap.objs.size] := fun e hm => by rw [List.mem_singleton.mp hm] at e; exact Nat.lt_irrefl _ (Heap.lt_size e)
  refine ⟨_, _, _, items.size, _, _, _, p, F, rfl, Walks.two (Walks.list hh s.heap.objs.size ax (Nat.ne_of_lt axlt) items), by rw [sizeLine_eq]; omega, ⟨⟨_, Heap.get?_push_size _ rfl, rfl, rfl⟩, let ⟨o, e, r⟩ := hl; ⟨o, ks_push _ _ e, r⟩⟩, fun b hb => ?_, fun C hC => ?_, fun D h' tk ys hD hpl hF hk => ?_⟩
  · simp only [List.mem_cons, List.not_mem_nil, or_false] at hb
    rcases hb with rfl | rfl
    · exact Heap.lt_size (Heap.get?_push_size _ rfl)
    · rw [Heap.size_push]; exact Nat.lt_succ_of_lt axlt
  · have nI : s.heap.objs.size ≠ C := fun z => by rw [← z, Heap.get?_push_size _ rfl] at hC; cases hC
    have nx : ax ≠ C := fun z => by obtain ⟨o, e, _⟩ := hl; rw [← z, ks_push _ _ e] at hC; cases hC
    exact turn_name rfl hkind (hx C) hC (fun i h h' st k => ⟨let ⟨o, e, r⟩ := st.1; ⟨o, k _ _ nI e, r⟩, let ⟨o, e, r⟩ := st.2; ⟨o, k _ _ nx e, r⟩⟩)
      fun i v s₃ m₃ E' hi hv hn hm hk => q C i v s₃ m₃ E' hi hv hn hm fun b o e => hk b o (off e) (ks_push _ _ e)
  · exact h D h' tk ys (none_of_keep ks_push hD) (fun b o e => hk b o (off e) (ks_push _ _ e)) hpl hF
/-- a comprehension over enumerate(list) -/
theorem enum_comp {a b : Str} {pa pb tp : Pos} {kk : Nat} (hh : A.handled = none) (hclos : closureFor scope env = pure cl) (hcell : ∀ y ∈ scope.names, y.2 ≠ .cell) (hkind : scope.kind = .function)
    (hnames : ∀ y ∈ scope.names, y.2 = .local → scope.names.lookup y.1 = some .local) (hs : ∀ x, foldedSetIterable iter env x = pure x) (ha : ∀ C, (compEnvC scope cl C env).kindOf a = some .local) (hb : ∀ C, (compEnvC scope cl C env).kindOf b = some .local) (hab : a ≠ b)
    (hl : s.heap.IsList ax items) (hsz : items.size ≤ 1000)
    (hit : ∀ Q' : Value → Shared → Prop, (∀ h' tk I it, IsEnum h' I it 0 .none → h'.IsListIter it ax 0 → s.heap.get? I = none → s.heap.get? it = none → I ≠ it → Keep s.heap h' → Q' (.ref I) { s with heap := h', toks := tk }) → wpAny (model prog w) A (eval iter env) Q' E s)
    (q : ∀ C i t x s₃ m₃ (E' : Value → Shared → Prop), i < items.size → items[i]? = some x → s₃.heap.Ns C m₃ → m₃ a = some (.int (i : Nat) t) → m₃ b = some x → Keep s.heap s₃.heap → QuietT prog w A ifs elt (compEnvC scope cl C env) (p i) (F i) E' s₃)
    (h : ∀ D h' tk ys, s.heap.get? D = none → Keep s.heap h' → h'.PlainList D ys → Paired F ((List.range items.size).filter p) ys.toList → Q (.ref D) { s with heap := h', toks := tk }) :
    wpAny (model prog w) A (eval (.ListComp elt [⟨.Tuple [.Name a pa, .Name b pb] kk tp, iter, ifs, 0⟩] scope pos) env) Q E s := by
  refine comp_free hclos hcell hkind hnames hs (hit _ fun h₁ tk₁ I it he hi0 zI zit hei k₁ => ?_)
  refine wpAny_pyIter_enum he ?_
  have hl1 : h₁.IsList ax items := let ⟨o, e, r⟩ := hl; ⟨o, k₁ _ _ e, r⟩
  have nIx : ax ≠ I := fun z => by obtain ⟨o, e, _⟩ := hl; rw [z, zI] at e; cases e
  have nix : ax ≠ it := fun z => by obtain ⟨o, e, _⟩ := hl; rw [z, zit] at e; cases e
  have off : ∀ {b o}, s.heap.get? b = some o → b ∉ [I, it] := fun e hm => by
    simp only [List.mem_cons, List.not_mem_nil, or_false] at hm
    rcases hm with rfl | rfl
    · rw [zI] at e; cases e
    · rw [zit] at e; cases e
  refine ⟨I, _, _, items.size, _, _, _, p, F, rfl, walk_enum hh hei nIx nix, by rw [sizeLine_eq]; omega, ⟨⟨_, he⟩, hi0, hl1⟩, fun b hb => ?_, fun C hC => ?_, fun D h' tk ys hD hpl hF hk => ?_⟩
  · simp only [List.mem_cons, List.not_mem_nil, or_false] at hb
    rcases hb with rfl | rfl | rfl
    · exact Heap.lt_size he
    · obtain ⟨o, e, _⟩ := hi0; exact Heap.lt_size e
    · obtain ⟨o, e, _⟩ := hl1; exact Heap.lt_size e
  · exact turn_enum hh rfl hkind (ha C) (hb C) hab hC ⟨_, he⟩ (let ⟨o, e, _⟩ := hi0; ⟨o, e⟩) hl1 hei
      fun i t x s₃ m₃ E' hi hx hn h1 h2 hk => q C i t x s₃ m₃ E' hi hx hn h1 h2 fun b o e => hk b o (off e) (k₁ _ _ e)
  · exact h D h' tk ys (none_of_keep k₁ hD) (fun b o e => hk b o (off e) (k₁ _ _ e)) hpl hF
end

end
section
section
variable {prog : Program} {A : Around} {R : Result → Shared → Prop} {I : Addr} {fp wr : List Addr} {n : Nat} {P : Nat → Value → Prop} {St : Nat → Heap → Prop}
/-- sum of ints of any size -/
theorem sum_loopB (W : Walks prog w A.in1 I fp wr n P St) (val : Nat → Int) (hval : ∀ i v, P i v → ∃ t, v = .int (val i) t) (S : Addr) (hSf : S ∉ fp) :
    ∀ (k i : Nat) (s : Shared) (tA : Tok) (c : Nat) (sg : Int), n - i = k → i ≤ n → (sg = 0 ∨ sg = 2) → St i s.heap → s.heap.get? S = some { cls := .type "list", dict := none, data := .seq #[.int (preSum val i) tA] c, slots := #[] } →
    (∀ h' tk t', (∀ b o, b ∉ wr → b ≠ S → s.heap.get? b = some o → h'.get? b = some o) → R (.ok (.ret (.int (preSum val n) t'))) { s with heap := h', toks := tk }) →
    codeAny (model prog w) A (.builtin "sum.loop" ⟨[.ref I, .ref S, rawInt sg, rawInt 0], []⟩) R s := by
  have hSw : S ∉ wr := fun h => hSf (W.sub _ h)
  intro k
  induction k with
  | zero =>
    intro i s tA c sg hk hi hsg hst hS hR
    have hin : i = n := by omega
    subst hin
    refine codeAny_builtin F.entry_sum_loop ?_
    rw [Around.under_plainId F.plain_sum_loop _]
    show wpAny _ A.in1 (seqItems? (.ref S) >>= _) _ _ s
    refine wpAny_bind (wpAny_seqItems hS rfl ?_)
    show wpAny _ A.in1 (tryCatch (pyNext (.ref I)) _ >>= _) _ _ s
    refine wpAny_bind (wpAny_tryCatch (W.done s _ _ hst fun h' tk hk' => ?_))
    exact wpAny_pure (hR h' tk tA fun b o hbw _ e => hk' b o hbw e)
  | succ k ih =>
    intro i s tA c sg hk hi hsg hst hS hR
    have hlt : i < n := by omega
    refine codeAny_builtin F.entry_sum_loop ?_
    rw [Around.under_plainId F.plain_sum_loop _]
    show wpAny _ A.in1 (seqItems? (.ref S) >>= _) _ _ s
    refine wpAny_bind (wpAny_seqItems hS rfl ?_)
    show wpAny _ A.in1 (tryCatch (pyNext (.ref I)) _ >>= _) _ _ s
    refine wpAny_bind (wpAny_tryCatch (W.item i s _ _ hlt hst fun v h' tk hP hst' hk' => ?_))
    obtain ⟨t, rfl⟩ := hval i v hP
    have hS' := hk' S _ hSw hS
    have fin : ∀ (s₂ : Shared) (c2 : Nat) (tk2 tR : Tok) (sg2 : Int), (sg2 = 0 ∨ sg2 = 2) → s₂ = { s with heap := s₂.heap, toks := tk2 } → (∀ b o, b ≠ S → h'.get? b = some o → s₂.heap.get? b = some o) → s₂.heap.get? S = some { cls := .type "list", dict := none, data := .seq #[.int (preSum val (i + 1)) tR] c2, slots := #[] } →
        codeAny (model prog w) A (.builtin "sum.loop" ⟨[.ref I, .ref S, rawInt sg2, rawInt 0], []⟩) R s₂ := fun s₂ c2 tk2 tR sg2 hsg2 es k2 hS2 => by
      refine ih (i + 1) s₂ tR c2 sg2 (by omega) hlt hsg2 (W.frame _ _ _ hst' fun b hb o e => k2 b o (fun q => hSf (q ▸ hb)) e) hS2 fun h'' tk'' t'' hk'' => ?_
      rw [es]
      exact hR h'' tk'' t'' fun b o hbw hbS e => hk'' b o hbw hbS (k2 b o hbS (hk' b o hbw e))
    have plainly : ∀ (Qf : PySem.Fin → Shared → Prop) (Ef : Value → Shared → Prop), (∀ f s', (match f with | .done f => R (.ok f) s' | .again c' => c'.quiet = true ∧ codeAny (model prog w) A c' R s') → Qf f s') →
        wpAny (model prog w) A.in1 (do
          match ← (holding [Value.int (val i) t] (binaryOp .Add (Value.int (preSum val i) tA) (Value.int (val i) t))).attempt with
          | .ok r => do
            updateSeq S fun _ => #[r]
            letGo [Value.int (preSum val i) tA, Value.int (val i) t]
            updateSeq S fun _ => #[r]
            again (.builtin "sum.loop" ⟨[.ref I, .ref S, rawInt 2, rawInt 0], []⟩)
          | .error e => do
            updateSeq S fun _ => #[]
            letGo [Value.int (preSum val i) tA, Value.int (val i) t] [e]
            throw e) Qf Ef { s with heap := h', toks := tk } := fun Qf Ef hq => by
      refine wpAny_bind (wpAny_attempt (wpAny_holding (add_int ?_)))
      dsimp only
      refine wpAny_bind (wpAny_updateSeq hS' rfl ?_)
      refine wpAny_bind (wpAny_letGo ?_)
      refine wpAny_bind (wpAny_updateSeq (Heap.get?_update_self _ hS' rfl) rfl ?_)
      refine wpAny_pure (hq _ _ ⟨plainId_quiet F.plain_sum_loop _, fin _ _ _ _ 2 (.inr rfl) rfl (fun b o hb e => ?_) (Heap.get?_update_self _ (Heap.get?_update_self _ hS' rfl) rfl)⟩)
      exact (Heap.get?_update_other _ _ (Ne.symm hb)).trans ((Heap.get?_update_other _ _ (Ne.symm hb)).trans e)
    rcases hsg with rfl | rfl
    · show wpAny _ A.in1 (if (_ : Bool) = true then (mkInt (preSum val i + val i) >>= _) else _) _ _ _
      split
      · refine wpAny_bind (wpAny_mkInt ?_)
        show wpAny _ A.in1 (updateSeq S (fun _ => #[.int (preSum val i + val i) tk]) >>= _) _ _ _
        refine wpAny_bind ?_
        refine wpAny_updateSeq hS' rfl (wpAny_pure ⟨plainId_quiet F.plain_sum_loop _, fin _ _ _ tk 0 (.inl rfl) rfl (fun b o hb e => (Heap.get?_update_other _ _ (Ne.symm hb)).trans e) (Heap.get?_update_self _ hS' rfl)⟩)
      · refine wpAny_bind (wpAny_rule ?_)
        exact plainly _ _ fun f s' h => h
    · show wpAny _ A.in1 (if ((2 : Int) != 0) = true then _ else _) _ _ _
      rw [if_pos (by decide)]
      exact plainly _ _ fun f s' h => h
end
section
variable {prog : Program} {A : Around} {E : Value → Shared → Prop} {s : Shared} {l : Addr} {items : Array Value} {ns : List Int} {Q : Value → Shared → Prop}
theorem preSum_list (ns : List Int) : ∀ j, preSum (fun i => ns.getD i 0) j = (ns.take j).sum
  | 0 => by simp [preSum]
  | j + 1 => by rw [preSum, preSum_list ns j, PySem.sum_take_succ]
theorem sum_any (hh : A.handled = none) (hl : s.heap.IsList l items) (hI : IntsAre items.toList ns) (h : ∀ h' tk t, Keep s.heap h' → Q (.int ns.sum t) { s with heap := h', toks := tk }) :
    wpAny (model prog w) A (call (.builtin "sum") [.ref l]) Q E s := by
  refine call_function_tree F.kind_sum F.plain_sum F.entry_sum (F.args_sum1 _) ?_
  unfold Builtin.«sum»
  simp only [List.length_cons, List.length_nil]
  rw [if_neg (by decide)]
  refine wpAny_bind (wpAny_of_eq (show Builtin.Builtins.bindParams "sum" ["start"] 0 { } = pure [none] from rfl) ?_)
  refine wpAny_bind (wpAny_pyIter_list hl ?_)
  have hlt : l < s.heap.objs.size := by obtain ⟨o, e, _⟩ := hl; exact Heap.lt_size e
  refine wpAny_bind (wpAny_mkInt ?_)
  refine wpAny_bind (wpAny_pure ?_)
  simp only [List.forIn_cons, List.forIn_nil]
  refine wpAny_bind (wpAny_bind (wpAny_bind (wpAny_isInstance (T := "int") (b := false) (typeIs_int _ _ _) PySem.sub_int_str ?_)))
  simp only [Bool.false_eq_true, if_false]
  refine wpAny_pure (wpAny_bind (wpAny_bind (wpAny_isInstance (T := "int") (b := false) (typeIs_int _ _ _) PySem.sub_int_bytes ?_)))
  simp only [Bool.false_eq_true, if_false]
  refine wpAny_pure (wpAny_bind (wpAny_bind (wpAny_isInstance (T := "int") (b := false) (typeIs_int _ _ _) PySem.sub_int_bytearray ?_)))
  simp only [Bool.false_eq_true, if_false]
  refine wpAny_pure (wpAny_pure ?_)
  refine wpAny_bind (wpAny_newObj_type ?_)
  have hW := Walks.list (prog := prog) (w := w) (A := A.in1) hh s.heap.objs.size l (Nat.ne_of_lt hlt) items
  have hz : items.size = ns.length := by have := hI.length; simpa using this
  have p1 : ∀ (h1 : Heap) (o : Obj) (b : Addr) (x : Obj), h1.get? b = some x → (h1.push o).get? b = some x := fun h1 o b x e => Heap.get?_push_of_some _ e
  refine wpAny_pure ⟨plainId_quiet F.plain_sum_loop _, sum_loopB hW (fun i => ns.getD i 0) (fun i v hv => ?_) _ (fun hm => ?_) items.size 0 _ _ 0 0 rfl (Nat.zero_le _) (.inl rfl) ⟨⟨_, p1 _ _ _ _ (Heap.get?_push_size _ rfl), rfl, rfl⟩, let ⟨o, e, r⟩ := hl; ⟨o, p1 _ _ _ _ (p1 _ _ _ _ e), r⟩⟩ (Heap.get?_push_size _ rfl) fun h' tk t' hk => ?_⟩
  · obtain ⟨k, t, rfl, q⟩ := hI.at i v (by rw [Array.getElem?_toList]; exact hv)
    exact ⟨t, by rw [List.getD_eq_getElem?_getD, q]; rfl⟩
  · simp only [List.mem_cons, List.not_mem_nil, or_false, Heap.size_push] at hm
    rcases hm with hm | hm
    · exact absurd hm (Nat.ne_of_gt (Nat.lt_succ_self _))
    · exact absurd hm.symm (Nat.ne_of_lt (Nat.lt_succ_of_lt hlt))
  · have hs : preSum (fun i => ns.getD i 0) items.size = ns.sum := by rw [preSum_list, List.take_of_length_le (by omega)]
    have := h h' tk t' fun b o e => hk b o (fun hm => by rw [List.mem_singleton.mp hm] at e; exact Nat.lt_irrefl _ (Heap.lt_size e)) (fun q => by rw [q, Heap.size_push] at e; exact absurd (Heap.lt_size e) (Nat.not_lt_of_lt (Nat.lt_succ_self _))) (p1 _ _ _ _ (p1 _ _ _ _ e))
    rw [← hs] at this
    exact this
end

end
section
section
variable {dp un : Nat} {fr : Option (List Env)} {gd : Option (List Code)} {R : Result → Shared → Prop} {I l : Addr} {items : Array Value} {sc : List Int} {h₀ : Heap}
theorem nat_le_cases {i j : Nat} (h : i ≤ j + 1) : i ≤ j ∨ i = j + 1 := by omega
/-- the loop of max over numbers that are ints or Fractions -/
theorem max_loopB (hdp : dp + 20 < recursionLimit) (hu : un + 152 < cLine) (G : Good w mg mb h₀) (hN : ∀ i v, items[i]? = some v → NumS h₀ v (sc.getD i 0)) (hl0 : h₀.IsList l items) (hI0 : h₀.get? I = none) (S : Addr) (hS0 : h₀.get? S = none) (hSI : S ≠ I) :
    ∀ (k j b : Nat) (s : Shared) (vb : Value) (c : Nat), items.size - (j + 1) = k → j + 1 ≤ items.size → s.heap.IsListIter I l (j + 1) → Keep h₀ s.heap → b ≤ j → items[b]? = some vb → (∀ i ≤ j, sc.getD i 0 ≤ sc.getD b 0) →
    s.heap.get? S = some { cls := .type "list", dict := none, data := .seq #[vb, vb] c, slots := #[] } →
    (∀ v b h' tk, b < items.size → items[b]? = some v → (∀ i < items.size, sc.getD i 0 ≤ sc.getD b 0) → Keep h₀ h' → R (.ok (.ret v)) { s with heap := h', toks := tk }) →
    codeAny (model PP w) (aro dp un fr gd) (.builtin "max.loop" ⟨[.ref I, .none, .ref S], []⟩) R s := by
  have hlt0 : l < h₀.objs.size := by obtain ⟨o, e, _⟩ := hl0; exact Heap.lt_size e
  have hIl : l ≠ I := fun q => by obtain ⟨o, e, _⟩ := hl0; rw [q, hI0] at e; cases e
  have hSl : S ≠ l := fun q => by obtain ⟨o, e, _⟩ := hl0; rw [← q, hS0] at e; cases e
  have hname : (toString "max" ++ toString ".loop" : String) = "max.loop" := by decide
  have W := Walks.list (prog := PP) (w := w) (A := (aro dp un fr gd).in1) rfl I l hIl items
  have at_l : ∀ {h : Heap}, Keep h₀ h → h.IsList l items := fun k => let ⟨o, e, r⟩ := hl0; ⟨o, k _ _ e, r⟩
  have offI : ∀ {h h' : Heap}, Keep h₀ h → (∀ b o, b ∉ [I] → h.get? b = some o → h'.get? b = some o) → Keep h₀ h' := fun k k' b o e => k' b o (fun hm => by rw [List.mem_singleton.mp hm, hI0] at e; cases e) (k b o e)
  have offS : ∀ {h : Heap} {f : Obj → Obj}, Keep h₀ h → Keep h₀ (h.update S f) := fun k b o e => (Heap.get?_update_other _ _ (fun q : S = b => by rw [← q, hS0] at e; cases e)).trans (k b o e)
  intro k
  induction k with
  | zero =>
    intro j b s vb c hk hj hst hK hbj hb hmax hS hR
    have hin : j + 1 = items.size := by omega
    refine codeAny_builtin F.entry_max_loop ?_
    rw [Around.under_plainId F.plain_max_loop _]
    show wpAny _ _ (seqItems? (.ref S) >>= _) _ _ s
    refine wpAny_bind (wpAny_seqItems hS rfl ?_)
    show wpAny _ _ (tryCatch (pyNext (.ref I)) _ >>= _) _ _ s
    refine wpAny_bind (wpAny_tryCatch (W.done s _ _ ⟨hin ▸ hst, at_l hK⟩ fun h' tk hk' => ?_))
    have hS' := hk' S _ (by simp [hSI]) hS
    show wpAny _ _ (updateSeq S (fun _ => #[]) >>= _) _ _ _
    refine wpAny_bind ?_
    refine wpAny_updateSeq hS' rfl (wpAny_bind (wpAny_letGo (wpAny_pure ?_)))
    exact hR vb b _ tk (by omega) hb (fun i hi => hmax i (by omega)) (offS (offI hK hk'))
  | succ k ih =>
    intro j b s vb c hk hj hst hK hbj hb hmax hS hR
    have hlt : j + 1 < items.size := by omega
    refine codeAny_builtin F.entry_max_loop ?_
    rw [Around.under_plainId F.plain_max_loop _]
    show wpAny _ _ (seqItems? (.ref S) >>= _) _ _ s
    refine wpAny_bind (wpAny_seqItems hS rfl ?_)
    show wpAny _ _ (tryCatch (pyNext (.ref I)) _ >>= _) _ _ s
    refine wpAny_bind (wpAny_tryCatch (W.item (j + 1) s _ _ hlt ⟨hst, at_l hK⟩ fun v h' tk hP hst' hk' => ?_))
    have hS' := hk' S _ (by simp [hSI]) hS
    have K1 := offI hK hk'
    show wpAny _ _ (tryCatch (holding [v, v] (richCompare .Gt v vb >>= _)) _ >>= _) _ _ _
    refine wpAny_bind (wpAny_tryCatch (wpAny_holding (wpAny_bind (wpAny_mono (gt_num (dp := dp) (un := un + 1) (S := sc.getD (j + 1) 0) (U := sc.getD b 0) (by omega) (by omega) (G.keeps K1) ((hN _ _ hP).keeps K1) ((hN _ _ hb).keeps K1) fun h2 tk2 k2 => ?_) (fun _ _ z => z) fun _ _ z => z.elim))))
    refine wpAny_bind (wpAny_holding (wpAny_truthy_bool ?_))
    refine wpAny_bind (wpAny_letGo (wpAny_pure ?_))
    have K2 := Keep.trans K1 k2
    have hS2 := k2 _ _ hS'
    have hst2 : h2.IsListIter I l (j + 1 + 1) := let ⟨o, e, r⟩ := hst'.1; ⟨o, k2 _ _ e, r⟩
    by_cases c1 : sc.getD b 0 < sc.getD (j + 1) 0
    · rw [decide_eq_true c1]
      simp only [if_true]
      refine wpAny_bind ?_
      refine wpAny_updateSeq hS2 rfl (wpAny_bind (wpAny_letGo ?_))
      rw [hname]
      refine wpAny_pure ⟨plainId_quiet F.plain_max_loop _, ih (j + 1) (j + 1) _ v _ (by omega) hlt ?_ (offS K2) (Nat.le_refl _) hP (fun i hi => ?_) (Heap.get?_update_self _ hS2 rfl) fun v' b' h'' tk'' h1 h3 h4 hk'' => hR v' b' h'' tk'' h1 h3 h4 hk''⟩
      · obtain ⟨o, e, r⟩ := hst2
        exact ⟨o, (Heap.get?_update_other _ _ hSI).trans e, r⟩
      · rcases nat_le_cases hi with h | h
        · exact Int.le_trans (hmax i h) (Int.le_of_lt c1)
        · rw [h]; exact Int.le_refl _
    · rw [decide_eq_false c1]
      simp only [Bool.false_eq_true, if_false]
      refine wpAny_bind (wpAny_letGo ?_)
      rw [hname]
      refine wpAny_pure ⟨plainId_quiet F.plain_max_loop _, ih (j + 1) b _ vb c (by omega) hlt hst2 K2 (by omega) hb (fun i hi => ?_) hS2 fun v' b' h'' tk'' h1 h3 h4 hk'' => hR v' b' h'' tk'' h1 h3 h4 hk''⟩
      rcases nat_le_cases hi with h | h
      · exact hmax i h
      · rw [h]; exact Int.not_lt.mp c1
theorem max_nums {s : Shared} {Q : Value → Shared → Prop} (hdp : dp + 20 < recursionLimit) (hu : un + 156 < cLine) (G : Good w mg mb s.heap) (hN : ∀ i v, items[i]? = some v → NumS s.heap v (sc.getD i 0)) (hl : s.heap.IsList l items) (hne : 0 < items.size)
    (h : ∀ v b h' tk, b < items.size → items[b]? = some v → (∀ i < items.size, sc.getD i 0 ≤ sc.getD b 0) → Keep s.heap h' → Q v { s with heap := h', toks := tk }) :
    wpAny (model PP w) (aro dp un fr gd) (call (.builtin "max") [.ref l]) Q never s := by
  have hname : (toString "max" ++ toString ".loop" : String) = "max.loop" := by decide
  have hlt : l < s.heap.objs.size := by obtain ⟨o, e, _⟩ := hl; exact Heap.lt_size e
  refine call_function_tree F.kind_max F.plain_max F.entry_max (F.args_max1 _) ?_
  show wpAny _ _ (Builtin.Builtins.bindParams "max" ["key", "default"] 0 ⟨[], []⟩ >>= _) _ _ s
  refine wpAny_bind (wpAny_of_eq (show Builtin.Builtins.bindParams "max" ["key", "default"] 0 ⟨[], []⟩ = pure [none, none] from rfl) ?_)
  refine wpAny_bind (wpAny_pure ?_)
  refine wpAny_bind (wpAny_pyIter_list hl ?_)
  refine wpAny_bind (wpAny_newObj_type ?_)
  rw [hname]
  have kk : Keep s.heap ((s.heap.push { cls := .type "list_iterator", data := .fields #[.ref l, .int 0 0] }).push { cls := .type "list", data := .seq (List.toArray []) }) := fun b o e => Heap.get?_push_of_some _ (Heap.get?_push_of_some _ e)
  have z1 : s.heap.get? s.heap.objs.size = none := Heap.get?_none_of_le (Nat.le_refl _)
  generalize hH1 : s.heap.push { cls := .type "list_iterator", data := .fields #[.ref l, .int 0 0] } = H1 at kk ⊢
  have hsz : H1.objs.size = s.heap.objs.size + 1 := by rw [← hH1, Heap.size_push]
  have z2 : s.heap.get? H1.objs.size = none := Heap.get?_none_of_le (by rw [hsz]; exact Nat.le_succ _)
  have hSI : H1.objs.size ≠ s.heap.objs.size := by rw [hsz]; exact Nat.succ_ne_self _
  have hIl : l ≠ s.heap.objs.size := Nat.ne_of_lt hlt
  have W := Walks.list (prog := PP) (w := w) (A := (aro dp un fr gd).in1) rfl s.heap.objs.size l hIl items
  have eI : H1.get? s.heap.objs.size = some { cls := .type "list_iterator", data := .fields #[.ref l, .int 0 0] } := by rw [← hH1]; exact Heap.get?_push_size _ rfl
  refine wpAny_pure ⟨plainId_quiet F.plain_max_loop _, ?_⟩
  refine codeAny_builtin F.entry_max_loop ?_
  rw [Around.under_plainId F.plain_max_loop _]
  show wpAny _ _ (seqItems? (.ref H1.objs.size) >>= _) _ _ _
  refine wpAny_bind (wpAny_seqItems (Heap.get?_push_size _ rfl) rfl ?_)
  show wpAny _ _ (tryCatch (pyNext (.ref s.heap.objs.size)) _ >>= _) _ _ _
  refine wpAny_bind (wpAny_tryCatch (W.item 0 _ _ _ hne ⟨⟨_, Heap.get?_push_of_some _ eI, rfl, rfl⟩, let ⟨o, e, r⟩ := hl; ⟨o, kk _ _ e, r⟩⟩ fun v h' tk hP hst' hk' => ?_))
  have hS' := hk' H1.objs.size _ (by simp [hSI]) (Heap.get?_push_size _ rfl)
  have K1 : Keep s.heap h' := fun b o e => hk' b o (fun hm => by rw [List.mem_singleton.mp hm, z1] at e; cases e) (kk b o e)
  show wpAny _ _ (updateSeq H1.objs.size (fun _ => #[v, v]) >>= _) _ _ _
  refine wpAny_bind ?_
  refine wpAny_updateSeq hS' rfl ?_
  rw [hname]
  refine wpAny_pure ⟨plainId_quiet F.plain_max_loop _, max_loopB (un := un) hdp (by omega) G hN hl z1 _ z2 hSI (items.size - 1) 0 0 _ v _ rfl hne ?_ (fun b o e => (Heap.get?_update_other _ _ (fun q : H1.objs.size = b => by rw [← q, z2] at e; cases e)).trans (K1 b o e)) (Nat.le_refl _) hP (fun i hi => ?_) (Heap.get?_update_self _ hS' rfl) fun v' b' h'' tk'' h1 h3 h4 hk'' => h v' b' h'' tk'' h1 h3 h4 hk''⟩
  · obtain ⟨o, e, r⟩ := hst'.1
    exact ⟨o, (Heap.get?_update_other _ _ hSI).trans e, r⟩
  · rw [Nat.le_zero.mp hi]; exact Int.le_refl _
end

end
section
section
variable {A : Around} {E : Value → Shared → Prop} {s : Shared} {y dx : Addr} {S : List Nat} {tf : Nat → Tok} {ep : Nat} {led : Bool}
theorem ite_yes {c : Prop} [Decidable c] {a b : Prop} (h : a) (hc : c) : if c then a else b := by rw [if_pos hc]; exact h
theorem ite_no {c : Prop} [Decidable c] {a b : Prop} (h : b) (hc : ¬ c) : if c then a else b := by rw [if_neg hc]; exact h
theorem set_len_silent : (splitId "set.__len__" = some ("set", "__len__")) := by decide +kernel
theorem moved_eq {wr : List Addr} {s s' : Shared} (m : Moved wr (fun a b => b = a) s s') : s' = { s with heap := s'.heap, toks := s'.toks } := by
  obtain ⟨h1, g1, d1, t1, o1⟩ := s'
  have e1 := m.gens
  have e2 := m.drawn
  have e3 := m.os
  dsimp only at e1 e2 e3
  subst e1 e2 e3
  rfl
theorem touch_or {M : Model} {α : Type} {b : Bool} {S : Addr} {c : Nat} {m : Sem α} {Qf : α → Shared → Prop} (hS : s.heap.get? S = some { cls := .type "list", data := .seq ([] : List Value).toArray c })
    (h : ∀ H2 c2, (∀ b o, b ≠ S → s.heap.get? b = some o → H2.get? b = some o) → H2.get? S = some { cls := .type "list", data := .seq (#[] : Array Value) c2 } → wpAny M A m Qf E { s with heap := H2 }) :
    wpAny M A (if b = true then (rule "list.extend.makes-room" >>= fun _ => Builtin.List.listTouch (.ref S) >>= fun _ => m) else m) Qf E s := by
  cases b with
  | false => simp only [Bool.false_eq_true, if_false]; exact h s.heap c (fun _ _ _ e => e) hS
  | true =>
    simp only [if_true]
    refine wpAny_bind (wpAny_rule ?_)
    refine wpAny_bind ?_
    show wpAny _ A (updateSeq S (·.push .none) >>= fun _ => updateSeq S (·.pop)) _ _ _
    refine wpAny_bind (wpAny_updateSeq hS rfl ?_)
    have hS₂ := Heap.get?_update_self (Obj.mapSeq (·.push Value.none)) hS rfl
    refine wpAny_updateSeq hS₂ rfl ?_
    have hS₃ := Heap.get?_update_self (Obj.mapSeq (·.pop)) hS₂ rfl
    exact h _ _ (fun b o hb e => (Heap.get?_update_other _ _ (Ne.symm hb)).trans ((Heap.get?_update_other _ _ (Ne.symm hb)).trans e)) hS₃
/-- the items of a CandidateSet, in some order -/
theorem collect_cs {Q : List Value → Shared → Prop} (hh : A.handled = none) (X : (K39 w.params).In s.heap) (hS : S ∈ sub4) (hy : s.heap.get? y = some (csObj dx S tf ep led)) (hle : LedOk w led)
    (hQ : ∀ h' tk vs (ord : List Nat), Keep s.heap h' → ord.Perm S → IntsAre vs (ord.map fun (k : Nat) => (k : Int)) → Q vs { s with heap := h', toks := tk }) : wpAny (model PP w) A (collect (.ref y)) Q E s := by
  have hlt : y < s.heap.objs.size := Heap.lt_size hy
  have ny : y ≠ s.heap.objs.size := Nat.ne_of_lt hlt
  have h4 := sub4_le hS
  unfold collect
  refine wpAny_bind (wpAny_runValue (codeAny_builtin F.entry_proto_collect ?_))
  rw [Around.under_plainId F.plain_proto_collect _]
  show wpAny _ A.in1 (newList [] >>= fun l => again (.builtin "list.__iadd__" ⟨[l, .ref y], []⟩)) _ _ s
  refine wpAny_bind (wpAny_newObj_type ?_)
  refine wpAny_pure ⟨plainId_quiet F.plain_list_iadd _, codeAny_builtin F.entry_list_iadd ?_⟩
  rw [Around.under_plainId F.plain_list_iadd _]
  show wpAny _ A.in1 (Builtin.List.listExtendWith (.ref s.heap.objs.size) (.ref y) (.ref s.heap.objs.size)) _ _ _
  have k1 : Keep s.heap (s.heap.push { cls := .type "list", data := .seq ([] : List Value).toArray }) := fun b o e => Heap.get?_push_of_some _ e
  have eS : (s.heap.push { cls := .type "list", data := .seq ([] : List Value).toArray }).get? s.heap.objs.size = some { cls := .type "list", data := .seq ([] : List Value).toArray } := Heap.get?_push_size _ rfl
  have C := setCls_own (w := w) X
  unfold Builtin.List.listExtendWith
  refine wpAny_bind (Looks.here (type_c (k1 _ _ hy)) ?_)
  have h1 : Builtin.List.listSameRef (.ref s.heap.objs.size) (.ref y) = false := by simp [Builtin.List.listSameRef, Ne.symm ny]
  have h2 : ∀ T, ((csObj dx S tf ep led).cls == Value.type T) = false := fun T => by show (Value.ref 75 == Value.type T) = false; simp
  simp only [h1, h2, Bool.or_false, Bool.false_eq_true, if_false]
  have Sy : Src w s.heap y S := src_set hS hy C hle
  refine wpAny_bind (Sy.iter _ _ _ _ _ k1 fun I P St h₁ ord hI hIx hx W hord hP hst hsz k₁ => ?_)
  subst hI
  generalize hH : s.heap.push { cls := .type "list", data := .seq ([] : List Value).toArray } = H at *
  have HI : H.objs.size = s.heap.objs.size + 1 := by rw [← hH, Heap.size_push]
  have nIS : s.heap.objs.size ≠ H.objs.size := by rw [HI]; exact Nat.ne_of_lt (Nat.lt_succ_self _)
  refine wpAny_bind (wpAny_holding ?_)
  have k2 : Keep s.heap h₁ := Keep.trans k1 k₁
  unfold Builtin.List.listLengthHint
  refine wpAny_bind (Looks.here (special_c (k2 _ _ hy) ((C.keeps k2).look _ _ _ (.tail _ (.head _)))) ?_)
  dsimp only
  rw [set_len_silent]
  dsimp only
  simp only [isInstance]
  refine wpAny_bind (wpAny_bind (Looks.here (type_c (k2 _ _ hy)) (Looks.here ((C.keeps k2).sub _) ?_)))
  simp only [Bool.not_true, Bool.false_eq_true, if_false]
  refine wpAny_ite ?_
  refine ite_yes ?_ ?hsil
  case hsil => decide +kernel
  show wpAny _ _ (typeOf (.ref y) >>= _) _ _ _
  refine wpAny_bind (Looks.here (type_c (k2 _ _ hy)) ?_)
  show wpAny _ _ (call (.builtin "len") [.ref y] >>= _) _ _ _
  refine wpAny_bind (Sy.len _ _ _ _ _ k2 fun t tk => ?_)
  refine wpAny_bind (wpAny_pure (wpAny_pure ?_))
  have eS1 : h₁.get? s.heap.objs.size = some { cls := .type "list", data := .seq ([] : List Value).toArray } := k₁ _ _ (hH ▸ eS)
  have WS := (W A.in1 hh).toS
  have fS : s.heap.objs.size ∉ [H.objs.size, y] := by
    simp only [List.mem_cons, List.not_mem_nil, or_false, not_or]
    exact ⟨nIS, Ne.symm ny⟩
  refine touch_or eS1 fun H2 c kH eH => ?_
  refine wpAny_pure ⟨plainId_quiet F.plain_extend_loop _, codeAny_extend_loopS WS (by rw [sizeLine_eq]; omega) _ fS _ S.length 0 _ _ c rfl (Nat.zero_le _) ((W A.in1 hh).frame _ _ _ hst fun b hb o e => kH b o (fun q => fS (q ▸ hb)) e) eH (ItemsOf.nil P) fun s' acc' c' hm hS' hacc => ?_⟩
  show wpAny _ A (load s.heap.objs.size >>= _) _ _ s'
  refine wpAny_bind (wpAny_load hS' ?_)
  have em := moved_eq hm
  have hlen : acc'.size = ord.length := hacc.1.trans hord.length_eq.symm
  refine wpAny_pure ?_
  rw [em]
  refine hQ s'.heap s'.toks acc'.toList ord (fun b o e => hm.heap b o ?_ (kH b o (Nat.ne_of_lt (Heap.lt_size e)) (k2 _ _ e))) hord ?_
  · simp only [List.mem_cons, List.not_mem_nil, or_false, not_or]
    exact ⟨Nat.ne_of_lt (Heap.lt_size e), fun q => by have := Heap.lt_size e; rw [q, HI] at this; exact absurd this (Nat.not_lt_of_lt (Nat.lt_succ_self _))⟩
  · have : ∀ (l : List Nat) (vs : List Value), vs.length = l.length → (∀ (j : Nat) (v : Value), vs[j]? = some v → ∃ t, v = .int (l.getD j 0 : Nat) t) → IntsAre vs (l.map fun (k : Nat) => (k : Int)) := by
      intro l
      induction l with
      | nil => intro vs hl _; rw [List.length_eq_zero_iff.mp hl]; exact .nil
      | cons a l ih =>
        intro vs hl hv
        cases vs with
        | nil => simp at hl
        | cons v vs =>
          obtain ⟨t, e⟩ := hv 0 v rfl
          rw [e]
          exact .cons _ _ (ih vs (by simpa using hl) fun j u hj => by simpa using hv (j + 1) u (by simpa using hj))
    refine this ord acc'.toList (by simpa using hlen) fun j v hj => ?_
    exact (hP j v (hacc.2 j v (by rw [← Array.getElem?_toList]; exact hj))).2
theorem sub4_up : ∀ S ∈ sub4, (S.map fun (k : Nat) => (k : Int)).Pairwise (· ≤ ·) := by decide +kernel
/-- sorted(..) of a CandidateSet -/
theorem sorted_cs {Q : Value → Shared → Prop} (hh : A.handled = none) (X : (K39 w.params).In s.heap) (hS : S ∈ sub4) (hy : s.heap.get? y = some (csObj dx S tf ep led)) (hle : LedOk w led)
    (h : ∀ h' tk D vs e, Keep s.heap h' → s.heap.get? D = none → h'.get? D = some (seqObj "list" vs.toArray e) → IntsAre vs (S.map fun (k : Nat) => (k : Int)) → Q (.ref D) { s with heap := h', toks := tk }) :
    wpAny (model PP w) A (call (.builtin "sorted") [.ref y]) Q E s := by
  refine Calls.call_function_entry kind_sorted plain_sorted entry_sorted (args_sorted1 _) ?_
  unfold Builtin.«sorted»
  refine wpAny_bind (m := checkCount "sorted" 1 1 _) (wpAny_pure ?_)
  refine wpAny_bind (collect_cs hh X hS hy hle fun h1 tk1 vs ord k1 ho hI => ?_)
  have hlen := hI.length
  have h4 := sub4_le hS
  have hol : ord.length = S.length := ho.length_eq
  rw [List.length_map] at hlen
  refine wpAny_bind (wpAny_newList ?_ (by rw [sizeLine_eq]; omega))
  have hoL : (h1.push (seqObj "list" vs.toArray 0)).get? h1.objs.size = some (seqObj "list" vs.toArray 0) := Heap.get?_push_size _ rfl
  have hD : h1.get? h1.objs.size = none := Heap.get?_none_of_le (Nat.le_refl _)
  refine wpAny_bind (wpAny_holding (wpAny_call_entry slot_list_sort ⟨_, hoL, rfl⟩ entry_list_sort (list_sort_tree (s := { s with heap := h1.push (seqObj "list" vs.toArray 0), toks := tk1 }) hoL hI (by omega) fun out ns' a1 a2 a3 => ⟨_, rfl, ?_⟩) (args_list_sort _)))
  obtain ⟨e, he⟩ := sortedHeap_at (vs := vs) (out := out) hoL
  have hns : ns' = S.map fun (k : Nat) => (k : Int) := lks_uniq (a2.trans (ho.map _)) a3 (sub4_up S hS)
  refine wpAny_pure ⟨_, rfl, h _ _ _ out.toList e (fun b o eb => ?_) (none_of_keep k1 hD) (by rw [Array.toArray_toList]; exact he) (hns ▸ a1)⟩
  have hb : b ≠ h1.objs.size := fun z => by rw [z] at eb; rw [none_of_keep k1 hD] at eb; cases eb
  have eb' := Heap.get?_push_of_some (seqObj "list" vs.toArray 0) (k1 _ _ eb)
  exact (sortedHeap_old hb (Heap.lt_size eb')).trans eb'
end

end
section
section
/-- the statement number i -/
def nthSt (l : List Stmt) (i : Nat) : Stmt := match l.drop i with
  | x :: _ => x
  | [] => .Pass ⟨0, 0, 0, 0⟩
def inBody : Stmt → List Stmt
  | .For _ _ b _ _ => b
  | .If _ b _ _ => b
  | _ => []
/-- the law's statement number i -/
def lawSt (i : Nat) : Stmt := nthSt lawBody i
def upd (m : Str → Option Value) (x : Str) (v : Value) : Str → Option Value := fun y => if y = x then some v else m y
theorem upd_here {m : Str → Option Value} {x : Str} {v : Value} : upd m x v x = some v := if_pos rfl
theorem upd_there {m : Str → Option Value} {x y : Str} {v u : Value} (hne : y ≠ x) (h : m y = some u) : upd m x v y = some u := by
  unfold upd; rw [if_neg hne]; exact h
abbrev KX (L : Addr) (mu : List Addr) (h h' : Heap) : Prop := ∀ b o, b ∉ lawEx L → b ∉ mu → h.get? b = some o → h'.get? b = some o
abbrev vis (L : Addr) (mu : List Addr) (h : Heap) : Heap := hideAll h (lawEx L ++ mu)
variable {g h h' h2 : Heap} {L a : Addr} {m cm m' : Str → Option Value} {mu : List Addr}
theorem vis_keep (k : KX L mu h h') : Keep (vis L mu h) (vis L mu h') := fun b o e => by
  have hb : b ∉ lawEx L ++ mu := fun hm => by rw [hideAll_none _ hm] at e; cases e
  have hb2 := hb
  rw [List.mem_append, not_or] at hb2
  exact hideAll_get _ (k b o hb2.1 hb2.2 (of_hideAll _ e)) hb
theorem vis_le : Keep (vis L mu h) h := fun b o e => of_hideAll _ e
theorem vis_to (k : KX L mu h h') : Keep (vis L mu h) h' := fun b o e => vis_le b o (vis_keep k b o e)
theorem KX.of_keep (k : Keep h h') : KX L mu h h' := fun b o _ _ e => k b o e
theorem KX.trans (k : KX L mu h h') (k' : KX L mu h' h2) : KX L mu h h2 := fun b o h1 h3 e => k' b o h1 h3 (k b o h1 h3 e)
theorem KX.same (ha : a ∈ lawEx L) (hs : Heap.SameBut a h h') : KX L mu h h' := fun b o h1 _ e => hs.extBut b o (fun q => h1 (q ▸ ha)) e
theorem KX.sameM (ha : a ∈ mu) (hs : Heap.SameBut a h h') : KX L mu h h' := fun b o _ h1 e => hs.extBut b o (fun q => h1 (q ▸ ha)) e
theorem KX.went {s s' : Shared} (W : Went w s s') : KX L mu s.heap s'.heap := fun b o h1 _ e => W.k b o (fun hm => h1 (by
  simp only [List.mem_cons, List.not_mem_nil, or_false] at hm ⊢
  rcases hm with rfl | rfl | rfl <;> simp)) e
theorem KX.more {mu' : List Addr} (k : KX L mu h h') (hs : ∀ b ∈ mu, b ∈ mu') : KX L mu' h h' := fun b o h1 h3 e => k b o h1 (fun hm => h3 (hs b hm)) e
theorem KX.nil_of (k : KX L mu h h') (hz : ∀ b ∈ mu, h.get? b = none) : KX L [] h h' := fun b o h1 _ e => k b o h1 (fun hm => by rw [hz b hm] at e; cases e) e
abbrev cellNames : List (Str × Nat) := [(Str.ofString "number", 1), (Str.ofString "committee", 2), (Str.ofString "choice", 3), (Str.ofString "group", 4), (Str.ofString "most", 5)]
theorem LawSt.cellAt (S : LawSt w mg mb g L m cm h) {x : Str} {i : Nat} (hi : (x, i) ∈ cellNames) : h.IsCell (L + i) (cm x) := by
  simp only [List.mem_cons, List.not_mem_nil, or_false, Prod.mk.injEq] at hi
  rcases hi with ⟨rfl, rfl⟩ | ⟨rfl, rfl⟩ | ⟨rfl, rfl⟩ | ⟨rfl, rfl⟩ | ⟨rfl, rfl⟩
  · exact S.c1
  · exact S.c2
  · exact S.c3
  · exact S.c4
  · exact S.c5
theorem LawSt.keeps (S : LawSt w mg mb g L m cm h) (k : Keep h h') : LawSt w mg mb g L m cm h' where
  B := S.B
  F := Fr.kept S.F k
  c1 := let ⟨o, e, d⟩ := S.c1; ⟨o, k _ _ e, d⟩
  c2 := let ⟨o, e, d⟩ := S.c2; ⟨o, k _ _ e, d⟩
  c3 := let ⟨o, e, d⟩ := S.c3; ⟨o, k _ _ e, d⟩
  c4 := let ⟨o, e, d⟩ := S.c4; ⟨o, k _ _ e, d⟩
  c5 := let ⟨o, e, d⟩ := S.c5; ⟨o, k _ _ e, d⟩
  nL := S.nL
  nC := S.nC
  tab := fun q hq => let ⟨ps, p⟩ := S.tab q hq; ⟨ps, p.keeps k⟩
theorem LawSt.good (S : LawSt w mg mb g L m cm h) : GoodT w mg mb h := S.B.goodT S.F.keep S.tab
/-- all but one object, which is none of the base's, the frame's, the cells', the tables' -/
theorem LawSt.extBut (S : LawSt w mg mb g L m cm h) {mu : List Addr} (k : ∀ b o, b ∉ mu → h.get? b = some o → h'.get? b = some o) (hL : L ∉ mu) (hC : ∀ i : Nat, 1 ≤ i → i ≤ 5 → (L : Nat) + i ∉ mu) (hg : ∀ a ∈ mu, g.get? a = none) (ht : TabAt h') : LawSt w mg mb g L m cm h' where
  B := S.B
  F := ⟨S.F.ns.at' fun o e => k _ _ hL e, fun b o e => k _ _ (fun q => by rw [hg _ q] at e; cases e) (S.F.keep b o e), S.F.above⟩
  c1 := let ⟨o, e, d⟩ := S.c1; ⟨o, k _ _ (hC 1 (by omega) (by omega)) e, d⟩
  c2 := let ⟨o, e, d⟩ := S.c2; ⟨o, k _ _ (hC 2 (by omega) (by omega)) e, d⟩
  c3 := let ⟨o, e, d⟩ := S.c3; ⟨o, k _ _ (hC 3 (by omega) (by omega)) e, d⟩
  c4 := let ⟨o, e, d⟩ := S.c4; ⟨o, k _ _ (hC 4 (by omega) (by omega)) e, d⟩
  c5 := let ⟨o, e, d⟩ := S.c5; ⟨o, k _ _ (hC 5 (by omega) (by omega)) e, d⟩
  nL := S.nL
  nC := S.nC
  tab := ht
theorem tabAt_of (B : BaseT w mg mb g) (kg : Keep g h) (t : TabAt h) (kg' : Keep g h') (k : ∀ b ∈ tabs, ∀ o, h.get? b = some o → h'.get? b = some o) : TabAt h' := fun q hq => by
  have h1 : q.1 ∈ [q.1, q.2] := .head _
  obtain ⟨o, e⟩ := B.code q hq
  refine code_at (fun b hb o' e' => ?_) (t q hq)
  simp only [List.mem_cons, List.not_mem_nil, or_false] at hb
  rcases hb with rfl | rfl
  · rw [kg _ _ e] at e'; cases e'; exact kg' _ _ e
  · refine k _ ?_ _ e'
    simp only [List.mem_cons, List.not_mem_nil, or_false] at hq
    rcases hq with rfl | rfl | rfl <;> simp
theorem LawSt.newOff (S : LawSt w mg mb g L m cm h) (hz : h.get? a = none) : g.get? a = none ∧ a ∉ lawEx L := by
  refine ⟨none_of_keep S.F.keep hz, fun hm => ?_⟩
  have cc : ∀ {x i}, (x, i) ∈ cellNames → a ≠ (L : Nat) + i := fun {x i} hi q => by
    obtain ⟨o, e, _⟩ := S.cellAt hi
    rw [← q, hz] at e; cases e
  simp only [List.mem_cons, List.not_mem_nil, or_false] at hm
  rcases hm with rfl | rfl | rfl | rfl | rfl | rfl | hm
  · obtain ⟨o, _, _, e, _⟩ := S.F.ns; rw [hz] at e; cases e
  · exact cc (x := Str.ofString "number") (by simp) rfl
  · exact cc (x := Str.ofString "committee") (by simp) rfl
  · exact cc (x := Str.ofString "choice") (by simp) rfl
  · exact cc (x := Str.ofString "group") (by simp) rfl
  · exact cc (x := Str.ofString "most") (by simp) rfl
  · exact fresh_tabs S.tab hz (by simpa using hm)
/-- an object off the law's own may change -/
theorem LawSt.off (S : LawSt w mg mb g L m cm h) (k : ∀ b o, b ∉ mu → h.get? b = some o → h'.get? b = some o) (hoff : ∀ a ∈ mu, g.get? a = none ∧ a ∉ lawEx L) : LawSt w mg mb g L m cm h' := by
  have hx : ∀ {b}, b ∈ lawEx L → b ∉ mu := fun hb hm => (hoff _ hm).2 hb
  have kg' : Keep g h' := fun b o e => k _ _ (fun q => by rw [(hoff _ q).1] at e; cases e) (S.F.keep b o e)
  refine S.extBut k (hx (by simp)) (fun i h1 h5 => hx ?_) (fun a ha => (hoff a ha).1) (tabAt_of S.B S.F.keep S.tab kg' fun b hb o e => k b o (hx ?_) e)
  · have : i = 1 ∨ i = 2 ∨ i = 3 ∨ i = 4 ∨ i = 5 := by omega
    rcases this with rfl | rfl | rfl | rfl | rfl <;> simp
  · simp only [List.mem_cons, List.not_mem_nil, or_false] at hb ⊢
    rcases hb with rfl | rfl | rfl <;> simp
theorem LawSt.store (S : LawSt w mg mb g L m cm h) (hn : h'.Ns L m') (hs : Heap.SameBut L h h') : LawSt w mg mb g L m' cm h' := by
  have ne : ∀ i : Nat, 1 ≤ i → (L : Nat) + i ≠ L := fun i hi => Nat.ne_of_gt (Nat.lt_add_of_pos_right hi)
  have gL : g.get? L = none := Heap.get?_none_of_le S.F.above
  have kg' : Keep g h' := fun b o e => hs.extBut b o (fun q => by rw [q, gL] at e; cases e) (S.F.keep b o e)
  exact ⟨S.B, ⟨hn, kg', S.F.above⟩, let ⟨o, e, d⟩ := S.c1; ⟨o, hs.extBut _ o (ne 1 (by omega)) e, d⟩, let ⟨o, e, d⟩ := S.c2; ⟨o, hs.extBut _ o (ne 2 (by omega)) e, d⟩, let ⟨o, e, d⟩ := S.c3; ⟨o, hs.extBut _ o (ne 3 (by omega)) e, d⟩,
    let ⟨o, e, d⟩ := S.c4; ⟨o, hs.extBut _ o (ne 4 (by omega)) e, d⟩, let ⟨o, e, d⟩ := S.c5; ⟨o, hs.extBut _ o (ne 5 (by omega)) e, d⟩, S.nL, S.nC, tabAt_of S.B S.F.keep S.tab kg' fun b hb o e => hs.extBut b o (fun q => S.nL (q ▸ hb)) e⟩
theorem cell_ne : ∀ {x y : Str} {i j : Nat}, (x, i) ∈ cellNames → (y, j) ∈ cellNames → i ≠ j → y ≠ x := by
  have : ∀ p ∈ cellNames, ∀ q ∈ cellNames, p.2 ≠ q.2 → q.1 ≠ p.1 := by decide +kernel
  exact fun {x y i j} hx hy hne => this _ hx _ hy hne
theorem LawSt.cell (S : LawSt w mg mb g L m cm h) {x : Str} {i : Nat} {v : Value} (hi : (x, i) ∈ cellNames) (hc : h'.IsCell (L + i) (some v)) (hs : Heap.SameBut (L + i) h h') : LawSt w mg mb g L m (upd cm x v) h' := by
  have hi5 : 1 ≤ i ∧ i ≤ 5 := by
    simp only [List.mem_cons, List.not_mem_nil, or_false, Prod.mk.injEq] at hi
    rcases hi with ⟨_, rfl⟩ | ⟨_, rfl⟩ | ⟨_, rfl⟩ | ⟨_, rfl⟩ | ⟨_, rfl⟩ <;> omega
  have gC : g.get? (L + i) = none := Heap.get?_none_of_le (Nat.le_trans S.F.above (Nat.le_add_right _ _))
  have kg' : Keep g h' := fun b o e => hs.extBut b o (fun q => by rw [q, gC] at e; cases e) (S.F.keep b o e)
  have hL : (L : Nat) ≠ L + i := Nat.ne_of_lt (Nat.lt_add_of_pos_right hi5.1)
  have cc : ∀ {y : Str} {j : Nat}, (y, j) ∈ cellNames → h'.IsCell (L + j) (upd cm x v y) := fun {y j} hj => by
    by_cases q : i = j
    · subst q
      have : y = x := by
        have : ∀ p ∈ cellNames, ∀ q ∈ cellNames, p.2 = q.2 → q.1 = p.1 := by decide +kernel
        exact this _ hi _ hj rfl
      subst this
      rw [show upd cm y v y = some v from upd_here]
      exact hc
    · obtain ⟨o, e, d⟩ := S.cellAt hj
      refine ⟨o, hs.extBut _ o (fun z => q ?_) e, ?_⟩
      · exact (Nat.add_left_cancel z).symm
      · unfold upd; rw [if_neg (cell_ne hi hj q)]; exact d
  exact ⟨S.B, ⟨S.F.ns.sameBut hs hL, kg', S.F.above⟩, cc (y := Str.ofString "number") (by simp), cc (y := Str.ofString "committee") (by simp), cc (y := Str.ofString "choice") (by simp), cc (y := Str.ofString "group") (by simp), cc (y := Str.ofString "most") (by simp), S.nL, S.nC,
    tabAt_of S.B S.F.keep S.tab kg' fun b hb o e => hs.extBut b o (fun q => S.nC i hi5.1 hi5.2 (q ▸ hb)) e⟩
end
section
variable {A : Around} {E : Value → Shared → Prop} {s : Shared} {env : Env} {x : Str} {pos : Pos} {v : Value} {Q : Value → Shared → Prop} {g : Heap} {L : Addr} {m cm : Str → Option Value} {i : Nat}
theorem nameLS (S : LawSt w mg mb g L m cm s.heap) (hL : env.locals = L) (hv : m x = some v) (hk : env.scope.kind = .function) (hl : env.kindOf x = some .local) (hd : (x == ("__debug__" : Str)) = false) (h : Q v s) : wpAny (model PP w) A (eval (.Name x pos) env) Q E s :=
  nameL (hL ▸ S.F.ns) hv hk hl hd h
theorem nameCS (S : LawSt w mg mb g L m cm s.heap) (hc : env.cells.lookup x = some (L + i)) (hi : (x, i) ∈ cellNames) (hv : cm x = some v) (hk : env.scope.kind = .function) (hl : env.kindOf x = some .cell) (hd : (x == ("__debug__" : Str)) = false) (h : Q v s) : wpAny (model PP w) A (eval (.Name x pos) env) Q E s :=
  nameC hc (hv ▸ S.cellAt hi) hk hl hd h
theorem nameBS (S : LawSt w mg mb g L m cm s.heap) (hg : env.globals = mainGlobals) (hb : env.builtins = builtinsNs) (e : nsIn (K39 w.params) mainGlobals x = some none) (hv : bootBuiltins x = some v) (hn : x ≠ "__name__")
    (hk : env.scope.kind = .function) (hl : env.kindOf x = some .globalImplicit) (hd : (x == ("__debug__" : Str)) = false) (h : Q v s) : wpAny (model PP w) A (eval (.Name x pos) env) Q E s :=
  nameB S.F.keep S.B.X S.B.T hg hb e hv hn hk hl hd h
theorem nameGS (S : LawSt w mg mb g L m cm s.heap) (hg : env.globals = mainGlobals) (e : nsIn (K39 w.params) mainGlobals x = some (some v))
    (hk : env.scope.kind = .function) (hl : env.kindOf x = some .globalImplicit) (hd : (x == ("__debug__" : Str)) = false) (h : Q v s) : wpAny (model PP w) A (eval (.Name x pos) env) Q E s :=
  wpAny_Name (ks_loadName_global hk hl (loadGlobal_global (hg ▸ S.B.T.g.keeps S.F.keep) (mg_of S.B.X S.B.T.g e) h)) hd
theorem stoL {Q : Unit → Shared → Prop} (S : LawSt w mg mb g L m cm s.heap) (hL : env.locals = L) (hk : env.scope.kind = .function) (hl : env.kindOf x = some .local)
    (h : ∀ h2 tk, LawSt w mg mb g L (upd m x v) cm h2 → Heap.SameBut L s.heap h2 → Q () { s with heap := h2, toks := tk }) : wpAny (model PP w) A (storeName env x v) Q E s := by
  subst hL
  exact wpAny_storeName_local hl S.F.ns (fun h2 hn hs => h h2 _ (S.store hn hs) hs) (by rw [hk]; rfl)
theorem stoC {Q : Unit → Shared → Prop} (S : LawSt w mg mb g L m cm s.heap) (hc : env.cells.lookup x = some (L + i)) (hi : (x, i) ∈ cellNames) (hk : env.scope.kind = .function) (hl : env.kindOf x = some .cell)
    (h : ∀ h2 tk, LawSt w mg mb g L m (upd cm x v) h2 → Heap.SameBut (L + i) s.heap h2 → Q () { s with heap := h2, toks := tk }) : wpAny (model PP w) A (storeName env x v) Q E s :=
  wpAny_storeName_cell hk hl hc (S.cellAt hi) fun h2 hc2 hs => h h2 _ (S.cell hi hc2 hs) hs
theorem asgL {e : Expr} {p' : Pos} {Q : Flow → Shared → Prop} (hL : env.locals = L) (hk : env.scope.kind = .function) (hl : env.kindOf x = some .local) (hs : swapsWith e (some (.Name x p')) pos.line env = pure false)
    (h : wpAny (model PP w) A (eval e env) (fun v s1 => ∃ m cm, LawSt w mg mb g L m cm s1.heap ∧ ∀ h2 tk, LawSt w mg mb g L (upd m x v) cm h2 → Heap.SameBut L s1.heap h2 → Q .next { s1 with heap := h2, toks := tk }) E s) :
    wpAny (model PP w) A (exec (.Assign [.Name x p'] e pos) env) Q E s :=
  wpAny_Assign_Name (wpAny_mono h (fun v s1 h1 => let ⟨m, cm, S, hq⟩ := h1; stoL S hL hk hl hq) fun _ _ e => e) hs
theorem asgC {e : Expr} {p' : Pos} {Q : Flow → Shared → Prop} (hc : env.cells.lookup x = some (L + i)) (hi : (x, i) ∈ cellNames) (hk : env.scope.kind = .function) (hl : env.kindOf x = some .cell) (hs : swapsWith e (some (.Name x p')) pos.line env = pure false)
    (h : wpAny (model PP w) A (eval e env) (fun v s1 => ∃ m cm, LawSt w mg mb g L m cm s1.heap ∧ ∀ h2 tk, LawSt w mg mb g L m (upd cm x v) h2 → Heap.SameBut (L + i) s1.heap h2 → Q .next { s1 with heap := h2, toks := tk }) E s) :
    wpAny (model PP w) A (exec (.Assign [.Name x p'] e pos) env) Q E s :=
  wpAny_Assign_Name (wpAny_mono h (fun v s1 h1 => let ⟨m, cm, S, hq⟩ := h1; stoC S hc hi hk hl hq) fun _ _ e => e) hs
/-- one statement, that goes on to the next -/
theorem execs_next {M : Model} {st : Stmt} {rest : List Stmt} {Q : Flow → Shared → Prop} (h : wpAny M A (exec st env) (fun f s' => f = .next ∧ wpAny M A (execs rest env) Q E s') E s) : wpAny M A (execs (st :: rest) env) Q E s :=
  wpAny_execs_cons (wpAny_mono h (fun f s' h' => by obtain ⟨rfl, h'⟩ := h'; exact h') fun _ _ e => e)
end

end
section
section
open AutoSeq1 (wpAny_loadPart')
open MeetsSeq MeetsSeq2 MeetsSeq3 SeqRoads2 SeqAt
noncomputable def lexLt : List Int → List Int → Bool
  | a :: r, b :: q => if a = b then lexLt r q else decide (a < b)
  | _, _ => false
theorem ints_drop {vs : List Value} {ns : List Int} (hI : IntsAre vs ns) {i : Nat} (hi : i < vs.length) : ∃ t, vs[i]? = some (.int (ns.getD i 0) t) ∧ ns.drop i = ns.getD i 0 :: ns.drop (i + 1) := by
  have hl := hI.length
  obtain ⟨k, t, e, q⟩ := hI.at i vs[i] (List.getElem?_eq_getElem hi)
  have : ns.getD i 0 = k := by rw [List.getD_eq_getElem?_getD, q]; rfl
  refine ⟨t, by rw [List.getElem?_eq_getElem hi, e, this], ?_⟩
  rw [List.drop_eq_getElem_cons (by omega), List.getD_eq_getElem?_getD, List.getElem?_eq_getElem (by omega)]
  rfl
theorem lt_loopAt (l b : Addr) (items items2 : Array Value) (n n2 : Nat) (hsz : items.size = items2.size) (ns ms : List Int) (hI : IntsAre items.toList ns) (hJ : IntsAre items2.toList ms) (k : Nat) :
    ∀ i : Nat, items.size - i = k → Meets (Builtin.«list.__eq__.loop» ⟨[.ref l, .ref b, rawInt i, rawInt 0], []⟩)
      (fun A R s => s.heap.get? l = some { cls := .type "list", dict := none, data := .seq items n, slots := #[] } ∧ s.heap.get? b = some { cls := .type "list", dict := none, data := .seq items2 n2, slots := #[] } ∧
        R (.ok (.ret (.bool (lexLt (ns.drop i) (ms.drop i))))) s) := by
  have h1 := hI.length
  have h2 := hJ.length
  rw [Array.length_toList] at h1 h2
  induction k with
  | zero =>
    intro i hk prog w A R s h
    obtain ⟨hp, g, d, tk, os⟩ := s; obtain ⟨hl, hb, h⟩ := h
    wp_walk using wpAny_loadPart' hl, wpAny_loadPart' hb
    have hi1 : items[((i : Nat) : Int).toNat]? = none := by simp; omega
    have hi2 : items2[((i : Nat) : Int).toNat]? = none := by simp; omega
    have hd : ns.drop i = [] := by simp; omega
    rw [hd] at h
    rw [hi1, hi2]
    wp_walk using wpAny_loadPart' hl, wpAny_loadPart' hb
    show R (.ok (.ret (.bool (decide (items.size < items2.size))))) _
    rw [decide_eq_false (by omega)]
    simpa [lexLt] using h
  | succ k ih =>
    intro i hk prog w A R s h
    obtain ⟨hp, g, d, tk, os⟩ := s; obtain ⟨hl, hb, h⟩ := h
    wp_walk using wpAny_loadPart' hl, wpAny_loadPart' hb
    obtain ⟨t1, e1, d1⟩ := ints_drop hI (i := i) (by rw [Array.length_toList]; omega)
    obtain ⟨t2, e2, d2⟩ := ints_drop hJ (i := i) (by rw [Array.length_toList]; omega)
    rw [Array.getElem?_toList] at e1 e2
    have hi1 : items[((i : Nat) : Int).toNat]? = some (.int (ns.getD i 0) t1) := e1
    have hi2 : items2[((i : Nat) : Int).toNat]? = some (.int (ms.getD i 0) t2) := e2
    have hc : ((i : Int) + 1) = ((i + 1 : Nat) : Int) := by push_cast; rfl
    rw [d1, d2] at h
    rw [hi1, hi2]
    refine wpAny_bind (wpAny_eqBool_int ?_)
    by_cases c1 : ns.getD i 0 = ms.getD i 0
    · rw [show (ns.getD i 0 == ms.getD i 0) = true from by simpa using c1]
      rw [show lexLt (ns.getD i 0 :: ns.drop (i + 1)) (ms.getD i 0 :: ms.drop (i + 1)) = lexLt (ns.drop (i + 1)) (ms.drop (i + 1)) from if_pos c1] at h
      wp_walk
      rw [hc]
      exact ⟨plainId_quiet plain_eq_loop _, codeAny_builtin entry_eq_loop (by
        rw [Around.under_plainId plain_eq_loop _]
        exact ih (i + 1) (by omega) prog w A R _ ⟨hl, hb, h⟩)⟩
    · rw [show (ns.getD i 0 == ms.getD i 0) = false from by simpa using c1]
      rw [show lexLt (ns.getD i 0 :: ns.drop (i + 1)) (ms.getD i 0 :: ms.drop (i + 1)) = decide (ns.getD i 0 < ms.getD i 0) from if_neg c1] at h
      wp_walk using wpAny_loadPart' hl, wpAny_loadPart' hb
      rw [hi1, hi2]
      dsimp only
      refine wpAny_bind (show wpAny _ _ (compareOp .Lt _ _) _ _ _ from PyProof.Rows.lt_int ?_)
      exact wpAny_pure h
theorem list_ltAt (l b : Addr) (items items2 : Array Value) (n n2 : Nat) (hsz : items.size = items2.size) (ns ms : List Int) (hI : IntsAre items.toList ns) (hJ : IntsAre items2.toList ms) :
    Meets (Builtin.«list.__lt__» ⟨[.ref l, .ref b], []⟩)
      (fun A R s => s.heap.get? l = some { cls := .type "list", dict := none, data := .seq items n, slots := #[] } ∧ s.heap.get? b = some { cls := .type "list", dict := none, data := .seq items2 n2, slots := #[] } ∧
        R (.ok (.ret (.bool (lexLt ns ms)))) s) := by
  intro prog w A R s h
  obtain ⟨hp, g, d, tk, os⟩ := s; obtain ⟨hl, hb, h⟩ := h
  have f3 := AutoSeq1.sub_list_list
  wp_walk using wpAny_loadPart' hl, wpAny_loadPart' hb
  exact ⟨plainId_quiet plain_eq_loop _, codeAny_builtin entry_eq_loop (by
    rw [Around.under_plainId plain_eq_loop _]
    exact lt_loopAt l b items items2 n n2 hsz ns ms hI hJ _ 0 rfl prog w A R _ ⟨hl, hb, by simpa using h⟩)⟩
end

end
section
/-- v is a list of the ints C -/
def IntL (h : Heap) (v : Value) (C : List Nat) : Prop := ∃ a us n, v = .ref a ∧ h.get? a = some (seqObj "list" us.toArray n) ∧ IntsAre us (C.map fun (k : Nat) => (k : Int))
theorem IntL.keeps {h h' : Heap} {v : Value} {C : List Nat} (x : IntL h v C) (k : Keep h h') : IntL h' v C := let ⟨a, us, n, e1, e2, e3⟩ := x; ⟨a, us, n, e1, k _ _ e2, e3⟩
noncomputable def evalT {α : Type} (n : Nat) (lt : Nat → Nat → Bool) : KasT α → Option α
  | .ret a => some a
  | .ask i j k => if i < n ∧ j < n then evalT n lt (k (lt i j)) else none
theorem evalT_wp {α : Type} {n : Nat} {lt : Nat → Nat → Bool} {cmp : Nat → Nat → (Bool → Shared → Prop) → Shared → Prop} {s : Shared} (hc : ∀ i j, i < n → j < n → ∀ C, C (lt i j) s → cmp i j C s) {Q : α → Shared → Prop} :
    ∀ (t : KasT α) (a : α), evalT n lt t = some a → Q a s → t.kasWp cmp Q s
  | .ret b, a, e, h => by
    simp only [evalT] at e
    cases e
    exact h
  | .ask i j k, a, e, h => by
    simp only [evalT] at e
    by_cases c : i < n ∧ j < n
    · rw [if_pos c] at e
      exact hc i j c.1 c.2 _ (evalT_wp hc (k (lt i j)) a e h)
    · rw [if_neg c] at e; cases e
noncomputable def lexC (C D : List Nat) : Bool := lexLt (C.map fun (k : Nat) => (k : Int)) (D.map fun (k : Nat) => (k : Int))
noncomputable def sortIdx (Cs : List (List Nat)) : Option (List Nat) := if Cs.length < 2 then some (List.range Cs.length) else (evalT Cs.length (fun i j => lexC (Cs.getD i []) (Cs.getD j [])) (kas_sort Cs.length)).map (·.toList)
noncomputable def sortLL (Cs : List (List Nat)) : Option (List (List Nat)) := (sortIdx Cs).bind fun p => if (p.all (fun i => decide (i < Cs.length)) && p.length == Cs.length) then some (p.map fun i => Cs.getD i []) else none
section
variable {A : Around} {E : Value → Shared → Prop} {s : Shared} {prog : Program}
theorem key_lists {a b : Addr} {us us' : List Value} {n n' : Nat} {ns ms : List Int} {Q : Bool → Shared → Prop} (hu : A.units < cLine) (hx : s.heap.get? a = some (seqObj "list" us.toArray n)) (hy : s.heap.get? b = some (seqObj "list" us'.toArray n')) (hI : IntsAre us ns) (hJ : IntsAre us' ms) (hl : ns.length = ms.length)
    (h : Q (lexLt ns ms) s) : wpAny (model prog w) A (keyLt' oneType' (.ref a) (.ref b)) Q E s := by
  have h1 := hI.length
  have h2 := hJ.length
  rw [keyLt'_oneType, oneLt'_eq]
  simp only [if_true]
  refine wpAny_bind (wpAny_cRoomFor hu ?_)
  refine wpAny_bind (wpAny_callSpecialIfBound?_slot (T := "list") ⟨_, hx, rfl⟩ F.slot_list_lt (call_meets F.slot_list_lt ⟨_, hx, rfl⟩ F.entry_list_lt (F.args_list_lt_2 _ _) (list_ltAt a b us.toArray us'.toArray n n' (by simp; omega) ns ms hI hJ) ⟨hx, hy, ?_⟩))
  exact wpAny_truthy_bool h
theorem list_sort_lists {a : Addr} {vs : List Value} {Cs Ds : List (List Nat)} {n k : Nat} {P : PySem.Fin → Shared → Prop} (hu : A.units < cLine) (ho : s.heap.get? a = some (seqObj "list" vs.toArray n)) (hlen : vs.length = Cs.length) (h64 : vs.length < 64) (hC : ∀ C ∈ Cs, C.length = k)
    (told : ∀ (j : Nat) (v : Value), vs[j]? = some v → IntL s.heap v (Cs.getD j []) ∧ v ≠ .ref a) (hs : sortLL Cs = some Ds)
    (h : ∀ (h' : Heap) (vs' : List Value) e, (∀ b o, b ≠ a → s.heap.get? b = some o → h'.get? b = some o) → h'.get? a = some (seqObj "list" vs'.toArray e) → vs'.length = Ds.length → (∀ (j : Nat) (v : Value), vs'[j]? = some v → IntL s.heap v (Ds.getD j []) ∧ v ≠ .ref a) → P (.done (.ret .none)) { s with heap := h' }) :
    wpAny (model prog w) A (Builtin.«list.sort» ⟨[.ref a], []⟩) P E s := by
  have ha : a < s.heap.objs.size := Heap.lt_size ho
  obtain ⟨p, hp, hpD⟩ : ∃ p, sortIdx Cs = some p ∧ (if (p.all (fun i => decide (i < Cs.length)) && p.length == Cs.length) then some (p.map fun i => Cs.getD i []) else none) = some Ds := by
    unfold sortLL at hs
    cases q : sortIdx Cs with
    | none => rw [q] at hs; cases hs
    | some p => rw [q] at hs; exact ⟨p, rfl, hs⟩
  have hall0 : (p.all (fun i => decide (i < Cs.length)) && p.length == Cs.length) = true := by
    by_cases c : (p.all (fun i => decide (i < Cs.length)) && p.length == Cs.length) = true
    · exact c
    · rw [if_neg c] at hpD; cases hpD
  rw [if_pos hall0] at hpD
  rw [Bool.and_eq_true] at hall0
  obtain ⟨hall, hpl⟩ := hall0
  have hpl : p.length = Cs.length := by simpa using hpl
  obtain rfl := Option.some.inj hpD
  have hlt : ∀ i ∈ p, i < Cs.length := fun i hi => by simpa using List.all_eq_true.mp hall i hi
  -- the answer's items
  have ans : ∀ (j : Nat) (v : Value), (p.map fun i => vs.getD i Value.none)[j]? = some v → IntL s.heap v ((p.map fun i => Cs.getD i []).getD j []) ∧ v ≠ .ref a := fun j v hj => by
    rw [List.getElem?_map] at hj
    cases q : p[j]? with
    | none => rw [q] at hj; cases hj
    | some i =>
      rw [q] at hj
      have hi := hlt i (List.mem_of_getElem? q)
      have e : vs[i]? = some v := by
        have hj' : vs.getD i Value.none = v := Option.some.inj hj
        rw [List.getD_eq_getElem?_getD, List.getElem?_eq_getElem (by omega)] at hj'
        rw [List.getElem?_eq_getElem (by omega)]
        exact congrArg some hj'
      have := told i v e
      rw [List.getD_eq_getElem?_getD, List.getElem?_map, q]
      exact this
  obtain ⟨e1, ho1⟩ : ∃ e1, (s.heap.update a (Obj.mapSeq fun _ => (#[] : Array Value))).get? a = some (seqObj "list" #[] e1) := ⟨_, get?_update_seq ho fun _ => #[]⟩
  have ho3 : (((s.heap.update a (Obj.mapSeq fun _ => (#[] : Array Value))).push (seqObj "tuple" vs.toArray 0)).push (seqObj "list" #[] 0)).get? a = some (seqObj "list" #[] e1) := Heap.get?_push_of_some _ (Heap.get?_push_of_some _ ho1)
  have k3 : ∀ b o, b ≠ a → s.heap.get? b = some o → (((s.heap.update a (Obj.mapSeq fun _ => (#[] : Array Value))).push (seqObj "tuple" vs.toArray 0)).push (seqObj "list" #[] 0)).get? b = some o := fun b o hb e => Heap.get?_push_of_some _ (Heap.get?_push_of_some _ ((Heap.get?_update_other _ _ (Ne.symm hb)).trans e))
  rw [list_sort_plain]
  refine wpAny_bind (listItems_at ho rfl ?_)
  refine wpAny_bind (listUpdate_at ho rfl ?_ (by rw [List.size_toArray, sizeLine_eq]; omega) (Nat.zero_le _))
  refine wpAny_bind (seqEpoch_at ho1 rfl ?_)
  refine wpAny_bind (wpAny_newTuple ?_ (by show vs.length ≤ _; rw [sizeLine_eq]; omega))
  refine wpAny_bind (wpAny_newList ?_ (Nat.zero_le _))
  refine wpAny_holding ?_
  show wpAny (model prog w) A _ P E { s with heap := ((s.heap.update a (Obj.mapSeq fun _ => (#[] : Array Value))).push (seqObj "tuple" vs.toArray 0)).push (seqObj "list" #[] 0) }
  dsimp only
  generalize hH3 : ((s.heap.update a (Obj.mapSeq fun _ => (#[] : Array Value))).push (seqObj "tuple" vs.toArray 0)).push (seqObj "list" #[] 0) = H3 at *
  have fin : ∀ (out : Array Value), out.toList = (p.map fun i => vs.getD i Value.none) → P (.done (.ret .none)) { s with heap := H3.update a (Obj.mapSeq fun _ => out) } := fun out hout => by
    obtain ⟨e2, he2⟩ : ∃ e2, (H3.update a (Obj.mapSeq fun _ => out)).get? a = some (seqObj "list" out e2) := ⟨_, get?_update_seq ho3 fun _ => out⟩
    refine h _ (p.map fun i => vs.getD i Value.none) e2 (fun b o hb e => (Heap.get?_update_other _ _ (Ne.symm hb)).trans (k3 b o hb e)) ?_ (by simp) ans
    rw [he2, ← hout]
  by_cases h2 : vs.length < 2
  · have hn2 : vs.toArray.size < 2 := by rw [List.size_toArray]; exact h2
    rw [if_pos hn2, if_pos hn2]
    refine wpAny_bind (wpAny_pure ?_)
    rw [StateT.run_pure]
    refine wpAny_bind (wpAny_pure ?_)
    dsimp only
    refine wpAny_bind (seqEpoch_at ho3 rfl ?_)
    refine wpAny_bind (listUpdate_at ho3 rfl ?_ (Nat.zero_le _) (by
      show ((pairsOf vs).map (·.2)).size ≤ _
      rw [Array.size_map, pairsOf_size, sizeLine_eq]; omega))
    simp only [bne_self_eq_false, Bool.false_eq_true, if_false]
    refine wpAny_pure (fin _ ?_)
    have hpr : p = List.range Cs.length := by
      unfold sortIdx at hp
      rw [if_pos (by omega)] at hp
      exact (Option.some.inj hp).symm
    rw [hpr, ← hlen]
    show ((pairsOf vs).map (·.2)).toList = _
    rw [Array.toList_map, pairsOf_toList]
    match vs, h2 with
    | [], _ => rfl
    | [v], _ => rfl
  · have hn2 : ¬ vs.toArray.size < 2 := by rw [List.size_toArray]; exact h2
    rw [if_neg hn2, if_neg hn2]
    have told3 : ∀ (i : Nat), i < vs.length → ∃ b us m, vs.getD i Value.none = .ref b ∧ H3.get? b = some (seqObj "list" us.toArray m) ∧ IntsAre us ((Cs.getD i []).map fun (k : Nat) => (k : Int)) := fun i hi => by
      obtain ⟨⟨b, us, m, e, eb, hI⟩, ne⟩ := told i vs[i] (List.getElem?_eq_getElem hi)
      refine ⟨b, us, m, by rw [List.getD_eq_getElem?_getD, List.getElem?_eq_getElem hi]; exact e, k3 b _ (fun q => ne (by rw [e, q])) eb, hI⟩
    have hev : ∃ pa : Array Nat, evalT Cs.length (fun i j => lexC (Cs.getD i []) (Cs.getD j [])) (kas_sort Cs.length) = some pa ∧ pa.toList = p := by
      unfold sortIdx at hp
      rw [if_neg (by omega)] at hp
      cases q : evalT Cs.length (fun i j => lexC (Cs.getD i []) (Cs.getD j [])) (kas_sort Cs.length) with
      | none => rw [q] at hp; cases hp
      | some pa => rw [q] at hp; exact ⟨pa, rfl, Option.some.inj hp⟩
    obtain ⟨pa, hev, hpa⟩ := hev
    refine wpAny_bind (kas_kind (T := .type "list") (by omega) (fun v hv => ?_) (by decide) (by decide) ?_)
    · obtain ⟨i, hi, rfl⟩ := List.getElem_of_mem hv
      obtain ⟨b, us, m, e, eb, -⟩ := told3 i hi
      rw [List.getD_eq_getElem?_getD, List.getElem?_eq_getElem hi] at e
      rw [show vs[i] = .ref b from e]
      exact type_c eb
    · refine wpAny_bind (wpAny_mono (kat_run (G := fun p' s' => p' = pa ∧ s' = { s with heap := H3 }) (Q := fun st' s' => arrOf st' = pa.map (kas_item (vs.toArray.zip vs.toArray)) ∧ failedOf st' = none ∧ s' = { s with heap := H3 }) (ks := vs) rfl (by omega) h64 (fun p' st' s' a1 a2 a3 a4 => ⟨by rw [a2, a4.1], a3, a4.2⟩) ?_) ?_ fun _ _ e => e)
      · rw [hlen]
        refine evalT_wp (fun i j hi hj C hc => ?_) _ _ hev ⟨rfl, rfl⟩
        obtain ⟨b, us, m, e, eb, hI⟩ := told3 i (by omega)
        obtain ⟨b', us', m', e', eb', hI'⟩ := told3 j (by omega)
        unfold kas_ask
        rw [e, e']
        refine key_lists hu eb eb' hI hI' ?_ hc
        have c1 := hC (Cs.getD i []) (by rw [List.getD_eq_getElem?_getD, List.getElem?_eq_getElem hi]; exact List.getElem_mem hi)
        have c2 := hC (Cs.getD j []) (by rw [List.getD_eq_getElem?_getD, List.getElem?_eq_getElem hj]; exact List.getElem_mem hj)
        rw [List.length_map, List.length_map, c1, c2]
      · rintro ⟨⟨⟩, st'⟩ s' ⟨har, hf, rfl⟩
        dsimp only at har hf ⊢
        have hout := kat_snds (ks := vs) rfl har
        have hsz : (arrOf st').map (·.2) = List.toArray (p.map fun i => vs.getD i Value.none) := by rw [hout, hpa]
        have hple : p.length = vs.length := hpl.trans hlen.symm
        refine wpAny_bind (seqEpoch_at ho3 rfl ?_)
        refine wpAny_bind (listUpdate_at ho3 rfl ?_ (Nat.zero_le _) (by rw [hsz, List.size_toArray, List.length_map, sizeLine_eq]; omega))
        rw [hf]
        simp only [bne_self_eq_false, Bool.false_eq_true, if_false]
        refine wpAny_pure (fin _ ?_)
        rw [hsz]
end

end
section
section
open SeqAt
variable {A : Around} {E : Value → Shared → Prop} {s : Shared} {prog : Program} {Q : Value → Shared → Prop}
/-- sorted(..) of a list of lists -/
theorem sorted_lists {l : Addr} {items : Array Value} {Cs Ds : List (List Nat)} {k : Nat} (hu : A.units + 8 < cLine) (hl : s.heap.IsList l items) (hlen : items.size = Cs.length) (h64 : items.size < 64) (hC : ∀ C ∈ Cs, C.length = k)
    (told : ∀ (j : Nat) (v : Value), items[j]? = some v → IntL s.heap v (Cs.getD j [])) (hs : sortLL Cs = some Ds)
    (h : ∀ (h' : Heap) D (vs' : List Value) e, Keep s.heap h' → s.heap.get? D = none → h'.get? D = some (seqObj "list" vs'.toArray e) → vs'.length = Ds.length → (∀ (j : Nat) (v : Value), vs'[j]? = some v → IntL h' v (Ds.getD j [])) → Q (.ref D) { s with heap := h' }) :
    wpAny (model prog w) A (call (.builtin "sorted") [.ref l]) Q E s := by
  obtain ⟨o, ho, hc, n, hd⟩ := hl
  refine Calls.call_function_entry kind_sorted plain_sorted entry_sorted (args_sorted1 _) ?_
  unfold Builtin.«sorted»
  refine wpAny_bind (m := checkCount "sorted" 1 1 _) (wpAny_pure ?_)
  refine wpAny_bind (wpAny_collect_seq l (.inl rfl) ho hc hd (fun h1 k1 => ?_) (by rw [sizeLine_eq]; omega))
  refine wpAny_bind (wpAny_newList ?_ (by rw [Array.length_toList, sizeLine_eq]; omega))
  have hoL : (h1.push (seqObj "list" items.toList.toArray 0)).get? h1.objs.size = some (seqObj "list" items.toList.toArray 0) := Heap.get?_push_size _ rfl
  have hD : h1.get? h1.objs.size = none := Heap.get?_none_of_le (Nat.le_refl _)
  have k2 : Keep s.heap (h1.push (seqObj "list" items.toList.toArray 0)) := fun b o e => Heap.get?_push_of_some _ (k1 b o e)
  have ne : ∀ {b : Addr} {x : Obj}, s.heap.get? b = some x → b ≠ h1.objs.size := fun e q => by rw [q] at e; rw [none_of_keep k1 hD] at e; cases e
  refine wpAny_bind (wpAny_holding (wpAny_call_entry slot_list_sort ⟨_, hoL, rfl⟩ entry_list_sort (list_sort_lists (s := { s with heap := h1.push (seqObj "list" items.toList.toArray 0) }) (Cs := Cs) (Ds := Ds) (k := k) (by show A.units + 1 + 1 < _; omega) hoL (by rw [Array.length_toList]; exact hlen) (by rw [Array.length_toList]; exact h64) hC
    (fun j v hj => ?_) hs fun h3 vs' e k3 e3 hl3 told3 => ⟨_, rfl, ?_⟩) (args_list_sort _)))
  · have := told j v (by rw [← Array.getElem?_toList]; exact hj)
    obtain ⟨a, us, m, e1, e2, e3⟩ := this
    exact ⟨⟨a, us, m, e1, k2 _ _ e2, e3⟩, fun q => ne e2 (by rw [e1] at q; exact Value.ref.inj q)⟩
  · refine wpAny_pure ⟨_, rfl, h h3 _ vs' e (fun b o eb => k3 b o (ne eb) (k2 _ _ eb)) (none_of_keep k1 hD) e3 hl3 fun j v hj => ?_⟩
    obtain ⟨⟨a, us, m, e1, e2, e3'⟩, nq⟩ := told3 j v hj
    exact ⟨a, us, m, e1, k3 _ _ (fun q => nq (by rw [e1, q])) e2, e3'⟩
theorem reads_intL {h : Heap} {v : Value} {C : List Nat} (x : IntL h v C) : ∃ as, Reads h v (.list ((C.map fun (k : Nat) => (k : Int)).map PyData.int)) as := by
  obtain ⟨a, us, n, rfl, e, hI⟩ := x
  exact ⟨_, reads_of_ints ⟨_, e, rfl, n, rfl⟩ hI⟩
abbrev dataLL (Cs : List (List Nat)) : List PyData := Cs.map fun C => .list ((C.map fun (k : Nat) => (k : Int)).map PyData.int)
theorem reads_ll {h : Heap} : ∀ {Cs : List (List Nat)} {vs : List Value}, vs.length = Cs.length → (∀ (j : Nat) (v : Value), vs[j]? = some v → IntL h v (Cs.getD j [])) → ∃ as, ReadsAll h vs (dataLL Cs) as
  | [], vs, hl, _ => by rw [List.length_eq_zero_iff.mp hl]; exact ⟨_, .nil⟩
  | C :: Cs, [], hl, _ => by simp at hl
  | C :: Cs, v :: vs, hl, hv => by
    obtain ⟨as, r1⟩ := reads_intL (hv 0 v rfl)
    obtain ⟨bs, r2⟩ := reads_ll (Cs := Cs) (vs := vs) (by simpa using hl) fun j u hj => by simpa using hv (j + 1) u (by simpa using hj)
    exact ⟨_, .cons r1 r2⟩
theorem shaped_ll : ∀ Cs : List (List Nat), PyData.canLayAll0 (dataLL Cs) = true ∧ PyData.depthAll (dataLL Cs) ≤ 2
  | [] => by simp [PyData.canLayAll0, PyData.depthAll]
  | C :: Cs => by
    obtain ⟨h1, h2⟩ := shaped_ll Cs
    have h3 := W.depthAll_ints (C.map fun (k : Nat) => (k : Int))
    refine ⟨?_, ?_⟩
    · simp only [List.map_cons, PyData.canLayAll0, PyData.canLay0, canLayAll0_ints, Bool.true_and]
      exact h1
    · simp only [dataLL] at h2
      simp only [dataLL, List.map_cons, PyData.depthAll, PyData.depth]
      omega
/-- two lists of the same lists are equal -/
theorem eq_lists {a b : Addr} {vs us : List Value} {n n' : Nat} {Cs : List (List Nat)} (hu : A.units + 64 < cLine) (ha : s.heap.get? a = some (seqObj "list" vs.toArray n)) (hb : s.heap.get? b = some (seqObj "list" us.toArray n')) (l1 : vs.length = Cs.length) (l2 : us.length = Cs.length)
    (t1 : ∀ (j : Nat) (v : Value), vs[j]? = some v → IntL s.heap v (Cs.getD j [])) (t2 : ∀ (j : Nat) (v : Value), us[j]? = some v → IntL s.heap v (Cs.getD j [])) (h : Q (.bool true) s) :
    wpAny (model prog w) A (compareOp .Eq (.ref a) (.ref b)) Q E s := by
  obtain ⟨as, r1⟩ := reads_ll l1 t1
  obtain ⟨bs, r2⟩ := reads_ll l2 t2
  obtain ⟨s1, s2⟩ := shaped_ll Cs
  have hsh : shaped (.list (dataLL Cs)) = true := by
    show (PyData.canLay0 (.list (dataLL Cs)) && decide (PyData.depth (.list (dataLL Cs)) ≤ 64)) = true
    rw [Bool.and_eq_true]
    exact ⟨by simp only [PyData.canLay0]; exact s1, decide_eq_true (by simp only [PyData.depth]; omega)⟩
  refine eq_dataH (Reads.list ha rfl rfl (by simpa using r1)) (Reads.list hb rfl rfl (by simpa using r2)) hsh hsh hu ?_
  rw [eqv_refl _ (canLay_of_shaped hsh)]
  exact h
/-- the order in which the law finds its committees -/
def numOrd : Nat × Nat → List (List Nat)
  | (3, _) => [[0, 1], [0, 2], [1, 2]]
  | (_, 2) => [[0, 1], [0, 2], [1, 2], [0, 3], [1, 3], [2, 3]]
  | _ => [[0, 1, 2], [0, 1, 3], [0, 2, 3], [1, 2, 3]]
noncomputable def subs : List (List Nat) → List (List (List Nat))
  | [] => [[]]
  | a :: l => subs l ++ (subs l).map (a :: ·)
theorem subs_of {s l : List (List Nat)} (h : List.Sublist s l) : s ∈ subs l := by
  induction h with
  | slnil => exact .head _
  | cons a _ ih => exact List.mem_append_left _ ih
  | cons_cons a _ ih => exact List.mem_append_right _ (List.mem_map_of_mem ih)
theorem sort_told : ∀ q ∈ cases4, ∀ Cs ∈ subs (combos q), sortLL Cs = some Cs := by decide +kernel
theorem sort_num : ∀ q ∈ cases4, ∀ Cs ∈ subs (numOrd q), sortLL Cs = some ((combos q).filter fun C => decide (C ∈ Cs)) := by decide +kernel
end

end
section
local macro_rules | `(tactic| walk_at "call ref") => `(tactic| refine stopHere ?_)
local macro_rules | `(tactic| walk_at "eval ListComp") => `(tactic| refine stopHere ?_)
local macro_rules | `(tactic| walk_at "exec Assign ListComp") => `(tactic| refine stopHere ?_)
local macro_rules | `(tactic| walk_at "exec Assign cons ListComp") => `(tactic| refine stopHere ?_)
local macro_rules | `(tactic| walk_at "exec For Name Call cons nil") => `(tactic| refine stopHere ?_)
local macro_rules | `(tactic| walk_at "eval Call") => `(tactic| ((with_reducible show wpAny _ _ (eval (Expr.Call (Expr.Name _ _) _ _ _) _) _ _ _); refine wpAny_Call_Name_kw ?_))
local macro_rules | `(tactic| walk_at "eval IfExp") => `(tactic| refine stopHere ?_)
local macro_rules | `(tactic| walk_at "eval Name") => `(tactic| (k_here; (refine' nameX_L ?F ?v ?_ ?a ?b; (case F => k_asm); (case a => rfl); (case b => rfl); (case v => first | exact rfl | assumption); k_whole)))
local macro_rules | `(tactic| walk_at "execs cons") => `(tactic| ((with_reducible show wpAny _ _ (execs (Stmt.For _ _ _ _ _ :: _) _) _ _ _); refine stopHere ?_))
theorem wp_toks {M : Model} {α : Type} {A : Around} {c : Sem α} {Q : α → Shared → Prop} {E : Value → Shared → Prop} {s : Shared} (hh : ∀ t', wpAny M A c Q E { heap := s.heap, gens := s.gens, drawn := s.drawn, toks := t', os := s.os }) : wpAny M A c Q E s := hh s.toks
theorem fmod2 (v : Int) : v.fmod 2 = 0 ∨ v.fmod 2 = 1 := by
  rw [Int.fmod_eq_emod_of_nonneg v (by decide)]
  omega
theorem fmod1 (v : Int) : v.fmod 1 = 0 := by
  rw [Int.fmod_eq_emod_of_nonneg v (by decide)]
  omega
theorem LawSt.back {g h h' : Heap} {L : Addr} {m cm m' cm' : Str → Option Value} {nl : List (Addr × Obj)} {c1 c2 c3 c4 c5 o1 o2 o3 : Obj} (S : LawSt w mg mb g L m cm h) (F' : Fr g L h' m') (N : News g L h (tabL o1 o2 o3)) (N' : News g L h' nl)
    (d1 : c1.data = .cell (cm' (Str.ofString "number"))) (d2 : c2.data = .cell (cm' (Str.ofString "committee"))) (d3 : c3.data = .cell (cm' (Str.ofString "choice"))) (d4 : c4.data = .cell (cm' (Str.ofString "group"))) (d5 : c5.data = .cell (cm' (Str.ofString "most")))
    (i1 : (L + 1, c1) ∈ nl) (i2 : (L + 2, c2) ∈ nl) (i3 : (L + 3, c3) ∈ nl) (i4 : (L + 4, c4) ∈ nl) (i5 : (L + 5, c5) ∈ nl) (j1 : ((52 : Addr), o1) ∈ nl) (j2 : ((80 : Addr), o2) ∈ nl) (j3 : ((88 : Addr), o3) ∈ nl) : LawSt w mg mb g L m' cm' h' where
  B := S.B
  F := F'
  c1 := ⟨c1, (N' _ i1).1, d1⟩
  c2 := ⟨c2, (N' _ i2).1, d2⟩
  c3 := ⟨c3, (N' _ i3).1, d3⟩
  c4 := ⟨c4, (N' _ i4).1, d4⟩
  c5 := ⟨c5, (N' _ i5).1, d5⟩
  nL := S.nL
  nC := S.nC
  tab := tabsBack S.B S.F.keep S.tab N F'.keep N' fun p hp => by
    simp only [List.mem_cons, List.not_mem_nil, or_false] at hp
    rcases hp with rfl | rfl | rfl <;> assumption
theorem snap_new {h g : Heap} {L a : Addr} (hlt : @LT.lt Nat _ (L + 1) a ∧ @LT.lt Nat _ (L + 2) a ∧ @LT.lt Nat _ (L + 3) a ∧ @LT.lt Nat _ (L + 4) a ∧ @LT.lt Nat _ (L + 5) a ∧ @LT.lt Nat _ 52 a ∧ @LT.lt Nat _ 80 a ∧ @LT.lt Nat _ 88 a ∧ AllLt a (snap h g (lawEx L))) (ha : a ≠ L) (hg : g.get? a = none) : h.get? a = none ∧ a ∉ lawEx L := by
  obtain ⟨h1, h2, h3, h4, h5, h6, h7, h8, h9⟩ := hlt
  have hx : a ∉ lawEx L := by
    simp only [List.mem_cons, List.not_mem_nil, or_false, not_or]
    exact ⟨ha, Nat.ne_of_gt h1, Nat.ne_of_gt h2, Nat.ne_of_gt h3, Nat.ne_of_gt h4, Nat.ne_of_gt h5, Nat.ne_of_gt h6, Nat.ne_of_gt h7, Nat.ne_of_gt h8⟩
  refine ⟨?_, hx⟩
  cases q : h.get? a with
  | none => rfl
  | some o => exact absurd (allLt_mem h9 (a, o) (snap_mem.mpr ⟨q, hx, hg⟩)) (Nat.lt_irrefl _)
/-- what the law has when its lines 635 to 640 are done -/
structure LawA (w : World) (mg mb : Str → Option Value) (g : Heap) (L : Addr) (m cm : Str → Option Value) (h0 h : Heap) (m' : Str → Option Value) (p lb lv : Addr) (n k mn : Nat) (ts tm tn : Tok) : Prop where
  S : LawSt w mg mb g L m' cm h
  script : m' (Str.ofString "script") = m (Str.ofString "script")
  size : m' (Str.ofString "size") = some (.int (n : Nat) ts)
  many : m' (Str.ofString "many") = some (.int (mn : Nat) tm)
  seats : m' (Str.ofString "seats") = some (.int (k : Nat) tn)
  profile : m' (Str.ofString "profile") = some (.ref p)
  ballots : m' (Str.ofString "ballots") = some (.ref lb)
  cases : (n, k) ∈ cases4
  mn34 : mn = 3 ∨ mn = 4
  prof : ProfAtL w (vis L [lb] h) p lv n []
  lbo : ∃ nn, h.get? lb = some (seqObj "list" #[] nn)
  ne : lb ≠ lv
  lb0 : g.get? lb = none ∧ lb ∉ lawEx L
  lv0 : g.get? lv = none ∧ lv ∉ lawEx L
  kx : KX L [] h0 h
section
variable {dp un : Nat} {gd : Option (List Code)} {s : Shared} {Q : Flow → Shared → Prop} {sc L : Addr} {items : List Value} {ns : List Int} {g : Heap} {m cm : Str → Option Value}
theorem law_a (hdp : dp + 120 < recursionLimit) (hu : un + 1600 < cLine) (S : LawSt w mg mb g L m cm s.heap) (hsc : m (Str.ofString "script") = some (.ref sc)) (hS : g.IsList sc items.toArray) (hI : IntsAre items ns) (hlen : items.length ≤ 1000)
    (cont : ∀ (h' : Heap) (tk : Nat) (m' : Str → Option Value) (p lb lv : Addr) (n k mn : Nat) (ts tm tn : Tok), LawA w mg mb g L m cm s.heap h' m' p lb lv n k mn ts tm tn →
      wpAny (model PP w) ((aro dp un (some []) gd).deeper (lawEnv L)) (execs (lawBody.drop 6) (lawEnv L)) Q never { s with heap := h', toks := tk }) :
    wpAny (model PP w) ((aro dp un (some []) gd).deeper (lawEnv L)) (execs lawBody (lawEnv L)) Q never s := by
  obtain ⟨b1, b2, b3, b4, b5, o1, o2, o3, d1, d2, d3, d4, d5, NT, N0⟩ := S.news
  have F0 := S.F
  have X' := S.B.X
  have T' := S.B.T
  have SX : ∀ a ∈ lawEx L, s.heap.get? a ≠ none := fun a ha z => (S.newOff z).2 ha
  generalize hD : lawBody.drop 6 = rest at cont
  conv at hD => lhs; whnf
  generalize hB : lawBody = body
  generalize hE : lawEnv L = env at cont ⊢
  unfold lawEnv at hE
  generalize hSc : lawScope = scp at hE
  conv at hSc => lhs; whnf
  conv at hB => lhs; whnf
  dsimp only at hSc hB hD
  subst hSc hE hB hD
  have NTf : ∀ P : Prop, (News g L s.heap (tabL o1 o2 o3) → P) → P := fun _ f => f NT
  clear NT
  k_steps
  rename Fr _ _ _ _ => F1
  rename News _ _ _ _ => N1
  show wpAny _ _ (call (.ref 729) [.ref sc, .int 0 _, .int 0 _]) _ _ _
  refine' law_at ?d1 ?u1 ⟨X'.keeps F1.keep, T'.keeps F1.keep⟩ (let ⟨o, e, r⟩ := hS; ⟨o, F1.keep _ _ e, r⟩) hI hlen (by decide) fun h2 tk2 hv tv k2 => ?_
  case d1 => walk_at "m_around"
  case u1 => walk_at "m_around"
  have F2 := Fr.kept F1 k2
  have N2 := News.kept N1 k2
  clear F1 N1
  k_steps
  rename Fr _ _ _ _ => F3
  rename News _ _ _ _ => N3
  show wpAny _ _ _ _ _ _
  refine wp_toks fun tk3 => ?_
  dsimp only
  obtain ⟨tz, F4⟩ : ∃ tz, Fr g L _ (fun y => if y = Str.ofString "size" then some (.int (3 + hv.fmod 2) tz) else if y = Str.ofString "head" then some (.int hv tv) else m y) := ⟨_, F3⟩
  clear F3
  rcases fmod2 hv with e2 | e2
  · rw [e2] at F4
    obtain ⟨th, F5⟩ : ∃ th, Fr g L _ (fun y => if y = Str.ofString "size" then some (.int 3 th) else if y = Str.ofString "head" then some (.int hv tv) else m y) := ⟨_, F4⟩
    clear F4
    refine IfExp_ ?_
    k_steps
    rename Fr _ _ _ _ => F6
    rename News _ _ _ _ => N6
    show wpAny _ _ (call (.ref 681) [.int 3 _]) _ _ _
    refine wp_toks fun tk6 => ?_
    obtain ⟨t1, t2, t3, mn, hmn, F7⟩ : ∃ t1 t2 t3, ∃ mn : Nat, (mn = 3 ∨ mn = 4) ∧ Fr g L _ (fun y => if y = Str.ofString "seats" then some (.int ((2 : Nat) : Int) t1) else if y = Str.ofString "many" then some (.int ((mn : Nat) : Int) t2) else if y = Str.ofString "size" then some (.int ((3 : Nat) : Int) t3) else if y = Str.ofString "head" then some (.int hv tv) else m y) := by
      rw [show ((3 : Int) - 2) = 1 from rfl, fmod1] at F6
      rcases fmod2 (hv.fdiv 2) with e3 | e3
      · rw [e3] at F6; exact ⟨_, _, _, 3, .inl rfl, F6⟩
      · rw [e3] at F6; exact ⟨_, _, _, 4, .inr rfl, F6⟩
    clear F6
    dsimp only
    have S7 := NTf _ fun NT => S.back F7 NT N6 d1 d2 d3 d4 d5 (by simp) (by simp) (by simp) (by simp) (by simp) (by simp) (by simp) (by simp)
    have k07 := snap_keepN (ex := lawEx L) S.F.keep F7.keep N6 (fun p hp => by simp [hp])
    refine' prof_new3 ?d2 ?u2 ⟨X'.keeps F7.keep, T'.keeps F7.keep⟩ fun h8 tk8 p lv zp zv k8 P8 => ?_
    case d2 => walk_at "m_around"
    case u2 => walk_at "m_around"
    have S8 := S7.keeps k8
    have P8' := P8 (lawEx L) fun a ha z => (S7.newOff z).2 ha
    have hp0 := S7.newOff zp
    have hv0 := S7.newOff zv
    obtain ⟨c1, c2, c3, c4, c5, q1, q2, q3, f1, f2, f3, f4, f5, NT8, N8⟩ := S8.news
    have NT8f : ∀ P : Prop, (News g L h8 (tabL q1 q2 q3) → P) → P := fun _ f => f NT8
    have F8 := S8.F
    clear NT8 F7 N6
    k_steps
    rename Fr _ _ _ _ => F9
    rename News _ _ _ _ => N9
    rename L + 1 < _ ∧ _ => l1
    show wpAny _ _ _ _ _ _
    have S9 := NT8f _ fun NT8 => S8.back F9 NT8 N9 f1 f2 f3 f4 f5 (by simp) (by simp) (by simp) (by simp) (by simp) (by simp) (by simp) (by simp)
    obtain ⟨zb, lbx⟩ := snap_new l1 (N9 _ (.head _)).2.1 (N9 _ (.head _)).2.2
    have k89 := snap_keepN (ex := lawEx L) S8.F.keep F9.keep N9 (fun p hp => by simp [hp])
    have kX : ∀ b o, b ∉ lawEx L → s.heap.get? b = some o → h8.get? b = some o := fun b o hb e => k8 b o (k07 b o (hideAll_get _ e hb))
    have kv : Keep (hideAll h8 (lawEx L)) (vis L [_] _) := fun b o e => hideAll_get _ (k89 b o e) (by
      have hb : b ∉ lawEx L := fun hm => by rw [hideAll_none _ hm] at e; cases e
      rw [List.mem_append, List.mem_singleton, not_or]
      exact ⟨hb, fun q => by rw [q] at e; rw [of_hideAll _ e] at zb; cases zb⟩)
    have el : h8.get? lv ≠ none := fun z => by
      obtain ⟨_, _, _, _, _, _, _, _, _, _, _, _, -, -, -, -, -, e6, -⟩ := P8'
      rw [of_hideAll _ e6] at z
      cases z
    exact cont _ _ _ p _ lv 3 2 mn _ _ _ {
      S := S9
      script := rfl
      size := rfl
      many := rfl
      seats := rfl
      profile := rfl
      ballots := rfl
      cases := by decide
      mn34 := hmn
      prof := P8'.keeps kv
      lbo := ⟨_, (N9 _ (.head _)).1⟩
      ne := fun q => el (q ▸ zb)
      lb0 := ⟨(N9 _ (.head _)).2.2, lbx⟩
      lv0 := hv0
      kx := fun b o hb _ e => k89 b o (hideAll_get _ (kX b o hb e) hb) }
  · rw [e2] at F4
    obtain ⟨th, F5⟩ : ∃ th, Fr g L _ (fun y => if y = Str.ofString "size" then some (.int 4 th) else if y = Str.ofString "head" then some (.int hv tv) else m y) := ⟨_, F4⟩
    clear F4
    refine IfExp_ ?_
    k_steps
    rename Fr _ _ _ _ => F6
    rename News _ _ _ _ => N6
    show wpAny _ _ (call (.ref 681) [.int 4 _]) _ _ _
    refine wp_toks fun tk6 => ?_
    obtain ⟨t1, t2, t3, kk, mn, hkk, hmn, F7⟩ : ∃ t1 t2 t3, ∃ kk mn : Nat, (4, kk) ∈ cases4 ∧ (mn = 3 ∨ mn = 4) ∧ Fr g L _ (fun y => if y = Str.ofString "seats" then some (.int ((kk : Nat) : Int) t1) else if y = Str.ofString "many" then some (.int ((mn : Nat) : Int) t2) else if y = Str.ofString "size" then some (.int ((4 : Nat) : Int) t3) else if y = Str.ofString "head" then some (.int hv tv) else m y) := by
      rw [show ((4 : Int) - 2) = 2 from rfl] at F6
      rcases fmod2 (hv.fdiv 2) with e3 | e3
      · rw [e3] at F6; exact ⟨_, _, _, 2, 3, by decide, .inl rfl, F6⟩
      · rw [e3] at F6; exact ⟨_, _, _, 3, 3, by decide, .inl rfl, F6⟩
    clear F6
    dsimp only
    have S7 := NTf _ fun NT => S.back F7 NT N6 d1 d2 d3 d4 d5 (by simp) (by simp) (by simp) (by simp) (by simp) (by simp) (by simp) (by simp)
    have k07 := snap_keepN (ex := lawEx L) S.F.keep F7.keep N6 (fun p hp => by simp [hp])
    refine' prof_new4 ?d2 ?u2 ⟨X'.keeps F7.keep, T'.keeps F7.keep⟩ fun h8 tk8 p lv zp zv k8 P8 => ?_
    case d2 => walk_at "m_around"
    case u2 => walk_at "m_around"
    have S8 := S7.keeps k8
    have P8' := P8 (lawEx L) fun a ha z => (S7.newOff z).2 ha
    have hp0 := S7.newOff zp
    have hv0 := S7.newOff zv
    obtain ⟨c1, c2, c3, c4, c5, q1, q2, q3, f1, f2, f3, f4, f5, NT8, N8⟩ := S8.news
    have NT8f : ∀ P : Prop, (News g L h8 (tabL q1 q2 q3) → P) → P := fun _ f => f NT8
    have F8 := S8.F
    clear NT8 F7 N6
    k_steps
    rename Fr _ _ _ _ => F9
    rename News _ _ _ _ => N9
    rename L + 1 < _ ∧ _ => l1
    show wpAny _ _ _ _ _ _
    have S9 := NT8f _ fun NT8 => S8.back F9 NT8 N9 f1 f2 f3 f4 f5 (by simp) (by simp) (by simp) (by simp) (by simp) (by simp) (by simp) (by simp)
    obtain ⟨zb, lbx⟩ := snap_new l1 (N9 _ (.head _)).2.1 (N9 _ (.head _)).2.2
    have k89 := snap_keepN (ex := lawEx L) S8.F.keep F9.keep N9 (fun p hp => by simp [hp])
    have kX : ∀ b o, b ∉ lawEx L → s.heap.get? b = some o → h8.get? b = some o := fun b o hb e => k8 b o (k07 b o (hideAll_get _ e hb))
    have kv : Keep (hideAll h8 (lawEx L)) (vis L [_] _) := fun b o e => hideAll_get _ (k89 b o e) (by
      have hb : b ∉ lawEx L := fun hm => by rw [hideAll_none _ hm] at e; cases e
      rw [List.mem_append, List.mem_singleton, not_or]
      exact ⟨hb, fun q => by rw [q] at e; rw [of_hideAll _ e] at zb; cases zb⟩)
    have el : h8.get? lv ≠ none := fun z => by
      obtain ⟨_, _, _, _, _, _, _, _, _, _, _, _, -, -, -, -, -, e6, -⟩ := P8'
      rw [of_hideAll _ e6] at z
      cases z
    exact cont _ _ _ p _ lv 4 kk mn _ _ _ {
      S := S9
      script := rfl
      size := rfl
      many := rfl
      seats := rfl
      profile := rfl
      ballots := rfl
      cases := hkk
      mn34 := hmn
      prof := P8'.keeps kv
      lbo := ⟨_, (N9 _ (.head _)).1⟩
      ne := fun q => el (q ▸ zb)
      lb0 := ⟨(N9 _ (.head _)).2.2, lbx⟩
      lv0 := hv0
      kx := fun b o hb _ e => k89 b o (hideAll_get _ (kX b o hb e) hb) }
end

end
section
section
variable {prog : Program} {A : Around} {E : Value → Shared → Prop} {s : Shared} {Q : Value → Shared → Prop}
theorem new_list {vs : List Value} (hsz : vs.length ≤ 1000) (h : ∀ H D, Keep s.heap H → s.heap.get? D = none → H.get? D = some (seqObj "list" vs.toArray 0) → Q (.ref D) { s with heap := H }) : wpAny (model prog w) A (newList vs) Q E s :=
  wpAny_newList (h _ _ (fun b o e => Heap.get?_push_of_some _ e) (Heap.get?_none_of_le (Nat.le_refl _)) (Heap.get?_push_size _ rfl)) (by rw [sizeLine_eq]; omega)
theorem new_tuple {vs : List Value} (hsz : vs.length ≤ 1000) (h : ∀ H D, Keep s.heap H → s.heap.get? D = none → H.get? D = some (seqObj "tuple" vs.toArray 0) → Q (.ref D) { s with heap := H }) : wpAny (model prog w) A (newTuple vs) Q E s :=
  wpAny_newTuple (h _ _ (fun b o e => Heap.get?_push_of_some _ e) (Heap.get?_none_of_le (Nat.le_refl _)) (Heap.get?_push_size _ rfl)) (by rw [sizeLine_eq]; omega)
theorem sub_list {value slice : Expr} {l : Addr} {items : Array Value} {i : Nat} {t : Tok} {x : Value} {ops : List Value} (hl : s.heap.IsList l items) (hi : i < 1000) (hx : items[i]? = some x) (h : Q x s)
    (hs : subscripted slice false (.ref l) (.int (i : Nat) t) = operate ops (getItem (.ref l) (.int (i : Nat) t))) : wpAny (model prog w) A (subscriptTail value slice (.ref l) (.int (i : Nat) t)) Q E s :=
  tail_any hl.typeIs list_getitem_lookup (wpAny_getItem_list hl (by omega) (by omega) (by simpa using hx) h) hs
theorem sub_pair {value slice : Expr} {T : Addr} {a b : Value} {i : Nat} {t : Tok} {x : Value} {ops : List Value} (hl : s.heap.IsTuple T #[a, b]) (hx : (i = 0 ∧ x = a) ∨ (i = 1 ∧ x = b)) (h : Q x s)
    (hs : subscripted slice false (.ref T) (.int (i : Nat) t) = operate ops (getItem (.ref T) (.int (i : Nat) t))) : wpAny (model prog w) A (subscriptTail value slice (.ref T) (.int (i : Nat) t)) Q E s := by
  refine tail_any hl.typeIs slot_tuple_getitem.lookup (getItem_tuple hl (j := i) (by omega) (by omega) ?_ ?_ h) hs
  · rcases hx with ⟨rfl, rfl⟩ | ⟨rfl, rfl⟩ <;> rfl
  · rcases hx with ⟨rfl, rfl⟩ | ⟨rfl, rfl⟩ <;> rfl
theorem sub_menu {value slice : Expr} {l : Addr} {a b c d : Int} {ta tb tc td t : Tok} {i n : Nat} {ops : List Value} (e : s.heap.get? l = some (seqObj "list" (List.toArray [Value.int a ta, Value.int b tb, Value.int c tc, Value.int d td]) n)) (hi : i < 4)
    (h : ∀ v t', ([a, b, c, d] : List Int)[i]? = some v → Q (.int v t') s) (hs : subscripted slice false (.ref l) (.int (i : Nat) t) = operate ops (getItem (.ref l) (.int (i : Nat) t))) : wpAny (model prog w) A (subscriptTail value slice (.ref l) (.int (i : Nat) t)) Q E s := by
  obtain ⟨v, t', h1, h2⟩ : ∃ v t', (List.toArray [Value.int a ta, Value.int b tb, Value.int c tc, Value.int d td])[i]? = some (.int v t') ∧ ([a, b, c, d] : List Int)[i]? = some v := by
    have : i = 0 ∨ i = 1 ∨ i = 2 ∨ i = 3 := by omega
    rcases this with rfl | rfl | rfl | rfl <;> exact ⟨_, _, rfl, rfl⟩
  exact sub_list ⟨_, e, rfl, _, rfl⟩ (by omega) h1 (h v t' h2) hs
theorem range_1 {n : Int} {t : Tok} (h : ∀ r t u z h' tk, IsRange h' r 0 n 1 t u z → Keep s.heap h' → s.heap.get? r = none → Q (.ref r) { s with heap := h', toks := tk }) : wpAny (model prog w) A (call (.type "range") [.int n t]) Q E s :=
  call_range_1 (h _ _ _ _ _ _ (IsRange.new ..) (fun b o e => Heap.get?_push_of_some _ e) (Heap.get?_none_of_le (Nat.le_refl _)))
theorem range_2 {a n : Int} {t t' : Tok} (h : ∀ r t u z h' tk, IsRange h' r a n 1 t u z → Keep s.heap h' → s.heap.get? r = none → Q (.ref r) { s with heap := h', toks := tk }) : wpAny (model prog w) A (call (.type "range") [.int a t, .int n t']) Q E s :=
  call_range_2 (h _ _ _ _ _ _ (IsRange.new ..) (fun b o e => Heap.get?_push_of_some _ e) (Heap.get?_none_of_le (Nat.le_refl _)))
end
theorem hide_mono {h : Heap} {ex ex' : List Addr} (hs : ∀ b ∈ ex', b ∈ ex) : Keep (hideAll h ex) (hideAll h ex') := fun b o e => by
  have hb : b ∉ ex := fun hm => by rw [hideAll_none _ hm] at e; cases e
  exact hideAll_get _ (of_hideAll _ e) fun hm => hb (hs b hm)
theorem vis_mono {L : Addr} {h : Heap} {mu mu' : List Addr} (hs : ∀ b ∈ mu', b ∈ mu) : Keep (vis L mu h) (vis L mu' h) := hide_mono fun b hb => by
  rcases List.mem_append.mp hb with hb | hb
  · exact List.mem_append_left _ hb
  · exact List.mem_append_right _ (hs b hb)
theorem vis_get {L a : Addr} {h : Heap} {mu : List Addr} {o : Obj} (e : h.get? a = some o) (h1 : a ∉ lawEx L) (h2 : a ∉ mu) : (vis L mu h).get? a = some o := hideAll_get _ e (by rw [List.mem_append, not_or]; exact ⟨h1, h2⟩)
theorem vis_no {L a : Addr} {h : Heap} {mu : List Addr} {o : Obj} (e : (vis L mu h).get? a = some o) : a ∉ lawEx L ∧ a ∉ mu := by
  have hb : a ∉ lawEx L ++ mu := fun hm => by rw [hideAll_none _ hm] at e; cases e
  rwa [List.mem_append, not_or] at hb
theorem LawSt.went {g : Heap} {L : Addr} {m cm : Str → Option Value} {s s' : Shared} (S : LawSt w mg mb g L m cm s.heap) (W : Went w s s') : LawSt w mg mb g L m cm s'.heap :=
  S.extBut (mu := tabs) (fun b o hb e => W.k b o hb e) S.nL (fun i h1 h5 => S.nC i h1 h5) (fun a ha => S.B.no a ha) W.tab

end
section
section
variable {h h' : Heap} {L p lv x : Addr} {mu : List Addr} {n : Nat} {vs : List (Addr × List Nat × Int)} {B : List Nat} {wt : Int}
theorem tabs_lawEx {a : Addr} (h : a ∈ tabs) : a ∈ lawEx L := by
  simp only [List.mem_cons, List.not_mem_nil, or_false] at h ⊢
  rcases h with rfl | rfl | rfl <;> simp
theorem prof_snoc (P : ProfAtL w (vis L mu h) p lv n vs) (hn : 0 < n) (k : ∀ b o, b ∉ lv :: tabs → h.get? b = some o → h'.get? b = some o) {nn : Nat}
    (el : h'.get? lv = some { cls := .type "list", data := .seq ((vs.map fun q => Value.ref q.1).toArray.push (.ref x)) nn }) (V : VoterNew w h (hideAll h' tabs) x B wt) (zx : h.get? x = none) (hmu : ∀ a ∈ lawEx L ++ mu, h.get? a ≠ none) :
    ProfAtL w (vis L mu h') p lv n (vs ++ [(x, B, wt)]) := by
  obtain ⟨dp, lc, ln, h1, a1, h2, a2, h3, a3, c, cs, m, e1, e2, ⟨o, e3, hc, m3, hd⟩, e4, e5, e6, e7⟩ := P
  have elv := e6
  have off := fun {b : Addr} {o : Obj} (e : (vis L mu h).get? b = some o) => vis_no e
  have kk : ∀ {b o}, (vis L mu h).get? b = some o → b ≠ lv → (vis L mu h').get? b = some o := fun {b o} e ne => by
    refine vis_get (k b o ?_ (vis_le _ _ e)) (off e).1 (off e).2
    rw [List.mem_cons, not_or]
    exact ⟨ne, fun hm => (off e).1 (tabs_lawEx hm)⟩
  have nl : ∀ {b o}, (vis L mu h).get? b = some o → o.cls ≠ .type "list" → b ≠ lv := fun {b o} e ho q => by
    rw [q, elv] at e
    exact ho (by rw [← Option.some.inj e])
  have kl : Keep (hideAll (vis L mu h) [lv]) (vis L mu h') := fun b o e => by
    have hb : b ∉ [lv] := fun hm => by rw [hideAll_none _ hm] at e; cases e
    exact kk (of_hideAll _ e) (by simpa using hb)
  have nlc : lc ≠ lv := fun q => by
    rw [q, elv] at e3
    have := Option.some.inj e3
    rw [← this] at hd
    injection hd with hd _
    cases vs with
    | nil => rw [← hd] at e4; simp at e4; omega
    | cons v vs =>
      obtain ⟨t, ht⟩ := e5 0 (.ref v.1) (by rw [← hd]; rfl)
      cases ht
  obtain ⟨hB, dv, cs2, dcs, tf, ep, led, g1, b1, g2, b2, t2, c2, ⟨w1, w2, w3, w4⟩, z2, z3⟩ := V
  have new : ∀ {a o}, h.get? a = none → (hideAll h' tabs).get? a = some o → (vis L mu h').get? a = some o := fun {a o} z e => hideAll_get _ (of_hideAll _ e) fun hm => hmu a hm z
  refine ⟨dp, lc, ln, h1, a1, h2, a2, h3, a3, c, cs, nn, kk e1 (nl e1 (by simp)), kk e2 (nl e2 (by simp)), ⟨o, kk e3 nlc, hc, m3, hd⟩, e4, e5, ?_, ?_⟩
  · rw [vis_get el (off elv).1 (off elv).2]
    simp
  · intro q hq
    rcases List.mem_append.mp hq with hq | hq
    · obtain ⟨hA, dv', cs', dcs', tf', ep', led', y1, u1, y2, u2, t', c', i1, i2, i3, i4⟩ := e7 q hq
      exact ⟨hA, dv', cs', dcs', tf', ep', led', y1, u1, y2, u2, t', c', kk i1 (nl i1 (by simp)), kk i2 (nl i2 (by simp)), kk i3 (nl i3 (by simp)), i4⟩
    · rw [List.mem_singleton.mp hq]
      exact ⟨hB, dv, cs2, dcs, tf, ep, led, g1, b1, g2, b2, t2, c2, new zx w1, new z2 w2, new z3 w3, w4⟩
end

end
section
local macro_rules | `(tactic| walk_at "call type:range") => `(tactic| refine stopHere ?_)
local macro_rules | `(tactic| walk_at "call builtin:list.append") => `(tactic| refine stopHere ?_)
local macro_rules | `(tactic| walk_at "newList") => `(tactic| refine stopHere ?_)
local macro_rules | `(tactic| walk_at "newTuple") => `(tactic| refine stopHere ?_)
local macro_rules | `(tactic| walk_at "call ref") => `(tactic| refine stopHere ?_)
local macro_rules | `(tactic| walk_at "call builtin:abs") => `(tactic| refine stopHere ?_)
local macro_rules | `(tactic| walk_at "eval ListComp") => `(tactic| refine stopHere ?_)
local macro_rules | `(tactic| walk_at "subscriptTail") => `(tactic| refine stopHere ?_)
local macro_rules | `(tactic| walk_at "eval Call") => `(tactic| ((with_reducible show wpAny _ _ (eval (Expr.Call (Expr.Name _ _) _ _ _) _) _ _ _); refine wpAny_Call_Name_kw ?_))
local macro_rules | `(tactic| walk_at "eval Name") => `(tactic| first
  | (refine nameLS (by assumption) rfl (by first | assumption | exact upd_here) rfl rfl (by decide) ?_)
  | (refine nameCS (i := 1) (by assumption) rfl (by decide +kernel) (by first | assumption | exact upd_here) rfl rfl (by decide) ?_)
  | (refine nameBS (by assumption) rfl rfl (by k_is) (by decide +kernel) (by decide) rfl rfl (by decide) ?_)
  | (refine nameGS (by assumption) rfl (by k_is) rfl rfl (by decide) ?_))
section
variable {dp un : Nat} {gd : Option (List Code)} {s : Shared} {Q : Flow → Shared → Prop} {sc L p lb lv : Addr} {items : List Value} {ns : List Int} {g : Heap} {m cm : Str → Option Value} {n i : Nat} {vs : List (Addr × List Nat × Int)} {bs : List (List Nat × Int)} {mu : List Addr} {ts tk : Tok}
/-- an element of the law's ballots -/
def BalE (h : Heap) (v : Value) (q : List Nat × Int) : Prop := ∃ T la t, v = .ref T ∧ h.IsTuple T #[.ref la, .int q.2 t] ∧ IntL h (.ref la) q.1
theorem BalE.keeps {h h' : Heap} {v : Value} {q : List Nat × Int} (x : BalE h v q) (k : Keep h h') : BalE h' v q := let ⟨T, la, t, e1, ⟨o, e2, r⟩, e3⟩ := x; ⟨T, la, t, e1, ⟨o, k _ _ e2, r⟩, e3.keeps k⟩
def loopB : List Stmt := inBody (lawSt 6)
theorem range_bits : ∀ n ∈ [3, 4], ∀ b0 b1 b2 b3 : Bool, ((List.range n).filter fun i => match i with | 0 => b0 | 1 => b1 | 2 => b2 | _ => b3) ∈ sub4 := by decide +kernel
theorem bits_sub {n : Nat} (hn : n = 3 ∨ n = 4) (f : Nat → Bool) : (List.range n).filter f ∈ sub4 := by
  have h1 := range_bits n (by simp [hn]) (f 0) (f 1) (f 2) (f 3)
  have e : (List.range n).filter f = (List.range n).filter fun i => match i with | 0 => f 0 | 1 => f 1 | 2 => f 2 | _ => f 3 := List.filter_congr fun i hi => by
    have := List.mem_range.mp hi
    match i with
    | 0 => rfl
    | 1 => rfl
    | 2 => rfl
    | 3 => rfl
    | i + 4 => omega
  rw [e]; exact h1
theorem paired_ints : ∀ {C : List Nat} {ys : List Value}, Paired (fun (i : Nat) y => ∃ t, y = Value.int (i : Nat) t) C ys → IntsAre ys (C.map fun (k : Nat) => (k : Int))
  | _, _, .nil => .nil
  | _, _, .cons h r => by
    obtain ⟨t, rfl⟩ := h
    exact .cons _ _ (paired_ints r)
/-- what a turn of the ballots' loop leaves -/
structure TurnB (w : World) (mg mb : Str → Option Value) (g : Heap) (L p lb lv : Addr) (m : Str → Option Value) (mu : List Addr) (n : Nat) (vs : List (Addr × List Nat × Int)) (bs : List (List Nat × Int)) (s s' : Shared) (cm' : Str → Option Value) (x : Addr) (B : List Nat) (wt : Int) (its : List Value) (nn : Nat) : Prop where
  S : LawSt w mg mb g L m cm' s'.heap
  prof : ProfAtL w (vis L (lb :: mu) s'.heap) p lv n (vs ++ [(x, B, wt)])
  elb : s'.heap.get? lb = some (seqObj "list" its.toArray nn)
  len : its.length = bs.length + 1
  bal : ∀ (j : Nat) (v : Value), its[j]? = some v → BalE (vis L (lb :: lv :: mu) s'.heap) v ((bs ++ [(B, wt)]).getD j ([], 0))
  sub : B ∈ sub4
  pos : 0 < wt
  lt : ∀ c ∈ B, c < n
  kx : KX L [lb, lv] s.heap s'.heap
  gens : GensOk s.gens s'.gens
  drawn : s'.drawn = s.drawn
  os : s'.os = s.os
theorem turn_b (hdp : dp + 120 < recursionLimit) (hu : un + 1600 < cLine) (hi : i < 4) (S : LawSt w mg mb g L m cm s.heap) (hsc : m (Str.ofString "script") = some (.ref sc)) (hS : g.IsList sc items.toArray) (hI : IntsAre items ns) (hlen : items.length ≤ 1000)
    (hsz : m (Str.ofString "size") = some (.int (n : Nat) ts)) (hk : m (Str.ofString "k") = some (.int (i : Nat) tk)) (hp : m (Str.ofString "profile") = some (.ref p)) (hb : m (Str.ofString "ballots") = some (.ref lb)) (hn : n = 3 ∨ n = 4)
    (PA : ProfAtL w (vis L (lb :: mu) s.heap) p lv n vs) {its : List Value} {nn : Nat} (elb : s.heap.get? lb = some (seqObj "list" its.toArray nn)) (hits : its.length = bs.length) (hbl : bs.length = i) (hvl : vs.length = i)
    (BE : ∀ (j : Nat) (v : Value), its[j]? = some v → BalE (vis L (lb :: lv :: mu) s.heap) v (bs.getD j ([], 0))) (lb0 : g.get? lb = none ∧ lb ∉ lawEx L) (lv0 : g.get? lv = none ∧ lv ∉ lawEx L) (hne : lb ≠ lv) (hlm : lb ∉ mu) (hvm : lv ∉ mu) (hmu : ∀ a ∈ mu, s.heap.get? a ≠ none ∧ a ∉ lawEx L)
    (h : ∀ s' cm' x B wt its' nn', TurnB w mg mb g L p lb lv m mu n vs bs s s' cm' x B wt its' nn' → Q .next s') :
    wpAny (model PP w) ((aro dp un (some []) gd).deeper (lawEnv L)) (execs loopB (lawEnv L)) Q never s := by
  generalize hB : loopB = body
  generalize hE : lawEnv L = env
  unfold lawEnv at hE
  generalize hSc : lawScope = scp at hE
  conv at hSc => lhs; whnf
  conv at hB => lhs; whnf
  dsimp only at hSc hB
  subst hSc hE hB
  have F0 := S.F
  have X' := S.B.X
  have T' := S.B.T
  refine execs_next (asgC (mg := mg) (mb := mb) (g := g) (L := L) (i := 1) rfl (by decide +kernel) rfl rfl rfl ?_)
  k_steps
  refine new_list (by simp) fun h1 l1 k1 zl1 el1 => ?_
  have S1 := S.keeps k1
  have F1 := S1.F
  clear F0
  k_steps
  refine sub_menu el1 hi (fun v1 t1 hv1 => ?_) rfl
  k_steps
  show wpAny _ _ (call (.ref 729) [.ref sc, .int _ _, .int _ _]) _ _ _
  refine law_at ?d1 ?u1 S1.good.good (let ⟨o, e, r⟩ := hS; ⟨o, S1.F.keep _ _ e, r⟩) hI hlen (by omega) fun h2 tk2 v2 t2 k2 => ?_
  case d1 => walk_at "m_around"
  case u1 => walk_at "m_around"
  refine ⟨_, _, S1.keeps k2, fun h3 tk3 S3 hs3 => ⟨trivial, ?_⟩⟩
  have kx3 : KX L [] s.heap h3 := (KX.of_keep (Keep.trans k1 k2)).trans (KX.same (by simp) hs3)
  clear S1 F1
  have F3 := S3.F
  have hcell := S3.cellAt (x := Str.ofString "number") (i := 1) (by simp)
  rw [show upd cm (Str.ofString "number") (.int v2 t2) (Str.ofString "number") = some (.int v2 t2) from upd_here] at hcell
  have elb3 : h3.get? lb = some (seqObj "list" its.toArray nn) := kx3 _ _ lb0.2 (by simp) elb
  refine execs_next (wpAny_Expr ?_ rfl rfl)
  refine wpAny_Call_append rfl rfl rfl rfl ?_
  refine nameLS S3 rfl hb rfl rfl (by decide) ⟨lb, its.toArray, rfl, ⟨_, _, elb3, rfl, rfl, rfl⟩, ?_⟩
  k_steps
  show wpAny _ _ _ _ _ _
  refine bit_comp (N := n) rfl hn rfl (by decide) rfl (by decide) (fun _ => rfl) (fun _ => rfl) (fun _ => rfl) (by decide) (by decide) rfl hcell (fun Q' hQ' => ?_) fun l4 h4 tk4 ys zl4 k4 pl4 pr4 => ?_
  · k_steps
    show wpAny _ _ _ _ _ _
    exact range_1 fun r t u z h' tk hr kr _ => hQ' r t u z h' tk hr kr
  have S4 := S3.keeps k4
  have F4 := S4.F
  clear F3
  k_steps
  refine new_list (by simp) fun h5 l5 k5 zl5 el5 => ?_
  have S5 := S4.keeps k5
  have F5 := S5.F
  clear F4
  k_steps
  refine sub_menu el5 hi (fun v5 t5 hv5 => ?_) rfl
  k_steps
  show wpAny _ _ (call (.ref 729) [.ref sc, .int _ _, .int _ _]) _ _ _
  refine law_at ?d2 ?u2 S5.good.good (let ⟨o, e, r⟩ := hS; ⟨o, S5.F.keep _ _ e, r⟩) hI hlen (by omega) fun h6 tk6 v6 t6 k6 => ?_
  case d2 => walk_at "m_around"
  case u2 => walk_at "m_around"
  have S6 := S5.keeps k6
  have F6 := S6.F
  clear F5
  k_steps
  show wpAny _ _ _ _ _ _
  refine call_abs_int fun u6 tk6' => ?_
  obtain ⟨wa, hwa, hwa0⟩ : ∃ wa : Int, wa = (if v6 < 0 then -v6 else v6) ∧ 0 ≤ wa := ⟨_, rfl, by split <;> omega⟩
  rw [← hwa]
  k_steps
  refine new_tuple (by simp) fun h7 T7 k7 zT7 eT7 => ?_
  have S7 := S6.keeps k7
  have k37 : Keep h3 h7 := Keep.trans k4 (Keep.trans k5 (Keep.trans k6 k7))
  have elb7 := k37 _ _ elb3
  clear F6
  k_steps
  show wpAny _ _ _ _ _ _
  refine wpAny_list_append_plain (items := its.toArray) ⟨nn, elb7⟩ (fun h8 pl8 hs8 => ?_) (by rw [List.size_toArray, sizeLine_eq]; omega)
  have off8 : ∀ a ∈ [lb], g.get? a = none ∧ a ∉ lawEx L := fun a ha => by rw [List.mem_singleton.mp ha]; exact lb0
  have S8 : LawSt w mg mb g L m (upd cm (Str.ofString "number") (.int v2 t2)) h8 := S7.off (mu := [lb]) (fun b o hb e => hs8.extBut b o (by simpa using hb) e) off8
  have kx8 : KX L [lb] s.heap h8 := ((kx3.trans (KX.of_keep k37)).more (by simp)).trans (KX.sameM (by simp) hs8)
  obtain ⟨n8, elb8⟩ := pl8
  dsimp only
  refine ⟨trivial, ?_⟩
  -- what is at hand
  obtain ⟨c4, pl4⟩ := pl4
  have ne : ∀ {a : Addr} {o : Obj} {H : Heap}, H.get? a = none → (∃ o, H.get? lb = some o) → a ≠ lb := fun z ⟨o, e⟩ q => by rw [q, e] at z; cases z
  have nT7 : T7 ≠ lb := fun q => by rw [q] at zT7; rw [k6 _ _ (k5 _ _ (k4 _ _ elb3))] at zT7; cases zT7
  have nl4 : l4 ≠ lb := fun q => by rw [q] at zl4; rw [elb3] at zl4; cases zl4
  have eT8 : h8.get? T7 = some (seqObj "tuple" (List.toArray [.ref l4, .int (1 + wa) tk6']) 0) := hs8.extBut _ _ nT7 eT7
  have el8 : h8.get? l4 = some (seqObj "list" ys.toList.toArray c4) := hs8.extBut _ _ nl4 (k7 _ _ (k6 _ _ (k5 _ _ (by rw [Array.toArray_toList]; exact pl4))))
  have hB := bits_sub hn (bitOf v2)
  have hlt : ∀ c ∈ (List.range n).filter (bitOf v2), c < n := fun c hc => List.mem_range.mp (List.mem_filter.mp hc).1
  have hIB : IntsAre ys.toList (((List.range n).filter (bitOf v2)).map fun (k : Nat) => (k : Int)) := paired_ints pr4
  generalize hBq : (List.range n).filter (bitOf v2) = B at hB hlt hIB
  have oT : T7 ∉ lawEx L := (S6.newOff zT7).2
  have ol : l4 ∉ lawEx L := (S3.newOff zl4).2
  have X8 := S8.B.X
  have T8 := S8.B.T
  have F8 := S8.F
  have P8 : ProfAtL w (vis L (lb :: mu) h8) p lv n vs := PA.keeps (vis_keep (kx8.more (by simp)))
  obtain ⟨dpp, lc, ln, y1, a1, y2, a2, y3, a3, c, cs, m3, e1, e2, e3, e4, e5, e6, e7⟩ := id P8
  have I8 : InstAt h8 p (instObj 681 dpp) 681 (some (dictOf (pfEs y1 a1 lc y2 a2 ln y3 a3 lv) c)) := ⟨vis_le _ _ e1, rfl, rfl, vis_le _ _ e2⟩
  have hget : (its.toArray.push (.ref T7))[i]? = some (.ref T7) := by
    have : its.toArray.size = i := by rw [List.size_toArray, hits, hbl]
    rw [← this]; exact Array.getElem?_push_size
  refine execs_next (wpAny_Expr ?_ rfl rfl)
  refine methodCall_KW ?_
  refine nameLS S8 rfl hp rfl rfl (by decide) ?_
  refine method_inst S8.F S8.B.X I8 (by k_is) (by k_is) (by k_is) rfl ?_
  k_steps
  refine sub_list (l := lb) ⟨_, elb8, rfl, _, rfl⟩ (by omega) hget ?_ rfl
  k_steps
  refine sub_pair (T := T7) (i := 0) ⟨_, eT8, rfl, _, rfl⟩ (.inl ⟨rfl, rfl⟩) ?_ rfl
  k_steps
  refine sub_list (l := lb) ⟨_, elb8, rfl, _, rfl⟩ (by omega) hget ?_ rfl
  k_steps
  refine sub_pair (T := T7) (i := 1) ⟨_, eT8, rfl, _, rfl⟩ (.inr ⟨rfl, rfl⟩) ?_ rfl
  k_steps
  show wpAny _ _ (call (.ref 718) [.ref l4, .int (1 + wa) tk6']) _ _ _
  have hlen2 := hIB.length
  rw [List.length_map] at hlen2
  refine voter_new1 (A := B) ?d3 ?u3 S8.good ?Sy (by omega) fun s9 x W9 z9 V9 => ?_
  case d3 => walk_at "m_around"
  case u3 => walk_at "m_around"
  case Sy =>
    refine src_list hB ⟨_, hideAll_get _ el8 (fun hm => ol (tabs_lawEx hm)), rfl, _, rfl⟩ (by rw [List.size_toArray]; exact hlen2) fun j v hj => ?_
    obtain ⟨k, t, rfl, q⟩ := hIB.at j v (by simpa using hj)
    rw [List.getElem?_map] at q
    cases r : B[j]? with
    | none => rw [r] at q; cases q
    | some z => rw [r] at q; cases q; exact ⟨t, by rw [List.getD_eq_getElem?_getD, r]; rfl⟩
  have S9 := S8.went W9
  have F9 := S9.F
  clear F8
  k_steps
  show wpAny _ _ (call (.ref 594) [.ref p, .ref x]) _ _ _
  have P9 : ProfAtL w (vis L (lb :: mu) s9.heap) p lv n vs := P8.keeps (vis_keep (KX.went W9))
  obtain ⟨dp9, lc9, ln9, y91, a91, y92, a92, y93, a93, c9, cs9, m9, f1, f2, f3, f4, f5, f6, f7⟩ := id P9
  have lvt : lv ∉ tabs := fun hm => lv0.2 (tabs_lawEx hm)
  have nlv : ∀ {b o}, (vis L (lb :: mu) s9.heap).get? b = some o → o.cls ≠ .type "list" → b ∉ lv :: tabs := fun {b o} e ho hm => by
    rcases List.mem_cons.mp hm with q | hm
    · rw [q, f6] at e
      exact ho (by rw [← Option.some.inj e])
    · exact (vis_no e).1 (tabs_lawEx hm)
  refine addv (lv := lv) ?d4 ?u4 S9.good (S9.B.keeps (fun b o e => hideAll_get _ (S9.F.keep b o e) (fun hm => ?k9)) (fun b hb => hideAll_none _ (List.mem_cons_of_mem _ hb))) (V9.at) (P9.prof.keeps (hide_mono fun b hb => List.mem_append_left _ (tabs_lawEx hb)))
    (⟨hideAll_get _ (vis_le _ _ f1) (nlv f1 (by simp)), rfl, rfl, hideAll_get _ (vis_le _ _ f2) (nlv f2 (by simp))⟩ : InstAt (hideAll s9.heap (lv :: tabs)) p _ 681 _) (vis_le _ _ f6) lvt (by omega) (by omega) hlt ?hsz9 fun s10 x2 n10 k10 t10 g10 d10 o10 z10 V10 el10 => ?_
  case k9 =>
    rcases List.mem_cons.mp hm with q | hm
    · rw [q, lv0.1] at e; cases e
    · rw [S9.B.no _ hm] at e; cases e
  case d4 => walk_at "m_around"
  case u4 => walk_at "m_around"
  case hsz9 => rw [List.size_toArray, List.length_map]; omega
  have S10 : LawSt w mg mb g L m (upd cm (Str.ofString "number") (.int v2 t2)) s10.heap := S9.extBut (mu := lv :: tabs) k10 (fun hm => by
      rcases List.mem_cons.mp hm with q | hm
      · exact lv0.2 (q ▸ List.mem_cons_self ..)
      · exact S9.nL hm) (fun j h1 h5 hm => by
      rcases List.mem_cons.mp hm with q | hm
      · refine lv0.2 (q ▸ ?_)
        have : j = 1 ∨ j = 2 ∨ j = 3 ∨ j = 4 ∨ j = 5 := by omega
        rcases this with rfl | rfl | rfl | rfl | rfl <;> simp
      · exact S9.nC j h1 h5 hm) (fun a ha => by
      rcases List.mem_cons.mp ha with q | ha
      · rw [q]; exact lv0.1
      · exact S9.B.no a ha) t10
  have kx10 : KX L [lb, lv] s.heap s10.heap := ((kx8.trans (KX.went W9)).more (by simp)).trans fun b o h1 h2 e => k10 b o (fun hm => by
    rcases List.mem_cons.mp hm with q | hm
    · exact h2 (by simp [q])
    · exact h1 (tabs_lawEx hm)) e
  have live9 : ∀ a ∈ lawEx L ++ lb :: mu, s9.heap.get? a ≠ none := fun a ha z => by
    obtain ⟨z1, z2⟩ := S9.newOff z
    rcases List.mem_append.mp ha with ha | ha
    · exact z2 ha
    · rcases List.mem_cons.mp ha with q | ha
      · rw [q, W9.k _ _ (fun hm => lb0.2 (tabs_lawEx hm)) elb8] at z; cases z
      · obtain ⟨z3, z4⟩ := hmu a ha
        have nlb : a ∉ [lb] := by rw [List.mem_singleton]; exact fun q => hlm (q ▸ ha)
        cases q : s.heap.get? a with
        | none => exact z3 q
        | some o => rw [KX.went (L := L) (mu := [lb]) W9 a o z4 nlb (kx8 a o z4 nlb q)] at z; cases z
  dsimp only
  refine ⟨trivial, wpAny_execs_nil ?_⟩
  refine h s10 _ x2 B (1 + wa) (its ++ [.ref T7]) n8 ⟨S10, prof_snoc P9 (by omega) k10 el10 V10 z10 live9, ?_, by simp [hits], fun j v hj => ?_, hB, by omega, hlt, kx10, W9.gens.trans g10, d10.trans W9.drawn, o10.trans W9.os⟩
  · refine k10 _ _ (fun hm => ?_) (W9.k _ _ (fun hm => lb0.2 (tabs_lawEx hm)) (by rw [elb8]; simp))
    rcases List.mem_cons.mp hm with q | hm
    · exact hne q
    · exact lb0.2 (tabs_lawEx hm)
  · have tr : ∀ {a o}, a ∉ lawEx L → a ∉ lb :: lv :: mu → h8.get? a = some o → (vis L (lb :: lv :: mu) s10.heap).get? a = some o := fun {a o} q1 q2 e => vis_get (k10 _ _ (fun hm => by
      rcases List.mem_cons.mp hm with q | hm
      · exact q2 (by simp [q])
      · exact q1 (tabs_lawEx hm)) (W9.k _ _ (fun hm => q1 (tabs_lawEx hm)) e)) q1 q2
    rcases Nat.lt_trichotomy j its.length with c1 | c1 | c1
    · rw [List.getElem?_append_left c1] at hj
      have := BE j v hj
      rw [show (bs ++ [(B, 1 + wa)]).getD j ([], 0) = bs.getD j ([], 0) from by rw [List.getD_eq_getElem?_getD, List.getD_eq_getElem?_getD, List.getElem?_append_left (by omega)]]
      exact this.keeps (vis_keep (kx10.more (by simp)))
    · subst c1
      rw [List.getElem?_append_right (Nat.le_refl _), Nat.sub_self] at hj
      cases hj
      rw [show (bs ++ [(B, 1 + wa)]).getD its.length ([], 0) = (B, 1 + wa) from by rw [List.getD_eq_getElem?_getD, hits, List.getElem?_append_right (Nat.le_refl _), Nat.sub_self]; rfl]
      have new : ∀ {a : Addr} {H : Heap}, H.get? a = none → KX L [lb] s.heap H → (∃ o, H.get? lv = some o) → a ≠ lb → a ∉ lb :: lv :: mu := fun {a H} z kH ⟨ol, el⟩ nb hm => by
        rcases List.mem_cons.mp hm with q | hm
        · exact nb q
        · rcases List.mem_cons.mp hm with q | hm
          · rw [q, el] at z; cases z
          · obtain ⟨z3, z4⟩ := hmu a hm
            cases q : s.heap.get? a with
            | none => exact z3 q
            | some o => rw [kH a o z4 (by simpa using nb) q] at z; cases z
      obtain ⟨_, _, _, _, _, _, _, _, _, _, _, _, -, -, -, -, -, i6, -⟩ := id PA
      have lv3 : ∃ o, h3.get? lv = some o := ⟨_, kx3 _ _ lv0.2 (by simp) (vis_le _ _ i6)⟩
      have kx6 : KX L [lb] s.heap h6 := (kx3.trans (KX.of_keep (Keep.trans k4 (Keep.trans k5 k6)))).more (by simp)
      exact ⟨T7, l4, _, rfl, ⟨_, tr oT (new zT7 kx6 (let ⟨o, e⟩ := lv3; ⟨o, k6 _ _ (k5 _ _ (k4 _ _ e))⟩) nT7) eT8, rfl, _, rfl⟩, l4, _, _, rfl, tr ol (new zl4 (kx3.more (by simp)) lv3 nl4) el8, hIB⟩
    · rw [List.getElem?_eq_none (by rw [List.length_append, List.length_singleton]; omega)] at hj; cases hj
end

end
section
section
variable {prog : Program} {A : Around} {s : Shared} {env : Env} {x : Str} {px : Pos} {body : List Stmt} {E : Value → Shared → Prop}
/-- a for loop over a range by ones -/
theorem forR {r : Addr} {a : Int} {N : Nat} {t u z : Tok} {R : Result → Shared → Prop} (hh : A.handled = none) (hr : IsRange s.heap r a (a + N) 1 t u z) (ha : 0 ≤ a) (ha2 : a ≤ 100) (hN : N ≤ 1000) (J : Addr → Nat → Shared → Prop)
    (h0 : ∀ I h', s.heap.get? I = none → Keep s.heap h' → (∃ o, h'.get? I = some o) → J I 0 { s with heap := h' })
    (hJ : ∀ I i s' h' tk, s.heap.get? I = none → J I i s' → (∀ b o, b ∉ [I] → s'.heap.get? b = some o → h'.get? b = some o) → J I i { s' with heap := h', toks := tk })
    (step : ∀ I i t s₁, s.heap.get? I = none → i < N → J I i s₁ → (∃ o, s₁.heap.get? I = some o) → wpAny (model prog w) A (assign (.Name x px) env (.int (a + i) t)) (fun _ s₂ => wpAny (model prog w) A (execs body env) (fun f s₃ => f = .next ∧ (∀ o, s₁.heap.get? I = some o → s₃.heap.get? I = some o) ∧ J I (i + 1) s₃) never s₂) never s₁)
    (hR : ∀ I s', s.heap.get? I = none → J I N s' → R (.ok .next) s') :
    wpAny (model prog w) A (pyIter (.ref r)) (fun it s₂ => codeAny (model prog w) A (.forLoop (.Name x px) it body [] env) R s₂) E s := by
  refine wpAny_pyIter_range hr (small_one (by omega) (by omega) (by omega) (by omega)) ?_
  have hsz : Builtin.Range.rangeSize a (a + N) 1 = (N : Int) := by rw [rangeSize_one]; split <;> omega
  have zI : s.heap.get? s.heap.objs.size = none := Heap.get?_none_of_le (Nat.le_refl _)
  have kk : ∀ {o : Obj}, Keep s.heap (s.heap.push o) := fun b o e => Heap.get?_push_of_some _ e
  rw [hsz]
  refine forW (Walks.range (prog := prog) (w := w) (A := A) hh s.heap.objs.size a 1 N) (fun i s' => J s.heap.objs.size i s') (fun i s' h' tk _ hj hk => hJ _ _ _ _ _ zI hj hk) (fun i v s₁ hi hv st hj => ?_) ?_ (h0 _ _ zI kk ⟨_, Heap.get?_push_size _ rfl⟩) fun s' hj => hR _ s' zI hj
  · obtain ⟨t, rfl⟩ := hv
    rw [Int.mul_one]
    refine wpAny_mono (step _ i t s₁ zI hi hj ⟨_, st⟩) (fun _ s₂ h₂ => wpAny_mono h₂ (fun f s₃ h₃ => ?_) fun _ _ e => e) fun _ _ e => e
    exact ⟨h₃.1, h₃.2.1 _ st, h₃.2.2⟩
  · show IsRangeIter _ _ _ _ _
    rw [show a + ((0 : Nat) : Int) * 1 = a by omega, show (N : Int) - ((0 : Nat) : Int) = N by omega]
    exact Heap.get?_push_size _ rfl
end
theorem lawKind : lawScope.kind = .function := by decide +kernel
theorem lawLoc : ∀ x ∈ [Str.ofString "script", Str.ofString "head", Str.ofString "size", Str.ofString "many", Str.ofString "seats", Str.ofString "profile", Str.ofString "ballots", Str.ofString "k", Str.ofString "told", Str.ofString "total", Str.ofString "committees", Str.ofString "part", Str.ofString "agreed", Str.ofString "deserved", Str.ofString "had", Str.ofString "score"], lawScope.names.lookup x = some .local := by decide +kernel
theorem lawCel : ∀ x ∈ [Str.ofString "number", Str.ofString "committee", Str.ofString "choice", Str.ofString "group", Str.ofString "most"], lawScope.names.lookup x = some .cell := by decide +kernel
theorem lawGlo : ∀ x ∈ [Str.ofString "range", Str.ofString "sum", Str.ofString "len", Str.ofString "min", Str.ofString "max", Str.ofString "sorted", Str.ofString "enumerate", Str.ofString "compute_pav", Str.ofString "thiele_score"], lawScope.names.lookup x = some .globalImplicit := by decide +kernel
theorem drop6 : ∃ p0 p1 p2 p3 p4, lawBody.drop 6 = .For (.Name (Str.ofString "k") p0) (.Call (.Name (Str.ofString "range") p1) [.Name (Str.ofString "many") p2] [] p3) loopB [] p4 :: lawBody.drop 7 := ⟨_, _, _, _, _, rfl⟩
/-- the ballots' list -/
def BalAt (h : Heap) (lb : Addr) (bs : List (List Nat × Int)) : Prop := ∃ its nn, h.get? lb = some (seqObj "list" (List.toArray its) nn) ∧ its.length = bs.length ∧ ∀ (j : Nat) (v : Value), its[j]? = some v → BalE h v (bs.getD j ([], 0))
theorem BalAt.keeps {h h' : Heap} {lb : Addr} {bs : List (List Nat × Int)} (x : BalAt h lb bs) (k : Keep h h') : BalAt h' lb bs := let ⟨its, nn, e1, e2, e3⟩ := x; ⟨its, nn, k _ _ e1, e2, fun j v hj => (e3 j v hj).keeps k⟩
/-- what the law has when its ballots are read -/
structure LawB (w : World) (mg mb : Str → Option Value) (g : Heap) (L : Addr) (s0 s : Shared) (m cm : Str → Option Value) (p lb : Addr) (n k mn : Nat) (vs : List (Addr × List Nat × Int)) (bs : List (List Nat × Int)) (ts tm tn : Tok) : Prop where
  S : LawSt w mg mb g L m cm s.heap
  size : m (Str.ofString "size") = some (.int (n : Nat) ts)
  many : m (Str.ofString "many") = some (.int (mn : Nat) tm)
  seats : m (Str.ofString "seats") = some (.int (k : Nat) tn)
  profile : m (Str.ofString "profile") = some (.ref p)
  ballots : m (Str.ofString "ballots") = some (.ref lb)
  cases : (n, k) ∈ cases4
  mn34 : mn = 3 ∨ mn = 4
  prof : ProfAt w (vis L [] s.heap) p n vs
  bal : BalAt (vis L [] s.heap) lb bs
  eq : vs.map (·.2) = bs
  len : bs.length = mn
  ok : ∀ q ∈ bs, q.1 ∈ sub4 ∧ 0 < q.2 ∧ ∀ c ∈ q.1, c < n
  gens : GensOk s0.gens s.gens
  drawn : s.drawn = s0.drawn
  os : s.os = s0.os
section
variable {dp un : Nat} {gd : Option (List Code)} {s : Shared} {Q : Flow → Shared → Prop} {sc L p lb lv : Addr} {items : List Value} {ns : List Int} {g h0 : Heap} {m m0 cm : Str → Option Value} {n k mn : Nat} {ts tm tn : Tok}
theorem cases_n {n k : Nat} (h : (n, k) ∈ cases4) : n = 3 ∨ n = 4 := by
  simp only [cases4, List.mem_cons, List.not_mem_nil, or_false, Prod.mk.injEq] at h
  omega
theorem law_b (hdp : dp + 120 < recursionLimit) (hu : un + 1600 < cLine) (LA : LawA w mg mb g L m0 cm h0 s.heap m p lb lv n k mn ts tm tn) (hsc : m0 (Str.ofString "script") = some (.ref sc)) (hS : g.IsList sc items.toArray) (hI : IntsAre items ns) (hlen : items.length ≤ 1000)
    (cont : ∀ s' m' cm' vs bs, LawB w mg mb g L s s' m' cm' p lb n k mn vs bs ts tm tn → wpAny (model PP w) ((aro dp un (some []) gd).deeper (lawEnv L)) (execs (lawBody.drop 7) (lawEnv L)) Q never s') :
    wpAny (model PP w) ((aro dp un (some []) gd).deeper (lawEnv L)) (execs (lawBody.drop 6) (lawEnv L)) Q never s := by
  have hn := cases_n LA.cases
  have S := LA.S
  obtain ⟨p0, p1, p2, p3, p4, e6⟩ := drop6
  rw [e6]
  refine execs_next (wpAny_For ?_ (fun _ => rfl))
  refine wpAny_Call_Name_kw ?_
  refine nameBS S rfl rfl (by k_is) (v := .type "range") (by decide +kernel) (by decide) lawKind (lawGlo _ (by decide +kernel)) (by decide) ?_
  refine PySem.callWith_type rfl (Calls.evalArgs_plain (Calls.spliced_cons (nameLS S rfl LA.many lawKind (lawLoc _ (by decide +kernel)) (by decide) (Calls.spliced_nil ?_))))
  refine range_1 fun r t u z h1 tk1 hr k1 zr => ?_
  have S1 := S.keeps k1
  have live : ∀ {a : Addr}, (∃ o, s.heap.get? a = some o) → ∃ o, h1.get? a = some o := fun ⟨o, e⟩ => ⟨o, k1 _ _ e⟩
  obtain ⟨nn0, elb⟩ := LA.lbo
  obtain ⟨_, _, _, _, _, _, _, _, _, _, _, m0', -, -, -, -, -, elv, -⟩ := id LA.prof
  have llb := live ⟨_, elb⟩
  have llv := live ⟨_, vis_le _ _ elv⟩
  refine forR (N := mn) (a := 0) rfl (by rw [Int.zero_add]; exact hr) (by decide) (by decide) (by have := LA.mn34; omega)
    (fun I i s' => ∃ m' cm' vs bs its nn, LawSt w mg mb g L m' cm' s'.heap ∧ (∀ y, y ≠ Str.ofString "k" → m' y = m y) ∧ ProfAtL w (vis L (lb :: [I]) s'.heap) p lv n vs ∧ s'.heap.get? lb = some (seqObj "list" (List.toArray its) nn) ∧ its.length = bs.length ∧ bs.length = i ∧
      (∀ (j : Nat) (v : Value), its[j]? = some v → BalE (vis L (lb :: lv :: [I]) s'.heap) v (bs.getD j ([], 0))) ∧ vs.map (·.2) = bs ∧ (∀ q ∈ bs, q.1 ∈ sub4 ∧ 0 < q.2 ∧ ∀ c ∈ q.1, c < n) ∧ GensOk s.gens s'.gens ∧ s'.drawn = s.drawn ∧ s'.os = s.os)
    ?h0 ?hJ ?step ?hR
  case h0 =>
    intro I h' zI kI lI
    have kk : Keep s.heap h' := Keep.trans k1 kI
    refine ⟨m, cm, [], [], [], nn0, S.keeps kk, fun _ _ => rfl, LA.prof.keeps fun b o e => ?_, kk _ _ elb, rfl, rfl, (fun j v hj => nomatch hj), rfl, (fun q hq => nomatch hq), GensOk.rfl', rfl, rfl⟩
    have hb := vis_no e
    refine vis_get (kk _ _ (vis_le _ _ e)) hb.1 fun hm => ?_
    rcases List.mem_cons.mp hm with q | hm
    · exact hb.2 (by simp [q])
    · rw [List.mem_singleton.mp hm] at e
      have := k1 _ _ (vis_le _ _ e)
      rw [zI] at this; cases this
  case hJ =>
    rintro I i s' h' tk zI ⟨m', cm', vs, bs, its, nn, S', hm, P', e', l1, l2, B', ev, ok, g1, g2, g3⟩ hk
    have oI := S1.newOff zI
    have nlb : lb ∉ [I] := fun hm => by rw [List.mem_singleton.mp hm] at llb; obtain ⟨o, e⟩ := llb; rw [zI] at e; cases e
    have tr : ∀ {mu}, (∀ b ∈ [I], b ∈ mu) → Keep (vis L mu s'.heap) (vis L mu h') := fun {mu} hs b o e => by
      have hb := vis_no e
      exact vis_get (hk _ _ (fun hm => hb.2 (hs _ hm)) (vis_le _ _ e)) hb.1 hb.2
    exact ⟨m', cm', vs, bs, its, nn, S'.off (mu := [I]) hk (fun a ha => by rw [List.mem_singleton.mp ha]; exact oI), hm, P'.keeps (tr (by simp)), hk _ _ nlb e', l1, l2, fun j v hj => (B' j v hj).keeps (tr (by simp)), ev, ok, g1, g2, g3⟩
  case step =>
    rintro I i t s₁ zI hi ⟨m', cm', vs, bs, its, nn, S', hm, P', e', l1, l2, B', ev, ok, g1, g2, g3⟩ lI
    have oI := S1.newOff zI
    have nlb : lb ≠ I := fun q => by rw [q] at llb; obtain ⟨o, e⟩ := llb; rw [zI] at e; cases e
    have nlv : lv ≠ I := fun q => by rw [q] at llv; obtain ⟨o, e⟩ := llv; rw [zI] at e; cases e
    refine wpAny_assign_Name (stoL S' rfl lawKind (lawLoc _ (by decide +kernel)) fun h2 tk2 S2 hs2 => ?_)
    have kx2 : ∀ {mu}, KX L mu s₁.heap h2 := fun {mu} => KX.same (by simp) hs2
    have hm2 : ∀ y, y ≠ Str.ofString "k" → upd m' (Str.ofString "k") (.int (0 + (i : Int)) t) y = m y := fun y hy => by unfold upd; rw [if_neg hy]; exact hm y hy
    refine wpAny_mono (turn_b (mu := [I]) (i := i) (tk := t) (bs := bs) (vs := vs) (its := its) (nn := nn) (Q := fun f s₃ => f = .next ∧ _) hdp hu (by have := LA.mn34; omega) S2 ((hm2 _ (by decide)).trans (LA.script.trans hsc)) hS hI hlen ((hm2 _ (by decide)).trans LA.size) (by rw [Int.zero_add]; exact upd_here) ((hm2 _ (by decide)).trans LA.profile) ((hm2 _ (by decide)).trans LA.ballots) hn
      (P'.keeps (vis_keep kx2)) (kx2 (mu := []) _ _ LA.lb0.2 (by simp) e') l1 l2 (by have := congrArg List.length ev; rw [List.length_map] at this; omega) (fun j v hj => (B' j v hj).keeps (vis_keep kx2)) LA.lb0 LA.lv0 LA.ne (by simpa using nlb) (by simpa using nlv) (fun a ha => ?hmu) fun s' cm2 x B wt its' nn' T => ⟨rfl, ?turn⟩) (fun f s₃ h₃ => h₃) fun _ _ e => e
    case hmu =>
      rw [List.mem_singleton.mp ha]
      obtain ⟨o, e⟩ := lI
      exact ⟨(fun z => by rw [kx2 (mu := []) _ _ oI.2 (by simp) e] at z; cases z), oI.2⟩
    case turn =>
      refine ⟨fun o e => T.kx _ _ oI.2 (by simp [Ne.symm nlb, Ne.symm nlv]) (kx2 (mu := []) _ _ oI.2 (by simp) e), _, cm2, _, _, its', nn', T.S, hm2, T.prof, T.elb, by rw [T.len, List.length_append]; rfl, by rw [List.length_append, l2]; rfl, T.bal, by rw [List.map_append, ev]; rfl, fun q hq => ?_, g1.trans T.gens, T.drawn.trans g2, T.os.trans g3⟩
      rcases List.mem_append.mp hq with hq | hq
      · exact ok q hq
      · rw [List.mem_singleton.mp hq]; exact ⟨T.sub, T.pos, T.lt⟩
  case hR =>
    rintro I s' zI ⟨m', cm', vs, bs, its, nn, S', hm, P', e', l1, l2, B', ev, ok, g1, g2, g3⟩
    refine ⟨rfl, cont s' m' cm' vs bs ⟨S', (hm _ (by decide)).trans LA.size, (hm _ (by decide)).trans LA.many, (hm _ (by decide)).trans LA.seats, (hm _ (by decide)).trans LA.profile, (hm _ (by decide)).trans LA.ballots, LA.cases, LA.mn34, (P'.keeps (vis_mono (by simp))).prof,
      ⟨its, nn, vis_get e' LA.lb0.2 (by simp), l1, fun j v hj => (B' j v hj).keeps (vis_mono (by simp))⟩, ev, l2, ok, g1, g2, g3⟩⟩
end

end
section
section
variable {prog : Program} {A : Around} {s : Shared} {R : Result → Shared → Prop}
/-- one turn of a comprehension without tests, whose element makes objects -/
def TurnH (prog : Program) (w : World) (A : Around) (target : Expr) (elt : Expr) (cenv : Env) (C D I : Addr) (wr : List Addr) (P : Nat → Value → Heap → Prop) (St Sd : Nat → Heap → Prop) (F : Nat → Value → Heap → Prop) (n : Nat) (s₂ : Shared) : Prop :=
  ∀ i v s₃ m₃ (E' : Value → Shared → Prop), i < n → P i v s₃.heap → s₃.heap.Ns C m₃ → (∃ o, s₃.heap.get? D = some o) → Sd (i + 1) s₃.heap → (∀ b o, b ∉ wr → s₂.heap.get? b = some o → s₃.heap.get? b = some o) →
    wpAny (model prog w) A (letOwnedTupleGo target (.ref I) v) (fun _ sa => wpAny (model prog w) A (assign target cenv v) (fun _ sb => wpAny (model prog w) A (eval elt cenv) (fun y sd => F i y sd.heap ∧ Stay C wr (St (i + 1)) s₃ sd) E' sb) E' sa) E' s₃
theorem compWalkH {elt target iter : Expr} {scope : Scope} {pos : Pos} {I D C : Addr} {fp wr : List Addr} {n : Nat} {P : Nat → Value → Heap → Prop} {St Sd : Nat → Heap → Prop} {cenv : Env} {m : Str → Option Value}
    (W : Walks2 prog w A I fp wr n P St Sd) (F : Nat → Value → Heap → Prop) (s₂ : Shared) (hC : s₂.heap.get? C = none) (hD : s₂.heap.get? D = none) (hDC : D ≠ C) (hDf : D ∉ fp) (hCf : C ∉ fp)
    (hst : St 0 s.heap) (hacc : s.heap.PlainList D #[]) (hn : s.heap.Ns C m) (hk0 : ∀ b o, s₂.heap.get? b = some o → s.heap.get? b = some o)
    (hFs : ∀ i y h h', F i y h → (∀ b o, b ∉ C :: D :: wr → h.get? b = some o → h'.get? b = some o) → F i y h')
    (T : TurnH prog w A target elt cenv C D I wr P St Sd F n s₂)
    (hR : ∀ h' tk m' (ys : Array Value), h'.Ns C m' → h'.PlainList D ys → ys.size = n → (∀ (i : Nat) (y : Value), ys[i]? = some y → F i y h') → (∀ b o, b ∉ wr → s₂.heap.get? b = some o → h'.get? b = some o) → R (.ok .next) { s with heap := h', toks := tk })
    (hsz : n ≤ sizeLine) : codeAny (model prog w) A (.compLoop (.ListComp elt [⟨target, iter, [], 0⟩] scope pos) 0 (.ref I) (.ref D) cenv) R s := by
  have hCw : C ∉ wr := fun h => hCf (W.sub _ h)
  have hDw : D ∉ wr := fun h => hDf (W.sub _ h)
  have ne : ∀ {b o}, s₂.heap.get? b = some o → b ≠ C ∧ b ≠ D := fun {b o} e => ⟨(fun z => by rw [z, hC] at e; cases e), (fun z => by rw [z, hD] at e; cases e)⟩
  refine compLoopT (fun k s' => ∃ h' tk m' ys, ∃ i, s' = { s with heap := h', toks := tk } ∧ St i h' ∧ h'.PlainList D ys ∧ h'.Ns C m' ∧ ys.size = i ∧ (∀ (j : Nat) (y : Value), ys[j]? = some y → F j y h') ∧ i ≤ n ∧ k = n + 1 - i ∧
      (∀ b o, b ∉ wr → s₂.heap.get? b = some o → h'.get? b = some o)) ?_ (n + 1) ⟨s.heap, s.toks, m, #[], 0, rfl, hst, hacc, hn, rfl, (fun j y hj => by simp at hj), Nat.zero_le _, rfl, fun b o _ e => hk0 b o e⟩
  rintro k s' ⟨H, tk, m', ys, i, rfl, hst', hacc', hn', hsi, hF, hi, rfl, hk⟩
  rcases Nat.lt_or_ge i n with hlt | hge
  · refine W.item i _ _ _ hlt hst' fun v h₁ tk₁ hPv hst₁ hk₁ => ?_
    have hn₁ : h₁.Ns C m' := hn'.at' fun o e => hk₁ _ o hCw e
    have hk2 : ∀ b o, b ∉ wr → s₂.heap.get? b = some o → h₁.get? b = some o := fun b o hb e => hk₁ b o hb (hk b o hb e)
    have hacc₁ : h₁.PlainList D ys := hacc'.at fun o e => hk₁ _ o hDw e
    have hF₁ : ∀ (j : Nat) (y : Value), ys[j]? = some y → F j y h₁ := fun j y hj => hFs _ _ _ _ (hF j y hj) fun b o hb e => hk₁ b o (fun hm => hb (List.mem_cons_of_mem _ (List.mem_cons_of_mem _ hm))) e
    refine wpAny_mono (T i v _ _ _ hlt hPv hn₁ (let ⟨c, e⟩ := hacc₁; ⟨_, e⟩) hst₁ hk2) (fun _ sa ha => wpAny_mono ha (fun _ sb hb => ?_) fun _ _ e => e) fun _ _ e => e
    refine wpAny_pure ?_
    simp only [if_true]
    refine wpAny_mono hb (fun y sd hd => ?_) fun _ _ e => e
    obtain ⟨hFy, h₄, tk₄, m₄, rfl, hn₄, hst₄, hk₄⟩ := hd
    refine wpAny_list_append_plain (hsz := by omega) (hacc₁.at fun o e => hk₄ _ o hDC hDw e) fun h₅ hl₅ hs₅ => ?_
    have up5 : ∀ b o, b ∉ C :: D :: wr → h₄.get? b = some o → h₅.get? b = some o := fun b o hb e => hs₅.extBut b o (fun z => hb (by simp [z])) e
    refine ⟨n + 1 - (i + 1), by omega, h₅, tk₄, m₄, ys.push y, i + 1, rfl, W.frame _ _ _ hst₄ fun b hb o e => hs₅.extBut b o (fun z => hDf (z ▸ hb)) e, hl₅, hn₄.sameBut hs₅ (Ne.symm hDC), by rw [Array.size_push, hsi], fun j u hj => ?_, hlt, rfl, fun b o hb e => hs₅.extBut b o (ne e).2 (hk₄ b o (ne e).1 hb (hk2 b o hb e))⟩
    rw [Array.getElem?_push] at hj
    split at hj
    · rename_i q
      cases hj
      rw [q, hsi]
      exact hFs _ _ _ _ hFy up5
    · exact hFs _ _ _ _ (hFs _ _ _ _ (hF₁ j u hj) fun b o hb e => hk₄ b o (fun z => hb (by simp [z])) (fun hm => hb (List.mem_cons_of_mem _ (List.mem_cons_of_mem _ hm))) e) up5
  · have hin : i = n := Nat.le_antisymm hi hge
    refine W.done _ _ _ (hin ▸ hst') fun h₁ tk₁ hk₁ => ?_
    exact hR h₁ tk₁ m' ys (hn'.at' fun o e => hk₁ _ o hCw e) (hacc'.at fun o e => hk₁ _ o hDw e) (hsi.trans hin) (fun j y hj => hFs _ _ _ _ (hF j y hj) fun b o hb e => hk₁ b o (fun hm => hb (List.mem_cons_of_mem _ (List.mem_cons_of_mem _ hm))) e) fun b o hb e => hk₁ b o hb (hk b o hb e)
end
section
variable {prog : Program} {A : Around} {s : Shared} {E : Value → Shared → Prop} {env : Env}
/-- what a comprehension, whose list is bound at once, asks for -/
def OverH (prog : Program) (w : World) (A : Around) (target : Expr) (elt : Expr) (cenv : Addr → Env) (U : Addr → Value → Shared → Prop) (it : Value) (s₂ : Shared) : Prop :=
  ∃ I fp wr n P St Sd, ∃ F : Addr → Addr → Nat → Value → Heap → Prop, it = .ref I ∧ Walks2 prog w A I fp wr n P St Sd ∧ n ≤ sizeLine ∧ St 0 s₂.heap ∧ (∀ b ∈ fp, b < s₂.heap.objs.size) ∧ (∀ C D i y h h', F C D i y h → (∀ b o, b ∉ C :: D :: wr → h.get? b = some o → h'.get? b = some o) → F C D i y h') ∧
    (∀ C D, s₂.heap.get? C = none → s₂.heap.get? D = none → TurnH prog w A target elt (cenv C) C D I wr P St Sd (F C D) n s₂) ∧
    (∀ C D h' tk (ys : Array Value) m', C ≠ D → s₂.heap.get? C = none → s₂.heap.get? D = none → h'.Ns C m' → h'.PlainList D ys → ys.size = n → (∀ (i : Nat) (y : Value), ys[i]? = some y → F C D i y h') → (∀ b o, b ∉ wr → s₂.heap.get? b = some o → h'.get? b = some o) → U C (.ref D) { s₂ with heap := h', toks := tk })
/-- the list is bound, and the comprehension's frame is left -/
abbrev UseAt (prog : Program) (w : World) (A : Around) (E : Value → Shared → Prop) (env : Env) (y : Str) (py : Pos) (Q : Flow → Shared → Prop) (C : Addr) (v : Value) (s : Shared) : Prop :=
  wpAny (model prog w) A (assign (.Name y py) env v) (fun _ s3 => ∃ m, s3.heap.Ns C m ∧ ∀ h'', Heap.SameBut C s3.heap h'' → Q .next { s3 with heap := h'' }) E s
theorem asg_freeH {elt target iter : Expr} {scope : Scope} {cl : List (Str × Addr)} {pos py spos : Pos} {y : Str} {Q : Flow → Shared → Prop}
    (hsw : swapsWith (.ListComp elt [⟨target, iter, [], 0⟩] scope pos) (some (.Name y py)) spos.line env = pure true)
    (hclos : closureFor scope env = pure cl) (hcell : ∀ y ∈ scope.names, y.2 ≠ .cell) (hkind : scope.kind = .function)
    (hnames : ∀ y ∈ scope.names, y.2 = .local → scope.names.lookup y.1 = some .local) (hs : ∀ x, foldedSetIterable iter env x = pure x)
    (h : wpAny (model prog w) A (eval iter env) (fun xv s₁ => wpAny (model prog w) A (pyIter xv) (fun it s₂ => OverH prog w A target elt (fun C => compEnvC scope cl C env) (UseAt prog w A E env y py Q) it s₂) E s₁) E s) :
    wpAny (model prog w) A (exec (.Assign [.Name y py] (.ListComp elt [⟨target, iter, [], 0⟩] scope pos) spos) env) Q E s := by
  rw [exec_Assign_Name_used _ _ _ _ hsw]
  refine wpAny_bind (wpAny_standAt (wpAny_bind ?_))
  show wpAny _ A (do let _ ← comprehension (.ListComp elt [⟨target, iter, [], 0⟩] scope pos) scope env _ (newList []) false (eval iter env) (some (assign (.Name y py) env))) _ _ s
  refine wpAny_bind (wpAny_mono (wpAny_comprehension_free (use := some (assign (.Name y py) env)) (Q := fun _ s' => Q .next s') rfl hs hclos hkind hnames (wpAny_mono h (fun xv s₁ h₁ => wpAny_mono h₁ (fun it s₂ h₂ => ?_) fun _ _ e => e) fun _ _ e => e)) (fun _ s' hq => wpAny_pure (wpAny_pure hq)) fun _ _ e => e)
  obtain ⟨I, fp, wr, n, P, St, Sd, F, rfl, W, hsz, hst, hfp, hFs, hT, hQ⟩ := h₂
  refine wpAny_newObj_type (wpAny_newFunctionEnv hcell (by intro y hy; simp at hy) (fun h₁ hns₁ hsb₁ => ?_) hkind)
  dsimp only at hns₁ hsb₁ ⊢
  generalize hH2 : s₂.heap.push { cls := .type "list", dict := none, data := .seq ([] : List Value).toArray } = H2 at hns₁ hsb₁ ⊢
  have hC : H2.objs.size = s₂.heap.objs.size + 1 := by rw [← hH2, Heap.size_push]
  have hDC : s₂.heap.objs.size ≠ H2.objs.size := by rw [hC]; exact Nat.ne_of_lt (Nat.lt_succ_self _)
  have below : ∀ b, b < s₂.heap.objs.size → b ≠ H2.objs.size ∧ b ≠ s₂.heap.objs.size := fun b hb => ⟨by rw [hC]; exact Nat.ne_of_lt (Nat.lt_succ_of_lt hb), Nat.ne_of_lt hb⟩
  have hDf : s₂.heap.objs.size ∉ fp := fun hm => Nat.lt_irrefl _ (hfp _ hm)
  have hCf : H2.objs.size ∉ fp := fun hm => by have := hfp _ hm; rw [hC] at this; exact Nat.lt_irrefl _ (Nat.lt_of_succ_lt this)
  have old : ∀ b o, s₂.heap.get? b = some o → h₁.get? b = some o := fun b o e => hsb₁.extBut b o (below b (Heap.lt_size e)).1 (Heap.get?_push_of_some _ (hH2 ▸ Heap.get?_push_of_some _ e))
  have hacc : h₁.PlainList s₂.heap.objs.size #[] := ⟨_, hsb₁.extBut _ _ hDC (Heap.get?_push_of_some _ (hH2 ▸ Heap.get?_push_size _ rfl))⟩
  have hst₁ : St 0 h₁ := W.frame _ _ _ hst fun b _ o e => old b o e
  have fD : s₂.heap.get? s₂.heap.objs.size = none := Heap.get?_none_of_le (Nat.le_refl _)
  have fC : s₂.heap.get? H2.objs.size = none := Heap.get?_none_of_le (by rw [hC]; exact Nat.le_succ _)
  have loop : ∀ s₃ : Shared, s₃ = { s₂ with heap := h₁, toks := s₂.toks + ([] : List (Str × Value)).length } →
      codeAny (model prog w) A (.compLoop (.ListComp elt [⟨target, iter, [], 0⟩] scope pos) 0 (.ref I) (.ref s₂.heap.objs.size) (compEnvC scope cl H2.objs.size env))
        (compPost (model prog w) A E (some (assign (.Name y py) env)) (fun _ s' => Q .next s') (.ref s₂.heap.objs.size) H2.objs.size) s₃ := by
    rintro s₃ rfl
    refine compWalkH W (F _ _) s₂ fC fD hDC hDf hCf hst₁ hacc hns₁ old (hFs _ _) (hT _ _ fC fD) (fun h' tk m' ys hn' hpl hsi hF hk => ?_) hsz
    exact hQ _ _ h' tk ys m' (Ne.symm hDC) fC fD hn' hpl hsi hF hk
  exact codeAny_compStart_list (loop _ rfl) (W.self 0 _ _ _ hst₁ (loop _ rfl))
end

end
section
/-- a list of lists of ints -/
def LLAt (h : Heap) (a : Addr) (Cs : List (List Nat)) : Prop := ∃ vs nn, h.get? a = some (seqObj "list" (List.toArray vs) nn) ∧ vs.length = Cs.length ∧ ∀ (j : Nat) (v : Value), vs[j]? = some v → IntL h v (Cs.getD j [])
theorem LLAt.keeps {h h' : Heap} {a : Addr} {Cs : List (List Nat)} (x : LLAt h a Cs) (k : Keep h h') : LLAt h' a Cs := let ⟨vs, nn, e1, e2, e3⟩ := x; ⟨vs, nn, k _ _ e1, e2, fun j v hj => (e3 j v hj).keeps k⟩
section
variable {A : Around} {s : Shared} {E : Value → Shared → Prop} {env : Env} {Q : Value → Shared → Prop}
theorem told_asg {iter : Expr} {scope : Scope} {cl : List (Str × Addr)} {pos p0 p1 p2 p3 py spos : Pos} {y : Str} {Q : Flow → Shared → Prop} {g : Heap} {L : Addr} {m cm : Str → Option Value}
    (hsw : swapsWith (.ListComp (.Call (.Name (Str.ofString "sorted") p0) [.Name (Str.ofString "one") p1] [] p2) [⟨.Name (Str.ofString "one") p3, iter, [], 0⟩] scope pos) (some (.Name y py)) spos.line env = pure true) (hh : A.handled = none) (hclos : closureFor scope env = pure cl) (hcell : ∀ y ∈ scope.names, y.2 ≠ .cell) (hkind : scope.kind = .function)
    (hnames : ∀ y ∈ scope.names, y.2 = .local → scope.names.lookup y.1 = some .local) (hs : ∀ x, foldedSetIterable iter env x = pure x) (hx : ∀ C, (compEnvC scope cl C env).kindOf (Str.ofString "one") = some .local) (hf : ∀ C, (compEnvC scope cl C env).kindOf (Str.ofString "sorted") = some .globalImplicit)
    (hg : env.globals = mainGlobals) (hb : env.builtins = builtinsNs) (hL : env.locals = L) (hkd : env.scope.kind = .function) (hy : env.kindOf y = some .local)
    (hit : wpAny (model PP w) A (eval iter env) (fun xv s₁ => ∃ ax items Cs, xv = .ref ax ∧ LawSt w mg mb g L m cm s₁.heap ∧ s₁.heap.IsList ax items ∧ items.size = (Cs : List (List Nat)).length ∧ items.size ≤ 1000 ∧ (∀ (j : Nat) (v : Value), items[j]? = some v → ∃ y dx tf ep led, v = .ref y ∧ s₁.heap.get? y = some (csObj dx (Cs.getD j []) tf ep led) ∧ LedOk w led) ∧ (∀ C ∈ Cs, C ∈ sub4) ∧
      ∀ D h3 tk, LawSt w mg mb g L (upd m y (.ref D)) cm h3 → KX L [] s₁.heap h3 → LLAt (vis L [] h3) D Cs → Q .next { s₁ with heap := h3, toks := tk }) E s) :
    wpAny (model PP w) A (exec (.Assign [.Name y py] (.ListComp (.Call (.Name (Str.ofString "sorted") p0) [.Name (Str.ofString "one") p1] [] p2) [⟨.Name (Str.ofString "one") p3, iter, [], 0⟩] scope pos) spos) env) Q E s := by
  refine asg_freeH hsw hclos hcell hkind hnames hs (wpAny_mono hit (fun xv s₁ h₁ => ?_) fun _ _ e => e)
  obtain ⟨ax, items, Cs, rfl, S, hl, hlen, hsz, told, hsub, hQ⟩ := h₁
  have X := S.B.X
  have T := S.B.T
  have kg : Keep g s₁.heap := S.F.keep
  refine wpAny_pyIter_list hl ?_
  have axlt : ax < s₁.heap.objs.size := by obtain ⟨o, e, _⟩ := hl; exact Heap.lt_size e
  have zI : s₁.heap.get? s₁.heap.objs.size = none := Heap.get?_none_of_le (Nat.le_refl _)
  have off : ∀ {b o}, s₁.heap.get? b = some o → b ∉ [s₁.heap.objs.size] := fun e hm => by rw [List.mem_singleton.mp hm, zI] at e; cases e
  generalize hH2 : s₁.heap.push { cls := .type "list_iterator", data := .fields #[.ref ax, .int 0 0] } = H2
  have k2 : Keep s₁.heap H2 := fun b o e => by rw [← hH2]; exact Heap.get?_push_of_some _ e
  have eI : H2.get? s₁.heap.objs.size = some { cls := .type "list_iterator", data := .fields #[.ref ax, .int 0 0] } := by rw [← hH2]; exact Heap.get?_push_size _ rfl
  have hsz2 : H2.objs.size = s₁.heap.objs.size + 1 := by rw [← hH2, Heap.size_push]
  refine ⟨_, _, [s₁.heap.objs.size], items.size, _, _, _, fun C D i y h => ∃ a us m, y = .ref a ∧ h.get? a = some (seqObj "list" (List.toArray us) m) ∧ IntsAre us ((Cs.getD i []).map fun (k : Nat) => (k : Int)) ∧ s₁.heap.get? a = none ∧ a ∉ C :: D :: [s₁.heap.objs.size], rfl,
    Walks.two (Walks.list hh s₁.heap.objs.size ax (Nat.ne_of_lt axlt) items), by rw [sizeLine_eq]; omega, ⟨⟨_, eI, rfl, rfl⟩, let ⟨o, e, r⟩ := hl; ⟨o, k2 _ _ e, r⟩⟩, fun b hb => ?_, fun C D i y h h' hF hk => ?_, fun C D hC hD => ?_, fun C D h' tk ys m' hCD hC hD hnC hpl hys hF hk => ?_⟩
  · simp only [List.mem_cons, List.not_mem_nil, or_false] at hb
    rcases hb with rfl | rfl
    · rw [hsz2]; exact Nat.lt_succ_self _
    · rw [hsz2]; exact Nat.lt_succ_of_lt axlt
  · obtain ⟨a, us, m, e1, e2, e3, e4, e5⟩ := hF
    exact ⟨a, us, m, e1, hk _ _ e5 e2, e3, e4, e5⟩
  · intro i v s₃ m₃ E' hi hP hn hDx hst hk
    show wpAny _ _ (pure ()) _ _ _
    refine wpAny_pure (wpAny_assign_Name (wpAny_storeName_local (hx C) hn (fun h₂ hn₂ hs₂ => ?_) (by show (scope.kind == _ || (scope.kind == _ && _)) = false; rw [hkind]; rfl)))
    have hC' : ∀ {b o}, H2.get? b = some o → b ≠ C := fun e z => by rw [z, hC] at e; cases e
    have nIC : s₁.heap.objs.size ≠ C := hC' eI
    have up : ∀ b o, b ∉ [s₁.heap.objs.size] → H2.get? b = some o → h₂.get? b = some o := fun b o hb e => hs₂.extBut b o (hC' e) (hk b o hb e)
    have up1 : Keep s₁.heap h₂ := fun b o e => up b o (off e) (k2 b o e)
    obtain ⟨y, dx, tf, ep, led, rfl, ey, hle⟩ := told i v hP
    have hCi : Cs.getD i [] ∈ sub4 := hsub _ (by rw [List.getD_eq_getElem?_getD, List.getElem?_eq_getElem (by omega)]; exact List.getElem_mem _)
    refine wpAny_Call_Name_kw (nameB (Keep.trans kg up1) X T hg hb (by k_is) (v := .builtin "sorted") (by decide +kernel) (by decide) hkind (hf C) (by decide) ?_)
    refine Calls.callWith_builtin rfl (Calls.evalArgs_plain (Calls.spliced_cons (nameL (m := fun x => if x = Str.ofString "one" then some (.ref y) else m₃ x) hn₂ (if_pos rfl) hkind (hx C) (by decide) (Calls.spliced_nil ?_))))
    refine sorted_cs hh (X.keeps (Keep.trans kg up1)) hCi (up1 _ _ ey) hle fun h5 tk5 D5 us e5 k5 z5 el5 hI5 => ?_
    have ex : ∀ {b o}, s₃.heap.get? b = some o → b ≠ C → h₂.get? b = some o := fun e hb => hs₂.extBut _ _ hb e
    obtain ⟨oI, eI3, rI⟩ := hst.1
    have eI2 := ex eI3 nIC
    have z1 : s₁.heap.get? D5 = none := none_of_keep up1 z5
    refine ⟨⟨D5, us, e5, rfl, el5, hI5, z1, fun hm => ?_⟩, h5, tk5, _, rfl, hn₂.keeps k5, ⟨⟨oI, k5 _ _ eI2, rI⟩, let ⟨o, e, r⟩ := hl; ⟨o, k5 _ _ (up1 _ _ e), r⟩⟩, fun x o h1 _ e => k5 _ _ (ex e h1)⟩
    have lC : ∃ o, h₂.get? C = some o := by obtain ⟨o, _, _, e, _⟩ := hn₂; exact ⟨o, e⟩
    rcases List.mem_cons.mp hm with q | hm
    · obtain ⟨o, e⟩ := lC; rw [← q, z5] at e; cases e
    · rcases List.mem_cons.mp hm with q | hm
      · obtain ⟨o, e⟩ := hDx
        by_cases c : D = C
        · obtain ⟨o, e⟩ := lC; rw [← c, ← q, z5] at e; cases e
        · have := ex e c; rw [← q, z5] at this; cases this
      · rw [List.mem_singleton.mp hm, eI2] at z5; cases z5
  · obtain ⟨c, hpl⟩ := hpl
    have k' : Keep s₁.heap h' := fun b o e => hk b o (off e) (k2 b o e)
    have zD := none_of_keep k2 hD
    have zC := none_of_keep k2 hC
    have S' := S.keeps k'
    have oC := S.newOff zC
    have lL : ∃ o, s₁.heap.get? L = some o := by obtain ⟨o, _, _, e, _⟩ := S.F.ns; exact ⟨o, e⟩
    have nLC : C ≠ L := fun q => by obtain ⟨o, e⟩ := lL; rw [← q, zC] at e; cases e
    refine wpAny_assign_Name (stoL (v := .ref D) S' hL hkd hy fun h2 tk2 S2 hs2 => ⟨m', hnC.sameBut hs2 nLC, fun h3 hs3 => ?_⟩)
    have S3 := S2.off (mu := [C]) (fun b o hb e => hs3.extBut b o (by simpa using hb) e) (fun a ha => by rw [List.mem_singleton.mp ha]; exact oC)
    have up : ∀ {b o}, b ∉ lawEx L → b ≠ C → h'.get? b = some o → h3.get? b = some o := fun h1 h2' e => hs3.extBut _ _ h2' (hs2.extBut _ _ (fun q => h1 (by rw [q]; simp)) e)
    refine hQ D h3 tk2 S3 (fun b o h1 _ e => up h1 (fun q => by rw [q, zC] at e; cases e) (k' b o e)) ⟨ys.toList, c, vis_get (up (S.newOff zD).2 (Ne.symm hCD) (by rw [Array.toArray_toList]; exact hpl)) (S.newOff zD).2 (by simp), by rw [Array.length_toList, hys]; exact hlen, fun j v hj => ?_⟩
    obtain ⟨a, us, m, e1, e2, e3, e4, e5⟩ := hF j v (by rw [← Array.getElem?_toList]; exact hj)
    exact ⟨a, us, m, e1, vis_get (up (S.newOff e4).2 (fun q => e5 (by simp [q])) e2) (S.newOff e4).2 (by simp), e3⟩
end

end
section
theorem paired_intsF {f : Nat → Int} : ∀ {l : List Nat} {ys : List Value}, Paired (fun (i : Nat) y => ∃ t, y = Value.int (f i) t) l ys → IntsAre ys (l.map f)
  | _, _, .nil => .nil
  | _, _, .cons h r => by
    obtain ⟨t, rfl⟩ := h
    exact .cons _ _ (paired_intsF r)
theorem IntL.isList {h : Heap} {a : Addr} {C : List Nat} (x : IntL h (.ref a) C) : ∃ us : List Value, h.IsList a us.toArray ∧ IntsAre us (C.map fun (k : Nat) => (k : Int)) := by
  obtain ⟨b, us, n, e1, e2, e3⟩ := x
  cases e1
  exact ⟨us, ⟨_, e2, rfl, n, rfl⟩, e3⟩
theorem filter_range_getD {α : Type} (p : α → Bool) (d : α) (l : List α) : ((List.range l.length).filter fun i => p (l.getD i d)).map (fun i => l.getD i d) = l.filter p := by
  have h := map_range_getD (fun x : α => x) d l
  rw [List.map_id'] at h
  have h2 := congrArg (List.filter p) h
  rw [List.filter_map] at h2
  exact h2
theorem any_mem {C : List Nat} {k : Nat} : ((C.map fun (k : Nat) => (k : Int)).any (· == (k : Int))) = decide (k ∈ C) := by
  rw [Bool.eq_iff_iff, List.any_map, List.any_eq_true, decide_eq_true_eq]
  constructor
  · rintro ⟨x, hx, e⟩
    have : ((x : Nat) : Int) = k := by simpa using e
    rw [← Int.ofNat.inj this]; exact hx
  · intro h
    exact ⟨k, h, by simp⟩
section
variable {A : Around} {s : Shared} {E : Value → Shared → Prop} {env : Env} {Q : Value → Shared → Prop} {g : Heap}
/-- sum([elt for approved, weight in ..]) -/
theorem sum_comp {elt iter : Expr} {scope : Scope} {cl : List (Str × Addr)} {pos p0 pos2 pa pb tp : Pos} {kk : Nat} {ax : Addr} {bs : List (List Nat × Int)} (f : List Nat × Int → Int) (hh : A.handled = none) (X : (K39 w.params).In g) (T : TopRead hd.view_39 loose0 mg mb g) (kg : Keep g s.heap)
    (hg : env.globals = mainGlobals) (hb : env.builtins = builtinsNs) (hkd : env.scope.kind = .function) (hsum : env.kindOf (Str.ofString "sum") = some .globalImplicit)
    (hclos : closureFor scope env = pure cl) (hcell : ∀ y ∈ scope.names, y.2 ≠ .cell) (hkind : scope.kind = .function) (hnames : ∀ y ∈ scope.names, y.2 = .local → scope.names.lookup y.1 = some .local) (hs : ∀ x, foldedSetIterable iter env x = pure x)
    (hca : ∀ C, (compEnvC scope cl C env).kindOf (Str.ofString "approved") = some .local) (hcb : ∀ C, (compEnvC scope cl C env).kindOf (Str.ofString "weight") = some .local)
    (hit : ∀ Q' : Value → Shared → Prop, Q' (.ref ax) s → wpAny (model PP w) A (eval iter env) Q' E s) (hB : BalAt s.heap ax bs) (hsz : bs.length ≤ 1000)
    (q : ∀ C i la t s₃ m₃ (E' : Value → Shared → Prop), i < bs.length → s₃.heap.Ns C m₃ → m₃ (Str.ofString "approved") = some (.ref la) → m₃ (Str.ofString "weight") = some (.int (bs.getD i ([], 0)).2 t) → IntL s.heap (.ref la) (bs.getD i ([], 0)).1 → Keep s.heap s₃.heap →
      wpAny (model PP w) A (eval elt (compEnvC scope cl C env)) (fun y s₅ => (∃ t, y = .int (f (bs.getD i ([], 0))) t) ∧ Keeps s₃ s₅) E' s₃)
    (h : ∀ h' tk t, Keep s.heap h' → Q (.int (bs.map f).sum t) { s with heap := h', toks := tk }) :
    wpAny (model PP w) A (eval (.Call (.Name (Str.ofString "sum") p0) [.ListComp elt [⟨.Tuple [.Name (Str.ofString "approved") pa, .Name (Str.ofString "weight") pb] kk tp, iter, [], 0⟩] scope pos] [] pos2) env) Q E s := by
  obtain ⟨its, nn, el, hlen, told⟩ := hB
  refine wpAny_Call_Name_kw (nameB kg X T hg hb (by k_is) (v := .builtin "sum") (by decide +kernel) (by decide) hkd hsum (by decide) ?_)
  refine Calls.callWith_builtin rfl (Calls.evalArgs_plain (Calls.spliced_cons ?_))
  refine pair_comp (items := its.toArray) (p := fun _ => true) (F := fun i y => ∃ t, y = Value.int (f (bs.getD i ([], 0))) t) (Pr := fun i va vb => ∃ la t, va = .ref la ∧ vb = .int (bs.getD i ([], 0)).2 t ∧ IntL s.heap (.ref la) (bs.getD i ([], 0)).1) hh hclos hcell hkind hnames hs hca hcb (by decide) hit ⟨_, el, rfl, nn, rfl⟩ (by rw [List.size_toArray]; omega)
    (fun i v hv => ?_) (fun C i va vb s₃ m₃ E' hi hPr hn ha hb' hk => ?_) fun D h' tk ys zD kD pl pr => ?_
  · obtain ⟨T, la, t, e1, e2, e3⟩ := told i v (by simpa using hv)
    exact ⟨T, _, _, e1, e2, la, t, rfl, rfl, e3⟩
  · obtain ⟨la, t, rfl, rfl, hla⟩ := hPr
    rw [List.size_toArray] at hi
    show wpAny _ _ (testsOf [] _) _ _ _
    refine wpAny_pure ⟨rfl, ⟨_, _, rfl, fun _ _ e => e⟩, fun _ => q C i la t s₃ m₃ E' (by omega) hn ha hb' hla hk⟩
  · have hI : IntsAre ys.toList (((List.range its.toArray.size).filter fun _ => true).map fun i => f (bs.getD i ([], 0))) := paired_intsF (f := fun i => f (bs.getD i ([], 0))) pr
    rw [List.filter_eq_self.mpr (fun _ _ => rfl), List.size_toArray, hlen, map_range_getD] at hI
    refine Calls.spliced_nil ?_
    exact sum_any hh pl.isList hI fun h2 tk2 t k2 => h h2 tk2 t (Keep.trans kD k2)
/-- len([cand for cand in approved if cand in committee]) -/
theorem len_inter {scope : Scope} {cl : List (Str × Addr)} {p0 p1 p2 p3 p4 p5 p6 pos pos2 : Pos} {m : Str → Option Value} {la lc c : Addr} {B Cm : List Nat} (hh : A.handled = none) (X : (K39 w.params).In g) (T : TopRead hd.view_39 loose0 mg mb g) (kg : Keep g s.heap)
    (hg : env.globals = mainGlobals) (hb : env.builtins = builtinsNs) (hkd : env.scope.kind = .function) (hlen : env.kindOf (Str.ofString "len") = some .globalImplicit) (hap : env.kindOf (Str.ofString "approved") = some .local)
    (hn : s.heap.Ns env.locals m) (hm : m (Str.ofString "approved") = some (.ref la)) (hla : IntL s.heap (.ref la) B) (hB : B.length ≤ 1000)
    (hclos : closureFor scope env = pure cl) (hcell : ∀ y ∈ scope.names, y.2 ≠ .cell) (hkind : scope.kind = .function) (hnames : ∀ y ∈ scope.names, y.2 = .local → scope.names.lookup y.1 = some .local) (hs : ∀ x, foldedSetIterable (.Name (Str.ofString "approved") p3) env x = pure x)
    (hx : ∀ C, (compEnvC scope cl C env).kindOf (Str.ofString "cand") = some .local) (hf : ∀ C, (compEnvC scope cl C env).kindOf (Str.ofString "committee") = some .cell) (hc : cl.lookup (Str.ofString "committee") = some c) (hcv : s.heap.IsCell c (some (.ref lc))) (hlc : IntL s.heap (.ref lc) Cm)
    (h : ∀ h' tk t, Keep s.heap h' → Q (.int ((inter4 B Cm).length : Nat) t) { s with heap := h', toks := tk }) :
    wpAny (model PP w) A (eval (.Call (.Name (Str.ofString "len") p0) [.ListComp (.Name (Str.ofString "cand") p1) [⟨.Name (Str.ofString "cand") p2, .Name (Str.ofString "approved") p3, [.Compare (.Name (Str.ofString "cand") p4) [.In] [.Name (Str.ofString "committee") p5] p6], 0⟩] scope pos] [] pos2) env) Q E s := by
  obtain ⟨us, hl, hI⟩ := hla.isList
  obtain ⟨cs, hl2, hI2⟩ := hlc.isList
  have hus := hI.length
  rw [List.length_map] at hus
  refine wpAny_Call_Name_kw (nameB kg X T hg hb (by k_is) (v := .builtin "len") (by decide +kernel) (by decide) hkd hlen (by decide) ?_)
  refine Calls.callWith_builtin rfl (Calls.evalArgs_plain (Calls.spliced_cons ?_))
  refine name_comp (ax := la) (items := us.toArray) (p := fun i => decide (B.getD i 0 ∈ Cm)) (F := fun i y => True) hh hclos hcell hkind hnames hs hx (fun Q' hQ' => nameL hn hm hkd hap (by decide) hQ') hl (by rw [List.size_toArray]; omega) (fun C i v s₃ m₃ E' hi hv hn₃ hm₃ hk => ?_) fun D h' tk ys zD kD pl pr => ?_
  · obtain ⟨k, t, rfl, hk'⟩ := hI.at i v (by simpa using hv)
    rw [List.getElem?_map] at hk'
    have hBi : (k : Int) = ((B.getD i 0 : Nat) : Int) := by
      cases r : B[i]? with
      | none => rw [r] at hk'; cases hk'
      | some z => rw [r] at hk'; cases hk'; rw [List.getD_eq_getElem?_getD, r]; rfl
    rw [hBi] at hm₃
    refine wpAny_tests_one (wpAny_isTrue_Compare1 (nameL hn₃ hm₃ hkind (hx C) (by decide) (nameC (env := compEnvC scope cl C env) hc (let ⟨o, e, d⟩ := hcv; ⟨o, hk _ _ e, d⟩) hkind (hf C) (by decide) ?_)))
    refine in_list_ints (let ⟨o, e, r⟩ := hl2; ⟨o, hk _ _ e, r⟩) hI2 (wpAny_truthy_bool ⟨?_, ⟨_, _, rfl, fun _ _ e => e⟩, fun _ => nameL hn₃ hm₃ hkind (hx C) (by decide) ⟨trivial, _, _, rfl, fun _ _ e => e⟩⟩)
    exact any_mem
  · have hsz : ys.size = (inter4 B Cm).length := by
      have h1 := pr.length
      have h2 : ((List.range us.toArray.size).filter fun i => decide (B.getD i 0 ∈ Cm)).length = (inter4 B Cm).length := by
        unfold inter4
        rw [← filter_range_getD (fun k => decide (k ∈ Cm)) 0 B]
        rw [List.length_map, List.size_toArray, hus]
      rw [Array.length_toList] at h1
      exact h1.symm.trans h2
    refine Calls.spliced_nil ?_
    refine call_len_list pl.isList (by rw [hsz]; exact Int.lt_of_le_of_lt (Int.ofNat_le.mpr (Nat.le_trans (List.length_filter_le _ _) hB)) (by decide)) ?_
    rw [hsz]
    exact h _ _ _ kD
end

end
section
local macro_rules | `(tactic| walk_at "eval Name") => `(tactic| first
  | (refine nameLS (by assumption) rfl (by first | assumption | exact upd_here) rfl rfl (by decide) ?_)
  | (refine nameCS (i := 1) (by assumption) rfl (by decide +kernel) (by first | assumption | exact upd_here) rfl rfl (by decide) ?_))
local macro_rules | `(tactic| walk_at "call ref") => `(tactic| refine stopHere ?_)
local macro_rules | `(tactic| walk_at "eval ListComp") => `(tactic| refine stopHere ?_)
local macro_rules | `(tactic| walk_at "newList") => `(tactic| refine stopHere ?_)
local macro_rules | `(tactic| walk_at "eval Call") => `(tactic| ((with_reducible show wpAny _ _ (eval (Expr.Call (Expr.Name _ _) _ _ _) _) _ _ _); refine wpAny_Call_Name_kw ?_))
section
variable {g : Heap} {L : Addr} {m cm : Str → Option Value} {s s' : Shared} {mu : List Addr}
theorem LawSt.fw (S : LawSt w mg mb g L m cm s.heap) (W : FW [L] s s') : LawSt w mg mb g L m cm s'.heap := by
  have ne : ∀ i : Nat, 1 ≤ i → (L : Nat) + i ∉ [L] := fun i hi hm => Nat.ne_of_gt (Nat.lt_add_of_pos_right hi) (List.mem_singleton.mp hm)
  have cc : ∀ i : Nat, 1 ≤ i → i ≤ 5 → ∀ o, s.heap.get? ((L : Nat) + i) = some o → s'.heap.get? ((L : Nat) + i) = some o := fun i h1 h5 o e => W.k _ o (S.nC i h1 h5) (ne i h1) e
  exact ⟨S.B, W.fr S.B (Heap.get?_none_of_le S.F.above) (fun b hb => nomatch hb) S.F, let ⟨o, e, d⟩ := S.c1; ⟨o, cc 1 (by omega) (by omega) o e, d⟩, let ⟨o, e, d⟩ := S.c2; ⟨o, cc 2 (by omega) (by omega) o e, d⟩, let ⟨o, e, d⟩ := S.c3; ⟨o, cc 3 (by omega) (by omega) o e, d⟩,
    let ⟨o, e, d⟩ := S.c4; ⟨o, cc 4 (by omega) (by omega) o e, d⟩, let ⟨o, e, d⟩ := S.c5; ⟨o, cc 5 (by omega) (by omega) o e, d⟩, S.nL, S.nC, W.tab⟩
theorem KX.fw (W : FW [L] s s') : KX L mu s.heap s'.heap := fun b o h1 _ e => W.k b o (fun hm => h1 (tabs_lawEx hm)) (fun hm => h1 (by rw [List.mem_singleton.mp hm]; simp)) e
theorem score_nonneg {vs : List (Addr × List Nat × Int)} {C : List Nat} (h : ∀ q ∈ vs, 0 < q.2.2) : 0 ≤ scoreOf C vs := by
  unfold scoreOf
  refine sum_sub (fun q : Addr × List Nat × Int => q.2.2 * gain (inter4 C q.2.1).length) fun q hq => ?_
  have h1 := h q hq
  have h2 : ∀ k, (0 : Int) ≤ gain k := fun k => by
    match k with
    | 0 => decide
    | 1 => decide
    | 2 => decide
    | 3 => decide
    | k + 4 => exact Int.le_refl _
  exact Int.mul_nonneg (Int.le_of_lt h1) (h2 _)
end
/-- what the law has when its lines 645 to 647 are done -/
structure LawC (w : World) (mg mb : Str → Option Value) (g : Heap) (L : Addr) (s0 s : Shared) (m cm : Str → Option Value) (p lb lt lc : Addr) (n k mn : Nat) (vs : List (Addr × List Nat × Int)) (bs : List (List Nat × Int)) (ts tm tn tt : Tok) (mu : List Addr) : Prop where
  S : LawSt w mg mb g L m cm s.heap
  size : m (Str.ofString "size") = some (.int (n : Nat) ts)
  many : m (Str.ofString "many") = some (.int (mn : Nat) tm)
  seats : m (Str.ofString "seats") = some (.int (k : Nat) tn)
  profile : m (Str.ofString "profile") = some (.ref p)
  ballots : m (Str.ofString "ballots") = some (.ref lb)
  told : m (Str.ofString "told") = some (.ref lt)
  total : m (Str.ofString "total") = some (.int (weightOf bs) tt)
  coms : m (Str.ofString "committees") = some (.ref lc)
  cases : (n, k) ∈ cases4
  mn34 : mn = 3 ∨ mn = 4
  prof : ProfAt w (vis L mu s.heap) p n vs
  bal : BalAt (vis L mu s.heap) lb bs
  toldAt : LLAt (vis L mu s.heap) lt (optOf (fun C => scoreOf C vs) (combos (n, k))).2
  eq : vs.map (·.2) = bs
  len : bs.length = mn
  ok : ∀ q ∈ bs, q.1 ∈ sub4 ∧ 0 < q.2 ∧ ∀ c ∈ q.1, c < n
  gens : GensOk s0.gens s.gens
  drawn : s.drawn = s0.drawn
  os : s.os = s0.os
section
variable {dp un : Nat} {gd : Option (List Code)} {s s0 : Shared} {Q : Flow → Shared → Prop} {L p lb : Addr} {g : Heap} {m cm : Str → Option Value} {n k mn : Nat} {vs : List (Addr × List Nat × Int)} {bs : List (List Nat × Int)} {ts tm tn : Tok}
theorem law_c (hdp : dp + 120 < recursionLimit) (hu : un + 1600 < cLine) (LB : LawB w mg mb g L s0 s m cm p lb n k mn vs bs ts tm tn)
    (cont : ∀ s' m' lt lc tt, LawC w mg mb g L s0 s' m' cm p lb lt lc n k mn vs bs ts tm tn tt [lc] → (∃ nn, s'.heap.get? lc = some (seqObj "list" #[] nn)) → g.get? lc = none ∧ lc ∉ lawEx L → wpAny (model PP w) ((aro dp un (some []) gd).deeper (lawEnv L)) (execs (lawBody.drop 10) (lawEnv L)) Q never s') :
    wpAny (model PP w) ((aro dp un (some []) gd).deeper (lawEnv L)) (execs (lawBody.drop 7) (lawEnv L)) Q never s := by
  have S := LB.S
  have X' := S.B.X
  have T' := S.B.T
  have F0 := S.F
  have hp := LB.profile
  have hk := LB.seats
  generalize hD : lawBody.drop 10 = rest at cont
  conv at hD => lhs; whnf
  generalize hB : lawBody.drop 7 = body
  generalize hE : lawEnv L = env at cont ⊢
  unfold lawEnv at hE
  generalize hSc : lawScope = scp at hE
  conv at hSc => lhs; whnf
  conv at hB => lhs; whnf
  dsimp only at hSc hB hD
  subst hSc hE hB hD
  refine execs_next (told_asg (mg := mg) (mb := mb) (g := g) (L := L) (m := m) (cm := cm) rfl rfl rfl (by decide) rfl (by decide) (fun _ => rfl) (fun _ => rfl) (fun _ => rfl) rfl rfl rfl rfl rfl ?_)
  k_steps
  show wpAny _ _ (call (.ref 540) [.ref p, .int (k : Nat) tn] [(Str.ofString "algorithm", .str (Str.ofString "brute-force") _), (Str.ofString "resolute", .bool false)]) _ _ _
  have hvl : vs.length = mn := by have := congrArg List.length LB.eq; rw [List.length_map] at this; rw [this]; exact LB.len
  have hmn := LB.mn34
  have hvs : vs ≠ [] := fun q => by rw [q] at hvl; simp at hvl; omega
  have hpos : ∀ q ∈ vs, 0 < q.2.2 := fun q hq => by
    have h1 : q.2 ∈ bs := by rw [← LB.eq]; exact List.mem_map_of_mem hq
    exact (LB.ok _ h1).2.1
  have hspec := optOf_spec (fun C => scoreOf C vs) (combos (n, k)) fun C _ => score_nonneg hpos
  have hcne : combos (n, k) ≠ [] := by
    have : ∀ q ∈ cases4, combos q ≠ [] := by decide +kernel
    exact this _ LB.cases
  have hopt : (optOf (fun C => scoreOf C vs) (combos (n, k))).2 ≠ [] := fun q => by
    obtain ⟨C, hC, e⟩ := hspec.2.1 hcne
    have : C ∈ (optOf (fun C => scoreOf C vs) (combos (n, k))).2 := by rw [hspec.2.2.2]; exact List.mem_filter.mpr ⟨hC, by simpa using e⟩
    rw [q] at this; cases this
  have hosub : ∀ C ∈ (optOf (fun C => scoreOf C vs) (combos (n, k))).2, C ∈ combos (n, k) := fun C hC => by rw [hspec.2.2.2] at hC; exact (List.mem_filter.mp hC).1
  obtain ⟨oL, esL, epL, eL, eLd, _⟩ := S.F.ns
  refine compute_pav (q := (n, k)) (vs := vs) ?d1 ?u1 LB.cases hopt hvs (by omega) (S.B.keeps (fun b o e => hideAll_get _ (S.F.keep b o e) fun hm => ?hb) fun b hb => hideAll_none _ (List.mem_append_left _ hb)) S.tab ?hFS ?hft (LB.prof.keeps (hide_mono fun b hb => ?hm)) fun s2 D ws e W eD hwl told zD nD => ?_
  case d1 => walk_at "m_around"
  case u1 => walk_at "m_around"
  case hb =>
    have hm' : _ ∈ tabs ++ [L] := hm
    rcases List.mem_append.mp hm' with q | q
    · rw [S.B.no _ q] at e; cases e
    · rw [List.mem_singleton.mp q, Heap.get?_none_of_le S.F.above] at e; cases e
  case hFS =>
    intro e he
    have he' : e ∈ [_] := he
    rw [List.mem_singleton.mp he']
    exact ⟨(by show ScopeKind.function ≠ ScopeKind.module; decide), L, oL, esL, epL, rfl, eL, eLd⟩
  case hft =>
    intro b hb
    have hb' : b ∈ [L] := hb
    rw [List.mem_singleton.mp hb']
    exact S.nL
  case hm =>
    have hm' : b ∈ tabs ++ [L] := hb
    rcases List.mem_append.mp hm' with q | q
    · exact List.mem_append_left _ (tabs_lawEx q)
    · rw [List.mem_singleton.mp q]; simp
  have W' : FW [L] s s2 := ⟨fun b o h1 h2 e => W.k b o h1 h2 e, fun b hb o e => W.sl b hb o e, W.tab, W.gens, W.drawn, W.os⟩
  have S2 := S.fw W'
  have kx2 : ∀ {mu}, KX L mu s.heap s2.heap := fun {mu} => KX.fw W'
  refine ⟨D, ws.toArray, _, rfl, S2, ⟨_, eD, rfl, _, rfl⟩, by rw [List.size_toArray]; exact hwl, ?hsz, fun j v hj => ?htold, fun C hC => combos_sub _ LB.cases C (hosub C hC), fun lt h3 tk3 S3 kx3 L3 => ⟨trivial, ?_⟩⟩
  case hsz =>
    have h1 := optOf_len (fun C => scoreOf C vs) (combos (n, k))
    have h2 := combos_few _ LB.cases
    rw [List.size_toArray, hwl]; omega
  case htold =>
    obtain ⟨y, dx, tf, ep, led, e1, e2, e3, -, -⟩ := told j v (by simpa using hj)
    exact ⟨y, dx, tf, ep, led, e1, e2, e3⟩
  have F3 := S3.F
  have kx3' : ∀ {mu}, KX L mu s.heap h3 := fun {mu} => kx2.trans (kx3.more (by simp))
  have B3 : BalAt h3 lb bs := LB.bal.keeps (vis_to kx3')
  clear F0
  refine execs_next (asgL (mg := mg) (mb := mb) (g := g) (L := L) rfl rfl rfl rfl ?_)
  refine sum_comp (A := (aro dp un (some []) gd).deeper _) (bs := bs) (fun q => q.2) rfl S3.B.X S3.B.T S3.F.keep rfl rfl rfl rfl rfl (by decide) rfl (by decide) (fun _ => rfl) (fun _ => rfl) (fun _ => rfl) (fun Q' hQ' => nameLS S3 rfl (upd_there (by decide) LB.ballots) rfl rfl (by decide) hQ') B3 (by have := LB.len; omega) ?q fun h4 tk4 t4 k4 => ?_
  case q =>
    intro C i la t s₃ m₃ E' hi hn ha hb' hla hk
    exact nameL hn hb' rfl rfl (by decide) ⟨⟨t, rfl⟩, _, _, rfl, fun _ _ e => e⟩
  refine ⟨_, _, S3.keeps k4, fun h5 tk5 S5 hs5 => ⟨rfl, ?_⟩⟩
  have F5 := S5.F
  clear F3
  refine execs_next (asgL (mg := mg) (mb := mb) (g := g) (L := L) rfl rfl rfl rfl ?_)
  k_steps
  refine new_list (by simp) fun h6 lc k6 zl6 el6 => ?_
  refine ⟨_, _, S5.keeps k6, fun h7 tk7 S7 hs7 => ⟨trivial, ?_⟩⟩
  have olc := S5.newOff zl6
  have nlL : lc ≠ L := fun q => olc.2 (by rw [q]; simp)
  have kx35 : ∀ {mu}, KX L mu h3 h5 := fun {mu} => (KX.of_keep k4).trans (KX.same (by simp) hs5)
  have kx57 : ∀ {mu}, KX L mu h5 h7 := fun {mu} => (KX.of_keep k6).trans (KX.same (by simp) hs7)
  -- what stood before the list was made stands apart from it
  have tr : ∀ {H : Heap}, KX L [] H h5 → Keep (vis L [] H) (vis L [lc] h7) := fun {H} kH b o e => by
    have hb := vis_no e
    have e5 := kH b o hb.1 hb.2 (vis_le _ _ e)
    refine vis_get (kx57 (mu := []) b o hb.1 hb.2 e5) hb.1 fun hm => ?_
    rw [List.mem_singleton.mp hm, zl6] at e5; cases e5
  have trS : Keep (vis L [] s.heap) (vis L [lc] h7) := tr (kx3'.trans kx35)
  refine cont _ _ lt lc t4 ⟨S7, ?n1, ?n2, ?n3, ?n4, ?n5, ?n6, ?n7, upd_here, LB.cases, LB.mn34, LB.prof.keeps trS, LB.bal.keeps trS, L3.keeps (tr kx35), LB.eq, LB.len, LB.ok, LB.gens.trans W.gens, W.drawn.trans LB.drawn, W.os.trans LB.os⟩ ⟨0, ?el⟩ olc
  case n1 => exact upd_there (by decide) (upd_there (by decide) (upd_there (by decide) LB.size))
  case n2 => exact upd_there (by decide) (upd_there (by decide) (upd_there (by decide) LB.many))
  case n3 => exact upd_there (by decide) (upd_there (by decide) (upd_there (by decide) LB.seats))
  case n4 => exact upd_there (by decide) (upd_there (by decide) (upd_there (by decide) LB.profile))
  case n5 => exact upd_there (by decide) (upd_there (by decide) (upd_there (by decide) LB.ballots))
  case n6 => exact upd_there (by decide) (upd_there (by decide) upd_here)
  case n7 => exact upd_there (by decide) upd_here
  case el => exact hs7.extBut _ _ nlL el6
end

end
section
local macro_rules | `(tactic| walk_at "call ref") => `(tactic| refine stopHere ?_)
local macro_rules | `(tactic| walk_at "call type:range") => `(tactic| refine stopHere ?_)
local macro_rules | `(tactic| walk_at "call builtin:len") => `(tactic| refine stopHere ?_)
local macro_rules | `(tactic| walk_at "call builtin:list.append") => `(tactic| refine stopHere ?_)
local macro_rules | `(tactic| walk_at "eval ListComp") => `(tactic| refine stopHere ?_)
local macro_rules | `(tactic| walk_at "newList") => `(tactic| refine stopHere ?_)
local macro_rules | `(tactic| walk_at "newTuple") => `(tactic| refine stopHere ?_)
local macro_rules | `(tactic| walk_at "ite") => `(tactic| refine stopHere ?_)
local macro_rules | `(tactic| walk_at "eval Call") => `(tactic| ((with_reducible show wpAny _ _ (eval (Expr.Call (Expr.Name _ _) _ _ _) _) _ _ _); refine wpAny_Call_Name_kw ?_))
local macro_rules | `(tactic| walk_at "eval Name") => `(tactic| first
  | (refine nameLS (by assumption) rfl (by first | assumption | exact upd_here) rfl rfl (by decide) ?_)
  | (refine nameCS (i := 2) (by assumption) rfl (by decide +kernel) (by first | assumption | exact upd_here) rfl rfl (by decide) ?_)
  | (refine nameCS (i := 1) (by assumption) rfl (by decide +kernel) (by first | assumption | exact upd_here) rfl rfl (by decide) ?_))
/-- an element of the law's committees -/
def ComE (h : Heap) (v : Value) (C : List Nat) (vs : List (Addr × List Nat × Int)) : Prop := ∃ T sv a, v = .ref T ∧ h.IsTuple T #[sv, .ref a] ∧ NumS h sv (scoreOf C vs) ∧ IntL h (.ref a) C
theorem ComE.keeps {h h' : Heap} {v : Value} {C : List Nat} {vs : List (Addr × List Nat × Int)} (x : ComE h v C vs) (k : Keep h h') : ComE h' v C vs := let ⟨T, sv, a, e1, ⟨o, e2, r⟩, e3, e4⟩ := x; ⟨T, sv, a, e1, ⟨o, k _ _ e2, r⟩, e3.keeps k, e4.keeps k⟩
theorem NewN.vis {base h : Heap} {L' : Addr} {v : Value} {S : Int} {ex : List Addr} (V : NewN base L' h v S) (hex : ∀ a ∈ ex, base.get? a ≠ none) : NumS (hideAll h ex) v S := by
  rcases V with ⟨k, t, e, q⟩ | ⟨x, dx, h1, a1, n, t1, h2, a2, d, t2, c, e, q, N⟩
  · exact .inl ⟨k, t, e, q⟩
  · refine .inr ⟨x, e, n, d, ⟨dx, h1, a1, t1, h2, a2, t2, c, hideAll_get _ (N _ (.head _)).1 (fun hm => hex _ hm (N _ (.head _)).2.2), hideAll_get _ (N _ (.tail _ (.head _))).1 (fun hm => hex _ hm (N _ (.tail _ (.head _))).2.2)⟩, q⟩
theorem src_intL {h : Heap} {a : Addr} {B : List Nat} (hB : B ∈ sub4) (x : IntL h (.ref a) B) : Src w h a B := by
  obtain ⟨us, hl, hI⟩ := x.isList
  have hlen := hI.length
  rw [List.length_map] at hlen
  refine src_list hB hl (by rw [List.size_toArray]; exact hlen) fun j v hj => ?_
  obtain ⟨k, t, rfl, q⟩ := hI.at j v (by simpa using hj)
  rw [List.getElem?_map] at q
  cases r : B[j]? with
  | none => rw [r] at q; cases q
  | some z => rw [r] at q; cases q; exact ⟨t, by rw [List.getD_eq_getElem?_getD, r]; rfl⟩
def loopD : List Stmt := inBody (lawSt 10)
section
variable {dp un : Nat} {gd : Option (List Code)} {s : Shared} {Q : Flow → Shared → Prop} {L p lc : Addr} {g : Heap} {m cm : Str → Option Value} {n k : Nat} {v : Int} {vs : List (Addr × List Nat × Int)} {mu : List Addr} {ts tn tv : Tok} {Cs : List (List Nat)}
theorem turn_d (hdp : dp + 120 < recursionLimit) (hu : un + 1600 < cLine) (S : LawSt w mg mb g L m cm s.heap) (hnum : cm (Str.ofString "number") = some (.int v tv))
    (hsz : m (Str.ofString "size") = some (.int (n : Nat) ts)) (hk : m (Str.ofString "seats") = some (.int (k : Nat) tn)) (hp : m (Str.ofString "profile") = some (.ref p)) (hc : m (Str.ofString "committees") = some (.ref lc)) (hn : n = 3 ∨ n = 4) (hk3 : k ≤ 3)
    (P : ProfAt w (vis L (lc :: mu) s.heap) p n vs) {its : List Value} {nn : Nat} (elc : s.heap.get? lc = some (seqObj "list" its.toArray nn)) (hits : its.length = Cs.length) (hCs : Cs.length ≤ 100)
    (CE : ∀ (j : Nat) (u : Value), its[j]? = some u → ComE (vis L (lc :: mu) s.heap) u (Cs.getD j []) vs) (lc0 : g.get? lc = none ∧ lc ∉ lawEx L) (hlm : lc ∉ mu) (hmu : ∀ a ∈ mu, s.heap.get? a ≠ none ∧ a ∉ lawEx L)
    (h : ∀ h' tk cm' its' nn', LawSt w mg mb g L m cm' h' → KX L [lc] s.heap h' → h'.get? lc = some (seqObj "list" (List.toArray its') nn') → its'.length = (Cs ++ [(List.range n).filter (bitOf v)].filter fun C => C.length == k).length →
      (∀ (j : Nat) (u : Value), its'[j]? = some u → ComE (vis L (lc :: mu) h') u ((Cs ++ [(List.range n).filter (bitOf v)].filter fun C => C.length == k).getD j []) vs) → Q .next { s with heap := h', toks := tk }) :
    wpAny (model PP w) ((aro dp un (some []) gd).deeper (lawEnv L)) (execs loopD (lawEnv L)) Q never s := by
  generalize hB : loopD = body
  generalize hE : lawEnv L = env
  unfold lawEnv at hE
  generalize hSc : lawScope = scp at hE
  conv at hSc => lhs; whnf
  conv at hB => lhs; whnf
  dsimp only at hSc hB
  subst hSc hE hB
  have F0 := S.F
  have X' := S.B.X
  have T' := S.B.T
  have hcell := S.cellAt (x := Str.ofString "number") (i := 1) (by simp)
  rw [hnum] at hcell
  refine execs_next (asgC (mg := mg) (mb := mb) (g := g) (L := L) (i := 2) rfl (by decide +kernel) rfl rfl rfl ?_)
  refine bit_comp (N := n) rfl hn rfl (by decide) rfl (by decide) (fun _ => rfl) (fun _ => rfl) (fun _ => rfl) (by decide) (by decide) rfl hcell (fun Q' hQ' => ?_) fun l4 h4 tk4 ys zl4 k4 pl4 pr4 => ?_
  · k_steps
    show wpAny _ _ _ _ _ _
    exact range_1 fun r t u z h' tk hr kr _ => hQ' r t u z h' tk hr kr
  refine ⟨_, _, S.keeps k4, fun h5 tk5 S5 hs5 => ⟨rfl, ?_⟩⟩
  have hIB : IntsAre ys.toList (((List.range n).filter (bitOf v)).map fun (k : Nat) => (k : Int)) := paired_ints pr4
  have hB := bits_sub hn (bitOf v)
  generalize (List.range n).filter (bitOf v) = B at hB hIB h
  obtain ⟨c4, pl4⟩ := pl4
  have ol4 := S.newOff zl4
  have el5 : h5.get? l4 = some (seqObj "list" ys.toList.toArray c4) := hs5.extBut _ _ (fun q => ol4.2 (by rw [q]; simp)) (by rw [Array.toArray_toList]; exact pl4)
  have kx5 : ∀ {mu}, KX L mu s.heap h5 := fun {mu} => (KX.of_keep k4).trans (KX.same (by simp) hs5)
  have F5 := S5.F
  clear F0
  have hlB : ys.toList.length = B.length := by have := hIB.length; rwa [List.length_map] at this
  have hB4 := sub4_le hB
  refine execs_next (wpAny_If ?_)
  k_steps
  refine call_len_list (items := ys.toList.toArray) ⟨_, el5, rfl, _, rfl⟩ (by rw [List.size_toArray]; omega) ?_
  rw [List.size_toArray, hlB]
  k_steps
  show ite _ _ _
  have hlen : ∀ nw, (Cs ++ nw).length = Cs.length + nw.length := fun nw => List.length_append
  have cond : ((B.length : Int) == (k : Int)) = (B.length == k) := by
    rw [Bool.eq_iff_iff]
    simp
    omega
  rw [cond]
  by_cases c1 : (B.length == k) = true
  · rw [if_pos c1]
    rw [show ([B].filter fun C => C.length == k) = [B] from by simp [c1]] at h
    refine execs_next (wpAny_Expr ?_ rfl rfl)
    refine wpAny_Call_append rfl rfl rfl rfl ?_
    have elc5 : h5.get? lc = some (seqObj "list" its.toArray nn) := kx5 (mu := []) _ _ lc0.2 (by simp) elc
    refine nameLS S5 rfl hc rfl rfl (by decide) ⟨lc, its.toArray, rfl, ⟨_, _, elc5, rfl, rfl, rfl⟩, ?_⟩
    k_steps
    show wpAny _ _ (call (.ref 346) [.str (Str.ofString "pav") _, .ref p, .ref l4]) _ _ _
    have hBk : B.length = k := by simpa using c1
    refine thiele (C := B) (vs := vs) (n := n) ?d3 ?u3 S5.good.good (P.keeps (vis_to kx5)) (src_intL hB ⟨l4, _, _, rfl, el5, hIB⟩) (by omega) fun v6 h6 tk6 L6 k6 V6 => ?_
    case d3 => walk_at "m_around"
    case u3 => walk_at "m_around"
    have S6 := S5.keeps k6
    have F6 := S6.F
    clear F5
    k_steps
    refine new_tuple (by simp) fun h7 T7 k7 zT7 eT7 => ?_
    have S7 := S6.keeps k7
    have elc7 := k7 _ _ (k6 _ _ elc5)
    clear F6
    k_steps
    show wpAny _ _ _ _ _ _
    refine wpAny_list_append_plain (items := its.toArray) ⟨nn, elc7⟩ (fun h8 pl8 hs8 => ?_) (by rw [List.size_toArray, sizeLine_eq]; omega)
    have off8 : ∀ a ∈ [lc], g.get? a = none ∧ a ∉ lawEx L := fun a ha => by rw [List.mem_singleton.mp ha]; exact lc0
    have S8 := S7.off (mu := [lc]) (fun b o hb e => hs8.extBut b o (by simpa using hb) e) off8
    have kx8 : KX L [lc] s.heap h8 := ((kx5 (mu := [lc])).trans (KX.of_keep (Keep.trans k6 k7))).trans (KX.sameM (by simp) hs8)
    obtain ⟨n8, elc8⟩ := pl8
    dsimp only
    refine ⟨trivial, wpAny_execs_nil ⟨rfl, wpAny_execs_nil ?_⟩⟩
    have live5 : ∀ a ∈ lawEx L ++ lc :: mu, h5.get? a ≠ none := fun a ha z => by
      obtain ⟨z1, z2⟩ := S5.newOff z
      rcases List.mem_append.mp ha with ha | ha
      · exact z2 ha
      · rcases List.mem_cons.mp ha with q | ha
        · rw [q, elc5] at z; cases z
        · obtain ⟨z3, z4⟩ := hmu a ha
          cases q : s.heap.get? a with
          | none => exact z3 q
          | some o => rw [kx5 (mu := []) a o z4 (by simp) q] at z; cases z
    have up : ∀ {a o}, a ∉ lawEx L ++ lc :: mu → h7.get? a = some o → (vis L (lc :: mu) h8).get? a = some o := fun {a o} ha e => hideAll_get _ (hs8.extBut _ _ (fun q => ha (by rw [q]; simp)) e) ha
    have nT7 : T7 ∉ lawEx L ++ lc :: mu := fun hm => live5 _ hm (none_of_keep k6 zT7)
    have nl4 : l4 ∉ lawEx L ++ lc :: mu := fun hm => by
      rcases List.mem_append.mp hm with q | q
      · exact ol4.2 q
      · rcases List.mem_cons.mp q with q | q
        · rw [q, elc] at zl4; cases zl4
        · exact (hmu _ q).1 zl4
    refine h h8 _ _ (its ++ [.ref T7]) n8 S8 kx8 (by rw [elc8]; simp) (by rw [hlen, List.length_append, hits]; rfl) fun j u hj => ?_
    rcases Nat.lt_trichotomy j its.length with q | q | q
    · rw [List.getElem?_append_left q] at hj
      rw [show (Cs ++ [B]).getD j [] = Cs.getD j [] from by rw [List.getD_eq_getElem?_getD, List.getD_eq_getElem?_getD, List.getElem?_append_left (by omega)]]
      exact (CE j u hj).keeps (vis_keep (kx8.more (by simp)))
    · subst q
      rw [List.getElem?_append_right (Nat.le_refl _), Nat.sub_self] at hj
      cases hj
      rw [show (Cs ++ [B]).getD its.length [] = B from by rw [List.getD_eq_getElem?_getD, hits, List.getElem?_append_right (Nat.le_refl _), Nat.sub_self]; rfl]
      refine ⟨T7, v6, l4, rfl, ⟨_, up nT7 eT7, rfl, _, rfl⟩, (V6.vis (ex := lawEx L ++ lc :: mu) live5).keeps fun b o e => ?_, l4, _, _, rfl, up nl4 (k7 _ _ (k6 _ _ el5)), hIB⟩
      have hb : b ∉ lawEx L ++ lc :: mu := fun hm => by rw [hideAll_none _ hm] at e; cases e
      exact up hb (k7 _ _ (of_hideAll _ e))
    · rw [List.getElem?_eq_none (by rw [List.length_append, List.length_singleton]; omega)] at hj; cases hj
  · rw [if_neg c1]
    rw [show ([B].filter fun C => C.length == k) = [] from by simp [c1], List.append_nil] at h
    refine wpAny_execs_nil ⟨rfl, wpAny_execs_nil ?_⟩
    exact h h5 _ _ its nn S5 kx5 (kx5 (mu := []) _ _ lc0.2 (by simp) elc) hits fun j u hj => (CE j u hj).keeps (vis_keep kx5)
end

end
section
section
variable {prog : Program} {A : Around} {s : Shared} {E : Value → Shared → Prop}
theorem pow2 {n : Nat} {t u : Tok} {Q : Value → Shared → Prop} (hn : n = 3 ∨ n = 4) (h : ∀ t' tk, Q (.int ((2 ^ n : Nat) : Int) t') { s with toks := tk }) : wpAny (model PP w) A (binaryOp .Pow (.int 2 t) (.int (n : Nat) u)) Q E s := by
  rcases hn with rfl | rfl
  all_goals (k_steps; exact h _ _)
end
theorem drop10 : ∃ p0 p1 p2 p3 p4 p5 p6, lawBody.drop 10 = .For (.Name (Str.ofString "number") p0) (.Call (.Name (Str.ofString "range") p1) [.BinOp (.Constant (.int 2) 0 p2) .Pow (.Name (Str.ofString "size") p3) p4] [] p5) loopD [] p6 :: lawBody.drop 11 := ⟨_, _, _, _, _, _, _, rfl⟩
def nums (n i k : Nat) : List (List Nat) := ((List.range i).map fun j => (List.range n).filter (bitOf ((j : Nat) : Int))).filter fun C => C.length == k
theorem nums_succ {n i k : Nat} : nums n (i + 1) k = nums n i k ++ [(List.range n).filter (bitOf ((i : Nat) : Int))].filter fun C => C.length == k := by
  unfold nums
  rw [List.range_succ, List.map_append, List.filter_append]
  rfl
theorem nums_all : ∀ q ∈ cases4, nums q.1 (2 ^ q.1) q.2 = numOrd q := by decide +kernel
theorem nums_len {n k : Nat} : ∀ i, (nums n i k).length ≤ i := fun i => by
  unfold nums
  refine Nat.le_trans (List.length_filter_le _ _) ?_
  rw [List.length_map, List.length_range]
  exact Nat.le_refl _
/-- the law's committees with their scores -/
def ComsAt (h : Heap) (lc : Addr) (Cs : List (List Nat)) (vs : List (Addr × List Nat × Int)) : Prop := ∃ its nn, h.get? lc = some (seqObj "list" (List.toArray its) nn) ∧ its.length = Cs.length ∧ ∀ (j : Nat) (v : Value), its[j]? = some v → ComE h v (Cs.getD j []) vs
theorem ComsAt.keeps {h h' : Heap} {lc : Addr} {Cs : List (List Nat)} {vs : List (Addr × List Nat × Int)} (x : ComsAt h lc Cs vs) (k : Keep h h') : ComsAt h' lc Cs vs := let ⟨its, nn, e1, e2, e3⟩ := x; ⟨its, nn, k _ _ e1, e2, fun j v hj => (e3 j v hj).keeps k⟩
section
variable {dp un : Nat} {gd : Option (List Code)} {s s0 : Shared} {Q : Flow → Shared → Prop} {L p lb lt lc : Addr} {g : Heap} {m cm : Str → Option Value} {n k mn : Nat} {vs : List (Addr × List Nat × Int)} {bs : List (List Nat × Int)} {ts tm tn tt : Tok}
theorem cases_k {n k : Nat} (h : (n, k) ∈ cases4) : k ≤ 3 := by
  simp only [cases4, List.mem_cons, List.not_mem_nil, or_false, Prod.mk.injEq] at h
  omega
theorem law_d (hdp : dp + 120 < recursionLimit) (hu : un + 1600 < cLine) (LC : LawC w mg mb g L s0 s m cm p lb lt lc n k mn vs bs ts tm tn tt [lc]) (elc : ∃ nn, s.heap.get? lc = some (seqObj "list" #[] nn)) (lc0 : g.get? lc = none ∧ lc ∉ lawEx L)
    (cont : ∀ s' cm', LawC w mg mb g L s0 s' m cm' p lb lt lc n k mn vs bs ts tm tn tt [] → ComsAt (vis L [] s'.heap) lc (numOrd (n, k)) vs → wpAny (model PP w) ((aro dp un (some []) gd).deeper (lawEnv L)) (execs (lawBody.drop 11) (lawEnv L)) Q never s') :
    wpAny (model PP w) ((aro dp un (some []) gd).deeper (lawEnv L)) (execs (lawBody.drop 10) (lawEnv L)) Q never s := by
  have hn := cases_n LC.cases
  have hk := cases_k LC.cases
  have S := LC.S
  obtain ⟨nn0, elc⟩ := elc
  obtain ⟨p0, p1, p2, p3, p4, p5, p6, e6⟩ := drop10
  rw [e6]
  refine execs_next (wpAny_For ?_ (fun _ => rfl))
  refine wpAny_Call_Name_kw ?_
  refine nameBS S rfl rfl (by k_is) (v := .type "range") (by decide +kernel) (by decide) lawKind (lawGlo _ (by decide +kernel)) (by decide) ?_
  refine PySem.callWith_type rfl (Calls.evalArgs_plain (Calls.spliced_cons (wpAny_BinOp (wpAny_Constant_int (nameLS S rfl LC.size lawKind (lawLoc _ (by decide +kernel)) (by decide) (pow2 hn fun t1 tk1 => Calls.spliced_nil ?_))))))
  refine range_1 fun r t u z h1 tk1 hr k1 zr => ?_
  have S1 := S.keeps k1
  have llc : ∃ o, h1.get? lc = some o := ⟨_, k1 _ _ elc⟩
  have hN : 2 ^ n ≤ 16 := by rcases hn with rfl | rfl <;> decide
  refine forR (N := 2 ^ n) (a := 0) rfl (by rw [Int.zero_add]; exact hr) (by decide) (by decide) (by omega)
    (fun I i s' => ∃ h' tk cm' its nn, s' = { s with heap := h', toks := tk } ∧ LawSt w mg mb g L m cm' h' ∧ Keep (vis L [lc] s.heap) (vis L [lc, I] h') ∧ h'.get? lc = some (seqObj "list" (List.toArray its) nn) ∧ its.length = (nums n i k).length ∧
      (∀ (j : Nat) (v : Value), its[j]? = some v → ComE (vis L [lc, I] h') v ((nums n i k).getD j []) vs))
    ?h0 ?hJ ?step ?hR
  case h0 =>
    intro I h' zI kI lI
    have kk : Keep s.heap h' := Keep.trans k1 kI
    refine ⟨h', _, cm, [], nn0, rfl, S.keeps kk, fun b o e => ?_, kk _ _ elc, rfl, fun j v hj => nomatch hj⟩
    have hb := vis_no e
    refine vis_get (kk _ _ (vis_le _ _ e)) hb.1 fun hm => ?_
    rcases List.mem_cons.mp hm with q | hm
    · exact hb.2 (by simp [q])
    · rw [List.mem_singleton.mp hm] at e
      have := k1 _ _ (vis_le _ _ e)
      rw [zI] at this; cases this
  case hJ =>
    rintro I i s' h' tk zI ⟨h2, tk2, cm', its, nn, rfl, S', K', e', l1, B'⟩ hk
    have oI := S1.newOff zI
    have nlc : lc ∉ [I] := fun hm => by rw [List.mem_singleton.mp hm] at llc; obtain ⟨o, e⟩ := llc; rw [zI] at e; cases e
    have tr : Keep (vis L [lc, I] h2) (vis L [lc, I] h') := fun b o e => by
      have hb := vis_no e
      exact vis_get (hk _ _ (fun hm => hb.2 (List.mem_cons_of_mem _ hm)) (vis_le _ _ e)) hb.1 hb.2
    exact ⟨h', tk, cm', its, nn, rfl, S'.off (mu := [I]) hk (fun a ha => by rw [List.mem_singleton.mp ha]; exact oI), Keep.trans K' tr, hk _ _ nlc e', l1, fun j v hj => (B' j v hj).keeps tr⟩
  case step =>
    rintro I i t s₁ zI hi ⟨h2, tk2, cm', its, nn, rfl, S', K', e', l1, B'⟩ lI
    have oI := S1.newOff zI
    have nlc : lc ≠ I := fun q => by rw [q] at llc; obtain ⟨o, e⟩ := llc; rw [zI] at e; cases e
    refine wpAny_assign_Name (stoC (i := 1) S' rfl (by decide +kernel) lawKind (lawCel _ (by decide +kernel)) fun h3 tk3 S3 hs3 => ?_)
    have kx3 : ∀ {mu}, KX L mu h2 h3 := fun {mu} => KX.same (by simp) hs3
    refine wpAny_mono (turn_d (mu := [I]) (v := ((i : Nat) : Int)) (tv := t) (Cs := nums n i k) (its := its) (nn := nn) (vs := vs) (Q := fun f s₃ => f = .next ∧ _) hdp hu S3 (by rw [Int.zero_add]; exact upd_here) LC.size LC.seats LC.profile LC.coms hn hk (LC.prof.keeps (Keep.trans K' (vis_keep kx3))) (kx3 (mu := []) _ _ lc0.2 (by simp) e') l1 (Nat.le_trans (nums_len i) (by omega)) (fun j u hj => (B' j u hj).keeps (vis_keep kx3)) lc0 (by simpa using nlc) (fun a ha => ?hmu)
      fun h4 tk4 cm4 its' nn' S4 kx4 el4 hl4 CE4 => ⟨rfl, ?turn⟩) (fun f s₃ h₃ => h₃) fun _ _ e => e
    case hmu =>
      rw [List.mem_singleton.mp ha]
      obtain ⟨o, e⟩ := lI
      exact ⟨(fun z => by rw [kx3 (mu := []) _ _ oI.2 (by simp) e] at z; cases z), oI.2⟩
    case turn =>
      rw [← nums_succ] at hl4 CE4
      exact ⟨fun o e => kx4 _ _ oI.2 (by simpa using Ne.symm nlc) (kx3 (mu := []) _ _ oI.2 (by simp) e), h4, tk4, cm4, its', nn', rfl, S4, Keep.trans K' (Keep.trans (vis_keep kx3) (vis_keep (kx4.more (by simp)))), el4, hl4, CE4⟩
  case hR =>
    rintro I s' zI ⟨h', tk, cm', its, nn, rfl, S', K', e', l1, B'⟩
    have K2 : Keep (vis L [lc] s.heap) (vis L [] h') := Keep.trans K' (vis_mono (by simp))
    rw [nums_all _ LC.cases] at l1 B'
    exact ⟨rfl, cont _ cm' ⟨S', LC.size, LC.many, LC.seats, LC.profile, LC.ballots, LC.told, LC.total, LC.coms, LC.cases, LC.mn34, LC.prof.keeps K2, LC.bal.keeps K2, LC.toldAt.keeps K2, LC.eq, LC.len, LC.ok, LC.gens, LC.drawn, LC.os⟩
      ⟨its, nn, vis_get e' lc0.2 (by simp), l1, fun j v hj => (B' j v hj).keeps (vis_mono (by simp))⟩⟩
end

end
section
section
variable {prog : Program} {A : Around} {s : Shared} {E : Value → Shared → Prop} {env : Env}
def OverCU (prog : Program) (w : World) (A : Around) (target : Expr) (ifs : List Expr) (elt : Expr) (cenv : Addr → Env) (U : Addr → Value → Shared → Prop) (it : Value) (s₂ : Shared) : Prop :=
  ∃ I fp wr n P St Sd p F, it = .ref I ∧ Walks2 prog w A I fp wr n P St Sd ∧ n ≤ sizeLine ∧ St 0 s₂.heap ∧ (∀ b ∈ fp, b < s₂.heap.objs.size) ∧
    (∀ C, s₂.heap.get? C = none → s₂.heap.get? (C + 1) = none → Turn prog w A target ifs elt (cenv C) C I ((C + 1) :: wr) P (fun i h => St i h ∧ ∃ v, h.IsCell (C + 1) v) (fun i h => Sd i h ∧ ∃ v, h.IsCell (C + 1) v) p F n s₂) ∧
    (∀ C D h' tk ys m', C ≠ D → s₂.heap.get? C = none → s₂.heap.get? (C + 1) = none → s₂.heap.get? D = none → h'.Ns C m' → h'.PlainList D ys → Paired F ((List.range n).filter p) ys.toList → (∀ b o, b ∉ wr → s₂.heap.get? b = some o → h'.get? b = some o) → U C (.ref D) { s₂ with heap := h', toks := tk })
theorem asg_cell {elt target iter : Expr} {ifs : List Expr} {scope : Scope} {cl : List (Str × Addr)} {cn : Str} {pos py spos : Pos} {y : Str} {Q : Flow → Shared → Prop}
    (hsw : swapsWith (.ListComp elt [⟨target, iter, ifs, 0⟩] scope pos) (some (.Name y py)) spos.line env = pure true)
    (hclos : closureFor scope env = pure cl) (hcells : ∀ n acc, cellsFrom n scope.names acc = (cn, n) :: acc) (hpush : ∀ h, pushCells h scope.names = h.push (cellObj none)) (hkind : scope.kind = .function)
    (hnames : ∀ y ∈ scope.names, y.2 = .local → scope.names.lookup y.1 = some .local) (hs : ∀ x, foldedSetIterable iter env x = pure x)
    (h : wpAny (model prog w) A (eval iter env) (fun xv s₁ => wpAny (model prog w) A (pyIter xv) (fun it s₂ => OverCU prog w A target ifs elt (fun C => { compEnvC scope cl C env with cells := (cn, C + 1) :: cl }) (UseAt prog w A E env y py Q) it s₂) E s₁) E s) :
    wpAny (model prog w) A (exec (.Assign [.Name y py] (.ListComp elt [⟨target, iter, ifs, 0⟩] scope pos) spos) env) Q E s := by
  rw [exec_Assign_Name_used _ _ _ _ hsw]
  refine wpAny_bind (wpAny_standAt (wpAny_bind ?_))
  show wpAny _ A (do let _ ← comprehension (.ListComp elt [⟨target, iter, ifs, 0⟩] scope pos) scope env _ (newList []) false (eval iter env) (some (assign (.Name y py) env))) _ _ s
  refine wpAny_bind (wpAny_mono (wpAny_comprehension_free (use := some (assign (.Name y py) env)) (Q := fun _ s' => Q .next s') rfl hs hclos hkind hnames (wpAny_mono h (fun xv s₁ h₁ => wpAny_mono h₁ (fun it s₂ h₂ => ?_) fun _ _ e => e) fun _ _ e => e)) (fun _ s' hq => wpAny_pure (wpAny_pure hq)) fun _ _ e => e)
  obtain ⟨I, fp, wr, n, P, St, Sd, p, F, rfl, W, hsz, hst, hfp, hT, hQ⟩ := h₂
  refine wpAny_newObj_type ?_
  generalize hH2 : s₂.heap.push { cls := .type "list", dict := none, data := .seq ([] : List Value).toArray } = H2
  have hC : H2.objs.size = s₂.heap.objs.size + 1 := by rw [← hH2, Heap.size_push]
  simp only [newFunctionEnv, Option.isSome_some, if_true]
  refine wpAny_bind (wpAny_alloc ?_)
  refine wpAny_bind (wpAny_layCells _ (fun name kind cells => by cases hkc : kind == NameKind.cell <;> simp [hkc]) _ _ _ _ ?_)
  rw [hcells, hpush]
  dsimp only
  rw [List.forIn_nil]
  refine wpAny_bind (wpAny_pure (wpAny_pure ?_))
  rw [show (H2.push { cls := .type "dict", dict := none, data := .dict #[] }).objs.size = H2.objs.size + 1 from Heap.size_push ..]
  generalize hH1 : (H2.push { cls := .type "dict", dict := none, data := .dict #[] }).push (cellObj none) = h₁
  have hDC : s₂.heap.objs.size ≠ H2.objs.size := by rw [hC]; exact Nat.ne_of_lt (Nat.lt_succ_self _)
  have fD : s₂.heap.get? s₂.heap.objs.size = none := Heap.get?_none_of_le (Nat.le_refl _)
  have fC : s₂.heap.get? H2.objs.size = none := Heap.get?_none_of_le (by rw [hC]; exact Nat.le_succ _)
  have fK : s₂.heap.get? (H2.objs.size + 1) = none := Heap.get?_none_of_le (by rw [hC]; exact Nat.le_succ_of_le (Nat.le_succ _))
  have off : ∀ b, s₂.heap.objs.size ≤ b → b ∉ fp := fun b hb hm => Nat.lt_irrefl _ (Nat.lt_of_le_of_lt hb (hfp _ hm))
  have hKw : H2.objs.size + 1 ∉ wr := fun hm => off _ (by rw [hC]; exact Nat.le_succ_of_le (Nat.le_succ _)) (W.sub _ hm)
  have old : ∀ b o, s₂.heap.get? b = some o → h₁.get? b = some o := fun b o e => by
    rw [← hH1]; exact Heap.get?_push_of_some _ (Heap.get?_push_of_some _ (hH2 ▸ Heap.get?_push_of_some _ e))
  have hacc : h₁.PlainList s₂.heap.objs.size #[] := ⟨_, by rw [← hH1]; exact Heap.get?_push_of_some _ (Heap.get?_push_of_some _ (hH2 ▸ Heap.get?_push_size _ rfl))⟩
  have hn₁ : h₁.Ns H2.objs.size (fun _ => none) := by
    rw [← hH1]; exact (Heap.Ns.new H2 (.type "dict")).keeps fun b o e => Heap.get?_push_of_some _ e
  have hK : h₁.IsCell (H2.objs.size + 1) none := ⟨cellObj none, by rw [← hH1]; exact push_at rfl (by rw [Heap.size_push]), rfl⟩
  have hst₁ : St 0 h₁ := W.frame _ _ _ hst fun b _ o e => old b o e
  have loop : ∀ s₃ : Shared, s₃ = { s₂ with heap := h₁ } →
      codeAny (model prog w) A (.compLoop (.ListComp elt [⟨target, iter, ifs, 0⟩] scope pos) 0 (.ref I) (.ref s₂.heap.objs.size) { compEnvC scope cl H2.objs.size env with cells := (cn, H2.objs.size + 1) :: cl })
        (compPost (model prog w) A E (some (assign (.Name y py) env)) (fun _ s' => Q .next s') (.ref s₂.heap.objs.size) H2.objs.size) s₃ := by
    rintro s₃ rfl
    refine compWalk (Walks2.cellAt W hKw) p F s₂ fC fD hDC ?_ ?_ ⟨hst₁, none, hK⟩ hacc hn₁ old (hT _ fC fK) (fun h' tk m' ys hn' hpl hF hk => ?_) hsz
    · intro hm
      rcases List.mem_cons.mp hm with z | hm
      · rw [hC] at z; exact absurd z (Nat.ne_of_lt (Nat.lt_succ_of_le (Nat.le_succ _)))
      · exact off _ (Nat.le_refl _) hm
    · intro hm
      rcases List.mem_cons.mp hm with z | hm
      · exact absurd z (Nat.ne_of_lt (Nat.lt_succ_self _))
      · exact off _ (by rw [hC]; exact Nat.le_succ _) hm
    · refine hQ _ _ h' tk ys m' (Ne.symm hDC) fC fK fD hn' hpl hF fun b o hb e => hk b o (fun hm => ?_) e
      rcases List.mem_cons.mp hm with z | hm
      · rw [z, fK] at e; cases e
      · exact hb hm
  exact codeAny_compStart_list (loop _ rfl) (W.self 0 _ _ _ hst₁ (loop _ rfl))
end

end
section
section
variable {prog : Program} {A : Around} {s : Shared} {E : Value → Shared → Prop} {env : Env} {g : Heap} {L : Addr} {m cm : Str → Option Value}
/-- [1 for approved, weight in group if cand not in approved] == [] -/
theorem all_test {gl cc : Addr} {grp : List (List Nat × Int)} {scope : Scope} {cl : List (Str × Addr)} {kk i : Nat} {ti : Tok} {p0 p1 p2 p3 p4 p5 p6 pa pb tp pos : Pos} (hh : A.handled = none) (hu : A.units + 64 < cLine) (hG : BalAt s.heap gl grp) (hg8 : grp.length ≤ 100)
    (hcl : cl.lookup (Str.ofString "cand") = some cc) (hcc : s.heap.IsCell cc (some (.int (i : Nat) ti)))
    (hgn : ∀ Q' : Value → Shared → Prop, Q' (.ref gl) s → wpAny (model PP w) A (eval (.Name (Str.ofString "group") p1) env) Q' E s)
    (hclos : closureFor scope env = pure cl) (hcell : ∀ y ∈ scope.names, y.2 ≠ .cell) (hkind : scope.kind = .function) (hnames : ∀ y ∈ scope.names, y.2 = .local → scope.names.lookup y.1 = some .local) (hs : ∀ x, foldedSetIterable (.Name (Str.ofString "group") p1) env x = pure x)
    (hca : ∀ C, (compEnvC scope cl C env).kindOf (Str.ofString "approved") = some .local) (hcb : ∀ C, (compEnvC scope cl C env).kindOf (Str.ofString "weight") = some .local) (hcd : ∀ C, (compEnvC scope cl C env).kindOf (Str.ofString "cand") = some .cell) :
    wpAny (model PP w) A (testsOf [.Compare (.ListComp (.Constant (.int 1) 0 p0) [⟨.Tuple [.Name (Str.ofString "approved") pa, .Name (Str.ofString "weight") pb] kk tp, .Name (Str.ofString "group") p1, [.Compare (.Name (Str.ofString "cand") p2) [.NotIn] [.Name (Str.ofString "approved") p3] p4], 0⟩] scope pos) [.Eq] [.List [] p5] p6] env)
      (fun ok s₄ => ok = (grp.all fun q => decide (i ∈ q.1)) ∧ Keeps s s₄) E s := by
  obtain ⟨its, nn, el, hlen, told⟩ := hG
  refine wpAny_tests_one (wpAny_isTrue_Compare1 ?_)
  refine pair_comp (items := its.toArray) (p := fun j => !decide (i ∈ (grp.getD j ([], 0)).1)) (F := fun j y => ∃ t, y = Value.int ((fun _ => (1 : Int)) j) t) (Pr := fun j va vb => ∃ la t, va = .ref la ∧ vb = .int (grp.getD j ([], 0)).2 t ∧ IntL s.heap (.ref la) (grp.getD j ([], 0)).1) hh hclos hcell hkind hnames hs hca hcb (by decide) hgn ⟨_, el, rfl, nn, rfl⟩ (by rw [List.size_toArray]; omega)
    (fun j v hv => ?_) (fun C j va vb s₃ m₃ E' hi hPr hn ha hb' hk => ?_) fun D h' tk ys zD kD pl pr => ?_
  · obtain ⟨T, la, t, e1, e2, e3⟩ := told j v (by simpa using hv)
    exact ⟨T, _, _, e1, e2, la, t, rfl, rfl, e3⟩
  · obtain ⟨la, t, rfl, rfl, hla⟩ := hPr
    obtain ⟨us, hl, hI⟩ := hla.isList
    refine wpAny_tests_one (wpAny_isTrue_Compare1 (nameC (env := compEnvC scope cl C env) hcl (let ⟨o, e, d⟩ := hcc; ⟨o, hk _ _ e, d⟩) hkind (hcd C) (by decide) (nameL hn ha hkind (hca C) (by decide) ?_)))
    refine notin_list_ints (let ⟨o, e, r⟩ := hl; ⟨o, hk _ _ e, r⟩) hI (wpAny_truthy_bool ⟨?_, ⟨_, _, rfl, fun _ _ e => e⟩, fun _ => wpAny_Constant_int ⟨⟨_, rfl⟩, _, _, rfl, fun _ _ e => e⟩⟩)
    rw [any_mem]
  · have hI : IntsAre ys.toList (((List.range its.toArray.size).filter fun j => !decide (i ∈ (grp.getD j ([], 0)).1)).map fun _ => (1 : Int)) := paired_intsF (f := fun _ => 1) pr
    refine wpAny_List (wpAny_items_nil ⟨by decide, ?_⟩)
    have kN : Keep h' (h'.push { cls := .type "list", data := .seq ([] : List Value).toArray }) := fun b o e => Heap.get?_push_of_some _ e
    refine eq_intsK (vs := ys.toList) (us := []) (ns := _) (ms := []) (by rw [Array.toArray_toList]; exact (pl.at fun o e => kN _ _ e).isList) hI ⟨_, Heap.get?_push_size _ rfl, rfl, _, rfl⟩ .nil hu (wpAny_truthy_bool ⟨?_, _, _, rfl, Keep.trans kD kN⟩)
    rw [Bool.eq_iff_iff, decide_eq_true_eq, List.map_eq_nil_iff, List.filter_eq_nil_iff, List.all_eq_true, List.size_toArray, hlen]
    constructor
    · intro h q hq
      obtain ⟨j, hj, rfl⟩ := List.getElem_of_mem hq
      have := h j (List.mem_range.mpr hj)
      rw [List.getD_eq_getElem?_getD, List.getElem?_eq_getElem hj] at this
      simpa using this
    · intro h j hj
      have hj' := List.mem_range.mp hj
      have := h _ (List.getElem_mem hj')
      rw [List.getD_eq_getElem?_getD, List.getElem?_eq_getElem hj']
      simpa using this
end
section
variable {A : Around} {s : Shared} {E : Value → Shared → Prop} {env : Env} {g : Heap} {L : Addr} {m cm : Str → Option Value}
/-- agreed = [cand for cand in range(size) if [1 for approved, weight in group if cand not in approved] == []] -/
theorem agreed_asg {n : Nat} {ts : Tok} {gl : Addr} {grp : List (List Nat × Int)} {scope scope2 : Scope} {kk : Nat} {p0 p1 p2 p3 p4 p5 p6 pa pb tp pos2 q0 q1 q2 q3 q4 pos py spos : Pos} {y : Str} {Q : Flow → Shared → Prop} {elt iter : Expr} {ifs : List Expr}
    (he : elt = .Name (Str.ofString "cand") q3) (hi : iter = .Call (.Name (Str.ofString "range") q0) [.Name (Str.ofString "size") q1] [] q2)
    (hf : ifs = [.Compare (.ListComp (.Constant (.int 1) 0 p0) [⟨.Tuple [.Name (Str.ofString "approved") pa, .Name (Str.ofString "weight") pb] kk tp, .Name (Str.ofString "group") p1, [.Compare (.Name (Str.ofString "cand") p2) [.NotIn] [.Name (Str.ofString "approved") p3] p4], 0⟩] scope2 pos2) [.Eq] [.List [] p5] p6])
    (hsw : swapsWith (.ListComp elt [⟨.Name (Str.ofString "cand") q4, iter, ifs, 0⟩] scope pos) (some (.Name y py)) spos.line env = pure true)
    (hh : A.handled = none) (hu : A.units + 64 < cLine) (hn : n = 3 ∨ n = 4) (S : LawSt w mg mb g L m cm s.heap) (hL : env.locals = L) (hkd : env.scope.kind = .function) (hgl : env.globals = mainGlobals) (hbi : env.builtins = builtinsNs)
    (hrg : env.kindOf (Str.ofString "range") = some .globalImplicit) (hsl : env.kindOf (Str.ofString "size") = some .local) (hsz : m (Str.ofString "size") = some (.int (n : Nat) ts)) (hy : env.kindOf y = some .local)
    (hgc : cm (Str.ofString "group") = some (.ref gl)) (hG : BalAt s.heap gl grp) (hg8 : grp.length ≤ 100)
    (hclos : closureFor scope env = pure [(Str.ofString "group", (L + 4 : Nat))]) (hcells : ∀ n acc, cellsFrom n scope.names acc = (Str.ofString "cand", n) :: acc) (hpush : ∀ h, pushCells h scope.names = h.push (cellObj none)) (hkind : scope.kind = .function)
    (hnames : ∀ y ∈ scope.names, y.2 = .local → scope.names.lookup y.1 = some .local) (hs : ∀ x, foldedSetIterable iter env x = pure x)
    (hck : ∀ C, (compEnvC scope [(Str.ofString "group", (L + 4 : Nat))] C env).kindOf (Str.ofString "cand") = some .cell) (hgk : ∀ C, (compEnvC scope [(Str.ofString "group", (L + 4 : Nat))] C env).kindOf (Str.ofString "group") = some .cell)
    (hclos2 : ∀ C, closureFor scope2 { compEnvC scope [(Str.ofString "group", (L + 4 : Nat))] C env with cells := [(Str.ofString "cand", C + 1), (Str.ofString "group", (L + 4 : Nat))] } = pure [(Str.ofString "cand", C + 1)]) (hcell2 : ∀ y ∈ scope2.names, y.2 ≠ .cell) (hkind2 : scope2.kind = .function)
    (hnames2 : ∀ y ∈ scope2.names, y.2 = .local → scope2.names.lookup y.1 = some .local)
    (hca : ∀ C C2, (compEnvC scope2 [(Str.ofString "cand", C + 1)] C2 { compEnvC scope [(Str.ofString "group", (L + 4 : Nat))] C env with cells := [(Str.ofString "cand", C + 1), (Str.ofString "group", (L + 4 : Nat))] }).kindOf (Str.ofString "approved") = some .local)
    (hcb : ∀ C C2, (compEnvC scope2 [(Str.ofString "cand", C + 1)] C2 { compEnvC scope [(Str.ofString "group", (L + 4 : Nat))] C env with cells := [(Str.ofString "cand", C + 1), (Str.ofString "group", (L + 4 : Nat))] }).kindOf (Str.ofString "weight") = some .local)
    (hcd : ∀ C C2, (compEnvC scope2 [(Str.ofString "cand", C + 1)] C2 { compEnvC scope [(Str.ofString "group", (L + 4 : Nat))] C env with cells := [(Str.ofString "cand", C + 1), (Str.ofString "group", (L + 4 : Nat))] }).kindOf (Str.ofString "cand") = some .cell)
    (hQ : ∀ D h3 tk (ys : Array Value), LawSt w mg mb g L (upd m y (.ref D)) cm h3 → KX L [] s.heap h3 → h3.PlainList D ys → ys.size = (agreedOf n grp).length → Q .next { s with heap := h3, toks := tk }) :
    wpAny (model PP w) A (exec (.Assign [.Name y py] (.ListComp elt [⟨.Name (Str.ofString "cand") q4, iter, ifs, 0⟩] scope pos) spos) env) Q E s := by
  refine asg_cell (cn := Str.ofString "cand") hsw hclos hcells hpush hkind hnames hs ?_
  subst he hi hf
  refine wpAny_Call_Name_kw ?_
  refine nameBS S hgl hbi (by k_is) (v := .type "range") (by decide +kernel) (by decide) hkd hrg (by decide) ?_
  refine PySem.callWith_type rfl (Calls.evalArgs_plain (Calls.spliced_cons (nameLS S hL hsz hkd hsl (by decide) (Calls.spliced_nil ?_))))
  refine range_1 fun r t u z h1 tk1 hr k1 zr => ?_
  have hsm : Builtin.Range.small 0 n 1 = true := by rcases hn with rfl | rfl <;> decide
  refine wpAny_pyIter_range hr hsm ?_
  have zI : h1.get? h1.objs.size = none := Heap.get?_none_of_le (Nat.le_refl _)
  have kI : ∀ {o1 : Obj}, Keep h1 (h1.push o1) := fun {o1} b o e => Heap.get?_push_of_some _ e
  have off : ∀ {b o}, s.heap.get? b = some o → b ∉ [h1.objs.size] := fun e hm => by rw [List.mem_singleton.mp hm] at e; rw [none_of_keep k1 zI] at e; cases e
  refine ⟨_, _, [h1.objs.size], n, _, _, _, (fun i => grp.all fun q => decide (i ∈ q.1)), fun (i : Nat) y => ∃ t, y = Value.int (i : Nat) t, rfl, Walks.two (Walks.range hh _ 0 1 n), by rw [sizeLine_eq]; omega, ?_, fun b hb => ?_, fun C hC hC1 => ?_, fun C D h' tk ys m' hCD hC hC1 hD hnC hpl hF hk => ?_⟩
  · rcases hn with rfl | rfl <;> exact Heap.get?_push_size _ rfl
  · rw [List.mem_singleton.mp hb]; exact Heap.lt_size (Heap.get?_push_size _ rfl)
  · refine turn_cell rfl hkind (hck C) rfl hC1 (fun i h h' st k => k _ _ (fun e => ?_) st) fun i vv s₃ m₃ E' hi hP hn hcc hk => ?_
    · rw [← e, Heap.get?_push_size _ rfl] at hC1
      cases hC1
    · obtain ⟨ti, rfl⟩ := hP
      have e0 : (0 : Int) + (i : Int) * 1 = (i : Int) := by omega
      rw [e0] at hcc
      have up : Keep s.heap s₃.heap := fun b o e => hk b o (off e) (kI _ _ (k1 _ _ e))
      have hgcell : s₃.heap.IsCell (L + 4) (some (.ref gl)) := by
        obtain ⟨o, e, d⟩ := S.cellAt (x := Str.ofString "group") (i := 4) (by simp)
        exact ⟨o, up _ _ e, by rw [d, hgc]⟩
      refine wpAny_mono (all_test hh hu (hG.keeps up) hg8 (cl := [(Str.ofString "cand", C + 1)]) rfl hcc (fun Q' hQ' => nameC (env := { compEnvC scope [(Str.ofString "group", (L + 4 : Nat))] C env with cells := [(Str.ofString "cand", C + 1), (Str.ofString "group", (L + 4 : Nat))] }) rfl hgcell hkind (hgk C) (by decide) hQ') (hclos2 C) hcell2 hkind2 hnames2 (fun _ => rfl) (hca C) (hcb C) (hcd C)) (fun ok s₄ hq => ⟨hq.1, hq.2, fun _ => ?_⟩) fun _ _ e => e
      obtain ⟨_, h4, tk4, rfl, k4⟩ := hq
      exact nameC (env := { compEnvC scope [(Str.ofString "group", (L + 4 : Nat))] C env with cells := [(Str.ofString "cand", C + 1), (Str.ofString "group", (L + 4 : Nat))] }) rfl (let ⟨o, e, d⟩ := hcc; ⟨o, k4 _ _ e, d⟩) hkind (hck C) (by decide) ⟨⟨ti, rfl⟩, h4, tk4, rfl, fun _ _ e => e⟩
  · have k' : Keep s.heap h' := fun b o e => hk b o (off e) (kI _ _ (k1 _ _ e))
    have zD := none_of_keep k1 (none_of_keep kI hD)
    have zC := none_of_keep k1 (none_of_keep kI hC)
    have S' := S.keeps k'
    have oC := S.newOff zC
    have lL : ∃ o, s.heap.get? L = some o := by obtain ⟨o, _, _, e, _⟩ := S.F.ns; exact ⟨o, e⟩
    have nLC : C ≠ L := fun q => by obtain ⟨o, e⟩ := lL; rw [← q, zC] at e; cases e
    refine wpAny_assign_Name (stoL (v := .ref D) S' hL hkd hy fun h2 tk2 S2 hs2 => ⟨m', hnC.sameBut hs2 nLC, fun h3 hs3 => ?_⟩)
    have S3 := S2.off (mu := [C]) (fun b o hb e => hs3.extBut b o (by simpa using hb) e) (fun a ha => by rw [List.mem_singleton.mp ha]; exact oC)
    have up : ∀ {b o}, b ∉ lawEx L → b ≠ C → h'.get? b = some o → h3.get? b = some o := fun h1 h2' e => hs3.extBut _ _ h2' (hs2.extBut _ _ (fun q => h1 (by rw [q]; simp)) e)
    obtain ⟨c, hpl⟩ := hpl
    refine hQ D h3 tk2 ys S3 (fun b o h1 _ e => up h1 (fun q => by rw [q, zC] at e; cases e) (k' b o e)) ⟨c, up (S.newOff zD).2 (Ne.symm hCD) hpl⟩ ?_
    have h1 := hF.length
    rw [Array.length_toList] at h1
    exact h1.symm
end

end
section
local macro_rules | `(tactic| walk_at "call builtin:len") => `(tactic| refine stopHere ?_)
local macro_rules | `(tactic| walk_at "call builtin:min") => `(tactic| refine stopHere ?_)
local macro_rules | `(tactic| walk_at "eval ListComp") => `(tactic| refine stopHere ?_)
local macro_rules | `(tactic| walk_at "ite") => `(tactic| refine stopHere ?_)
local macro_rules | `(tactic| walk_at "binaryOp Mult int int") => `(tactic| refine stopHere ?_)
local macro_rules | `(tactic| walk_at "binaryOp FloorDiv int int") => `(tactic| refine stopHere ?_)
local macro_rules | `(tactic| walk_at "eval Call") => `(tactic| ((with_reducible show wpAny _ _ (eval (Expr.Call (Expr.Name _ _) _ _ _) _) _ _ _); refine wpAny_Call_Name_kw ?_))
local macro_rules | `(tactic| walk_at "eval Name") => `(tactic| (refine nameLS (by assumption) rfl (by (repeat refine upd_there (by decide) ?_); first | assumption | exact upd_here) rfl rfl (by decide) ?_))
theorem paired_at {F : Nat → Value → Prop} : ∀ {l : List Nat} {ys : List Value}, Paired F l ys → ∀ (j : Nat) (y : Value), ys[j]? = some y → ∃ i, l[j]? = some i ∧ F i y
  | _, _, .nil, j, y, hj => by simp at hj
  | _, _, .cons h r, 0, y, hj => by cases hj; exact ⟨_, rfl, h⟩
  | _, _, .cons h r, j + 1, y, hj => by
    obtain ⟨i, h1, h2⟩ := paired_at r j y (by simpa using hj)
    exact ⟨i, by simpa using h1, h2⟩
theorem noPylong3 {a b : Int} (h : a.natAbs ≤ 3 * b.natAbs) : Builtin.divisionGoesByPylong a b = false := by
  unfold Builtin.divisionGoesByPylong
  have e : a.natAbs.log2 ≤ b.natAbs.log2 + 2 := by
    by_cases h0 : a.natAbs = 0
    · rw [h0]; simp
    · have h1 : a.natAbs < 2 ^ (b.natAbs.log2 + 3) := by
        have h2 : b.natAbs < 2 ^ (b.natAbs.log2 + 1) := Nat.lt_log2_self
        have h3 : 2 ^ (b.natAbs.log2 + 3) = 4 * 2 ^ (b.natAbs.log2 + 1) := by rw [show b.natAbs.log2 + 3 = (b.natAbs.log2 + 1) + 2 from rfl, Nat.pow_add]; omega
        omega
      have := (Nat.log2_lt h0).mpr h1
      omega
  simp only [Bool.and_eq_false_iff, decide_eq_false_iff_not]
  right
  by_cases ha : (a == 0) = true
  · rw [if_pos ha]; omega
  · rw [if_neg ha]
    by_cases hb : (b == 0) = true
    · have hb' : b = 0 := by simpa using hb
      subst hb'
      have : a = 0 := by simpa using h
      exact absurd (by simp [this]) ha
    · rw [if_neg hb]; omega
theorem min_ints {prog : Program} {A : Around} {E : Value → Shared → Prop} {s : Shared} {a b : Int} {t u : Tok} {Q : Value → Shared → Prop} (hh : A.handled = none) (h : ∀ d td h' tk, d ≤ a → d ≤ b → (0 ≤ a → 0 ≤ b → 0 ≤ d) → Keep s.heap h' → Q (.int d td) { s with heap := h', toks := tk }) :
    wpAny (model prog w) A (call (.builtin "min") [.int a t, .int b u]) Q E s := min_two_ints hh fun h' tk hk => by
  by_cases c : b < a
  · rw [if_pos c]; exact h b u h' tk (Int.le_of_lt c) (Int.le_refl _) (fun _ h => h) hk
  · rw [if_neg c]; exact h a t h' tk (Int.le_refl _) (Int.not_lt.mp c) (fun h _ => h) hk
theorem wp_at {M : Model} {α : Type} {A : Around} {c : Sem α} {Q : α → Shared → Prop} {E : Value → Shared → Prop} (s : Shared) (h : Heap) {tk : Nat} (hh : ∀ t', wpAny M A c Q E { s with heap := h, toks := t' }) : wpAny M A c Q E { s with heap := h, toks := tk } := hh tk
def loopE : List Stmt := inBody (nthSt (inBody (lawSt 11)) 0)
def grpOf (ch : Int) (bs : List (List Nat × Int)) : List (List Nat × Int) := ((List.range bs.length).filter (bitOf ch)).map fun i => bs.getD i ([], 0)
theorem grp_sub (ch : Int) (bs : List (List Nat × Int)) : List.Sublist (grpOf ch bs) bs := by
  have h := map_range_getD (fun q : List Nat × Int => q) ([], 0) bs
  rw [List.map_id'] at h
  have := List.Sublist.map (fun i => bs.getD i ([], 0)) (List.filter_sublist (p := bitOf ch) (l := List.range bs.length))
  rw [h] at this
  exact this
section
variable {dp un : Nat} {gd : Option (List Code)} {s : Shared} {Q : Flow → Shared → Prop} {L lb ca : Addr} {g : Heap} {m cm : Str → Option Value} {n k : Nat} {ch : Int} {bs : List (List Nat × Int)} {C : List Nat} {ts tn tt tc : Tok}
theorem turn_e (hdp : dp + 120 < recursionLimit) (hu : un + 1600 < cLine) (S : LawSt w mg mb g L m cm s.heap) (hch : cm (Str.ofString "choice") = some (.int ch tc)) (hca : cm (Str.ofString "committee") = some (.ref ca))
    (hsz : m (Str.ofString "size") = some (.int (n : Nat) ts)) (hse : m (Str.ofString "seats") = some (.int (k : Nat) tn)) (hb : m (Str.ofString "ballots") = some (.ref lb)) (hto : m (Str.ofString "total") = some (.int (weightOf bs) tt))
    (hq : (n, k) ∈ cases4) (hC : C ∈ combos (n, k)) (hCa : IntL (vis L [] s.heap) (.ref ca) C) (hB : BalAt (vis L [] s.heap) lb bs) (hb4 : bs.length ≤ 4) (hb0 : bs ≠ []) (ok : ∀ q ∈ bs, q.1 ∈ sub4 ∧ 0 < q.2 ∧ ∀ c ∈ q.1, c < n)
    (opt : ∀ C' ∈ combos (n, k), scoreB C' bs ≤ scoreB C bs)
    (h : ∀ h' tk m' cm', LawSt w mg mb g L m' cm' h' → (∀ y, y ∉ [Str.ofString "part", Str.ofString "agreed", Str.ofString "deserved", Str.ofString "had"] → m' y = m y) → (∀ y, y ≠ Str.ofString "group" → cm' y = cm y) → KX L [] s.heap h' → Q .next { s with heap := h', toks := tk }) :
    wpAny (model PP w) ((aro dp un (some []) gd).deeper (lawEnv L)) (execs loopE (lawEnv L)) Q never s := by
  have hn := cases_n hq
  generalize hBd : loopE = body
  generalize hE : lawEnv L = env
  unfold lawEnv at hE
  generalize hSc : lawScope = scp at hE
  conv at hSc => lhs; whnf
  conv at hBd => lhs; whnf
  dsimp only at hSc hBd
  subst hSc hE hBd
  obtain ⟨its, nn, el, hlen, told⟩ := id hB
  have el0 := vis_le _ _ el
  have hcell := S.cellAt (x := Str.ofString "choice") (i := 3) (by simp)
  rw [hch] at hcell
  refine execs_next (asgC (mg := mg) (mb := mb) (g := g) (L := L) (i := 4) rfl (by decide +kernel) rfl rfl rfl ?_)
  refine enum_comp (ax := lb) (items := its.toArray) (p := bitOf ch) (F := fun i y => its.toArray[i]? = some y) rfl rfl (by decide) rfl (by decide) (fun _ => rfl) (fun _ => rfl) (fun _ => rfl) (by decide) ⟨_, el0, rfl, nn, rfl⟩ (by rw [List.size_toArray]; omega) (fun Q' hQ' => ?hit) (fun Cc i t x s₃ m₃ E' hi hx hns h1 h2 hk => ?q) fun D h4 tk4 ys zD k4 pl4 pr4 => ?_
  case hit =>
    refine wpAny_Call_Name_kw (nameBS S rfl rfl (by k_is) (v := .type "enumerate") (by decide +kernel) (by decide) rfl rfl (by decide) ?_)
    refine PySem.callWith_type rfl (Calls.evalArgs_plain (Calls.spliced_cons (nameLS S rfl hb rfl rfl (by decide) (Calls.spliced_nil ?_))))
    refine call_enumerate_1 el0 fun h' e1 e2 e3 e4 => ?_
    exact hQ' h' _ _ _ e1 e2 (Heap.get?_none_of_le (Nat.le_succ _)) (Heap.get?_none_of_le (Nat.le_refl _)) (Nat.succ_ne_self _) e4
  case q =>
    refine wpAny_mono (bit_test (xn := Str.ofString "choice") (xc := Str.ofString "k") (c := L + 3) (by rw [List.size_toArray] at hi; omega) rfl rfl (let ⟨o, e, d⟩ := hcell; ⟨o, hk _ _ e, d⟩) rfl (by decide) hns h1 rfl (by decide)) (fun okk s₄ hq' => ⟨hq'.1, hq'.2, fun _ => ?_⟩) fun _ _ e => e
    obtain ⟨_, h4, tk4, rfl, k4⟩ := hq'
    exact nameL (hns.keeps k4) h2 rfl rfl (by decide) ⟨hx, h4, tk4, rfl, fun _ _ e => e⟩
  refine ⟨_, _, S.keeps k4, fun h5 tk5 S5 hs5 => ⟨rfl, wp_at s h5 fun tk5 => ?_⟩⟩
  have oD := S.newOff zD
  have kx5 : KX L [] s.heap h5 := (KX.of_keep k4).trans (KX.same (by simp) hs5)
  obtain ⟨c4, pl4⟩ := pl4
  rw [List.size_toArray, hlen] at pr4
  have hG5 : BalAt (vis L [] h5) D (grpOf ch bs) := by
    refine ⟨ys.toList, c4, vis_get (hs5.extBut _ _ (fun q => oD.2 (by rw [q]; simp)) (by rw [Array.toArray_toList]; exact pl4)) oD.2 (by simp), by unfold grpOf; rw [List.length_map]; exact pr4.length.symm, fun j v hj => ?_⟩
    obtain ⟨i, h1, h2⟩ := paired_at pr4 j v hj
    have e : (grpOf ch bs).getD j ([], 0) = bs.getD i ([], 0) := by unfold grpOf; rw [List.getD_eq_getElem?_getD, List.getElem?_map, h1]; rfl
    rw [e]
    exact (told i v (by simpa using h2)).keeps (vis_keep kx5)
  have hgs := grp_sub ch bs
  generalize grpOf ch bs = grp at hG5 hgs
  have hg4 : grp.length ≤ 4 := Nat.le_trans hgs.length_le hb4
  have hgok : ∀ q ∈ grp, q.1 ∈ sub4 ∧ 0 < q.2 ∧ ∀ c ∈ q.1, c < n := fun q hq => ok q (hgs.subset hq)
  have hCa5 := hCa.keeps (vis_keep kx5)
  -- part
  refine execs_next (asgL (mg := mg) (mb := mb) (g := g) (L := L) rfl rfl rfl rfl ?_)
  refine sum_comp (A := (aro dp un (some []) gd).deeper _) (bs := grp) (fun q => q.2) rfl S5.B.X S5.B.T S5.F.keep rfl rfl rfl rfl rfl (by decide) rfl (by decide) (fun _ => rfl) (fun _ => rfl) (fun _ => rfl) (fun Q' hQ' => nameCS (i := 4) S5 rfl (by decide +kernel) upd_here rfl rfl (by decide) hQ') (hG5.keeps vis_le) (by omega) ?q2 fun h6 tk6 t6 k6 => ?_
  case q2 =>
    intro C2 i la t s₃ m₃ E' hi hns ha hb' hla hk
    exact nameL hns hb' rfl rfl (by decide) ⟨⟨t, rfl⟩, _, _, rfl, fun _ _ e => e⟩
  refine ⟨_, _, S5.keeps k6, fun h7 tk7 S7 hs7 => ⟨rfl, wp_at s h7 fun tk7 => ?_⟩⟩
  have kx57 : KX L [] h5 h7 := (KX.of_keep k6).trans (KX.same (by simp) hs7)
  have hG7 := hG5.keeps (vis_keep kx57)
  have hCa7 := hCa5.keeps (vis_keep kx57)
  -- agreed
  refine execs_next ?_
  refine agreed_asg (mg := mg) (mb := mb) (g := g) (m := upd m (Str.ofString "part") (.int (grp.map fun q => q.2).sum t6)) (cm := upd cm (Str.ofString "group") (.ref D)) (grp := grp) (gl := D) (n := n) (L := L) rfl rfl rfl rfl rfl ?hu hn S7 rfl rfl rfl rfl rfl rfl (upd_there (by decide) hsz) rfl upd_here (hG7.keeps vis_le) (by omega) rfl (fun _ _ => rfl) (fun _ => rfl) rfl (by decide) (fun _ => rfl) (fun _ => rfl) (fun _ => rfl) (fun _ => rfl) (by decide) rfl (by decide) (fun _ _ => rfl) (fun _ _ => rfl) (fun _ _ => rfl) fun D8 h8 tk8 ys8 S8 kx8 pl8 hy8 => ⟨rfl, wp_at s h8 fun tk8 => ?_⟩
  case hu => walk_at "m_around"
  have hG8 := hG7.keeps (vis_keep kx8)
  have hCa8 := hCa7.keeps (vis_keep kx8)
  have F8 := S8.F
  -- deserved
  have hag : (agreedOf n grp).length ≤ 4 := by
    unfold agreedOf
    refine Nat.le_trans (List.length_filter_le _ _) ?_
    rw [List.length_range]; omega
  have hT : 0 < weightOf bs := weight_pos (fun q hq => ⟨(ok q hq).1, (ok q hq).2.1⟩) hb0
  have hk3 := cases_k hq
  have hPT : 0 ≤ weightOf grp ∧ weightOf grp ≤ weightOf bs := by
    have h0 : 0 ≤ weightOf grp := sum_sub (fun q : List Nat × Int => q.2) fun q hq => Int.le_of_lt (hgok q hq).2.1
    have := sum_sublist (fun q : List Nat × Int => q.2) (fun _ => 0) (fun q => q.2) hgs (fun q hq => Int.le_of_lt (ok q hq).2.1) (fun q _ => by omega)
    rw [sum_congr (g := fun q : List Nat × Int => 0 * q.2) fun q _ => by omega, sum_mulc] at this
    refine ⟨h0, ?_⟩
    unfold weightOf
    omega
  have hPe : (grp.map fun q => q.2).sum = weightOf grp := rfl
  rw [hPe] at S8
  generalize hP : weightOf grp = P at hPT S8
  have hse8 : upd (upd m (Str.ofString "part") (.int P t6)) (Str.ofString "agreed") (.ref D8) (Str.ofString "seats") = some (.int (k : Nat) tn) := upd_there (by decide) (upd_there (by decide) hse)
  have hto8 : upd (upd m (Str.ofString "part") (.int P t6)) (Str.ofString "agreed") (.ref D8) (Str.ofString "total") = some (.int (weightOf bs) tt) := upd_there (by decide) (upd_there (by decide) hto)
  refine execs_next (asgL (mg := mg) (mb := mb) (g := g) (L := L) rfl rfl rfl rfl ?_)
  refine wpAny_Call_Name_kw (nameBS S8 rfl rfl (by k_is) (v := .builtin "min") (by decide +kernel) (by decide) rfl rfl (by decide) ?_)
  refine Calls.callWith_builtin rfl (Calls.evalArgs_plain (Calls.spliced_cons ?_))
  refine wpAny_Call_Name_kw (nameBS S8 rfl rfl (by k_is) (v := .builtin "len") (by decide +kernel) (by decide) rfl rfl (by decide) ?_)
  refine Calls.callWith_builtin rfl (Calls.evalArgs_plain (Calls.spliced_cons (nameLS S8 rfl upd_here rfl rfl (by decide) (Calls.spliced_nil ?_))))
  refine call_len_list pl8.isList (by rw [hy8]; omega) ?_
  rw [hy8]
  refine Calls.spliced_cons (wpAny_BinOp (wpAny_BinOp (nameLS S8 rfl (upd_there (by decide) upd_here) rfl rfl (by decide) (nameLS S8 rfl hse8 rfl rfl (by decide) (PyProof.Rows.mul_int ?_ (mulOk_right (by omega)))))))
  refine nameLS S8 rfl hto8 rfl rfl (by decide) (PyProof.Rows.floordiv_int (by omega) ?_ (.inl (noPylong3 ?hpl)))
  case hpl =>
    rw [Int.natAbs_mul, Int.natAbs_natCast]
    have : P.natAbs * k ≤ (weightOf bs).natAbs * 3 := Nat.mul_le_mul (by omega) hk3
    omega
  refine Calls.spliced_nil ?_
  refine min_ints rfl fun d td h9 tk9 hd1 hd2 hd0 k9 => ?_
  have hdv : ((P * (k : Int)).fdiv (weightOf bs)) = (P * (k : Int)) / weightOf bs := Int.fdiv_eq_ediv_of_nonneg _ (Int.le_of_lt hT)
  have hb0' : 0 ≤ (P * (k : Int)) / weightOf bs := Int.ediv_nonneg (Int.mul_nonneg hPT.1 (Int.natCast_nonneg _)) (Int.le_of_lt hT)
  rw [hdv] at hd2 hd0
  have hd0 := hd0 (Int.natCast_nonneg _) hb0'
  have hdT : d * weightOf bs ≤ P * (k : Int) := (Int.le_ediv_iff_mul_le hT).mp hd2
  refine ⟨_, _, S8.keeps k9, fun hA tkA SA hsA => ⟨rfl, wp_at s hA fun tkA => ?_⟩⟩
  have kxA : KX L [] h8 hA := (KX.of_keep k9).trans (KX.same (by simp) hsA)
  have hGA := hG8.keeps (vis_keep kxA)
  have hCaA := hCa8.keeps (vis_keep kxA)
  -- had
  refine execs_next (asgL (mg := mg) (mb := mb) (g := g) (L := L) rfl rfl rfl rfl ?_)
  have hcc := SA.cellAt (x := Str.ofString "committee") (i := 2) (by simp)
  rw [show upd cm (Str.ofString "group") (.ref D) (Str.ofString "committee") = some (.ref ca) from upd_there (by decide) hca] at hcc
  refine sum_comp (A := (aro dp un (some []) gd).deeper _) (bs := grp) (fun q => q.2 * ((inter4 q.1 C).length : Int)) rfl SA.B.X SA.B.T SA.F.keep rfl rfl rfl rfl rfl (by decide) rfl (by decide) (fun _ => rfl) (fun _ => rfl) (fun _ => rfl) (fun Q' hQ' => nameCS (i := 4) SA rfl (by decide +kernel) upd_here rfl rfl (by decide) hQ') (hGA.keeps vis_le) (by omega) ?q3 fun hB tkB tB kB => ?_
  case q3 =>
    intro C2 i la t s₃ m₃ E' hi hns ha hb' hla hk
    have hq4 : (grp.getD i ([], 0)).1.length ≤ 4 := by
      refine sub4_le (hgok _ ?_).1
      rw [List.getD_eq_getElem?_getD, List.getElem?_eq_getElem hi]
      exact List.getElem_mem hi
    refine wpAny_BinOp (nameL hns hb' rfl rfl (by decide) ?_)
    refine len_inter (A := (aro dp un (some []) gd).deeper _) (B := (grp.getD i ([], 0)).1) (Cm := C) (la := la) (lc := ca) (c := L + 2) (m := m₃) rfl SA.B.X SA.B.T (Keep.trans SA.F.keep hk) rfl rfl rfl rfl rfl hns ha (hla.keeps hk) (by omega) rfl (by decide) rfl (by decide) (fun _ => rfl) (fun _ => rfl) (fun _ => rfl) rfl (let ⟨o, e, dd⟩ := hcc; ⟨o, hk _ _ e, dd⟩) ((hCaA.keeps vis_le).keeps hk) fun h' tk t' k' => ?_
    have hi4 : (inter4 (grp.getD i ([], 0)).1 C).length ≤ 4 := Nat.le_trans (List.length_filter_le _ _) hq4
    exact PyProof.Rows.mul_int ⟨⟨_, rfl⟩, _, _, rfl, k'⟩ (mulOk_right (by omega))
  refine ⟨_, _, SA.keeps kB, fun hD tkD SD hsD => ⟨rfl, wp_at s hD fun tkD => ?_⟩⟩
  have kxD : KX L [] hA hD := (KX.of_keep kB).trans (KX.same (by simp) hsD)
  have hHad : (grp.map fun q => q.2 * ((inter4 q.1 C).length : Int)).sum = hadOf C grp := rfl
  rw [hHad] at SD
  generalize hHv : hadOf C grp = H at SD
  have hd4 : d ≤ 4 := by omega
  have fin : ∀ t', Q .next { s with heap := hD, toks := t' } := fun t' => by
    refine h hD t' _ _ SD (fun y hy => ?_) (fun y hy => ?_) (kx5.trans (kx57.trans (kx8.trans (kxA.trans kxD))))
    · simp only [List.mem_cons, List.not_mem_nil, or_false, not_or] at hy
      unfold upd
      rw [if_neg hy.2.2.2, if_neg hy.2.2.1, if_neg hy.2.1, if_neg hy.1]
    · unfold upd
      rw [if_neg hy]
  refine execs_next (wpAny_If (wpAny_isTrue_BoolOp (wpAny_allTrue_And_cons (wpAny_isTrue_Compare1 (nameLS SD rfl (upd_there (by decide) upd_here) rfl rfl (by decide) (wpAny_Constant_int (PyProof.Rows.gt_int (wpAny_truthy_bool ?_))))))))
  by_cases hd0' : 0 < d
  · rw [decide_eq_true hd0']
    refine ite_yes ?_ rfl
    refine wpAny_allTrue_And_cons (wpAny_isTrue_Compare1 (nameLS SD rfl upd_here rfl rfl (by decide) (wpAny_BinOp (wpAny_BinOp (nameLS SD rfl (upd_there (by decide) upd_here) rfl rfl (by decide) (wpAny_Constant_int (PyProof.Rows.sub_int (nameLS SD rfl (upd_there (by decide) (upd_there (by decide) (upd_there (by decide) upd_here))) rfl rfl (by decide) (PyProof.Rows.mul_int (le_int (wpAny_truthy_bool ?_)) (mulOk_left (by omega)))))))))))
    have hlaw := avg_law hq (fun q hq => ⟨(ok q hq).1, (ok q hq).2.1⟩) hb0 hgs hC opt hd1 (by rw [hP]; exact hdT) hd0'
    rw [hP, hHv] at hlaw
    rw [decide_eq_false (by omega)]
    refine ite_no ?_ (by decide)
    refine ite_no ?_ (by decide)
    exact wpAny_execs_nil ⟨rfl, wpAny_execs_nil (fin _)⟩
  · rw [decide_eq_false hd0']
    refine ite_no ?_ (by decide)
    refine ite_no ?_ (by decide)
    exact wpAny_execs_nil ⟨rfl, wpAny_execs_nil (fin _)⟩
end

end
section
section
variable {prog : Program} {A : Around} {s : Shared} {env : Env} {body : List Stmt} {E : Value → Shared → Prop}
theorem forLoopT {R : Result → Shared → Prop} {target : Expr} {it : Value} {orelse : List Stmt} (I : Nat → Shared → Prop)
    (turn : ∀ n s, I n s → wpAny (model prog w) A (pyNext it) (fun r s₁ => match r with
      | none => wpAny (model prog w) A (execs orelse env) (fun f s₃ => R (.ok f) s₃) (notedBy (model prog w) A env fun e s' => R (.error e) s') s₁
      | some v => wpAny (model prog w) A (letOwnedTupleGo target it v) (fun _ s₀ => wpAny (model prog w) A (assign target env v) (fun _ s₂ => wpAny (model prog w) A (execs body env) (fun f s₃ => match f with
          | .next | .cont => ∃ m, m < n ∧ I m s₃
          | .brk => R (.ok .next) s₃
          | .ret v => R (.ok (.ret v)) s₃) (notedBy (model prog w) A env fun e s' => R (.error e) s') s₂) (notedBy (model prog w) A env fun e s' => R (.error e) s') s₀) (notedBy (model prog w) A env fun e s' => R (.error e) s') s₁) (notedBy (model prog w) A env fun e s' => R (.error e) s') s)
    (n : Nat) (h : I n s) : codeAny (model prog w) A (.forLoop target it body orelse env) R s := by
  refine codeAny_loop' rfl I (fun n s hI => ?_) n h
  show wpAny _ _ ((forTurn target it body orelse env).onRaise (fun x => do noteFrame x env; theTreesLotGoes x)) _ _ s
  refine wpAny_noted ?_
  simp only [forTurn]
  refine wpAny_bind (wpAny_standAt (wpAny_bind (wpAny_onRaise (wpAny_mono (turn n s hI) (fun r s₁ h₁ => ?_) fun _ _ h' => wpAny_standAt h'))))
  cases r with
  | none => exact wpAny_pure (.inr ⟨rfl, codeAny_block h₁⟩)
  | some v =>
    refine wpAny_bind (wpAny_mono h₁ (fun _ s₀ h₀ => ?_) fun _ _ h' => h')
    refine wpAny_bind (wpAny_mono h₀ (fun _ s₂ h₂ => wpAny_bind (wpAny_mono h₂ (fun f s₃ h₃ => ?_) fun _ _ h' => h')) fun _ _ h' => h')
    cases f with
    | next => exact wpAny_pure (.inl ⟨rfl, h₃⟩)
    | cont => exact wpAny_pure (.inl ⟨rfl, h₃⟩)
    | brk => exact wpAny_pure h₃
    | ret v => exact wpAny_pure h₃
/-- a for loop over a list -/
theorem forL {target : Expr} {ax : Addr} {items : Array Value} {R : Result → Shared → Prop} (hh : A.handled = none) (hl : s.heap.IsList ax items)
    (hlo : ∀ I v i (s' : Shared) (Q' : Unit → Shared → Prop) (E' : Value → Shared → Prop), s'.heap.IsListIter I ax i → v ∈ items → Q' () s' → wpAny (model prog w) A (letOwnedTupleGo target (.ref I) v) Q' E' s') (J : Addr → Nat → Shared → Prop)
    (h0 : ∀ I h', s.heap.get? I = none → Keep s.heap h' → (∃ o, h'.get? I = some o) → J I 0 { s with heap := h' })
    (hJ : ∀ I i s' h' tk, s.heap.get? I = none → J I i s' → (∀ b o, b ∉ [I] → s'.heap.get? b = some o → h'.get? b = some o) → J I i { s' with heap := h', toks := tk })
    (hlist : ∀ I i s', J I i s' → s'.heap.IsList ax items)
    (step : ∀ I i v s₁, s.heap.get? I = none → items[i]? = some v → J I i s₁ → (∃ o, s₁.heap.get? I = some o) → wpAny (model prog w) A (assign target env v) (fun _ s₂ => wpAny (model prog w) A (execs body env) (fun f s₃ => f = .next ∧ (∀ o, s₁.heap.get? I = some o → s₃.heap.get? I = some o) ∧ J I (i + 1) s₃) never s₂) never s₁)
    (hR : ∀ I s', s.heap.get? I = none → J I items.size s' → R (.ok .next) s') :
    wpAny (model prog w) A (pyIter (.ref ax)) (fun it s₂ => codeAny (model prog w) A (.forLoop target it body [] env) R s₂) E s := by
  refine wpAny_pyIter_list hl ?_
  have axlt : ax < s.heap.objs.size := by obtain ⟨o, e, _⟩ := hl; exact Heap.lt_size e
  have zI : s.heap.get? s.heap.objs.size = none := Heap.get?_none_of_le (Nat.le_refl _)
  have kk : ∀ {o : Obj}, Keep s.heap (s.heap.push o) := fun b o e => Heap.get?_push_of_some _ e
  have W := Walks.list (prog := prog) (w := w) (A := A) hh s.heap.objs.size ax (Nat.ne_of_lt axlt) items
  refine forLoopT (fun k s' => ∃ i, i ≤ items.size ∧ k = items.size - i ∧ s'.heap.IsListIter s.heap.objs.size ax i ∧ J s.heap.objs.size i s') ?_ items.size ⟨0, Nat.zero_le _, rfl, ⟨_, Heap.get?_push_size _ rfl, rfl, rfl⟩, h0 _ _ zI kk ⟨_, Heap.get?_push_size _ rfl⟩⟩
  rintro k s' ⟨i, hi, rfl, st, hj⟩
  rcases Nat.lt_or_ge i items.size with hlt | hge
  · refine W.item i _ _ _ hlt ⟨st, hlist _ _ _ hj⟩ fun v h' tk hP st' hk => ?_
    refine hlo _ v (i + 1) _ _ _ st'.1 (Array.mem_of_getElem? hP) ?_
    refine wpAny_mono (step _ i v _ zI hP (hJ _ _ _ _ _ zI hj hk) (let ⟨o, e, _⟩ := st'.1; ⟨o, e⟩)) (fun _ s₂ h₂ => ?_) fun _ _ e => e.elim
    refine wpAny_mono h₂ (fun f s₃ h₃ => ?_) fun _ _ e => e.elim
    obtain ⟨rfl, k3, hj₃⟩ := h₃
    exact ⟨items.size - (i + 1), by omega, i + 1, hlt, rfl, (let ⟨o, e, r⟩ := st'.1; ⟨o, k3 _ e, r⟩), hj₃⟩
  · have : i = items.size := Nat.le_antisymm hi hge
    subst this
    refine W.done _ _ _ ⟨st, hlist _ _ _ hj⟩ fun h' tk hk => ?_
    exact wpAny_execs_nil (hR _ _ zI (hJ _ _ _ _ _ zI hj hk))
end
theorem drop11 : ∃ p0 p1 p2 p3 p4 p5 p6 p7 p8 p9 p10, lawBody.drop 11 = .For (.Name (Str.ofString "committee") p0) (.Name (Str.ofString "told") p1) [.For (.Name (Str.ofString "choice") p2) (.Call (.Name (Str.ofString "range") p3) [.Constant (.int 1) 0 p4, .BinOp (.Constant (.int 2) 0 p5) .Pow (.Name (Str.ofString "many") p6) p7] [] p8) loopE [] p9] [] p10 :: lawBody.drop 12 :=
  ⟨_, _, _, _, _, _, _, _, _, _, _, rfl⟩
section
variable {dp un : Nat} {gd : Option (List Code)} {s : Shared} {Q : Flow → Shared → Prop} {L lb ca : Addr} {g : Heap} {m cm : Str → Option Value} {n k mn : Nat} {bs : List (List Nat × Int)} {C : List Nat} {ts tn tt tm : Tok}
abbrev offE : List Str := [Str.ofString "part", Str.ofString "agreed", Str.ofString "deserved", Str.ofString "had"]
theorem inner_e {p2 p3 p4 p5 p6 p7 p8 p9 : Pos} (hdp : dp + 120 < recursionLimit) (hu : un + 1600 < cLine) (S : LawSt w mg mb g L m cm s.heap) (hca : cm (Str.ofString "committee") = some (.ref ca)) (hma : m (Str.ofString "many") = some (.int (mn : Nat) tm)) (hmn : mn = 3 ∨ mn = 4)
    (hsz : m (Str.ofString "size") = some (.int (n : Nat) ts)) (hse : m (Str.ofString "seats") = some (.int (k : Nat) tn)) (hb : m (Str.ofString "ballots") = some (.ref lb)) (hto : m (Str.ofString "total") = some (.int (weightOf bs) tt))
    (hq : (n, k) ∈ cases4) (hC : C ∈ combos (n, k)) (hCa : IntL (vis L [] s.heap) (.ref ca) C) (hB : BalAt (vis L [] s.heap) lb bs) (hb4 : bs.length ≤ 4) (hb0 : bs ≠ []) (ok : ∀ q ∈ bs, q.1 ∈ sub4 ∧ 0 < q.2 ∧ ∀ c ∈ q.1, c < n)
    (opt : ∀ C' ∈ combos (n, k), scoreB C' bs ≤ scoreB C bs)
    (h : ∀ h' tk m' cm', LawSt w mg mb g L m' cm' h' → (∀ y, y ∉ offE → m' y = m y) → KX L [] s.heap h' → Q .next { s with heap := h', toks := tk }) :
    wpAny (model PP w) ((aro dp un (some []) gd).deeper (lawEnv L)) (exec (.For (.Name (Str.ofString "choice") p2) (.Call (.Name (Str.ofString "range") p3) [.Constant (.int 1) 0 p4, .BinOp (.Constant (.int 2) 0 p5) .Pow (.Name (Str.ofString "many") p6) p7] [] p8) loopE [] p9) (lawEnv L)) Q never s := by
  refine wpAny_For ?_ (fun _ => rfl)
  refine wpAny_Call_Name_kw ?_
  refine nameBS S rfl rfl (by k_is) (v := .type "range") (by decide +kernel) (by decide) lawKind (lawGlo _ (by decide +kernel)) (by decide) ?_
  refine PySem.callWith_type rfl (Calls.evalArgs_plain (Calls.spliced_cons ?_))
  refine wpAny_Constant_int (k := 0) (pos := p4) ?_
  refine Calls.spliced_cons ?_
  refine wpAny_BinOp (pos := p7) ?_
  refine wpAny_Constant_int (k := 0) (pos := p5) ?_
  refine nameLS S rfl hma lawKind (lawLoc _ (by decide +kernel)) (by decide) (pow2 hmn fun t1 tk1 => Calls.spliced_nil ?_)
  refine range_2 fun r t u z h1 tk1 hr k1 zr => ?_
  have S1 := S.keeps k1
  have hN : (1 : Int) + ((2 ^ mn - 1 : Nat) : Int) = ((2 ^ mn : Nat) : Int) := by rcases hmn with rfl | rfl <;> decide
  have hN2 : 2 ^ mn - 1 ≤ 1000 := by rcases hmn with rfl | rfl <;> decide
  refine forR (N := 2 ^ mn - 1) (a := 1) rfl (by rw [hN]; exact hr) (by decide) (by decide) hN2
    (fun I i s' => ∃ h' tk m' cm', s' = { s with heap := h', toks := tk } ∧ LawSt w mg mb g L m' cm' h' ∧ (∀ y, y ∉ offE → m' y = m y) ∧ (cm' (Str.ofString "committee") = some (.ref ca)) ∧ KX L [] s.heap h')
    ?h0 ?hJ ?step ?hR
  case h0 =>
    intro I h' zI kI lI
    exact ⟨h', _, m, cm, rfl, S.keeps (Keep.trans k1 kI), fun _ _ => rfl, hca, KX.of_keep (Keep.trans k1 kI)⟩
  case hJ =>
    rintro I i s' h' tk zI ⟨h2, tk2, m', cm', rfl, S', hm, hc, K⟩ hk
    have oI := S1.newOff zI
    refine ⟨h', tk, m', cm', rfl, S'.off (mu := [I]) hk (fun a ha => by rw [List.mem_singleton.mp ha]; exact oI), hm, hc, fun b o h1' h2' e => hk _ _ (fun hq => ?_) (K b o h1' h2' e)⟩
    rw [List.mem_singleton.mp hq, none_of_keep k1 zI] at e
    cases e
  case step =>
    rintro I i t s₁ zI hi ⟨h2, tk2, m', cm', rfl, S', hm, hc, K⟩ lI
    have oI := S1.newOff zI
    refine wpAny_assign_Name (stoC (i := 3) S' rfl (by decide +kernel) lawKind (lawCel _ (by decide +kernel)) fun h3 tk3 S3 hs3 => ?_)
    have kx3 : KX L [] h2 h3 := KX.same (by simp) hs3
    have K3 := K.trans kx3
    refine wpAny_mono (turn_e (lb := lb) (ca := ca) (n := n) (k := k) (bs := bs) (C := C) (ts := ts) (tn := tn) (tt := tt) (tc := t) (ch := 1 + (i : Int)) (Q := fun f s₃ => f = .next ∧ _) hdp hu S3 upd_here (upd_there (by decide) hc) ((hm _ (by decide)).trans hsz) ((hm _ (by decide)).trans hse) ((hm _ (by decide)).trans hb) ((hm _ (by decide)).trans hto) hq hC (hCa.keeps (vis_keep K3)) (hB.keeps (vis_keep K3)) hb4 hb0 ok opt
      fun h4 tk4 m4 cm4 S4 hm4 hc4 kx4 => ⟨rfl, ?turn⟩) (fun f s₃ h₃ => h₃) fun _ _ e => e
    case turn =>
      exact ⟨fun o e => kx4 _ _ oI.2 (by simp) (kx3 _ _ oI.2 (by simp) e), h4, tk4, m4, cm4, rfl, S4, fun y hy => (hm4 y hy).trans (hm y hy), (hc4 _ (by decide)).trans (upd_there (by decide) hc), K3.trans kx4⟩
  case hR =>
    rintro I s' zI ⟨h', tk, m', cm', rfl, S', hm, hc, K⟩
    exact h h' tk m' cm' S' hm K
theorem law_e {s0 : Shared} {p lt lc : Addr} {vs : List (Addr × List Nat × Int)} (hdp : dp + 120 < recursionLimit) (hu : un + 1600 < cLine) (LC : LawC w mg mb g L s0 s m cm p lb lt lc n k mn vs bs ts tm tn tt [])
    (hsco : ∀ C, scoreOf C vs = scoreB C bs) (CA : ComsAt (vis L [] s.heap) lc (numOrd (n, k)) vs)
    (cont : ∀ s' m' cm', LawC w mg mb g L s0 s' m' cm' p lb lt lc n k mn vs bs ts tm tn tt [] → ComsAt (vis L [] s'.heap) lc (numOrd (n, k)) vs → wpAny (model PP w) ((aro dp un (some []) gd).deeper (lawEnv L)) (execs (lawBody.drop 12) (lawEnv L)) Q never s') :
    wpAny (model PP w) ((aro dp un (some []) gd).deeper (lawEnv L)) (execs (lawBody.drop 11) (lawEnv L)) Q never s := by
  have S := LC.S
  obtain ⟨p0, p1, p2, p3, p4, p5, p6, p7, p8, p9, p10, e6⟩ := drop11
  rw [e6]
  obtain ⟨its, nn, el, hlen, told⟩ := id LC.toldAt
  have hb0 : bs ≠ [] := fun q => by have := LC.len; rw [q] at this; have := LC.mn34; simp at *; omega
  have hb4 : bs.length ≤ 4 := by have := LC.len; have := LC.mn34; omega
  have hpos : ∀ q ∈ vs, 0 < q.2.2 := fun q hq => by
    have h1 : q.2 ∈ bs := by rw [← LC.eq]; exact List.mem_map_of_mem hq
    exact (LC.ok _ h1).2.1
  have hspec := optOf_spec (fun C => scoreOf C vs) (combos (n, k)) fun C _ => score_nonneg hpos
  refine execs_next (wpAny_For ?_ (fun _ => rfl))
  refine nameLS S rfl LC.told lawKind (lawLoc _ (by decide +kernel)) (by decide) ?_
  refine forL (items := its.toArray) rfl ⟨_, vis_le _ _ el, rfl, nn, rfl⟩ (fun I v i s' Q' E' _ _ hq => wpAny_pure hq)
    (fun I i s' => ∃ h' tk m' cm', s' = { s with heap := h', toks := tk } ∧ LawSt w mg mb g L m' cm' h' ∧ (∀ y, y ∉ offE → m' y = m y) ∧ KX L [] s.heap h')
    ?h0 ?hJ ?hlist ?step ?hR
  case h0 =>
    intro I h' zI kI lI
    exact ⟨h', _, m, cm, rfl, S.keeps kI, fun _ _ => rfl, KX.of_keep kI⟩
  case hJ =>
    rintro I i s' h' tk zI ⟨h2, tk2, m', cm', rfl, S', hm, K⟩ hk
    have oI := S.newOff zI
    refine ⟨h', tk, m', cm', rfl, S'.off (mu := [I]) hk (fun a ha => by rw [List.mem_singleton.mp ha]; exact oI), hm, fun b o h1' h2' e => hk _ _ (fun hq => ?_) (K b o h1' h2' e)⟩
    rw [List.mem_singleton.mp hq, zI] at e
    cases e
  case hlist =>
    rintro I i s' ⟨h2, tk2, m', cm', rfl, S', hm, K⟩
    exact ⟨_, vis_to K _ _ el, rfl, nn, rfl⟩
  case step =>
    rintro I i v s₁ zI hv ⟨h2, tk2, m', cm', rfl, S', hm, K⟩ lI
    have oI := S.newOff zI
    refine wpAny_assign_Name (stoC (i := 2) S' rfl (by decide +kernel) lawKind (lawCel _ (by decide +kernel)) fun h3 tk3 S3 hs3 => ?_)
    have kx3 : KX L [] h2 h3 := KX.same (by simp) hs3
    have K3 := K.trans kx3
    obtain ⟨ca, us, nu, rfl, e2, e3⟩ := told i v (by simpa using hv)
    have hCm : (optOf (fun C => scoreOf C vs) (combos (n, k))).2.getD i [] ∈ (optOf (fun C => scoreOf C vs) (combos (n, k))).2 := by
      have : i < its.length := by have := (Array.getElem?_eq_some_iff.mp hv).1; simpa using this
      rw [List.getD_eq_getElem?_getD, List.getElem?_eq_getElem (by omega)]
      exact List.getElem_mem _
    generalize (optOf (fun C => scoreOf C vs) (combos (n, k))).2.getD i [] = C at e3 hCm
    rw [hspec.2.2.2] at hCm
    obtain ⟨hC1, hC2⟩ := List.mem_filter.mp hCm
    have hC2 : scoreOf C vs = (optOf (fun C => scoreOf C vs) (combos (n, k))).1 := by simpa using hC2
    have hCi : IntL (vis L [] s.heap) (.ref ca) C := ⟨ca, us, nu, rfl, e2, e3⟩
    refine execs_next ?_
    refine inner_e (lb := lb) (ca := ca) (n := n) (k := k) (mn := mn) (bs := bs) (C := C) (ts := ts) (tn := tn) (tt := tt) (tm := tm) hdp hu S3 upd_here ((hm _ (by decide)).trans LC.many) LC.mn34 ((hm _ (by decide)).trans LC.size) ((hm _ (by decide)).trans LC.seats) ((hm _ (by decide)).trans LC.ballots) ((hm _ (by decide)).trans LC.total) LC.cases hC1 (hCi.keeps (vis_keep K3)) (LC.bal.keeps (vis_keep K3)) hb4 hb0 LC.ok
      (fun C' hC' => by rw [← hsco, ← hsco, hC2]; exact hspec.1 C' hC') fun h4 tk4 m4 cm4 S4 hm4 kx4 => ⟨rfl, wpAny_execs_nil ⟨rfl, ?_⟩⟩
    exact ⟨fun o e => kx4 _ _ oI.2 (by simp) (kx3 _ _ oI.2 (by simp) e), h4, tk4, m4, cm4, rfl, S4, fun y hy => (hm4 y hy).trans (hm y hy), K3.trans kx4⟩
  case hR =>
    rintro I s' zI ⟨h', tk, m', cm', rfl, S', hm, K⟩
    have K2 : Keep (vis L [] s.heap) (vis L [] h') := vis_keep K
    exact ⟨rfl, cont _ m' cm' ⟨S', (hm _ (by decide)).trans LC.size, (hm _ (by decide)).trans LC.many, (hm _ (by decide)).trans LC.seats, (hm _ (by decide)).trans LC.profile, (hm _ (by decide)).trans LC.ballots, (hm _ (by decide)).trans LC.told, (hm _ (by decide)).trans LC.total, (hm _ (by decide)).trans LC.coms, LC.cases, LC.mn34, LC.prof.keeps K2, LC.bal.keeps K2, LC.toldAt.keeps K2, LC.eq, LC.len, LC.ok, LC.gens, LC.drawn, LC.os⟩ (CA.keeps K2)⟩
end

end
section
local macro_rules | `(tactic| walk_at "newList") => `(tactic| refine stopHere ?_)
def loopF : List Stmt := inBody (lawSt 12)
theorem combos_num : ∀ q ∈ cases4, ∀ C ∈ numOrd q, C ∈ combos q := by decide +kernel
section
variable {A : Around} {s : Shared} {E : Value → Shared → Prop} {env : Env} {g : Heap} {L : Addr} {m cm : Str → Option Value}
/-- score, committee = pair -/
theorem pair_law {pa pb tp : Pos} {kk : Nat} {T : Addr} {x y : Value} {Q : Unit → Shared → Prop} (hh : A.handled = none) (S : LawSt w mg mb g L m cm s.heap) (ht : s.heap.IsTuple T #[x, y]) (hL : env.locals = L) (hk : env.scope.kind = .function)
    (ha : env.kindOf (Str.ofString "score") = some .local) (hb : env.kindOf (Str.ofString "committee") = some .cell) (hc : env.cells.lookup (Str.ofString "committee") = some ((L + 2 : Nat) : Addr))
    (h : ∀ h' tk, LawSt w mg mb g L (upd m (Str.ofString "score") x) (upd cm (Str.ofString "committee") y) h' → KX L [] s.heap h' → Q () { s with heap := h', toks := tk }) :
    wpAny (model PP w) A (assign (.Tuple [.Name (Str.ofString "score") pa, .Name (Str.ofString "committee") pb] kk tp) env (.ref T)) Q E s := by
  refine wpAny_assign_Tuple hh ht rfl rfl fun h₁ he₁ => ?_
  have up₁ : Keep s.heap h₁ := fun c o e => he₁ c o (Nat.ne_of_lt (Heap.lt_size e)) e
  have S1 := S.keeps up₁
  show wpAny _ _ (assignInOrder [assign (.Name (Str.ofString "score") pa) env, assign (.Name (Str.ofString "committee") pb) env] [x, y]) _ _ _
  refine assignInOrder_cons ?_
  refine wpAny_assign_Name (stoL S1 hL hk ha fun h2 tk2 S2 hs2 => ?_)
  refine assignInOrder_cons ?_
  refine wpAny_assign_Name (stoC (i := 2) S2 hc (by decide +kernel) hk hb fun h3 tk3 S3 hs3 => ?_)
  refine assignInOrder_nil ?_
  exact h h3 _ S3 ((KX.of_keep up₁).trans ((KX.same (by simp) hs2).trans (KX.same (by simp) hs3)))
end
section
variable {dp un : Nat} {gd : Option (List Code)} {s : Shared} {Q : Flow → Shared → Prop} {L lb ca : Addr} {g : Heap} {m cm : Str → Option Value} {n k : Nat} {bs : List (List Nat × Int)} {C : List Nat} {sv : Value}
theorem inter_short {C A : List Nat} (hC : C ∈ sub4) (hA : A ∈ sub4) (hk : C.length ≤ 3) : (inter4 A C).length ≤ 3 := by
  rw [inter_comm hC hA]
  exact Nat.le_trans (List.length_filter_le _ _) hk
theorem turn_f (hdp : dp + 120 < recursionLimit) (hu : un + 1600 < cLine) (S : LawSt w mg mb g L m cm s.heap) (hca : cm (Str.ofString "committee") = some (.ref ca)) (hsc : m (Str.ofString "score") = some sv) (hb : m (Str.ofString "ballots") = some (.ref lb))
    (hCs : C ∈ sub4) (hC3 : C.length ≤ 3) (hCa : IntL (vis L [] s.heap) (.ref ca) C) (hsv : NumS s.heap sv (scoreB C bs)) (hB : BalAt (vis L [] s.heap) lb bs) (hb4 : bs.length ≤ 4) (ok : ∀ q ∈ bs, q.1 ∈ sub4)
    (h : ∀ h' tk, LawSt w mg mb g L m cm h' → Keep s.heap h' → Q .next { s with heap := h', toks := tk }) :
    wpAny (model PP w) ((aro dp un (some []) gd).deeper (lawEnv L)) (execs loopF (lawEnv L)) Q never s := by
  generalize hBd : loopF = body
  generalize hE : lawEnv L = env
  unfold lawEnv at hE
  generalize hSc : lawScope = scp at hE
  conv at hSc => lhs; whnf
  conv at hBd => lhs; whnf
  dsimp only at hSc hBd
  subst hSc hE hBd
  have hcc := S.cellAt (x := Str.ofString "committee") (i := 2) (by simp)
  rw [hca] at hcc
  refine execs_next (wpAny_If (wpAny_isTrue_Compare1 (wpAny_BinOp (nameLS S rfl hsc rfl rfl (by decide) (wpAny_Constant_int ?_)))))
  refine num_mul_int ?d1 ?u1 S.good.good hsv (by decide) fun z h2 tk2 k2 hz => ?_
  case d1 => walk_at "m_around"
  case u1 => walk_at "m_around"
  have S2 := S.keeps k2
  refine sum_comp (A := (aro dp un (some []) gd).deeper _) (bs := bs) (fun q => q.2 * gain (inter4 q.1 C).length) rfl S2.B.X S2.B.T S2.F.keep rfl rfl rfl rfl rfl (by decide) rfl (by decide) (fun _ => rfl) (fun _ => rfl) (fun _ => rfl) (fun Q' hQ' => nameLS S2 rfl hb rfl rfl (by decide) hQ') ((hB.keeps vis_le).keeps k2) (by omega) ?q3 fun h3 tk3 t3 k3 => ?_
  case q3 =>
    intro C2 i la t s₃ m₃ E' hi hns ha hb' hla hk
    have hqm : (bs.getD i ([], 0)).1 ∈ sub4 := by
      refine ok _ ?_
      rw [List.getD_eq_getElem?_getD, List.getElem?_eq_getElem hi]
      exact List.getElem_mem hi
    have hi3 := inter_short hCs hqm hC3
    have hk' := Keep.trans k2 hk
    refine wpAny_BinOp (nameL hns hb' rfl rfl (by decide) ?_)
    refine Subscript_ ?_
    k_steps
    refine new_list (by simp) fun h5 l5 k5 zl5 el5 => ?_
    refine len_inter (A := (aro dp un (some []) gd).deeper _) (B := (bs.getD i ([], 0)).1) (Cm := C) (la := la) (lc := ca) (c := L + 2) (m := m₃) rfl S2.B.X S2.B.T (Keep.trans S2.F.keep (Keep.trans hk k5)) rfl rfl rfl rfl rfl (hns.keeps k5) ha ((hla.keeps hk).keeps k5) (by have := sub4_le hqm; omega) rfl (by decide) rfl (by decide) (fun _ => rfl) (fun _ => rfl) (fun _ => rfl) rfl (let ⟨o, e, dd⟩ := hcc; ⟨o, k5 _ _ (hk' _ _ e), dd⟩) (((hCa.keeps vis_le).keeps hk').keeps k5) fun h6 tk6 t6 k6 => ?_
    refine sub_menu (k6 _ _ el5) (by omega) (fun v t7 hv => ?_) rfl
    have hg : v = gain (inter4 (bs.getD i ([], 0)).1 C).length := by
      unfold gain
      rw [List.getD_eq_getElem?_getD, hv]; rfl
    rw [hg]
    have hgb : ∀ j, (gain j).natAbs ≤ 11 := fun j => by
      match j with
      | 0 => decide
      | 1 => decide
      | 2 => decide
      | 3 => decide
      | j + 4 => exact Nat.zero_le _
    exact PyProof.Rows.mul_int ⟨⟨_, rfl⟩, _, _, rfl, Keep.trans k5 k6⟩ (mulOk_right (by have := hgb (inter4 (bs.getD i ([], 0)).1 C).length; omega))
  have hsum : (bs.map fun q => q.2 * gain (inter4 q.1 C).length).sum = scoreB C bs := sum_congr fun q hq => by rw [inter_comm hCs (ok q hq)]
  rw [hsum]
  have S3 := S2.keeps k3
  refine ne_num_int ?d2 ?u2 S3.good.good (hz.keeps k3) fun h4 tk4 k4 => ?_
  case d2 => walk_at "m_around"
  case u2 => walk_at "m_around"
  refine wpAny_truthy_bool ?_
  rw [decide_eq_true (by omega)]
  refine ite_no ?_ (by decide)
  exact wpAny_execs_nil ⟨rfl, wpAny_execs_nil (h h4 _ (S3.keeps k4) (Keep.trans k2 (Keep.trans k3 k4)))⟩
end

end
section
theorem drop12 : ∃ pa pb kk tp p1 p2, lawBody.drop 12 = .For (.Tuple [.Name (Str.ofString "score") pa, .Name (Str.ofString "committee") pb] kk tp) (.Name (Str.ofString "committees") p1) loopF [] p2 :: lawBody.drop 13 := ⟨_, _, _, _, _, _, rfl⟩
theorem num_facts : ∀ q ∈ cases4, ∀ C ∈ numOrd q, C ∈ combos q ∧ C ∈ sub4 ∧ C.length ≤ 3 := by decide +kernel
section
variable {dp un : Nat} {gd : Option (List Code)} {s s0 : Shared} {Q : Flow → Shared → Prop} {L p lb lt lc : Addr} {g : Heap} {m cm : Str → Option Value} {n k mn : Nat} {vs : List (Addr × List Nat × Int)} {bs : List (List Nat × Int)} {ts tn tt tm : Tok}
theorem law_f (hdp : dp + 120 < recursionLimit) (hu : un + 1600 < cLine) (LC : LawC w mg mb g L s0 s m cm p lb lt lc n k mn vs bs ts tm tn tt [])
    (hsco : ∀ C, scoreOf C vs = scoreB C bs) (CA : ComsAt (vis L [] s.heap) lc (numOrd (n, k)) vs)
    (cont : ∀ s' m' cm', LawC w mg mb g L s0 s' m' cm' p lb lt lc n k mn vs bs ts tm tn tt [] → ComsAt (vis L [] s'.heap) lc (numOrd (n, k)) vs → wpAny (model PP w) ((aro dp un (some []) gd).deeper (lawEnv L)) (execs (lawBody.drop 13) (lawEnv L)) Q never s') :
    wpAny (model PP w) ((aro dp un (some []) gd).deeper (lawEnv L)) (execs (lawBody.drop 12) (lawEnv L)) Q never s := by
  have S := LC.S
  obtain ⟨pa, pb, kk, tp, p1, p2, e6⟩ := drop12
  rw [e6]
  obtain ⟨its, nn, el, hlen, told⟩ := id CA
  have hb4 : bs.length ≤ 4 := by have := LC.len; have := LC.mn34; omega
  refine execs_next (wpAny_For ?_ (fun _ => rfl))
  refine nameLS S rfl LC.coms lawKind (lawLoc _ (by decide +kernel)) (by decide) ?_
  have hrefs : ∀ v ∈ its.toArray, ∃ T, v = .ref T := fun v hv => by
    obtain ⟨j, hj, rfl⟩ := Array.getElem_of_mem hv
    obtain ⟨T, _, _, e, _⟩ := told j _ (List.getElem?_eq_getElem (by simpa using hj))
    exact ⟨T, by simpa using e⟩
  refine forL (items := its.toArray) rfl ⟨_, vis_le _ _ el, rfl, nn, rfl⟩ (fun I v i s' Q' E' hit hv hq => ?hlo)
    (fun I i s' => ∃ h' tk m' cm', s' = { s with heap := h', toks := tk } ∧ LawSt w mg mb g L m' cm' h' ∧ (∀ y, y ≠ Str.ofString "score" → m' y = m y) ∧ KX L [] s.heap h')
    ?h0 ?hJ ?hlist ?step ?hR
  case hlo =>
    obtain ⟨T, rfl⟩ := hrefs v hv
    exact wpAny_letOwnedTupleGo_listiter hit hq
  case h0 =>
    intro I h' zI kI lI
    exact ⟨h', _, m, cm, rfl, S.keeps kI, fun _ _ => rfl, KX.of_keep kI⟩
  case hJ =>
    rintro I i s' h' tk zI ⟨h2, tk2, m', cm', rfl, S', hm, K⟩ hk
    have oI := S.newOff zI
    refine ⟨h', tk, m', cm', rfl, S'.off (mu := [I]) hk (fun a ha => by rw [List.mem_singleton.mp ha]; exact oI), hm, fun b o h1' h2' e => hk _ _ (fun hq => ?_) (K b o h1' h2' e)⟩
    rw [List.mem_singleton.mp hq, zI] at e
    cases e
  case hlist =>
    rintro I i s' ⟨h2, tk2, m', cm', rfl, S', hm, K⟩
    exact ⟨_, vis_to K _ _ el, rfl, nn, rfl⟩
  case step =>
    rintro I i v s₁ zI hv ⟨h2, tk2, m', cm', rfl, S', hm, K⟩ lI
    have oI := S.newOff zI
    obtain ⟨T, sv, a, rfl, hT, hN, hA⟩ := told i v (by simpa using hv)
    have hCm : (numOrd (n, k)).getD i [] ∈ numOrd (n, k) := by
      have : i < its.length := by have := (Array.getElem?_eq_some_iff.mp hv).1; simpa using this
      rw [List.getD_eq_getElem?_getD, List.getElem?_eq_getElem (by omega)]
      exact List.getElem_mem _
    generalize (numOrd (n, k)).getD i [] = C at hN hA hCm
    obtain ⟨hC1, hC2, hC3⟩ := num_facts _ LC.cases C hCm
    refine pair_law (A := (aro dp un (some []) gd).deeper (lawEnv L)) (x := sv) (y := .ref a) rfl S' (let ⟨o, e, r⟩ := hT; ⟨o, vis_to K _ _ e, r⟩) rfl lawKind (lawLoc _ (by decide +kernel)) (lawCel _ (by decide +kernel)) rfl fun h3 tk3 S3 kx3 => ?_
    have K3 := K.trans kx3
    refine turn_f (lb := lb) (ca := a) (sv := sv) (bs := bs) (C := C) hdp hu S3 upd_here upd_here (upd_there (by decide) ((hm _ (by decide)).trans LC.ballots)) hC2 hC3 (hA.keeps (vis_keep K3)) (by rw [← hsco]; exact hN.keeps (vis_to K3)) (LC.bal.keeps (vis_keep K3)) hb4 (fun q hq => (LC.ok q hq).1) fun h4 tk4 S4 k4 => ⟨rfl, ?_⟩
    refine ⟨fun o e => k4 _ _ (kx3 _ _ oI.2 (by simp) e), h4, tk4, _, _, rfl, S4, fun y hy => ?_, K3.trans (KX.of_keep k4)⟩
    unfold upd
    rw [if_neg hy]; exact hm y hy
  case hR =>
    rintro I s' zI ⟨h', tk, m', cm', rfl, S', hm, K⟩
    have K2 : Keep (vis L [] s.heap) (vis L [] h') := vis_keep K
    exact ⟨rfl, cont _ m' cm' ⟨S', (hm _ (by decide)).trans LC.size, (hm _ (by decide)).trans LC.many, (hm _ (by decide)).trans LC.seats, (hm _ (by decide)).trans LC.profile, (hm _ (by decide)).trans LC.ballots, (hm _ (by decide)).trans LC.told, (hm _ (by decide)).trans LC.total, (hm _ (by decide)).trans LC.coms, LC.cases, LC.mn34, LC.prof.keeps K2, LC.bal.keeps K2, LC.toldAt.keeps K2, LC.eq, LC.len, LC.ok, LC.gens, LC.drawn, LC.os⟩ (CA.keeps K2)⟩
end

end
section
theorem num_mem : ∀ q ∈ cases4, (∀ C ∈ numOrd q, C ∈ combos q) ∧ (∀ C ∈ combos q, C ∈ numOrd q) ∧ (∀ C ∈ combos q, C.length = q.2) ∧ (numOrd q).length ≤ 10 ∧ 0 < (numOrd q).length ∧ (combos q).length ≤ 10 := by decide +kernel
section
variable {dp un : Nat} {gd : Option (List Code)} {s s0 : Shared} {Q : Flow → Shared → Prop} {L p lb lt lc : Addr} {g : Heap} {m cm : Str → Option Value} {n k mn : Nat} {vs : List (Addr × List Nat × Int)} {bs : List (List Nat × Int)} {ts tn tt tm : Tok}
theorem law_g (hdp : dp + 120 < recursionLimit) (hu : un + 1600 < cLine) (LC : LawC w mg mb g L s0 s m cm p lb lt lc n k mn vs bs ts tm tn tt [])
    (CA : ComsAt (vis L [] s.heap) lc (numOrd (n, k)) vs)
    (h : ∀ s', GensOk s0.gens s'.gens → s'.drawn = s0.drawn → s'.os = s0.os → Keep g s'.heap → TabAt s'.heap → Q (.ret (.bool true)) s') :
    wpAny (model PP w) ((aro dp un (some []) gd).deeper (lawEnv L)) (execs (lawBody.drop 13) (lawEnv L)) Q never s := by
  have S := LC.S
  have hco := LC.coms
  have hto := LC.told
  obtain ⟨its, nn, el, hlen, told⟩ := id CA
  obtain ⟨hn1, hn2, hn3, hn4, hn5, hn6⟩ := num_mem _ LC.cases
  have hpos : ∀ q ∈ vs, 0 < q.2.2 := fun q hq => by
    have h1 : q.2 ∈ bs := by rw [← LC.eq]; exact List.mem_map_of_mem hq
    exact (LC.ok _ h1).2.1
  have hspec := optOf_spec (fun C => scoreOf C vs) (combos (n, k)) fun C _ => score_nonneg hpos
  generalize hBd : lawBody.drop 13 = body
  generalize hE : lawEnv L = env
  unfold lawEnv at hE
  generalize hSc : lawScope = scp at hE
  conv at hSc => lhs; whnf
  conv at hBd => lhs; whnf
  dsimp only at hSc hBd
  subst hSc hE hBd
  refine execs_next (asgC (mg := mg) (mb := mb) (g := g) (L := L) (i := 5) rfl (by decide +kernel) rfl rfl rfl ?_)
  refine wpAny_Call_Name_kw (nameBS S rfl rfl (by k_is) (v := .builtin "max") (by decide +kernel) (by decide) rfl rfl (by decide) ?_)
  refine Calls.callWith_builtin rfl (Calls.evalArgs_plain (Calls.spliced_cons ?_))
  refine pair_comp (items := its.toArray) (p := fun _ => true) (F := fun i y => NumS (vis L [] s.heap) y (scoreOf ((numOrd (n, k)).getD i []) vs)) (Pr := fun i va vb => NumS (vis L [] s.heap) va (scoreOf ((numOrd (n, k)).getD i []) vs)) rfl rfl (by decide) rfl (by decide) (fun _ => rfl) (fun _ => rfl) (fun _ => rfl) (by decide) (fun Q' hQ' => nameLS S rfl hco rfl rfl (by decide) hQ') ⟨_, vis_le _ _ el, rfl, nn, rfl⟩ (by rw [List.size_toArray]; omega)
    (fun i v hv => ?_) (fun C i va vb s₃ m₃ E' hi hPr hns ha hb' hk => ?_) fun D h1 tk1 ys zD kD pl pr => ?_
  · obtain ⟨T, sv, a, e1, e2, e3, e4⟩ := told i v (by simpa using hv)
    exact ⟨T, _, _, e1, (let ⟨o, e, r⟩ := e2; ⟨o, vis_le _ _ e, r⟩), e3⟩
  · refine wpAny_pure ⟨rfl, ⟨_, _, rfl, fun _ _ e => e⟩, fun _ => nameL hns ha rfl rfl (by decide) ⟨hPr, _, _, rfl, fun _ _ e => e⟩⟩
  have S1 := S.keeps kD
  rw [List.filter_eq_self.mpr (fun _ _ => rfl), List.size_toArray, hlen] at pr
  have hys : ys.size = (numOrd (n, k)).length := by have := pr.length; rw [List.length_range, Array.length_toList] at this; exact this.symm
  have hsc : ∀ i, i < (numOrd (n, k)).length → ((numOrd (n, k)).map fun C => scoreOf C vs).getD i 0 = scoreOf ((numOrd (n, k)).getD i []) vs := fun i hi => by
    rw [List.getD_eq_getElem?_getD, List.getElem?_map, List.getD_eq_getElem?_getD, List.getElem?_eq_getElem hi]; rfl
  have hN0 : ∀ (i : Nat) (v : Value), ys[i]? = some v → NumS (vis L [] s.heap) v (((numOrd (n, k)).map fun C => scoreOf C vs).getD i 0) := fun i v hv => by
    obtain ⟨j, h2, h3⟩ := paired_at pr i v (by simpa using hv)
    have hi : i < (numOrd (n, k)).length := by have := (Array.getElem?_eq_some_iff.mp hv).1; omega
    rw [List.getElem?_range hi] at h2
    cases h2
    rw [hsc i hi]
    exact h3
  have hN : ∀ (i : Nat) (v : Value), ys[i]? = some v → NumS h1 v (((numOrd (n, k)).map fun C => scoreOf C vs).getD i 0) := fun i v hv => (hN0 i v hv).keeps (vis_to (KX.of_keep kD))
  refine Calls.spliced_nil ?_
  refine max_nums (sc := (numOrd (n, k)).map fun C => scoreOf C vs) ?d1 ?u1 S1.good.good hN pl.isList (by omega) fun v b h2 tk2 hb2 hv2 hmax k2 => ?_
  case d1 => walk_at "m_around"
  case u1 => walk_at "m_around"
  have S2 := S1.keeps k2
  have hM := hN0 b v hv2
  have hbl : b < (numOrd (n, k)).length := by omega
  rw [hsc b hbl] at hM
  have hbm : (numOrd (n, k)).getD b [] ∈ numOrd (n, k) := by rw [List.getD_eq_getElem?_getD, List.getElem?_eq_getElem hbl]; exact List.getElem_mem _
  have hMo : scoreOf ((numOrd (n, k)).getD b []) vs = (optOf (fun C => scoreOf C vs) (combos (n, k))).1 := by
    refine Int.le_antisymm (hspec.1 _ (hn1 _ hbm)) ?_
    obtain ⟨C, hC, e⟩ := hspec.2.1 (fun q => by rw [q] at hn2 hn1; exact absurd (hn1 _ hbm) (by simp))
    rw [← e]
    obtain ⟨i, hi, e2⟩ := List.getElem_of_mem (hn2 C hC)
    have := hmax i (by omega)
    rw [hsc i hi, hsc b hbl] at this
    rw [List.getD_eq_getElem?_getD, List.getElem?_eq_getElem hi] at this
    have e3 : (some (numOrd (n, k))[i]).getD [] = C := e2
    rw [e3] at this
    exact this
  rw [hMo] at hM
  generalize hMv : (optOf (fun C => scoreOf C vs) (combos (n, k))).1 = M at hM hspec
  refine ⟨_, _, S2, fun h3 tk3 S3 hs3 => ⟨rfl, wp_at s h3 fun tk3 => ?_⟩⟩
  have kx3 : KX L [] s.heap h3 := (KX.of_keep (Keep.trans kD k2)).trans (KX.same (by simp) hs3)
  have hM3 : NumS h3 v M := hM.keeps (vis_to kx3)
  obtain ⟨lts, ln, elt, hlt, toldt⟩ := LC.toldAt.keeps (vis_keep kx3)
  have hto3 : m (Str.ofString "told") = some (.ref lt) := hto
  have hosub : ∀ C ∈ (optOf (fun C => scoreOf C vs) (combos (n, k))).2, C ∈ combos (n, k) := fun C hC => by rw [hspec.2.2.2] at hC; exact (List.mem_filter.mp hC).1
  refine wpAny_execs_cons (wpAny_Return_some (wpAny_Compare1 ?_))
  refine wpAny_Call_Name_kw (nameBS S3 rfl rfl (by k_is) (v := .builtin "sorted") (by decide +kernel) (by decide) rfl rfl (by decide) ?_)
  refine Calls.callWith_builtin rfl (Calls.evalArgs_plain (Calls.spliced_cons (nameLS S3 rfl hto3 rfl rfl (by decide) (Calls.spliced_nil ?_))))
  have hol := optOf_len (fun C => scoreOf C vs) (combos (n, k))
  refine sorted_lists (items := lts.toArray) (Cs := (optOf (fun C => scoreOf C vs) (combos (n, k))).2) (Ds := (optOf (fun C => scoreOf C vs) (combos (n, k))).2) (k := k) ?u2 ⟨_, vis_le _ _ elt, rfl, ln, rfl⟩ (by rw [List.size_toArray]; exact hlt) (by rw [List.size_toArray]; omega) (fun C hC => hn3 C (hosub C hC)) (fun j u hj => (toldt j u (by simpa using hj)).keeps vis_le) (sort_told _ LC.cases _ (subs_of (optOf_sub _ _))) fun h4 D4 vs4 e4 k4 z4 el4 hl4 told4 => ?_
  case u2 => walk_at "m_around"
  have S4 := S3.keeps k4
  obtain ⟨its4, nn4, elc4, hlen4, tolc4⟩ := CA.keeps (vis_keep (kx3.trans (KX.of_keep k4)))
  have hM4 := hM3.keeps k4
  have hmost := S4.cellAt (x := Str.ofString "most") (i := 5) (by simp)
  rw [show upd cm (Str.ofString "most") v (Str.ofString "most") = some v from upd_here] at hmost
  refine wpAny_Call_Name_kw (nameBS S4 rfl rfl (by k_is) (v := .builtin "sorted") (by decide +kernel) (by decide) rfl rfl (by decide) ?_)
  refine Calls.callWith_builtin rfl (Calls.evalArgs_plain (Calls.spliced_cons ?_))
  refine pair_comp (items := its4.toArray) (p := fun i => decide (scoreOf ((numOrd (n, k)).getD i []) vs = M)) (F := fun i y => IntL h4 y ((numOrd (n, k)).getD i [])) (Pr := fun i va vb => NumS h4 va (scoreOf ((numOrd (n, k)).getD i []) vs) ∧ IntL h4 vb ((numOrd (n, k)).getD i [])) rfl rfl (by decide) rfl (by decide) (fun _ => rfl) (fun _ => rfl) (fun _ => rfl) (by decide) (fun Q' hQ' => nameLS S4 rfl hco rfl rfl (by decide) hQ') ⟨_, vis_le _ _ elc4, rfl, nn4, rfl⟩ (by rw [List.size_toArray]; omega)
    (fun i u hu' => ?_) (fun C i va vb s₃ m₃ E' hi hPr hns ha hb' hk => ?_) fun D5 h5 tk5 ys5 zD5 k5 pl5 pr5 => ?_
  · obtain ⟨T, sv, a, e1, e2, e3, e4⟩ := tolc4 i u (by simpa using hu')
    exact ⟨T, _, _, e1, (let ⟨o, e, r⟩ := e2; ⟨o, vis_le _ _ e, r⟩), e3.keeps vis_le, e4.keeps vis_le⟩
  · refine wpAny_mono (E := never) (wpAny_tests_one (wpAny_isTrue_Compare1 (nameL hns ha rfl rfl (by decide) (nameC rfl (let ⟨o, e, d⟩ := hmost; ⟨o, hk _ _ e, d⟩) rfl rfl (by decide) ?_)))) (fun _ _ z => z) fun _ _ e => e.elim
    refine eq_num ?d3 ?u3 (S4.good.good.keeps hk) (hPr.1.keeps hk) (hM4.keeps hk) fun h7 tk7 k7 => wpAny_truthy_bool ⟨rfl, ⟨_, _, rfl, k7⟩, fun _ => nameL (hns.keeps k7) hb' rfl rfl (by decide) ⟨hPr.2, _, _, rfl, fun _ _ e => e⟩⟩
    case d3 => walk_at "m_around"
    case u3 => walk_at "m_around"
  have S5 := S4.keeps k5
  rw [List.size_toArray, hlen4] at pr5
  have hfr := filter_range_getD (fun C => decide (scoreOf C vs = M)) [] (numOrd (n, k))
  have hC2s : List.Sublist ((numOrd (n, k)).filter fun C => decide (scoreOf C vs = M)) (numOrd (n, k)) := List.filter_sublist
  have hl5 : ys5.size = ((numOrd (n, k)).filter fun C => decide (scoreOf C vs = M)).length := by
    have := pr5.length
    rw [Array.length_toList] at this
    rw [← hfr, List.length_map]
    exact this.symm
  have told5 : ∀ (j : Nat) (u : Value), ys5[j]? = some u → IntL h5 u (((numOrd (n, k)).filter fun C => decide (scoreOf C vs = M)).getD j []) := fun j u hj => by
    obtain ⟨i, h6, h7⟩ := paired_at pr5 j u (by simpa using hj)
    rw [← hfr, List.getD_eq_getElem?_getD, List.getElem?_map, h6]
    exact h7.keeps k5
  have hDs : ((combos (n, k)).filter fun C => decide (C ∈ (numOrd (n, k)).filter fun C => decide (scoreOf C vs = M))) = (optOf (fun C => scoreOf C vs) (combos (n, k))).2 := by
    rw [hspec.2.2.2]
    refine List.filter_congr fun C hC => ?_
    rw [Bool.eq_iff_iff, decide_eq_true_eq, List.mem_filter, beq_iff_eq, decide_eq_true_eq]
    exact ⟨fun x => x.2, fun x => ⟨hn2 C hC, x⟩⟩
  refine Calls.spliced_nil ?_
  refine sorted_lists (items := ys5) (Cs := (numOrd (n, k)).filter fun C => decide (scoreOf C vs = M)) (Ds := (optOf (fun C => scoreOf C vs) (combos (n, k))).2) (k := k) ?u4 pl5.isList hl5 (by have := hC2s.length_le; omega) (fun C hC => hn3 C (hn1 C (hC2s.subset hC))) told5 (hDs ▸ sort_num _ LC.cases _ (subs_of hC2s)) fun h6 D6 vs6 e6 k6 z6 el6 hl6 told6 => ?_
  case u4 => walk_at "m_around"
  have k46 := Keep.trans k5 k6
  refine eq_lists (Cs := (optOf (fun C => scoreOf C vs) (combos (n, k))).2) ?u5 (k46 _ _ el4) el6 hl4 hl6 (fun j u hj => (told4 j u hj).keeps k46) told6 ?_
  case u5 => walk_at "m_around"
  have S6 := S5.keeps k6
  exact h _ LC.gens LC.drawn LC.os S6.F.keep S6.tab
end

end
section
section
variable {dp un : Nat} {gd : Option (List Code)} {s : Shared} {Q : Value → Shared → Prop} {sc : Addr} {items : List Value} {ns : List Int}
theorem law_ok (hdp : dp + 130 < recursionLimit) (hu : un + 1610 < cLine) (B : BaseT w mg mb (hideAll s.heap tabs)) (t : TabAt s.heap) (hS : (hideAll s.heap tabs).IsList sc items.toArray) (hI : IntsAre items ns) (hlen : items.length ≤ 1000)
    (h : ∀ s', FW [] s s' → Q (.bool true) s') :
    wpAny (model PP w) (aro dp un (some []) gd) (call (.ref 734) [.ref sc]) Q never s := by
  obtain ⟨o1, q1⟩ := tab_obj t (c := 56) (P := 52) (by decide)
  obtain ⟨o2, q2⟩ := tab_obj t (c := 84) (P := 80) (by decide)
  obtain ⟨o3, q3⟩ := tab_obj t (c := 92) (P := 88) (by decide)
  have X1 : (K39 w.params).In s.heap := B.X.keeps hide_le
  refine wpAny_call ?_
  refine' enterY (lb := [(Str.ofString "script", .ref sc)]) (c1 := Str.ofString "number") (c2 := Str.ofString "committee") (c3 := Str.ofString "choice") (c4 := Str.ofString "group") (c5 := Str.ofString "most") (tabL o1 o2 o3) ?hled B.X B.T ?ho ?hcd ?hr ?hb ?h1 ?h2 ?h3 ?h4 ?h5 ?h6 ?_
  case hled => intro q hq; simp only [List.mem_cons, List.not_mem_nil, or_false] at hq; rcases hq with rfl | rfl | rfl <;> assumption
  case ho => k_is
  case hcd => k_is
  case hr => k_room
  case hb => first | exact BindsTo.of_eq rfl | exact binds_K X1 rfl (by k_is) rfl rfl rfl
  case h1 => exact fun n acc => rfl
  case h2 => exact fun h => rfl
  case h3 => exact locs rfl
  case h4 => exact rfl
  case h5 => exact rfl
  case h6 => exact rfl
  intro g' L' h' hg' hL' F' N' X' T'
  have hL' : L' = s.heap.objs.size := hL'
  have hg'' : g' = hideAll s.heap tabs := hg'
  clear hg'
  rw [← hg''] at B hS
  have kg : Keep g' s.heap := by rw [hg'']; exact hide_le
  have hLt : ∀ i : Nat, (L' : Nat) + i ∉ tabs := fun i => fresh_tabs t (Heap.get?_none_of_le (by rw [hL']; exact Nat.le_add_right _ _))
  have S : LawSt w mg mb g' L' (fun y => [(Str.ofString "script", Value.ref sc)].reverse.lookup y) (fun _ => none) h' := {
    B := B
    F := F'
    c1 := ⟨_, (N' _ (.head _)).1, rfl⟩
    c2 := ⟨_, (N' _ (.tail _ (.head _))).1, rfl⟩
    c3 := ⟨_, (N' _ (.tail _ (.tail _ (.head _)))).1, rfl⟩
    c4 := ⟨_, (N' _ (.tail _ (.tail _ (.tail _ (.head _))))).1, rfl⟩
    c5 := ⟨_, (N' _ (.tail _ (.tail _ (.tail _ (.tail _ (.head _)))))).1, rfl⟩
    nL := hLt 0
    nC := fun i _ _ => hLt i
    tab := tabAt_of B kg t F'.keep fun b hb o e => by
      simp only [List.mem_cons, List.not_mem_nil, or_false] at hb
      rcases hb with rfl | rfl | rfl
      · rw [q1] at e; cases e; exact (N' (52, o1) (by simp)).1
      · rw [q2] at e; cases e; exact (N' (80, o2) (by simp)).1
      · rw [q3] at e; cases e; exact (N' (88, o3) (by simp)).1 }
  refine law_a (sc := sc) (items := items) (ns := ns) (by omega) (by omega) S rfl hS hI hlen fun h1 tk1 m1 p lb lv n k mn ts tm tn LA => ?_
  refine law_b (by omega) (by omega) LA rfl hS hI hlen fun s2 m2 cm2 vs bs LB => ?_
  have hsco : ∀ C, scoreOf C vs = scoreB C bs := fun C => by
    unfold scoreOf scoreB
    rw [← LB.eq, List.map_map]
    rfl
  refine law_c (by omega) (by omega) LB fun s3 m3 lt lc tt LC elc lc0 => ?_
  refine law_d (by omega) (by omega) LC elc lc0 fun s4 cm4 LD CA => ?_
  refine law_e (by omega) (by omega) LD hsco CA fun s5 m5 cm5 LE CE => ?_
  refine law_f (by omega) (by omega) LE hsco CE fun s6 m6 cm6 LF CF => ?_
  refine law_g (by omega) (by omega) LF CF fun s7 g1 g2 g3 k7 t7 => ?_
  refine h s7 ⟨fun b o hb _ e => k7 _ _ (by rw [hg'']; exact hideAll_get _ e hb), (fun b hb => nomatch hb), t7, g1, g2, g3⟩
end

end
section
abbrev tabs3 : List (Addr × Addr) := [(56, 52), (84, 80), (92, 88)]
theorem oldK_fw {s s' : Shared} (t0 : TabsAt tabs3 s.heap) (f : FW [] s s') : OldK s.heap s'.heap := by
  have at' : ∀ b ∈ tabs, ∃ c ps, (c, b) ∈ tabs3 ∧ s.heap.get? b = some (tabObj #[]) ∧ s.heap.TableAt c b #[] ∧ s'.heap.get? b = some (tabObj ps) := by
    intro b hb
    have key : ∃ c, (c, b) ∈ tabs3 := by
      simp only [List.mem_cons, List.not_mem_nil, or_false] at hb
      rcases hb with rfl | rfl | rfl
      · exact ⟨56, by decide⟩
      · exact ⟨84, by decide⟩
      · exact ⟨92, by decide⟩
    obtain ⟨c, hc⟩ := key
    obtain ⟨x, hP⟩ := t0 _ hc
    obtain ⟨ps, y⟩ := f.tab _ hc
    exact ⟨c, ps, hc, hP, x.tab hP, y.tabAt.2⟩
  refine ⟨fun b o e => ?_, fun b o e => ?_⟩
  · by_cases hb : b ∈ tabs
    · obtain ⟨c, ps, _, h1, h2, h3⟩ := at' b hb
      rw [h1] at e
      cases e
      exact .inr (.inl ⟨h2.isCodeTable, rfl, #[], ps, rfl, by rw [h3, Array.empty_append]⟩)
    · exact .inl (f.k b o hb (fun q => nomatch q) e)
  · by_cases hb : b ∈ tabs
    · obtain ⟨c, ps, _, _, _, h3⟩ := at' b hb
      exact ⟨_, h3⟩
    · exact ⟨o, f.k b o hb (fun q => nomatch q) e⟩
theorem baseT_of {h : Heap} {bm : Addr} {ob : Obj} (X : (K39 w.params).In h) (T : TopRead hd.view_39 loose0 mg mb h) (M : BMod h mainGlobals mg bm ob) (t0 : TabsAt tabs3 h) : BaseT w mg mb (hideAll h tabs) where
  X := ghost_K (tabs := tabs3) t0 X (by kernel_rfl)
  T := ⟨ghost_ns (tabs := tabs3) t0 T.g, ghost_ns (tabs := tabs3) t0 T.b, (let ⟨mc, a, r⟩ := T.nolimit; ⟨mc, ghost_ns (tabs := tabs3) t0 a, r⟩), T.builtins, T.free⟩
  M := ⟨bm, ob, ghost_ns (tabs := tabs3) t0 M.ns, M.name, M.ne, ghost_get (tabs := tabs3) t0 M.obj (fun q => by have := M.cls; rw [q] at this; cases this), M.cls, M.dict, M.data⟩
  no := fun b hb => hideAll_none _ hb
  code := fun q hq => by
    obtain ⟨o, vs, file, tf, flags, tg, inF, text, tt, e1, r1, _⟩ := (t0 q hq).1
    exact ⟨o, ghost_get (tabs := tabs3) t0 e1 fun z => by rw [z] at r1; cases r1⟩
theorem tabAt0 {h : Heap} (t0 : TabsAt tabs3 h) : TabAt h := fun q hq => ⟨#[], .of ((t0 q hq).1.code (t0 q hq).2 trivial) ((t0 q hq).1.tab (t0 q hq).2)⟩
/-- the script's length, out of the law's premise -/
theorem most_of {R : WRecords} {ns : List Int} (h : WTm.holds R PySem.Challenge.rw_bg0002_01.row.pre { args := [ofPy (PyData.list (ns.map PyData.int))] } = true) : ns.length ≤ 63 := by
  have h1 := (holds_andW (a := .not (.lt (.lit (.int 63)) (.len (.arg 0)))) (b := .lit (.bool true)) h).1
  have h2 := condW_of h1 (by wtm_val)
  simp only [bi_not, bi_dec, bi_beq, bi_bne, bi_ite] at h2
  omega
theorem law_holds : PySem.Challenge.rw_bg0002_01.Holds := by
  refine Mine.hd ?_
  intro w s₀ s₁ mg mb G Y fa o pm cd doc dV kV ho hd' hcd hD hmg hg args vals as hpre hlay hrd hwl hlo
  have KX := km_in_of Y
  have KT := km_tabs_of Y
  have T0 := Ground.T G
  clear Y hD
  have hsh := (pre_splitW hpre).1
  have hcond := (pre_splitW hpre).2
  wrow_hasAll hsh hlay
  wrow_readAll hrd hwl hlo
  clear hpre
  rename_i ns hs1 hl0 hL0 hr0 hl2 w4 w3 sc items w0 hL ra w1 r0 hI hr
  have hmost := most_of hcond
  obtain ⟨bm, ob, M⟩ := bmod_of_top T0
  have t0 : TabsAt tabs3 s₁.heap := fun q hq => by
    simp only [List.mem_cons, List.not_mem_nil, or_false] at hq
    rcases hq with rfl | rfl | rfl
    · exact ⟨codeHd_of_K KX (by kernel_rfl), KT 52 (by decide)⟩
    · exact ⟨codeHd_of_K KX (by kernel_rfl), KT 80 (by decide)⟩
    · exact ⟨codeHd_of_K KX (by kernel_rfl), KT 88 (by decide)⟩
  have B := baseT_of KX (topRead_of T0) M t0
  have e1 : mg (Str.ofString "law") = some (.ref 734) := mg_of KX T0.g (by kernel_rfl)
  have e2 := hmg.symm.trans e1
  have e3 : fa = 734 := by injection e2 with e2; injection e2
  subst e3
  have hlen : items.length ≤ 1000 := by
    have := hI.length
    omega
  refine wpAny_mono (law_ok (dp := 301) (un := 4) (gd := some []) (Q := fun v s' => GoodWG _ _ _ _ s₁ (.ok (.ret v)) s') (by decide) (by decide) B (tabAt0 t0) (ghost_list (tabs := tabs3) t0 hL) hI hlen fun s' f => ?_) (fun _ _ x => x) (fun _ _ x => x.elim)
  refine ⟨.inl ⟨.bool true, .bool true, [], rfl, ?_, .bool true, ?_, fun _ => ⟨List.nodup_nil, fun a ha => nomatch ha⟩⟩, oldK_fw t0 f, f.os, f.gens.2.2 (by rw [hg]; exact .of_eq rfl)⟩
  · exact fun _ => rfl
  · exact postW_of (by rfl) (by wtm_val) (by first | rfl | decide | exact same_self _ | exact beq_self_eq_true _ | w_fin)

end
end
end Mine
set_option maxRecDepth 100000 in
set_option maxHeartbeats 8000000 in
theorem PySem.Challenge.cw_bg0002_01_holds : PySem.Challenge.rw_bg0002_01.Holds :=
  Mine.law_holds
