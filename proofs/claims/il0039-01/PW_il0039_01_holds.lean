import PyProof.Rows.All
import Wide.All
import OpenK.AllK
import Wide.FinOn
import Lean
import PySem.Challenge.RW_il0039_01
open PySem PySem.W PyProof.Rows
set_option Elab.async false
set_option compiler.extract_closed false
namespace Mine
section
local macro_rules | `(tactic| o_head $_) => `(tactic| exact False.elim (by assumption))
set_option maxRecDepth 100000 in
set_option maxHeartbeats 8000000 in
/-- by this the kit's line lays down the heap that the top leaves (no head is proved here) -/
theorem seed (h : False) : (PySem.Challenge.rw_il0039_01).row.Holds := by
  k_head
end
end Mine
namespace Mine
/-- an object that has not been freed -/
noncomputable def alive : Obj → Bool
  | ⟨_, _, .freed, _⟩ => false
  | _ => true
theorem get_alive {h : Heap} {a : Nat} {o : Obj} (e : h.objs[a]? = some o) (l : alive o = true) : h.get? a = some o := by
  unfold Heap.get?
  rw [e]
  obtain ⟨c, d, x, f⟩ := o
  cases x <;> first | rfl | exact absurd l Bool.false_ne_true
/-- the objects of a list at the places named, the places rising from n: one pass -/
noncomputable def obsA : Nat → List Nat → List Obj → List Obj
  | _, [], _ => []
  | n, a :: as, l => match l.drop (a - n) with
    | [] => []
    | x :: r => bif Nat.ble n a && alive x then x :: obsA (a + 1) as r else []
theorem obsA_spec : ∀ (as : List Nat) (n : Nat) (l : List Obj) (K : List (Nat × Obj)), as = K.map Prod.fst → obsA n as l = K.map Prod.snd → ∀ p ∈ K, n ≤ p.1 ∧ l[p.1 - n]? = some p.2 ∧ alive p.2 = true
  | [], n, l, K, e, _, p, hp => by
    cases K with
    | nil => cases hp
    | cons q r => cases e
  | a :: as, n, l, K, e, h, p, hp => by
    cases K with
    | nil => cases hp
    | cons q r =>
      simp only [List.map_cons, List.cons.injEq] at e
      obtain ⟨rfl, e⟩ := e
      simp only [obsA, List.map_cons] at h
      cases hd : l.drop (q.1 - n) with
      | nil => rw [hd] at h; cases h
      | cons x t =>
        rw [hd] at h
        simp only at h
        cases hb : (Nat.ble n q.1 && alive x) with
        | false => rw [hb] at h; cases h
        | true =>
          rw [hb] at h
          simp only [cond_true, List.cons.injEq] at h
          have hn := Nat.le_of_ble_eq_true (Bool.and_eq_true_iff.mp hb).1
          have hv := (Bool.and_eq_true_iff.mp hb).2
          have hx : ∀ i, l[q.1 - n + i]? = (x :: t)[i]? := fun i => by rw [← hd, List.getElem?_drop]
          rcases List.mem_cons.mp hp with hp | hp
          · subst hp
            refine ⟨hn, ?_, h.1 ▸ hv⟩
            have := hx 0
            rw [Nat.add_zero] at this
            rw [this, ← h.1]; rfl
          · obtain ⟨h1, h2, h3⟩ := obsA_spec as (q.1 + 1) t r e h.2 p hp
            refine ⟨by omega, ?_, h3⟩
            have := hx (p.1 - (q.1 + 1) + 1)
            rw [List.getElem?_cons_succ, h2] at this
            rw [← this]
            congr 1; omega
theorem mem_of_lookup : ∀ {K : List (Nat × Obj)} {a : Nat} {o : Obj}, K.lookup a = some o → (a, o) ∈ K := fun e => PySem.W.kb_mem e
/-- the same as kHook, with one pass over the heap, and one object more -/
theorem hook_of {K : Params → Frag} {as : List Nat} (e : ∀ P, as = (K P).map Prod.fst) {a1 : Nat} {o1 : Obj} (w : World) (s : Shared)
    (x : (obsA 0 as s.heap.objs.toList, s.heap.get? a1) = ((K w.params).map Prod.snd, some o1)) : (K w.params).In s.heap ∧ s.heap.get? a1 = some o1 := by
  simp only [Prod.mk.injEq] at x
  refine ⟨fun a o h => ?_, x.2⟩
  have z := (obsA_spec as 0 _ (K w.params) (e _) x.1 _ (mem_of_lookup h)).2
  simp only [Nat.sub_zero] at z
  rw [Array.getElem?_toList] at z
  exact get_alive z.1 z.2
theorem hook_keeps {K : Params → Frag} {a1 : Nat} {o1 : Obj} (w : World) (h h' : Heap) (x : (K w.params).In h ∧ h.get? a1 = some o1) (k : ∀ b o, h.get? b = some o → h'.get? b = some o) : (K w.params).In h' ∧ h'.get? a1 = some o1 :=
  ⟨x.1.keeps k, k _ _ x.2⟩
noncomputable def seedAs : List Nat := [2, 3, 38, 40, 41, 43, 44, 48, 49, 50, 52, 53, 55, 56, 57, 59, 60, 62, 63, 64, 71, 72, 73, 74, 84, 86, 87, 89, 90, 91, 92, 93, 94, 95, 96, 99, 106, 107, 108, 111, 118, 119, 120, 123, 130, 131, 133, 134, 136, 137, 138, 140, 141, 143, 144, 145, 147, 148, 150, 151, 152, 154, 155, 157, 158, 159, 160, 162, 163, 165, 166, 167, 169, 170, 172, 173, 174, 176, 177, 179, 180, 181, 183, 184, 186, 187, 188, 190, 191, 193, 194, 195, 197, 198, 200, 201, 202, 204, 205, 207, 208, 209, 211, 212, 214, 215, 216, 218, 219, 221, 222, 223, 225, 226, 228, 229, 230, 232, 233, 235, 236, 237, 239, 240, 242, 243, 244, 246, 247, 249, 250, 251, 252, 254, 255, 257, 258, 259, 260, 262, 263, 265, 266, 267, 268, 270, 271, 273, 274, 275, 276, 278, 279, 281, 282, 283, 285, 286, 288, 289, 290, 292, 293, 295, 296, 297, 298, 300, 301, 303, 304, 305, 306, 308, 309, 311, 312, 313, 315, 316, 318, 319, 320, 322, 323, 325, 326, 327, 329, 330, 332, 333, 334, 336, 337, 339, 340, 341, 343, 344, 346, 347, 348, 349, 350, 353, 360, 361, 363, 364, 366, 367, 368, 370, 371, 373, 374, 375, 377, 378, 380, 381, 382, 384, 385, 387, 388, 389, 391, 392, 394, 395, 396, 398, 399, 401, 402, 403, 404, 406, 407, 409, 410, 411, 412, 414, 415, 417, 418, 419, 420, 422, 423, 425, 426, 427, 428, 430, 431, 433, 434, 435, 436, 438, 439, 441, 442, 443, 445, 446, 448, 449, 450, 452, 453, 455, 456, 457, 459, 460, 462, 463, 464, 466, 467, 469, 470, 471, 473, 474, 476, 477, 478, 480, 481, 483, 484, 485, 487, 488, 490, 491, 492, 494, 495, 497, 498, 499, 501, 502, 504, 505, 506, 508, 509, 511, 512, 513, 515, 516, 518, 519, 520, 521, 523, 524, 526, 527, 528, 529, 531, 532, 534, 535, 536, 537, 539, 540, 542, 543, 544, 545, 547, 548, 550, 551, 552, 553, 555, 556, 558, 559, 560, 562, 563, 565, 566, 567, 569, 570, 572, 573, 574, 576, 577, 579, 580, 581, 583, 584, 586, 587, 588, 590, 591, 593, 594, 595, 596, 597, 600, 602, 603, 605, 606, 607, 609, 610, 612, 613, 614, 616, 617, 619, 620, 621, 623, 624, 626, 627, 628, 630, 631, 633, 634, 635, 637, 638, 640, 641, 649, 650, 652, 653, 655, 656, 657, 659, 660, 662, 663, 664, 665, 667, 668, 670, 671, 672, 673, 675, 676, 678, 679, 680, 682, 683, 685, 686, 687, 689, 690, 692, 693, 694, 696, 697, 699, 700, 701, 703, 704, 706, 707, 708, 709, 711, 712, 714, 715, 716, 718, 719, 721, 722, 723, 725, 726, 728, 729, 730, 731, 732, 733, 734, 737, 738, 740, 741, 743, 744, 745, 747, 748, 750, 751, 752, 753, 755, 756, 758, 759, 760, 762, 763, 765, 766, 767, 769, 770, 772, 773, 774, 776, 777, 779, 780, 781, 783, 784, 786, 787, 788, 790, 791, 793, 794, 795, 798, 799, 800, 802, 803, 805, 806, 807, 810, 811, 812, 814, 815, 817, 818, 819, 822, 823]
set_option maxRecDepth 100000 in
theorem seedAs_eq (P : Params) : seedAs = (seed.heap_1 P).map Prod.fst := rfl
/-- what the head is asked of the heap that the top leaves: the objects of seed.heap_1, and the record 746 -/
noncomputable def pHook : Hook := ⟨List Obj × Option Obj, fun s => (obsA 0 seedAs s.heap.objs.toList, s.heap.get? 746), fun w => ((seed.heap_1 w.params).map Prod.snd, some { cls := .none, data := .fields #[] }),
  fun w h => (seed.heap_1 w.params).In h ∧ h.get? 746 = some { cls := .none, data := .fields #[] }, hook_of seedAs_eq, hook_keeps⟩
end Mine
namespace Mine
open PySem.Calls
section
local macro_rules | `(tactic| walk_at "mine_side") => `(tactic| ((case k1 => assumption); (case k2 => assumption); (case k6 => k_is); (case k7 => k_is); (case k8 => ((try simp only [depth_under_make, depth_under_kw, depth_in1, depth_deeper, depth_caller]); omega)); (try (case k9 => exact BindsTo.of_eq rfl)); (case c5 => decide); (case kB => exact locs rfl); (case c2 => exact rfl); (case c3 => exact rfl); (case c4 => exact rfl)))
local macro_rules | `(tactic| walk_at "mine_X") => `(tactic| first | assumption | exact Frag.In.keeps (by assumption) (Fr.keep (by assumption)))
local macro_rules | `(tactic| walk_at "mine_T") => `(tactic| first | assumption | exact TopRead.keeps (by assumption) (Fr.keep (by assumption)))
local macro_rules | `(tactic| walk_at "mine_d") => `(tactic| ((simp only [depth_under_make, depth_under_kw, depth_in1, depth_deeper, depth_caller, units_in1, units_deeper, Around.mark_units, units_caller]); omega))
section
open PySem PySem.W PyProof.Rows PySem.Calls
set_option maxRecDepth 100000

/-- a heap that keeps all of another -/
noncomputable def Kp (h h' : Heap) : Prop := ∀ b o, h.get? b = some o → h'.get? b = some o
theorem Kp.refl {h : Heap} : Kp h h := fun _ _ e => e
theorem Kp.trans {h₁ h₂ h₃ : Heap} (a : Kp h₁ h₂) (b : Kp h₂ h₃) : Kp h₁ h₃ := fun x o e => b x o (a x o e)

/-- a def is entered over the whole heap as it stands -/
theorem code_pure {prog : Program} {w : World} {A : Around} {s : Shared} {K : Frag} {p : Program} {loose : List Str} {mg mb : Str → Option Value}
    {R : Result → Shared → Prop} {name qual : Str} {params : Arguments} {body : List Stmt} {scope : Scope} {dV kV doc pm cdv ct oc : Value} {an od : Option Addr} {osl : Array (Option Value)} {f : Addr} {args : Args} {binds : List (Str × Value)}
    (X : K.In s.heap) (T : TopRead p loose mg mb s.heap)
    (ho : K.lookup f = some ⟨oc, od, .func (fnOf name qual params body scope dV kV doc pm an cdv ct), osl⟩) (hcd : codeIn K cdv qual = true) (hroom : A.depth < recursionLimit)
    (hbind : BindsTo s (fnOf name qual params body scope dV kV doc pm an cdv ct) args binds) (hloc : ∀ y ∈ binds, scope.names.lookup y.1 = some .local)
    (h : ∀ L' h₁, Fr s.heap L' h₁ (fun y => binds.reverse.lookup y) → News s.heap L' h₁ [] → Kp s.heap h₁ →
      wpAny (model prog w) (A.deeper (envOf qual scope L' f cdv)) (execs body (envOf qual scope L' f cdv))
        (fun fl s' => R (.ok (.ret (match fl with | .ret v => v | _ => .none))) s')
        (fun e s' => wpAny (model prog w) (A.deeper (envOf qual scope L' f cdv)) (leaving (envOf qual scope L' f cdv) e) (fun _ s'' => R (.error e) s'') (fun e' s'' => R (.error e') s'') s')
        { s with heap := h₁, toks := s.toks + binds.length })
    (hco : scope.isCoroutine = false) (hgen : scope.isGenerator = false) (hk : scope.kind = .function)
    (hcell : ∀ x ∈ scope.names, x.2 ≠ .cell) : codeAny (model prog w) A (.call (.ref f) args) R s := by
  refine codeAny_call_def (fd := fnOf name qual params body scope dV kV doc pm an cdv ct) (body := body) (binds := binds) hroom (X _ _ ho) rfl T.nolimit (codeRec_of X hcd) rfl hbind hcell hloc (fun h₁ hns hk₁ => ?_) hco hgen hk
  exact h _ h₁ ⟨hns, hk₁, Nat.le_refl _⟩ News.nil hk₁
end
section
open PySem PySem.W PyProof.Rows PySem.Calls
set_option maxRecDepth 100000
set_option maxHeartbeats 8000000
-- the side goals of an entry

theorem ctoi_spec {prog : Program} {w : World} {A : Around} {E Q : Value → Shared → Prop} {s : Shared} {p : Program} {loose : List Str} {mg mb : Str → Option Value} {c : Nat} {t : Tok}
    (X : (Mine.seed.heap_1 w.params).In s.heap) (T : TopRead p loose mg mb s.heap) (hd : A.depth + 1 < recursionLimit)
    (ret : ∀ t' h' tk', Kp s.heap h' → Q (.int (c : Int) t') { s with heap := h', toks := tk' }) :
    wpAny (model prog w) A (call (.ref 766) [.str ⟨#[c]⟩ t]) Q E s := by
  refine wpAny_call ?_
  k_dflt (refine' code_pure (binds := [(Str.ofString "c", .str ⟨#[c]⟩ t)]) ?k1 ?k2 ?k6 ?k7 ?k8 ?k9 ?kB ?_ ?c2 ?c3 ?c4 ?c5; walk_at "mine_side")
  intro L' h' F' N' hk'
  try dsimp only
  try k_fold
  k_steps
  exact ret _ _ _ hk'

local macro_rules | `(tactic| walk_at "call ref") => `(tactic| (k_here; refine' ctoi_spec ?k1 ?k2 ?k3 ?_; (case k1 => walk_at "mine_X"); (case k2 => walk_at "mine_T"); (case k3 => walk_at "mine_d"); k_whole; intro t9 h9 tk9 k9; (rename Fr _ _ _ _ => F9); have F8 := Fr.keeps F9 k9; (try dsimp only)))

theorem bitOr_128 (c : Nat) : Builtin.bitOr (c : Int) 128 = ((c ||| 128 : Nat) : Int) := by
  unfold Builtin.bitOr Builtin.bitAnd Builtin.bitNot
  have h1 : decide (0 ≤ -(c : Int) - 1) = false := decide_eq_false (by omega)
  have h2 : decide (0 ≤ -(128 : Int) - 1) = false := by decide
  simp only [h1, h2]
  have e1 : (-(-(c : Int) - 1) - 1).toNat = c := by omega
  have e2 : (-(-(128 : Int) - 1) - 1).toNat = 128 := by decide
  rw [e1, e2]
  omega
theorem bitAnd_127 (c : Nat) : Builtin.bitAnd (c : Int) 127 = ((c % 128 : Nat) : Int) := by
  unfold Builtin.bitAnd
  have h1 : decide ((0 : Int) ≤ (c : Int)) = true := decide_eq_true (by omega)
  have h2 : decide ((0 : Int) ≤ 127) = true := by decide
  simp only [h1, h2]
  have e2 : (127 : Int).toNat = 127 := by decide
  rw [Int.toNat_natCast, e2]
  have h3 := Nat.and_two_pow_sub_one_eq_mod c 7
  exact congrArg Int.ofNat h3
theorem or128_lt {c : Nat} (h : c < 1114112) : c ||| 128 < 1114112 := by
  have e : c ||| 128 = 256 * (c / 256) + ((c % 256) ||| 128) := by
    apply Nat.eq_of_testBit_eq
    intro i
    have h2 : (c % 256 ||| 128) < 2 ^ 8 := Nat.or_lt_two_pow (Nat.mod_lt _ (by decide)) (by decide)
    rw [show (256 : Nat) = 2 ^ 8 from rfl, Nat.testBit_two_pow_mul_add _ h2]
    by_cases hi : i < 8
    · simp only [hi, if_true, Nat.testBit_or]
      have h3 : (c % 256).testBit i = c.testBit i := by
        rw [show (256 : Nat) = 2 ^ 8 from rfl, Nat.testBit_mod_two_pow]; simp [hi]
      rw [h3]
    · simp only [hi, if_false, Nat.testBit_or]
      rw [Nat.testBit_div_two_pow]
      have h3 : (128 : Nat).testBit i = false := Nat.testBit_lt_two_pow (Nat.lt_of_lt_of_le (by decide : 128 < 2 ^ 8) (Nat.pow_le_pow_right (by decide) (by omega)))
      rw [h3, show i - 8 + 8 = i by omega]
      simp
  have h2 : (c % 256 ||| 128) < 2 ^ 8 := Nat.or_lt_two_pow (Nat.mod_lt _ (by decide)) (by decide)
  omega
local macro_rules | `(tactic| walk_at "call builtin:chr") => `(tactic| (k_here; simp only [bitOr_128, bitAnd_127]; refine chr_of_range (by omega) (by omega) ?_; simp only [Int.toNat_natCast]))

theorem alt_spec {prog : Program} {w : World} {A : Around} {E Q : Value → Shared → Prop} {s : Shared} {p : Program} {loose : List Str} {mg mb : Str → Option Value} {c : Nat} {t : Tok}
    (X : (Mine.seed.heap_1 w.params).In s.heap) (T : TopRead p loose mg mb s.heap) (hd : A.depth + 2 < recursionLimit) (hc : c < 1114112)
    (ret : ∀ t' h' tk', Kp s.heap h' → Q (.str ⟨#[c ||| 128]⟩ t') { s with heap := h', toks := tk' }) :
    wpAny (model prog w) A (call (.ref 780) [.str ⟨#[c]⟩ t]) Q E s := by
  have hc' := or128_lt hc
  refine wpAny_call ?_
  k_dflt (refine' code_pure (binds := [(Str.ofString "c", .str ⟨#[c]⟩ t)]) ?k1 ?k2 ?k6 ?k7 ?k8 ?k9 ?kB ?_ ?c2 ?c3 ?c4 ?c5; walk_at "mine_side")
  intro L' h' F' N' hk'
  try dsimp only
  try k_fold
  k_steps
  exact ret _ _ _ (Fr.keep (by assumption))
theorem ascii_spec {prog : Program} {w : World} {A : Around} {E Q : Value → Shared → Prop} {s : Shared} {p : Program} {loose : List Str} {mg mb : Str → Option Value} {c : Nat} {t : Tok}
    (X : (Mine.seed.heap_1 w.params).In s.heap) (T : TopRead p loose mg mb s.heap) (hd : A.depth + 2 < recursionLimit)
    (ret : ∀ t' h' tk', Kp s.heap h' → Q (.str ⟨#[c % 128]⟩ t') { s with heap := h', toks := tk' }) :
    wpAny (model prog w) A (call (.ref 773) [.str ⟨#[c]⟩ t]) Q E s := by
  have hc' := Nat.mod_lt c (show 0 < 128 by decide)
  refine wpAny_call ?_
  k_dflt (refine' code_pure (binds := [(Str.ofString "c", .str ⟨#[c]⟩ t)]) ?k1 ?k2 ?k6 ?k7 ?k8 ?k9 ?kB ?_ ?c2 ?c3 ?c4 ?c5; walk_at "mine_side")
  intro L' h' F' N' hk'
  try dsimp only
  try k_fold
  k_steps
  exact ret _ _ _ (Fr.keep (by assumption))
end
section
open PySem PySem.W PyProof.Rows PySem.Calls
set_option maxRecDepth 100000
set_option maxHeartbeats 8000000
/-- a tree that only reads what the written part holds, run to its end -/
noncomputable def runK {α : Type} (K : Frag) : Nat → Sem α → Option α
  | 0, _ => none
  | n + 1, t => match t with
    | .pure a => some a
    | .rule _ k => runK K n (k ())
    | .at _ k => runK K n (k ())
    | .point _ k => runK K n (k ())
    | .load a _ k => match K.lookup a with
      | some o => runK K n (k o)
      | none => none
    | _ => none
theorem runK_looks {α : Type} {K : Frag} {M : Model} {h : Heap} (X : K.In h) : ∀ (n : Nat) (t : Sem α) {r : α}, runK K n t = some r → Looks M h t r
  | 0, _, _, e => by simp [runK] at e
  | n + 1, t, r, e => by
    intro A Q E s k q
    cases t with
    | pure a => simp only [runK, Option.some.injEq] at e; subst e; exact wpAny_pure q
    | rule _ k' => exact nd_rule (runK_looks X n _ (by simpa [runK] using e) A Q E s k q)
    | «at» _ k' => exact fun Γ p hΓ => runK_looks X n (k' ()) (by simpa [runK] using e) A Q E s k q Γ _ hΓ
    | point _ k' => exact nd_point (runK_looks X n _ (by simpa [runK] using e) A Q E s k q)
    | load a p k' =>
      simp only [runK] at e
      split at e
      · rename_i o ho
        exact nd_load (k _ _ (X _ _ ho)) (runK_looks X n _ e A Q E s k q)
      · cases e
    | _ => simp [runK] at e

theorem k_made (P : Params) : runK (seed.heap_1 P) 4000 (Bind.madeBy (.ref 597)) = some none := by kernel_rfl
theorem k_mro (P : Params) : runK (seed.heap_1 P) 4000 (mroOf (.ref 597)) = some [.ref 597, .ref 120, .ref 93, .type "object"] := by kernel_rfl
theorem k_typ (P : Params) : runK (seed.heap_1 P) 4000 (isInstance (.ref 597) (.type "type")) = some true := by kernel_rfl
theorem k_call (P : Params) : runK (seed.heap_1 P) 4000 (specialOf (.ref 597) "__call__") = some (some (.builtin "type.__call__")) := by kernel_rfl
theorem k_init (P : Params) : runK (seed.heap_1 P) 4000 (typeLookup (.ref 597) "__init__") = some (some (.ref 367)) := by kernel_rfl
theorem k_sub (P : Params) : runK (seed.heap_1 P) 4000 (isSubtype (.ref 597) (.ref 597)) = some true := by kernel_rfl
theorem k_here (P : Params) : runK (seed.heap_1 P) 4000 (Bind.madeHere "object.__new__" (.ref 597)) = some () := by kernel_rfl
theorem k_isType (P : Params) : runK (seed.heap_1 P) 4000 (isType (.ref 597)) = some true := by kernel_rfl
theorem k_check (P : Params) : runK (seed.heap_1 P) 4000 (checkBuiltinCall "object.__new__" ⟨[.ref 597], []⟩) = some () := by kernel_rfl
theorem k_bind (P : Params) (self : Value) : runK (seed.heap_1 P) 4000 (bindSpecial (.ref 367) self) = some (.ref 367, [self]) := by kernel_rfl

theorem size_of_kp {h h' : Heap} {a : Addr} {o : Obj} (k : Kp h h') (e : h.get? a = some o) : a < h'.objs.size := Heap.lt_size (k a o e)
/-- a def whose arguments make objects -/
theorem code_grow {prog : Program} {w : World} {A : Around} {s : Shared} {K : Frag} {p : Program} {loose : List Str} {mg mb : Str → Option Value}
    {R : Result → Shared → Prop} {name qual : Str} {params : Arguments} {body : List Stmt} {scope : Scope} {dV kV doc pm cdv ct oc : Value} {an od : Option Addr} {osl : Array (Option Value)} {f : Addr} {args : Args} {binds : List (Str × Value)}
    (X : K.In s.heap) (_T : TopRead p loose mg mb s.heap)
    (ho : K.lookup f = some ⟨oc, od, .func (fnOf name qual params body scope dV kV doc pm an cdv ct), osl⟩) (hcd : codeIn K cdv qual = true) (hroom : A.depth < recursionLimit)
    (hbind : ∀ (A' : Around) (E' : Value → Shared → Prop) (Q' : List (Str × Value) → Shared → Prop), (∀ h', Kp s.heap h' → s.heap.objs.size ≤ h'.objs.size → h'.NoLimit → Q' binds { s with heap := h' }) → wpAny (model prog w) A' (bindArgs (fnOf name qual params body scope dV kV doc pm an cdv ct) args) Q' E' s)
    (hloc : ∀ y ∈ binds, scope.names.lookup y.1 = some .local)
    (h : ∀ L' h₁, Fr s.heap L' h₁ (fun y => binds.reverse.lookup y) → News s.heap L' h₁ [] → Kp s.heap h₁ →
      wpAny (model prog w) (A.deeper (envOf qual scope L' f cdv)) (execs body (envOf qual scope L' f cdv))
        (fun fl s' => R (.ok (.ret (match fl with | .ret v => v | _ => .none))) s')
        (fun e s' => wpAny (model prog w) (A.deeper (envOf qual scope L' f cdv)) (leaving (envOf qual scope L' f cdv) e) (fun _ s'' => R (.error e) s'') (fun e' s'' => R (.error e') s'') s')
        { s with heap := h₁, toks := s.toks + binds.length })
    (hco : scope.isCoroutine = false) (hgen : scope.isGenerator = false) (hk : scope.kind = .function)
    (hcell : ∀ x ∈ scope.names, x.2 ≠ .cell) : codeAny (model prog w) A (.call (.ref f) args) R s := by
  refine codeAny_call_function hroom (X _ _ ho) rfl hco hgen rfl (codeRec_of X hcd) (hbind _ _ _ fun h₁ k₁ hs₁ hl₁ => ?_)
  refine wpAny_newFunctionEnv hcell hloc (fun h₂ hns hsb => ⟨hl₁.fresh _ hsb, ?_⟩) hk
  have k₂ : Kp h₁ h₂ := fun b o e => hsb.extBut b o (Nat.ne_of_lt (Heap.lt_size e)) (Heap.get?_push_of_some _ e)
  exact codeAny_func (h _ h₂ ⟨hns, k₁.trans k₂, hs₁⟩ News.nil (k₁.trans k₂))

-- the side goals of an entry

theorem wp_of_eq {α : Type} {M : Model} {A : Around} {t t' : Sem α} {Q : α → Shared → Prop} {E : Value → Shared → Prop} {s : Shared} (e : t = t') (h : wpAny M A t' Q E s) : wpAny M A t Q E s := e ▸ h
theorem kp_push {h : Heap} (o : Obj) : Kp h (h.push o) := fun _ _ e => Heap.get?_push_of_some _ e

theorem objnew_spec {prog : Program} {w : World} {A : Around} {E Q : Value → Shared → Prop} {s : Shared}
    (X : (Mine.seed.heap_1 w.params).In s.heap)
    (ret : Q (.ref (s.heap.objs.size + 1)) { s with heap := (s.heap.push emptyDict).push (instObj 597 s.heap.objs.size) }) :
    wpAny (model prog w) A (call (.builtin "object.__new__") [.ref 597]) Q E s := by
  have F := PySem.F.objNew
  obtain ⟨h, g, d, t, os⟩ := s
  dsimp only at X ret
  refine wpAny_call (codeAny_call_builtin_code (Code.quiet_builtin _ F.quiet) ((runK_looks X 4000 _ (k_check w.params)).at ?_))
  refine codeAny_builtin F.entry ?_
  unfold Builtin.«object.__new__»
  have l1 := runK_looks (M := model prog w) X 4000 _ (k_isType w.params)
  have l2 := runK_looks (M := model prog w) X 4000 _ (k_here w.params)
  have hC := X 597 _ (by k_is)
  repeat lk
  refine nd_load (Heap.get?_push_of_some _ (Heap.get?_push_of_some _ hC)) ?_
  repeat lk
  simpa [Heap.size_push] using ret

local macro_rules | `(tactic| walk_at "call builtin:object.__new__") => `(tactic| (k_here; refine objnew_spec ?_ ?_; (walk_at "mine_X")))
theorem new_spec {prog : Program} {w : World} {A : Around} {E Q : Value → Shared → Prop} {s : Shared} {p : Program} {loose : List Str} {mg mb : Str → Option Value} {x : Str} {t : Tok}
    (X : (Mine.seed.heap_1 w.params).In s.heap) (T : TopRead p loose mg mb s.heap) (hd : A.depth + 1 < recursionLimit)
    (ret : ∀ sx sd h' tk', Kp s.heap h' → h'.get? sx = some (instObj 597 sd) → h'.get? sd = some (dictOf [] 0) → s.heap.objs.size ≤ sd → sd < sx → Q (.ref sx) { s with heap := h', toks := tk' }) :
    wpAny (model prog w) A (call (.ref 90) [.ref 597, .str x t]) Q E s := by
  refine wpAny_call ?_
  k_dflt (refine' code_grow (binds := [(Str.ofString "cls", .ref 597), (Str.ofString "args", .ref s.heap.objs.size), (Str.ofString "kwargs", .ref (s.heap.objs.size + 1))]) ?k1 ?k2 ?k6 ?k7 ?k8 ?k9 ?kB ?_ ?c2 ?c3 ?c4 ?c5; walk_at "mine_side")
  case k9 =>
    intro A' E' Q' hq
    refine wp_of_eq (t' := do let v ← newTuple [.str x t]; let d ← alloc { cls := .type "dict", data := .dict #[] }; pure [(Str.ofString "cls", .ref 597), (Str.ofString "args", v), (Str.ofString "kwargs", .ref d)]) (by kernel_rfl) ?_
    refine wpAny_bind (wpAny_newObj_type (wpAny_bind (wpAny_alloc (wpAny_pure ?_))) (by show 1 ≤ sizeLine; decide))
    have z := hq ((s.heap.push { cls := .type "tuple", data := .seq #[.str x t] }).push { cls := .type "dict", data := .dict #[] }) ((kp_push _).trans (kp_push _)) (by simp [Heap.size_push]; omega) ((T.nolimit.push _).push _)
    simpa [Heap.size_push] using z
  intro L' h' F' N' hk'
  try dsimp only
  try k_fold
  k_steps
  have k1 : Kp s.heap h' := F'.keep
  have k2 := Heap.get?_push_size (o := instObj 597 h'.objs.size) (h'.push emptyDict) rfl
  rw [Heap.size_push] at k2
  exact ret _ h'.objs.size _ _ (k1.trans ((kp_push _).trans (kp_push _))) k2 (Heap.get?_push_of_some _ (Heap.get?_push_size _ rfl)) (Nat.le_trans F'.above (Nat.le_of_lt F'.ns.lt)) (Nat.lt_succ_self _)

theorem getnew {prog : Program} {w : World} {A : Around} {E Q : Value → Shared → Prop} {s : Shared} {b : Bool}
    (X : (Mine.seed.heap_1 w.params).In s.heap) (h : Q (.ref 90) { s with toks := s.toks + 1 }) : wpAny (model prog w) A (getAttr (.ref 597) (Str.ofString "__new__") b) Q E s := by
  refine cls_bind (mc := .type "type") X (by k_is) (by k_is) (wpAny_call (sm_get (s := { s with toks := s.toks + 1 }) X (by k_is) (handed_on rfl h)))

theorem strio_new {prog : Program} {w : World} {A : Around} {R : Result → Shared → Prop} {s : Shared} {p : Program} {loose : List Str} {mg mb : Str → Option Value} {x : Str} {t : Tok}
    (X : (Mine.seed.heap_1 w.params).In s.heap) (T : TopRead p loose mg mb s.heap) (hd : A.depth + 4 < recursionLimit)
    (ret : ∀ sx sd h' tk', Kp s.heap h' → h'.get? sx = some (instObj 597 sd) → h'.get? sd = some (dictOf [] 0) → s.heap.objs.size ≤ sd → sd < sx →
      codeAny (model prog w) (A.under (.builtin "type.__call__" ⟨[.ref 597, .str x t], []⟩)) (.call (.ref 367) ⟨[.ref sx, .str x t], []⟩) (InitBack sx R) { s with heap := h', toks := tk' }) :
    codeAny (model prog w) A (.call (.ref 597) ⟨[.str x t], []⟩) R s := by
  obtain ⟨h, g, d, tk, os⟩ := s
  dsimp only at X T ret
  have hC := X 597 _ (by k_is)
  refine codeAny_of_tree ?_
  show wpAny _ _ (callAny (.ref 597) _) _ _ _
  refine nd_load hC ?_
  show wpAny _ _ (callAny.viaDunder (.ref 597) _) _ _ _
  unfold callAny.viaDunder
  refine wpAny_bind ((runK_looks X 4000 _ (k_call w.params)).at ?_)
  dsimp only
  rw [tc_bind]
  refine wpAny_bind (wpAny_pure (wpAny_bind (wpAny_pure ?_)))
  refine wpAny_pure (a := Fin.again (.call (.builtin "type.__call__") ⟨[.ref 597, .str x t], []⟩)) (And.intro rfl ?_)
  refine codeAny_call_builtin_at (Code.quiet_builtin _ (by decide +kernel)) entry_typeCall (check_slot tc_kind tc_split (runK_looks X 4000 _ (k_typ w.params)) (tc_args _ _ _) ?_)
  unfold Builtin.«type.__call__»
  have l1 := runK_looks (M := model prog w) X 4000 _ (k_mro w.params)
  have l2 := runK_looks (M := model prog w) X 4000 _ (k_made w.params)
  have l3 := runK_looks (M := model prog w) X 4000 _ (k_sub w.params)
  repeat (first | with_reducible refine getnew X ?_ | ((fail_if_success (with_reducible show wpAny _ _ (call (Value.ref 90) _ _) _ _ _)); lk))
  refine wpAny_mono (Q := fun v s' => ∃ sx sd h' tk', v = Value.ref sx ∧ Kp h h' ∧ h'.get? sx = some (instObj 597 sd) ∧ h'.get? sd = some (dictOf [] 0) ∧ h.objs.size ≤ sd ∧ sd < sx ∧ s' = (⟨h', g, d, tk', os⟩ : Shared)) (E := fun _ _ => False) ?_ (fun v s' hv => ?_) (fun _ _ e => False.elim e)
  · exact new_spec (s := ⟨h, g, d, tk + 1, os⟩) X T (by simp only [depth_under_make]; omega) fun sx sd h' tk' a1 a2 a3 a4 a5 => ⟨sx, sd, h', tk', rfl, a1, a2, a3, a4, a5, rfl⟩
  obtain ⟨sx, sd, h', tk', rfl, k, a2, a3, a4, a5, rfl⟩ := hv
  have t1 : Looks (model prog w) h' (typeOf (.ref sx)) (.ref 597) := (Looks.ld a2).andThen .now
  have s1 := l3.keeps k
  have i1 := (runK_looks (M := model prog w) X 4000 _ (k_init w.params)).keeps k
  have b1 := (runK_looks (M := model prog w) X 4000 _ (k_bind w.params (.ref sx))).keeps k
  have q := ret sx sd h' tk' k a2 a3 a4 a5
  clear l1 l2 l3 hC
  unfold isInstance callSpecial? specialOf
  repeat (first | with_reducible refine wpAny_call ?_ | lk)
  refine codeAny_mono q fun r s' z => ?_
  rcases r with e | (v | _ | _ | _) <;> first | exact z | exact z.elim | skip
  obtain ⟨rfl, z⟩ := z
  exact wpAny_pure (wpAny_pure z)
end
section
open PySem PySem.W PyProof.Rows PySem.Calls
set_option maxRecDepth 100000
set_option maxHeartbeats 8000000
noncomputable abbrev dqObj : Obj := { cls := .type "collections.deque", data := .fields #[.none, .int 0 0] }
theorem dq_new_run : Builtin.«collections.deque.__new__» ⟨[.type "collections.deque"], []⟩ = (alloc dqObj >>= fun a => ret (.ref a)) := by kernel_rfl
theorem dq_init_run (a : Addr) : Builtin.«collections.deque.__init__» ⟨[.ref a], []⟩ = (setField (.ref a) 0 .none >>= fun _ => Builtin.Deque.clear (.ref a) >>= fun _ => ret .none) := by kernel_rfl
theorem dq_made : Bind.madeBy (.type "collections.deque") = pure (some "collections.deque.__new__") := by kernel_rfl
theorem dq_mro : mroOf (.type "collections.deque") = pure [.type "collections.deque", .type "object"] := by kernel_rfl
theorem dq_check : checkTypeCall "collections.deque" ⟨[], []⟩ = pure () := by kernel_rfl
theorem dq_checknew : checkBuiltinCall "collections.deque.__new__" ⟨[.type "collections.deque"], []⟩ = pure () := by kernel_rfl
theorem dq_sub : isSubtype (.type "collections.deque") (.type "collections.deque") = pure true := by kernel_rfl
theorem dq_lookup : typeLookup (.type "collections.deque") "__init__" = pure (some (.builtin "collections.deque.__init__")) := by rw [typeLookup_type, builtinLookup_eq_fast]; kernel_rfl
theorem dq_lookupl : typeLookup (.type "collections.deque") "__len__" = pure (some (.builtin "collections.deque.__len__")) := by rw [typeLookup_type, builtinLookup_eq_fast]; kernel_rfl
theorem dq_lookupb : typeLookup (.type "collections.deque") "__bool__" = pure none := by rw [typeLookup_type, builtinLookup_eq_fast]; kernel_rfl
theorem dq_entry_new : entryFor table "collections.deque.__new__" = some Builtin.«collections.deque.__new__» := entryFor_of_tree (by kernel_rfl)
theorem dq_entry_init : entryFor table "collections.deque.__init__" = some Builtin.«collections.deque.__init__» := entryFor_of_tree (by kernel_rfl)
theorem dq_entry_len : entryFor table "collections.deque.__len__" = some Builtin.«collections.deque.__len__» := entryFor_of_tree (by kernel_rfl)
theorem dq_slot_len : Slot "collections.deque" "__len__" "collections.deque.__len__" := Slot.of (owner := "collections.deque") (n := "__len__") dq_lookupl (by decide +kernel) (by decide +kernel) (by decide +kernel) (.inl (by decide +kernel)) dq_sub
theorem dq_slot_init : Slot "collections.deque" "__init__" "collections.deque.__init__" := Slot.of (owner := "collections.deque") (n := "__init__") dq_lookup (by decide +kernel) (by decide +kernel) (by decide +kernel) (.inl (by decide +kernel)) dq_sub
theorem dq_args_len (a : Value) : argsOk "collections.deque.__len__" ⟨[a], []⟩ := by unfold argsOk; kernel_rfl
theorem dq_args_init (a : Value) : argsOk "collections.deque.__init__" ⟨[a], []⟩ := by unfold argsOk; kernel_rfl

theorem dq_new_spec {prog : Program} {w : World} {A : Around} {E Q : Value → Shared → Prop} {s : Shared}
    (ret : ∀ a h' tk', Kp s.heap h' → h'.get? a = some dqObj → @LE.le Nat _ s.heap.objs.size a → Q (.ref a) { s with heap := h', toks := tk' }) :
    wpAny (model prog w) A (call (.type "collections.deque") []) Q E s := by
  obtain ⟨h, g, d, tk, os⟩ := s
  dsimp only at ret
  refine wpAny_call (codeAny_of_tree ?_)
  show wpAny _ _ (callAny (.type "collections.deque") _) _ _ _
  refine wpAny_pure (a := Fin.again (.builtin "type.__call__" ⟨[.type "collections.deque"], []⟩)) (And.intro (Code.quiet_builtin _ (by decide +kernel)) ?_)
  refine codeAny_builtin entry_typeCall ?_
  unfold Builtin.«type.__call__»
  have l1 := Looks.of_pure (M := model prog w) (h := h) dq_mro
  have l2 : Looks (model prog w) h (Bind.madeBy (.type "collections.deque")) (some "collections.deque.__new__") := Looks.of_pure dq_made
  have l3 : Looks (model prog w) h (checkTypeCall "collections.deque" ⟨[], []⟩) () := Looks.of_pure dq_check
  repeat ((fail_if_success (with_reducible show wpAny _ _ (call (Value.builtin _) _ _) _ _ _)); lk)
  refine wpAny_call (codeAny_call_builtin_code (Code.quiet_builtin _ (by decide +kernel)) ?_)
  rw [dq_checknew]
  refine wpAny_pure (codeAny_builtin dq_entry_new ?_)
  rw [dq_new_run]
  refine wpAny_bind (wpAny_alloc (wpAny_pure ?_))
  have k1 : Kp h (h.push dqObj) := fun _ _ e => Heap.get?_push_of_some _ e
  have ho := Heap.get?_push_size (o := dqObj) h rfl
  have t1 : Looks (model prog w) (h.push dqObj) (typeOf (.ref h.objs.size)) (.type "collections.deque") := (Looks.ld ho).andThen .now
  have t2 : Looks (model prog w) (h.push dqObj) (isSubtype (.type "collections.deque") (.type "collections.deque")) true := Looks.of_pure dq_sub
  have t3 : Looks (model prog w) (h.push dqObj) (typeLookup (.type "collections.deque") "__init__") (some (.builtin "collections.deque.__init__")) := Looks.of_pure dq_lookup
  simp only [isInstance, callSpecial?, specialOf]
  repeat ((fail_if_success (with_reducible show wpAny _ _ (call (Value.builtin _) _ _) _ _ _)); lk)
  refine wpAny_call (codeAny_call_builtin dq_slot_init.plain dq_entry_init (dq_slot_init.check _ _ _ _ _ _ _ _ ⟨_, ho, rfl⟩ (dq_args_init _) ?_))
  show wpAny _ _ (Builtin.«collections.deque.__init__» ⟨[.ref h.objs.size], []⟩) _ _ _
  rw [dq_init_run]
  have ho' := Heap.get?_update_self (Obj.mapFields (·.setIfInBounds 0 .none)) ho rfl
  have k2 : Kp h ((h.push dqObj).update h.objs.size (Obj.mapFields (·.setIfInBounds 0 .none))) := fun b o e => (Heap.get?_update_ne _ _ _ _ (Nat.ne_of_lt (Heap.lt_size e))).trans (k1 b o e)
  refine wpAny_bind ?_
  show wpAny _ _ (updateField _ _ _) _ _ _
  unfold updateField
  refine wpAny_bind (wpAny_load ho ?_)
  show wpAny _ _ (update _ _) _ _ _
  refine wpAny_update ho ?_
  refine wpAny_bind ?_
  unfold Builtin.Deque.clear Builtin.Deque.items fieldsOf
  refine wpAny_bind (wpAny_bind (wpAny_bind (wpAny_load ho' (wpAny_pure (wpAny_pure ?_)))))
  refine wpAny_pure (wpAny_pure ?_)
  clear l1 l2 l3 t1 t2 t3
  dsimp only
  repeat lk
  exact ret _ _ _ k2 ho' (Nat.le_refl _)
theorem dq_truthy {prog : Program} {w : World} {A : Around} {E : Value → Shared → Prop} {Q : Bool → Shared → Prop} {s : Shared} {a : Addr} (ho : s.heap.get? a = some dqObj)
    (ret : ∀ tk', Q false { s with toks := tk' }) : wpAny (model prog w) A (truthy (.ref a)) Q E s := by
  obtain ⟨h, g, d, tk, os⟩ := s
  dsimp only at ret ho
  have l1 : Looks (model prog w) h (typeOf (.ref a)) (.type "collections.deque") := (Looks.ld ho).andThen .now
  have l2 : Looks (model prog w) h (typeLookup (.type "collections.deque") "__bool__") none := Looks.of_pure dq_lookupb
  have l3 : Looks (model prog w) h (typeLookup (.type "collections.deque") "__len__") (some (.builtin "collections.deque.__len__")) := Looks.of_pure dq_lookupl
  unfold truthy
  simp only [callSpecial?, specialOf]
  repeat ((fail_if_success (with_reducible show wpAny _ _ (runValue _) _ _ _)); lk)
  refine wpAny_runValue (codeAny_builtin entry_len ?_)
  unfold Builtin.len
  simp only [callSpecial?, specialOf]
  repeat ((fail_if_success (with_reducible show wpAny _ _ (call (Value.builtin _) _ _) _ _ _)); lk)
  refine wpAny_call (codeAny_call_builtin dq_slot_len.plain dq_entry_len (dq_slot_len.check _ _ _ _ _ _ _ _ ⟨_, ho, rfl⟩ (dq_args_len _) ?_))
  unfold Builtin.«collections.deque.__len__» Builtin.Deque.size
  repeat lk
  exact ret _
end
section
open PySem PySem.W PyProof.Rows PySem.Calls
set_option maxRecDepth 100000
set_option maxHeartbeats 8000000
/-- a def called from a frame, entered over the whole heap as it stands -/
theorem code_at {prog : Program} {w : World} {A₀ A : Around} {s : Shared} {K : Frag} {p : Program} {loose : List Str} {mean : ExcName → Option Value} {mg mb : Str → Option Value} {base h₀ : Heap} {outer : List Env} {env : Env} {L : Addr} {m : Str → Option Value}
    {R : Result → Shared → Prop} {name qual : Str} {params : Arguments} {body : List Stmt} {scope : Scope} {dV kV doc pm cdv ct oc : Value} {an od : Option Addr} {osl : Array (Option Value)} {f : Addr} {args : Args} {binds : List (Str × Value)}
    (B : Below A₀ base outer h₀) (F : Fr h₀ L s.heap m) (X : K.In s.heap) (T : Top p loose mean mg mb s.heap) (hA : A.frames = some (env :: outer)) (hf : env.frame = some L) (hke : env.scope.kind = .function)
    (ho : K.lookup f = some ⟨oc, od, .func (fnOf name qual params body scope dV kV doc pm an cdv ct), osl⟩) (hcd : codeIn K cdv qual = true) (hroom : A.depth < recursionLimit)
    (hbind : BindsTo s (fnOf name qual params body scope dV kV doc pm an cdv ct) args binds) (hloc : ∀ y ∈ binds, scope.names.lookup y.1 = some .local)
    (h : ∀ L' h₁, Fr s.heap L' h₁ (fun y => binds.reverse.lookup y) → News s.heap L' h₁ [] → Below A base (env :: outer) s.heap →
      wpAny (model prog w) (A.deeper (envOf qual scope L' f cdv)) (execs body (envOf qual scope L' f cdv))
        (fun fl s' => R (.ok (.ret (match fl with | .ret v => v | _ => .none))) s')
        (fun e s' => wpAny (model prog w) (A.deeper (envOf qual scope L' f cdv)) (leaving (envOf qual scope L' f cdv) e) (fun _ s'' => R (.error e) s'') (fun e' s'' => R (.error e') s'') s')
        { s with heap := h₁, toks := s.toks + binds.length })
    (hco : scope.isCoroutine = false) (hgen : scope.isGenerator = false) (hk : scope.kind = .function)
    (hcell : ∀ x ∈ scope.names, x.2 ≠ .cell) : codeAny (model prog w) A (.call (.ref f) args) R s := by
  obtain ⟨_, BG, _, _⟩ := groundX (R := R) B F (News.nil (h₀ := h₀) (h := s.heap) (L := L)) hA hf hke
  refine codeAny_call_def (fd := fnOf name qual params body scope dV kV doc pm an cdv ct) (body := body) (binds := binds) hroom (X _ _ ho) rfl T.nolimit (codeRec_of X hcd) rfl hbind hcell hloc (fun h₁ hns hk₁ => ?_) hco hgen hk
  exact h _ h₁ ⟨hns, hk₁, Nat.le_refl _⟩ News.nil BG

theorem none_of_size {h : Heap} {a : Addr} (e : h.objs.size ≤ a) : h.get? a = none := by
  cases q : h.get? a with
  | none => rfl
  | some o => exact absurd (Heap.lt_size q) (Nat.not_lt.mpr e)
/-- two new objects onto the ledger -/
theorem news_two {h₀ h h' : Heap} {L : Addr} {m : Str → Option Value} {news : List (Addr × Obj)} {sx sd : Nat} {ox od : Obj} (F : Fr h₀ L h m) (N : News h₀ L h news) (k : Kp h h') (e1 : h'.get? sx = some ox) (e2 : h'.get? sd = some od) (l1 : h.objs.size ≤ sd) (l2 : sd < sx) :
    News h₀ L h' ((sx, ox) :: (sd, od) :: news) := by
  have hL : (L : Nat) < h.objs.size := F.ns.lt
  have h0 : ∀ a, h.objs.size ≤ a → h₀.get? a = none := fun a ha => by
    cases q : h₀.get? a with
    | none => rfl
    | some o => exact absurd (Heap.lt_size (F.keep _ _ q)) (Nat.not_lt.mpr ha)
  intro q hq
  rcases List.mem_cons.mp hq with rfl | hq
  · exact ⟨e1, Nat.ne_of_gt (Nat.lt_of_lt_of_le hL (Nat.le_trans l1 (Nat.le_of_lt l2))), h0 _ (Nat.le_trans l1 (Nat.le_of_lt l2))⟩
  · rcases List.mem_cons.mp hq with rfl | hq
    · exact ⟨e2, Nat.ne_of_gt (Nat.lt_of_lt_of_le hL l1), h0 _ l1⟩
    · exact ⟨k _ _ (N q hq).1, (N q hq).2⟩
theorem below_new {h₀ h : Heap} {L : Addr} {news : List (Addr × Obj)} {sd : Nat} (N : News h₀ L h news) (l1 : h.objs.size ≤ sd) : ∀ q ∈ news, q.1 < sd := fun q hq => Nat.lt_of_lt_of_le (Heap.lt_size (N q hq).1) l1


theorem news_one {h₀ h h' : Heap} {L : Addr} {m : Str → Option Value} {news : List (Addr × Obj)} {sd : Nat} {od : Obj} (F : Fr h₀ L h m) (N : News h₀ L h news) (k : Kp h h') (e2 : h'.get? sd = some od) (l1 : h.objs.size ≤ sd) :
    News h₀ L h' ((sd, od) :: news) := by
  have hL : (L : Nat) < h.objs.size := F.ns.lt
  have h0 : ∀ a, h.objs.size ≤ a → h₀.get? a = none := fun a ha => by
    cases q : h₀.get? a with
    | none => rfl
    | some o => exact absurd (Heap.lt_size (F.keep _ _ q)) (Nat.not_lt.mpr ha)
  intro q hq
  rcases List.mem_cons.mp hq with rfl | hq
  · exact ⟨e2, Nat.ne_of_gt (Nat.lt_of_lt_of_le hL l1), h0 _ l1⟩
  · exact ⟨k _ _ (N q hq).1, (N q hq).2⟩
end
section
open PySem PySem.W PyProof.Rows PySem.Calls
theorem idx_one {n len : Nat} (h : n < len) : Builtin.Str.strSliceIndices (some (n : Int)) (some ((n : Int) + 1)) 1 len = [n] := by
  unfold Builtin.Str.strSliceIndices
  have e1 : ¬ ((n : Int) < 0) := by omega
  have e2 : ¬ ((n : Int) + 1 < 0) := by omega
  have e3 : (1 : Int) > 0 := by decide
  simp only [e1, e2, e3, if_true, if_false]
  have e4 : max 0 (min (n : Int) len) = n := by omega
  have e5 : max 0 (min ((n : Int) + 1) len) = n + 1 := by omega
  rw [e4, e5]
  unfold sliceRange
  have e6 : (n : Int) < n + 1 := by omega
  simp only [e3, e6, if_true]
  have e7 : ((n : Int) + 1 - n + 1 - 1) / 1 = 1 := by omega
  rw [e7]
  simp
theorem slice_at {xs : Str} {n c : Nat} (h : xs.cps[n]? = some c) : Txt.slice xs (some (n : Int)) (some ((n : Int) + 1)) = ⟨#[c]⟩ := by
  obtain ⟨hl, hc⟩ := Array.getElem?_eq_some_iff.mp h
  have hl' : n < xs.length := hl
  unfold Txt.slice
  rw [idx_one hl']
  split
  · rename_i q
    simp only [List.length_cons, List.length_nil, Bool.and_eq_true, beq_iff_eq] at q
    have q2 : xs.length = 1 := q.2.symm
    have q3 : xs.cps.size = 1 := q2
    have : n = 0 := by omega
    subst this
    obtain ⟨⟨l⟩⟩ := xs
    cases l with
    | nil => simp at q3
    | cons a r =>
      cases r with
      | nil => simp at h; subst h; rfl
      | cons b r => simp at q3
  · simp [h]
theorem slice_front (c : Nat) : Txt.slice ((⟨#[c]⟩ : Str) ++ Str.ofString " ") none (some (-1)) = ⟨#[c]⟩ := by
  have e : ((⟨#[c]⟩ : Str) ++ Str.ofString " ") = ⟨#[c, 32]⟩ := by
    have e1 : Str.ofString " " = ⟨#[32]⟩ := by decide
    rw [e1]; rfl
  rw [e]
  unfold Txt.slice
  have e2 : Builtin.Str.strSliceIndices none (some (-1)) 1 (⟨#[c, 32]⟩ : Str).length = [0] := by
    show Builtin.Str.strSliceIndices none (some (-1)) 1 2 = [0]
    decide
  rw [e2]
  have e3 : ¬ (((1 : Int) == 1 && [0].length == (⟨#[c, 32]⟩ : Str).length) = true) := by
    show ¬ (((1 : Int) == 1 && 1 == 2) = true)
    decide
  rw [if_neg e3]
  simp
end
section
local macro_rules | `(tactic| k_room) => `(tactic| ((try simp only [depth_mark, depth_under_make, depth_under_kw, depth_in1, depth_deeper, depth_caller]); (try dsimp only [Ar]); omega))
section
open PySem PySem.W PyProof.Rows PySem.Calls
set_option maxRecDepth 100000
set_option maxHeartbeats 8000000
noncomputable abbrev ioE (P : Params) (κ : List Tok) (xs : Str) (tx : Tok) (pos : Int) (tp : Tok) : List DictEntry :=
   [⟨PyData.keyHash P (Str.ofString "_StringIO__newline"), .str (Str.ofString "_StringIO__newline") (κ.getD 0 0), .str (Str.ofString "\n") 756⟩,
    ⟨PyData.keyHash P (Str.ofString "_StringIO__buf"), .str (Str.ofString "_StringIO__buf") (κ.getD 1 0), .str xs tx⟩,
    ⟨PyData.keyHash P (Str.ofString "_StringIO__pos"), .str (Str.ofString "_StringIO__pos") (κ.getD 2 0), .int pos tp⟩]
noncomputable abbrev lexE (P : Params) (κ : List Tok) (fs pb sx : Addr) (sv : Value) (ln : Int) (tl : Tok) (tok : Str) (tt : Tok) : List DictEntry :=
   [⟨PyData.keyHash P (Str.ofString "instream"), .str (Str.ofString "instream") (κ.getD 3 0), .ref sx⟩,
    ⟨PyData.keyHash P (Str.ofString "infile"), .str (Str.ofString "infile") (κ.getD 4 0), .none⟩,
    ⟨PyData.keyHash P (Str.ofString "posix"), .str (Str.ofString "posix") (κ.getD 5 0), .bool true⟩,
    ⟨PyData.keyHash P (Str.ofString "eof"), .str (Str.ofString "eof") (κ.getD 6 0), .none⟩,
    ⟨PyData.keyHash P (Str.ofString "commenters"), .str (Str.ofString "commenters") (κ.getD 8 0), .str (Str.ofString "") (κ.getD 7 0)⟩,
    ⟨PyData.keyHash P (Str.ofString "wordchars"), .str (Str.ofString "wordchars") (κ.getD 10 0), .str (Str.ofString "abcdfeghijklmnopqrstuvwxyzABCDEFGHIJKLMNOPQRSTUVWXYZ0123456789_ßàáâãäåæçèéêëìíîïðñòóôõöøùúûüýþÿÀÁÂÃÄÅÆÇÈÉÊËÌÍÎÏÐÑÒÓÔÕÖØÙÚÛÜÝÞ") (κ.getD 9 0)⟩,
    ⟨PyData.keyHash P (Str.ofString "whitespace"), .str (Str.ofString "whitespace") (κ.getD 12 0), .str (Str.ofString " \t\r\n") (κ.getD 11 0)⟩,
    ⟨PyData.keyHash P (Str.ofString "whitespace_split"), .str (Str.ofString "whitespace_split") (κ.getD 13 0), .bool true⟩,
    ⟨PyData.keyHash P (Str.ofString "quotes"), .str (Str.ofString "quotes") (κ.getD 15 0), .str (Str.ofString "'\"") (κ.getD 14 0)⟩,
    ⟨PyData.keyHash P (Str.ofString "escape"), .str (Str.ofString "escape") (κ.getD 17 0), .str (Str.ofString "\\") (κ.getD 16 0)⟩,
    ⟨PyData.keyHash P (Str.ofString "escapedquotes"), .str (Str.ofString "escapedquotes") (κ.getD 19 0), .str (Str.ofString "\"") (κ.getD 18 0)⟩,
    ⟨PyData.keyHash P (Str.ofString "state"), .str (Str.ofString "state") (κ.getD 20 0), sv⟩,
    ⟨PyData.keyHash P (Str.ofString "pushback"), .str (Str.ofString "pushback") (κ.getD 21 0), .ref pb⟩,
    ⟨PyData.keyHash P (Str.ofString "lineno"), .str (Str.ofString "lineno") (κ.getD 22 0), .int ln tl⟩,
    ⟨PyData.keyHash P (Str.ofString "debug"), .str (Str.ofString "debug") (κ.getD 24 0), .int 0 (κ.getD 23 0)⟩,
    ⟨PyData.keyHash P (Str.ofString "token"), .str (Str.ofString "token") (κ.getD 25 0), .str tok tt⟩,
    ⟨PyData.keyHash P (Str.ofString "filestack"), .str (Str.ofString "filestack") (κ.getD 26 0), .ref fs⟩,
    ⟨PyData.keyHash P (Str.ofString "source"), .str (Str.ofString "source") (κ.getD 27 0), .none⟩,
    ⟨PyData.keyHash P (Str.ofString "_punctuation_chars"), .str (Str.ofString "_punctuation_chars") (κ.getD 29 0), .str (Str.ofString "") (κ.getD 28 0)⟩]
noncomputable abbrev Led (P : Params) (κ : List Tok) (li : Nat) (lo : Obj) (fs pb sx sd x d : Nat) (xs : Str) (tx : Tok) (pos : Int) (tp : Tok) (sv : Value) (ln : Int) (tl : Tok) (tok : Str) (tt : Tok) : List (Addr × Obj) :=
   [(li, lo), (fs, dqObj), (pb, dqObj), (sx, instObj 597 sd), (sd, dictOf (ioE P κ xs tx pos tp) 3), (x, instObj 732 d), (d, dictOf (lexE P κ fs pb sx sv ln tl tok tt) 19)]

/-- what stands around a frame's code -/
noncomputable abbrev Ar (dp un : Nat) (gd : Option (List Code)) (env : Env) (outer : List Env) : Around := { handled := none, depth := dp, frames := some (env :: outer), guards := gd, units := un }

theorem read1_spec {prog : Program} {w : World} {p : Program} {loose : List Str} {mean : ExcName → Option Value} {mg mb : Str → Option Value}
    {dp un : Nat} {gd : Option (List Code)} {env : Env} {outer : List Env} {A₀ : Around} {base h₀ : Heap} {L : Addr} {m : Str → Option Value} {s : Shared} {Q E : Value → Shared → Prop} {t : Tok}
    {κ : List Tok} {li : Nat} {lo : Obj} {fs pb sx sd x d : Nat} {xs : Str} {tx : Tok} {n : Nat} {tp : Tok} {sv : Value} {ln : Int} {tl : Tok} {tok : Str} {tt : Tok}
    (B : Below A₀ base outer h₀) (F : Fr h₀ L s.heap m) (X : (Mine.seed.heap_1 w.params).In h₀) (N : News h₀ L s.heap (Led w.params κ li lo fs pb sx sd x d xs tx n tp sv ln tl tok tt)) (T : Top p loose mean mg mb h₀)
    (hf : env.frame = some L) (hke : env.scope.kind = .function) (hd : dp + 4 < recursionLimit)
    (ord : d < x ∧ x < sd ∧ sd < sx ∧ sx < pb ∧ pb < fs ∧ fs < li) (hx : xs.length ≤ 1000)
    (ret : ∀ (b : Str) t' (np : Int) tp' h' tk', Fr h₀ L h' m → (∀ c, xs.cps[n]? = some c → b = ⟨#[c]⟩ ∧ np = n + 1) → (xs.cps[n]? = none → b = Str.ofString "" ∧ np = n) → News h₀ L h' (Led w.params κ li lo fs pb sx sd x d xs tx np tp' sv ln tl tok tt) → Q (.str b t') { s with heap := h', toks := tk' }) :
    wpAny (model prog w) (Ar dp un gd env outer) (call (.ref 543) [.ref sx, .int 1 t]) Q E s := by
  obtain ⟨o1, o2, o3, o4, o5, o6⟩ := ord
  refine wpAny_call ?_
  k_dflt (refine' code_def (binds := [(Str.ofString "self", .ref sx), (Str.ofString "size", .int 1 t)]) ?k1 ?k2 ?k3 ?k4 ?k5 ?kA ?kF ?kK ?k6 ?k7 ?k8 ?k9 ?kB ?_ ?c2 ?c3 ?c4 ?c5; (case kA => exact rfl); (case kF => exact hf); (case kK => assumption); (case k1 => k_asm); (case k2 => k_asm); (case k3 => k_asm); (case k4 => exact N); (case k5 => k_asm); (case k6 => k_is); (case k7 => k_is); (case k8 => (dsimp only [Ar]; omega)); (case k9 => first | exact BindsTo.of_eq rfl | exact binds_K (X.keeps F.keep) rfl (by k_is) rfl rfl rfl); (case c5 => decide); (case kB => exact locs rfl); (case c2 => exact rfl); (case c3 => exact rfl); (case c4 => exact rfl))
  intro g' L' h' FG' F' N' B' X' T'
  try dsimp only
  try k_fold
  k_steps
  all_goals (try simp only [decide_eq_true_eq, decide_eq_false_iff_not] at *)
  · have hn : xs.length ≤ n := by omega
    have hn' : xs.cps.size ≤ n := hn
    refine' ret _ _ _ _ _ _ ?a1 ?a2 ?a3 ?a4
    case a1 => assumption
    case a4 => assumption
    case a2 => intro c hc; rw [Array.getElem?_eq_none hn'] at hc; cases hc
    case a3 => intro _; exact ⟨rfl, rfl⟩
  · have hn : n < xs.length := by omega
    have hn' : n < xs.cps.size := hn
    obtain ⟨c, hc⟩ : ∃ c, xs.cps[n]? = some c := ⟨_, Array.getElem?_eq_getElem hn'⟩
    rw [slice_at hc, slice_front]
    refine' ret _ _ _ _ _ _ ?b1 ?b2 ?b3 ?b4
    case b1 => assumption
    case b4 => assumption
    case b2 => intro c' hc'; rw [hc] at hc'; cases hc'; exact ⟨rfl, rfl⟩
    case b3 => intro q; rw [hc] at q; cases q
  · have hn : n < xs.length := by omega
    have hn' : n < xs.cps.size := hn
    have he : (xs.length : Int) = n + 1 := by omega
    obtain ⟨c, hc⟩ : ∃ c, xs.cps[n]? = some c := ⟨_, Array.getElem?_eq_getElem hn'⟩
    rw [he, slice_at hc, slice_front]
    refine' ret _ _ _ _ _ _ ?c1 ?c2 ?c3 ?c4
    case c1 => assumption
    case c4 => assumption
    case c2 => intro c' hc'; rw [hc] at hc'; cases hc'; exact ⟨rfl, he⟩
    case c3 => intro q; rw [hc] at q; cases q
end
section
/-! the plain side: texts as lists of code points -/
open PySem
/-- a text of code points -/
noncomputable abbrev S (l : List Nat) : Str := ⟨l.toArray⟩
inductive St where
  | sp | a | q | d
  deriving DecidableEq
noncomputable def St.val : St → Str
  | .sp => Str.ofString " "
  | .a => Str.ofString "a"
  | .q => Str.ofString "'"
  | .d => Str.ofString "\""
noncomputable def white (c : Nat) : Bool := c == 32 || c == 9 || c == 13 || c == 10
/-- the reader of one token: state, token, quoted, what is left; none: an open quotation at the end -/
noncomputable def rd : St → List Nat → Bool → List Nat → Option (List Nat × Bool × Bool × List Nat)
  | .sp, tok, qd, [] => some (tok, qd, true, [])
  | .a, tok, qd, [] => some (tok, qd, true, [])
  | .q, _, _, [] => none
  | .d, _, _, [] => none
  | .sp, tok, qd, c :: r => if white c then (if tok ≠ [] ∨ qd = true then some (tok, qd, false, r) else rd .sp tok qd r)
      else if c = 39 then rd .q tok qd r else if c = 34 then rd .d tok qd r else rd .a [c] qd r
  | .a, tok, qd, c :: r => if white c then (if tok ≠ [] ∨ qd = true then some (tok, qd, false, r) else rd .sp tok qd r)
      else if c = 39 then rd .q tok qd r else if c = 34 then rd .d tok qd r else rd .a (tok ++ [c]) qd r
  | .q, tok, _, c :: r => if c = 39 then rd .a tok true r else rd .q (tok ++ [c]) true r
  | .d, tok, _, c :: r => if c = 34 then rd .a tok true r else rd .d (tok ++ [c]) true r
end
section
local macro_rules | `(tactic| walk_at "truthy ref") => `(tactic| (k_here; refine' dq_truthy ?k1 ?_; (case k1 => exact News.get (by k_asm) (by k_mem)); k_whole; intro tk'; (try dsimp only)))
section
local macro_rules | `(tactic| walk_at "exec If") => `(tactic| (refine wpAny_If ?_))
section
open PySem PySem.W PyProof.Rows PySem.Calls
set_option maxRecDepth 100000
set_option maxHeartbeats 8000000

/-- an end that the walk leaves alone -/
noncomputable def Endd (P : Prop) : Prop := P
/-- a while, by what holds ahead of each turn and a measure -/
theorem whl_ind {prog : Program} {w : World} {A : Around} {E : Value → Shared → Prop} {env : Env} {test : PySem.Expr} {body orelse : List Stmt} {Q : Flow → Shared → Prop} {ι : Type} (I : ι → Shared → Prop) (μ : ι → Nat)
    (hE : PassesOwn (model prog w) A env E)
    (step : ∀ (Qw : Flow → Shared → Prop) (Ew : Value → Shared → Prop), (∀ s', WhlRest prog w A E env test body orelse Q 0 s' → Qw .next s') → (∀ s', WhlRest prog w A E env test body orelse Q 0 s' → Qw .cont s') → (∀ s', Q .next s' → Qw .brk s') → (∀ v s', E v s' → Ew v s') → ∀ i s, I i s → (∀ j s', μ j < μ i → I j s' → WhlRest prog w A E env test body orelse Q 0 s') →
      wpAny (model prog w) A (isTrue test env (eval test env)) (fun b s₂ => WhlIf b (wpAny (model prog w) A (execs body env) Qw Ew s₂) (wpAny (model prog w) A (execs orelse env) Q E s₂)) Ew s) :
    ∀ i s, I i s → WhlRest prog w A E env test body orelse Q 0 s := by
  have all : ∀ n i s, μ i < n → I i s → WhlRest prog w A E env test body orelse Q 0 s := by
    intro n
    induction n with
    | zero => intro i s h; exact absurd h (Nat.not_lt_zero _)
    | succ n ih => exact fun i s h hi => whl_turn (k := 0) hE (step (fun f s' => WhlPost prog w A E env test body orelse Q 0 f s') E (fun _ h => h) (fun _ h => h) (fun _ h => h) (fun _ _ h => h) i s hi fun j s' hj hI => ih j s' (Nat.lt_of_lt_of_le hj (Nat.le_of_lt_succ h)) hI)
  exact fun i s h => all _ i s (Nat.lt_succ_self _) h
theorem fr_congr {h₀ h : Heap} {L : Addr} {m m' : Str → Option Value} (F : Fr h₀ L h m) (e : ∀ y, m y = m' y) : Fr h₀ L h m' := (funext e : m = m') ▸ F

noncomputable abbrev frRT (x : Nat) (u : Option Value) (qd : Bool) (te : Tok) : Str → Option Value := fun y =>
  if y = Str.ofString "nextchar" then u else if y = Str.ofString "quoted" then some (.bool qd) else if y = Str.ofString "escapedstate" then some (.str (Str.ofString " ") te) else if y = Str.ofString "self" then some (.ref x) else none



/-- is the text a within z -/
noncomputable def isIn (z a : Str) : Bool := !(Builtin.Str.occurrences z a 0 z.length 1).isEmpty
section
variable {prog : Program} {w : World} {A : Around} {E : Value → Shared → Prop} {s : Shared} {c : Nat} {t u : Tok} {y : Str}
theorem in_fact {a z : Str} {b : Bool} {Q : Value → Shared → Prop} (h : isIn z a = b) (hQ : Q (.bool b) s) : wpAny (model prog w) A (compareOp .In (.str a t) (.str z u)) Q E s := by
  refine PySem.P.in_str ?_
  rw [show (!(Builtin.Str.occurrences z a 0 z.length 1).isEmpty) = b from h]; exact hQ
theorem notin_fact {a z : Str} {b : Bool} {Q : Value → Shared → Prop} (h : isIn z a = b) (hQ : Q (.bool (!b)) s) : wpAny (model prog w) A (compareOp .NotIn (.str a t) (.str z u)) Q E s := by
  refine PySem.P.notIn_str ?_
  rw [show (!(Builtin.Str.occurrences z a 0 z.length 1).isEmpty) = b from h]; exact hQ
theorem truthy_one {Q : Bool → Shared → Prop} (hQ : Q true { s with toks := s.toks + 1 + 1 }) : wpAny (model prog w) A (truthy (.str ⟨#[c]⟩ t)) Q E s := by
  refine PySem.P.truthy_str (by show ¬ ((1 : Nat) : Int) ≥ 2 ^ 63; decide) ?_
  exact hQ
theorem truthy_nilS {l : List Nat} {Q : Bool → Shared → Prop} (h : l = []) (hQ : Q false { s with toks := s.toks + 1 + 1 }) : wpAny (model prog w) A (truthy (.str (S l) t)) Q E s := by
  subst h
  exact PySem.P.truthy_str (by show ¬ ((0 : Nat) : Int) ≥ 2 ^ 63; decide) hQ
theorem truthy_consS {l : List Nat} {Q : Bool → Shared → Prop} (h : l ≠ []) (hl : l.length ≤ 2000) (hQ : Q true { s with toks := s.toks + 1 + 1 }) : wpAny (model prog w) A (truthy (.str (S l) t)) Q E s := by
  have e : (S l).length = l.length := by show l.toArray.size = _; simp
  have hp : l.length ≠ 0 := fun q => h (List.length_eq_zero_iff.mp q)
  refine PySem.P.truthy_str (by rw [e]; omega) ?_
  rw [e, show ((l.length : Int) != 0) = true from bne_iff_ne.mpr (by omega)]
  exact hQ
theorem eq_yes {a b : Str} {Q : Value → Shared → Prop} (h : (a == b) = true) (hQ : Q (.bool true) s) : wpAny (model prog w) A (compareOp .Eq (.str a t) (.str b u)) Q E s := eq_str (h ▸ hQ)
theorem eq_no {a b : Str} {Q : Value → Shared → Prop} (h : (a == b) = false) (hQ : Q (.bool false) s) : wpAny (model prog w) A (compareOp .Eq (.str a t) (.str b u)) Q E s := eq_str (h ▸ hQ)
end
local macro_rules | `(tactic| walk_at "compareOp In str str") => `(tactic| (k_here; (with_reducible refine in_fact (by assumption) ?_)))
local macro_rules | `(tactic| walk_at "compareOp NotIn str str") => `(tactic| (k_here; (with_reducible refine notin_fact (by assumption) ?_)))
local macro_rules | `(tactic| walk_at "compareOp Eq str str") => `(tactic| (k_here; (with_reducible first | refine eq_no (by assumption) ?_ | refine eq_yes (by assumption) ?_)))
local macro_rules | `(tactic| walk_at "truthy str") => `(tactic| (k_here; first | with_reducible refine truthy_one ?_ | with_reducible refine truthy_nilS (by assumption) ?_ | (with_reducible refine truthy_consS (by assumption) (by omega) ?_)))


theorem frRT_next (x : Nat) (u : Option Value) (qd : Bool) (te : Tok) (v : Option Value) : ∀ y, (if y = Str.ofString "nextchar" then v else frRT x u qd te y) = frRT x v qd te y := by
  intro y
  by_cases h : y = Str.ofString "nextchar"
  · simp only [frRT, h, if_true]
  · simp only [frRT, if_neg h]
theorem frRT_quoted (x : Nat) (u : Option Value) (qd : Bool) (te : Tok) (b : Bool) : ∀ y, (if y = Str.ofString "quoted" then some (Value.bool b) else frRT x u qd te y) = frRT x u b te y := by
  intro y
  have hne : Str.ofString "quoted" ≠ Str.ofString "nextchar" := by decide
  by_cases h : y = Str.ofString "quoted"
  · subst h; simp only [frRT, if_true, if_neg hne]
  · by_cases h2 : y = Str.ofString "nextchar"
    · subst h2; simp only [frRT, if_true, if_neg h]
    · simp only [frRT, if_neg h, if_neg h2]
theorem frRT_start (x : Nat) (te : Tok) : ∀ y, (if y = Str.ofString "escapedstate" then some (Value.str (Str.ofString " ") te) else if y = Str.ofString "quoted" then some (Value.bool false) else List.lookup y [(Str.ofString "self", Value.ref x)].reverse) = frRT x none false te y := by
  intro y
  have h1 : Str.ofString "escapedstate" ≠ Str.ofString "nextchar" := by decide
  have h2 : Str.ofString "escapedstate" ≠ Str.ofString "quoted" := by decide
  have h3 : Str.ofString "quoted" ≠ Str.ofString "nextchar" := by decide
  have h4 : Str.ofString "self" ≠ Str.ofString "nextchar" := by decide
  have h5 : Str.ofString "self" ≠ Str.ofString "quoted" := by decide
  have h6 : Str.ofString "self" ≠ Str.ofString "escapedstate" := by decide
  by_cases a : y = Str.ofString "escapedstate"
  · subst a; simp only [frRT, if_true, if_neg h1, if_neg h2]
  by_cases b : y = Str.ofString "quoted"
  · subst b; simp only [frRT, if_true, if_neg h3, if_neg a]
  by_cases c : y = Str.ofString "self"
  · subst c; simp only [frRT, if_true, if_neg h4, if_neg h5, if_neg h6]; rfl
  by_cases d : y = Str.ofString "nextchar"
  · subst d; simp only [frRT, if_true, if_neg a, if_neg b]
    rfl
  · simp only [frRT, if_neg a, if_neg b, if_neg c, if_neg d]
    show List.lookup y [(Str.ofString "self", Value.ref x)] = none
    have : (y == Str.ofString "self") = false := by simpa using c
    simp only [List.lookup, this]
theorem app_one (l : List Nat) (c : Nat) : (S l ++ (⟨#[c]⟩ : Str)) = S (l ++ [c]) := by
  show (⟨l.toArray ++ #[c]⟩ : Str) = ⟨(l ++ [c]).toArray⟩
  congr 1; simp
theorem lit39 : (⟨#[39]⟩ : Str) = Str.ofString "'" := by decide +kernel
theorem lit34 : (⟨#[34]⟩ : Str) = Str.ofString "\"" := by decide +kernel
theorem bool_or (b : Bool) : b = false ∨ b = true := by cases b <;> simp
theorem raised_nil {base G : Heap} {l : List Env} {e : Addr} {cls : Value} {news : List (Addr × Obj)} {h : Heap} (R : RaisedSN base G l e cls news h) : RaisedSN base G l e cls [] h := by
  obtain ⟨B, a0, hB, hG, _, hfl⟩ := R
  exact ⟨B, a0, hB, hG, fun _ q => (nomatch q), hfl⟩
theorem nil_eq {l : List Nat} (h : l = []) : (S l == Str.ofString "") = true := by subst h; rfl
theorem cons_eq {l : List Nat} (h : l ≠ []) : (S l == Str.ofString "") = false := by
  rw [beq_eq_false_iff_ne]; intro e; exact h (congrArg (fun z : Str => z.cps.toList) e)
theorem isIn_one (z : Str) (c : Nat) : isIn z ⟨#[c]⟩ = z.cps.toList.contains c := by
  refine (PySem.StrLaws.found_one z c).trans ?_
  cases h : z.cps.toList.contains c
  · exact decide_eq_false (by simpa using h)
  · exact decide_eq_true (by simpa using h)
theorem has_ws (c : Nat) : isIn (Str.ofString " \t\r\n") ⟨#[c]⟩ = white c := by
  rw [isIn_one]
  show [32, 9, 13, 10].contains c = _
  simp only [white, List.contains, List.elem]
  cases (c == 32) <;> cases (c == 9) <;> cases (c == 13) <;> cases (c == 10) <;> rfl
theorem has_esc {c : Nat} (h : c ≠ 92) : isIn (Str.ofString "\\") ⟨#[c]⟩ = false := by
  rw [isIn_one]
  show [92].contains c = _
  simp [h]
theorem has_quo {c : Nat} (h : c ≠ 39) (h' : c ≠ 34) : isIn (Str.ofString "'\"") ⟨#[c]⟩ = false := by
  rw [isIn_one]
  show [39, 34].contains c = _
  simp [h, h']
theorem has_nil (c : Nat) : isIn (Str.ofString "") ⟨#[c]⟩ = false := by
  rw [isIn_one]; rfl
theorem lit_qa : isIn (Str.ofString "'\"") (Str.ofString "a") = false := by decide +kernel
theorem lit_ea : isIn (Str.ofString "\\") (Str.ofString "a") = false := by decide +kernel
theorem lit_qq : isIn (Str.ofString "'\"") (Str.ofString "'") = true := by decide +kernel
theorem lit_qd : isIn (Str.ofString "'\"") (Str.ofString "\"") = true := by decide +kernel
theorem lit_eq : isIn (Str.ofString "\\") (Str.ofString "'") = false := by decide +kernel
theorem lit_ed : isIn (Str.ofString "\\") (Str.ofString "\"") = false := by decide +kernel
theorem lit_nq : isIn (Str.ofString "") (Str.ofString "'") = false := by decide +kernel
theorem lit_nd : isIn (Str.ofString "") (Str.ofString "\"") = false := by decide +kernel
theorem lit_wq : isIn (Str.ofString " \t\r\n") (Str.ofString "'") = false := by decide +kernel
theorem lit_wd : isIn (Str.ofString " \t\r\n") (Str.ofString "\"") = false := by decide +kernel
theorem lit_lq : isIn (Str.ofString "abcdfeghijklmnopqrstuvwxyzABCDEFGHIJKLMNOPQRSTUVWXYZ0123456789_ßàáâãäåæçèéêëìíîïðñòóôõöøùúûüýþÿÀÁÂÃÄÅÆÇÈÉÊËÌÍÎÏÐÑÒÓÔÕÖØÙÚÛÜÝÞ") (Str.ofString "'") = false := by decide +kernel
theorem lit_ld : isIn (Str.ofString "abcdfeghijklmnopqrstuvwxyzABCDEFGHIJKLMNOPQRSTUVWXYZ0123456789_ßàáâãäåæçèéêëìíîïðñòóôõöøùúûüýþÿÀÁÂÃÄÅÆÇÈÉÊËÌÍÎÏÐÑÒÓÔÕÖØÙÚÛÜÝÞ") (Str.ofString "\"") = false := by decide +kernel
noncomputable abbrev wordS : Str := Str.ofString "abcdfeghijklmnopqrstuvwxyzABCDEFGHIJKLMNOPQRSTUVWXYZ0123456789_ßàáâãäåæçèéêëìíîïðñòóôõöøùúûüýþÿÀÁÂÃÄÅÆÇÈÉÊËÌÍÎÏÐÑÒÓÔÕÖØÙÚÛÜÝÞ"
theorem one_ne {c : Nat} {d : Nat} (h : c ≠ d) : ((⟨#[c]⟩ : Str) == ⟨#[d]⟩) = false := by
  rw [beq_eq_false_iff_ne]; intro e; injection e with e; injection e with e; injection e with e; exact h e
theorem one_ne_q {c : Nat} (h : c ≠ 39) : ((⟨#[c]⟩ : Str) == Str.ofString "'") = false := one_ne h
theorem one_ne_d {c : Nat} (h : c ≠ 34) : ((⟨#[c]⟩ : Str) == Str.ofString "\"") = false := one_ne h
theorem mu_lt {a b : Nat} (h : b < a) : a - (b + 1) < a - b := Nat.sub_lt_sub_left h (Nat.lt_succ_self b)
/-- what stands ahead of each turn of read_token's loop -/
noncomputable def RTI (w : World) (κ : List Tok) (li : Nat) (lo : Obj) (fs pb sx sd x d : Nat) (xs : Str) (tx : Tok) (n : Nat) (g' : Heap) (L' : Addr) (s : Shared) (i : St × List Nat × Bool × Nat) (s' : Shared) : Prop :=
  ∃ h' tk' u te npv tp' ts' ln' tl' tks tt', s' = { s with heap := h', toks := tk' } ∧ Fr g' L' h' (frRT x u i.2.2.1 te) ∧ News g' L' h' (Led w.params κ li lo fs pb sx sd x d xs tx npv tp' (.str i.1.val ts') ln' tl' tks tt') ∧ tks = S i.2.1 ∧ npv = (i.2.2.2 : Int) ∧ i.2.2.2 ≤ xs.length ∧ i.2.1.length ≤ i.2.2.2 ∧ rd i.1 i.2.1 i.2.2.1 (xs.cps.toList.drop i.2.2.2) = rd .sp [] false (xs.cps.toList.drop n)
theorem RTI.mk {w : World} {κ : List Tok} {li : Nat} {lo : Obj} {fs pb sx sd x d : Nat} {xs : Str} {tx : Tok} {n : Nat} {g' : Heap} {L' : Addr} {s : Shared} {i : St × List Nat × Bool × Nat} {h' : Heap} {tk' : Tok} {u : Option Value} {te : Tok} {npv : Int} {tp' ts' : Tok} {ln' : Int} {tl' : Tok} {tks : Str} {tt' : Tok}
    (h : Fr g' L' h' (frRT x u i.2.2.1 te) ∧ News g' L' h' (Led w.params κ li lo fs pb sx sd x d xs tx npv tp' (.str i.1.val ts') ln' tl' tks tt') ∧ tks = S i.2.1 ∧ npv = (i.2.2.2 : Int) ∧ i.2.2.2 ≤ xs.length ∧ i.2.1.length ≤ i.2.2.2 ∧ rd i.1 i.2.1 i.2.2.1 (xs.cps.toList.drop i.2.2.2) = rd .sp [] false (xs.cps.toList.drop n)) : RTI w κ li lo fs pb sx sd x d xs tx n g' L' s i { s with heap := h', toks := tk' } := ⟨_, _, _, _, _, _, _, _, _, _, _, rfl, h⟩
/-- what stands when the loop is left -/
noncomputable def RTQ (w : World) (κ : List Tok) (li : Nat) (lo : Obj) (fs pb sx sd x d : Nat) (xs : Str) (tx : Tok) (n : Nat) (g' : Heap) (L' : Addr) (s : Shared) (f : Flow) (s' : Shared) : Prop :=
  f = Flow.next ∧ ∃ tok' qd' ended rest' n' h' tk' u te tp' sv' ts' ln' tl' tt', s' = { s with heap := h', toks := tk' } ∧ Fr g' L' h' (frRT x u qd' te) ∧ News g' L' h' (Led w.params κ li lo fs pb sx sd x d xs tx n' tp' sv' ln' tl' (S tok') tt') ∧ sv' = (if ended = true then Value.none else Value.str (Str.ofString " ") ts') ∧ rd .sp [] false (xs.cps.toList.drop n) = some (tok', qd', ended, rest') ∧ (∃ k : Nat, n' = (k : Int) ∧ xs.cps.toList.drop k = rest' ∧ k ≤ xs.length ∧ tok'.length ≤ k)
theorem RTQ.mk {w : World} {κ : List Tok} {li : Nat} {lo : Obj} {fs pb sx sd x d : Nat} {xs : Str} {tx : Tok} {n : Nat} {g' : Heap} {L' : Addr} {s : Shared} {tok' : List Nat} {qd' ended : Bool} {rest' : List Nat} {n' : Int} {h' : Heap} {tk' : Tok} {u : Option Value} {te tp' : Tok} {sv' : Value} {ts' : Tok} {ln' : Int} {tl' tt' : Tok}
    (h : Fr g' L' h' (frRT x u qd' te) ∧ News g' L' h' (Led w.params κ li lo fs pb sx sd x d xs tx n' tp' sv' ln' tl' (S tok') tt') ∧ sv' = (if ended = true then Value.none else Value.str (Str.ofString " ") ts') ∧ rd .sp [] false (xs.cps.toList.drop n) = some (tok', qd', ended, rest') ∧ (∃ k : Nat, n' = (k : Int) ∧ xs.cps.toList.drop k = rest' ∧ k ≤ xs.length ∧ tok'.length ≤ k)) : RTQ w κ li lo fs pb sx sd x d xs tx n g' L' s Flow.next { s with heap := h', toks := tk' } := ⟨rfl, _, _, _, _, _, _, _, _, _, _, _, _, _, _, _, rfl, h⟩
theorem readtok_spec {prog : Program} {w : World} {p : Program} {loose : List Str} {mean : ExcName → Option Value} {mg mb : Str → Option Value}
    {dp un : Nat} {gd : Option (List Code)} {env : Env} {outer : List Env} {A₀ : Around} {base h₀ : Heap} {L : Addr} {m : Str → Option Value} {s : Shared} {Q E : Value → Shared → Prop}
    {κ : List Tok} {li : Nat} {lo : Obj} {fs pb sx sd x d : Nat} {xs : Str} {tx : Tok} {n : Nat} {tp : Tok} {ts : Tok} {ln : Int} {tl : Tok} {tt : Tok}
    (B : Below A₀ base outer h₀) (F : Fr h₀ L s.heap m) (X : (Mine.seed.heap_1 w.params).In h₀) (N : News h₀ L s.heap (Led w.params κ li lo fs pb sx sd x d xs tx n tp (.str (Str.ofString " ") ts) ln tl (Str.ofString "") tt)) (T : Top p loose mean mg mb h₀)
    (hf : env.frame = some L) (hke : env.scope.kind = .function) (hd : dp + 8 < recursionLimit)
    (ord : d < x ∧ x < sd ∧ sd < sx ∧ sx < pb ∧ pb < fs ∧ fs < li) (hx : xs.length ≤ 1000) (hn : n ≤ xs.length) (h92 : ∀ c ∈ xs.cps.toList, c ≠ 92)
    (ret : ∀ v tv tok' qd' ended rest' (k : Nat) h' tk' tp' sv' ts' ln' tl' tt', v = (if qd' = false ∧ tok' = [] then Value.none else .str (S tok') tv) → rd .sp [] false (xs.cps.toList.drop n) = some (tok', qd', ended, rest') → xs.cps.toList.drop k = rest' → k ≤ xs.length → tok'.length ≤ k → Fr h₀ L h' m →
      News h₀ L h' (Led w.params κ li lo fs pb sx sd x d xs tx k tp' sv' ln' tl' (Str.ofString "") tt') → (sv' = if ended = true then Value.none else Value.str (Str.ofString " ") ts') →
      Q v { s with heap := h', toks := tk' })
    (err : rd .sp [] false (xs.cps.toList.drop n) = none → ∀ e g h' tk', Fr h₀ L g m → RaisedSN base g (env :: outer) e (.type "ValueError") [] h' → g.UpToSlots h' → E (.ref e) { s with heap := h', toks := tk' }) :
    wpAny (model prog w) (Ar dp un gd env outer) (call (.ref 700) [.ref x]) Q E s := by
  obtain ⟨o1, o2, o3, o4, o5, o6⟩ := ord
  refine wpAny_call ?_
  k_dflt (refine' code_def (binds := [(Str.ofString "self", .ref x)]) ?k1 ?k2 ?k3 ?k4 ?k5 ?kA ?kF ?kK ?k6 ?k7 ?k8 ?k9 ?kB ?_ ?c2 ?c3 ?c4 ?c5; (case kA => exact rfl); (case kF => exact hf); (case kK => assumption); (case k1 => k_asm); (case k2 => k_asm); (case k3 => k_asm); (case k4 => exact N); (case k5 => k_asm); (case k6 => k_is); (case k7 => k_is); (case k8 => (dsimp only [Ar]; omega)); (case k9 => exact BindsTo.of_eq rfl); (case c5 => decide); (case kB => exact locs rfl); (case c2 => exact rfl); (case c3 => exact rfl); (case c4 => exact rfl))
  intro g' L' h' FG' F' N' B' X' T'
  try dsimp only
  try k_fold
  repeat ((fail_if_success (with_reducible show wpAny _ _ (exec (Stmt.While _ _ _ _) _) _ _ _)); walk1)
  rename Fr g' L' _ _ => F1
  rename News g' L' _ _ => N1
  have F1' := fr_congr F1 (frRT_start x _)
  refine wpAny_mono (Q := RTQ w κ li lo fs pb sx sd x d xs tx n g' L' s) ?_ ?_ (fun _ _ e => e)
  · k_fold
    refine whl_start 0 ?_
    refine whl_ind (ι := St × List Nat × Bool × Nat) (RTI w κ li lo fs pb sx sd x d xs tx n g' L' s)
      (fun i => xs.length - i.2.2.2) ?_ ?_ (.sp, [], false, n) _ (RTI.mk ⟨F1', N1, rfl, rfl, hn, Nat.zero_le _, rfl⟩)
    · passes_own
    · rintro Qw Ew qn qc qb qe ⟨st, tok, qd, n1⟩ s' ⟨h1, tk1, u, te, npv, tp1, ts1, ln1, tl1, tks, tt1, rfl, F2, N2, rfl, rfl, hn1, hn2, hrd⟩ IH
      clear F1 N1 F1'
      dsimp only at F2 N2 hn1 hn2 hrd IH
      repeat ((fail_if_success (with_reducible show wpAny _ _ (call (Value.ref 543) _ _) _ _ _)); first | (k_unfold; (try dsimp only)) | walk1 | (dsimp only; walk1))
      rename Fr g' L' _ _ => F3
      rename News g' L' _ _ => N3
      clear F2 N2
      refine' read1_spec ?k1 ?k2 ?k3 ?k4 ?k5 ?k6 ?k7 ?k8 ?k9 ?k10 ?_
      case k1 => k_asm
      case k2 => exact F3
      case k3 => k_asm
      case k4 => exact N3
      case k5 => k_asm
      case k6 => exact rfl
      case k7 => exact rfl
      case k8 => k_room
      case k9 => exact ⟨by assumption, by assumption, by assumption, by assumption, by assumption, by assumption⟩
      case k10 => assumption
      k_whole
      intro b9 t9 np9 tp9 h9 tk9 F9 hb9 hn9 N9
      clear F3 N3
      repeat ((fail_if_success (with_reducible show wpAny _ _ (exec (Stmt.If (PySem.Expr.Compare (PySem.Expr.Name _ _) [CmpOp.Eq] _ _) _ _ _) _) _ _ _)); first | (k_unfold; (try dsimp only)) | walk1 | (dsimp only; walk1))
      rename Fr g' L' _ _ => F3
      rename News g' L' _ _ => N3
      have F3' := fr_congr F3 (frRT_next x u qd te _)
      (try clear F9); (try clear N9); (try clear F3)
      refine wpAny_mono (Q := fun f s' => Endd (f = Flow.next ∧ ∃ h' tk' ln' tl', s' = { s with heap := h', toks := tk' } ∧ Fr g' L' h' (frRT x (some (.str b9 t9)) qd te) ∧ News g' L' h' (Led w.params κ li lo fs pb sx sd x d xs tx np9 tp9 (.str st.val ts1) ln' tl' (S tok) tt1))) ?_ ?_ (fun _ _ e => e)
      · k_fold
        k_steps
        all_goals exact ⟨rfl, _, _, _, _, rfl, by assumption, by assumption⟩
      · rintro f s' ⟨rfl, h4, tk4, ln4, tl4, rfl, F4, N4⟩
        clear F3' N3
        dsimp only
        have hcase : xs.cps[n1]? = none ∨ ∃ c, xs.cps[n1]? = some c := by cases xs.cps[n1]? <;> simp
        rcases hcase with hc | ⟨c, hc⟩
        · obtain ⟨rfl, rfl⟩ := hn9 hc
          have hdrop : xs.cps.toList.drop n1 = [] := by
            have := Array.getElem?_eq_none_iff.mp hc
            exact List.drop_eq_nil_of_le (by simpa using this)
          rw [hdrop] at hrd
          clear hb9 hn9
          (try k_fold)
          cases st
          ·
            dsimp only [St.val] at N4
            k_steps
            all_goals exact qb _ (RTQ.mk (tok' := tok) (qd' := qd) (ended := true) (rest' := []) (ts' := 0) ⟨by assumption, by assumption, rfl, hrd.symm, n1, rfl, hdrop, hn1, hn2⟩)
          ·
            dsimp only [St.val] at N4
            have f1 := lit_qa
            have f2 := lit_ea
            k_steps
            all_goals exact qb _ (RTQ.mk (tok' := tok) (qd' := qd) (ended := true) (rest' := []) (ts' := 0) ⟨by assumption, News.tail' (by assumption), rfl, hrd.symm, n1, rfl, hdrop, hn1, hn2⟩)
          ·
            dsimp only [St.val] at N4
            have kD := ktsDicts_nil (g := g')
            have f1 := lit_qq
            k_steps
            all_goals (refine qe _ _ ?_; k_steps)
            all_goals exact err (by rw [← hrd]; simp [rd]) _ _ _ _ FG' (raised_nil (by assumption)) (by assumption)
          ·
            dsimp only [St.val] at N4
            have kD := ktsDicts_nil (g := g')
            have f1 := lit_qd
            k_steps
            all_goals (refine qe _ _ ?_; k_steps)
            all_goals exact err (by rw [← hrd]; simp [rd]) _ _ _ _ FG' (raised_nil (by assumption)) (by assumption)
        · obtain ⟨hb, rfl⟩ := hb9 c hc
          have hlt : n1 < xs.length := (Array.getElem?_eq_some_iff.mp hc).1
          have hdrop : xs.cps.toList.drop n1 = c :: xs.cps.toList.drop (n1 + 1) := by
            obtain ⟨h1, h2⟩ := Array.getElem?_eq_some_iff.mp hc
            have := List.drop_eq_getElem_cons (l := xs.cps.toList) (i := n1) (by simpa using h1)
            rw [this]; congr 1
          rw [hdrop] at hrd
          have e92 : c ≠ 92 := h92 c (List.mem_of_mem_drop (hdrop ▸ List.mem_cons_self))
          clear hb9 hn9 hc
          (try k_fold)
          cases st
          · dsimp only [St.val] at N4
            have g0 := has_nil c
            have g1 := has_ws c
            have g2 := has_esc e92
            by_cases e39 : c = 39
            · subst e39
              obtain rfl := hb.trans lit39
              have f1 := lit_qq
              have f2 := lit_wq
              have f3 := lit_nq
              have f4 := lit_eq
              have f5 := lit_lq
              k_steps
              all_goals exact qn _ (IH (.q, tok, qd, n1 + 1) _ (mu_lt hlt) (RTI.mk ⟨fr_congr (by assumption) (fun _ => rfl), by assumption, rfl, rfl, hlt, by first | exact Nat.le_succ_of_le hn2 | exact Nat.succ_le_succ (Nat.zero_le _) | (show (_ ++ [_]).length ≤ n1 + 1; rw [List.length_append]; exact Nat.add_le_add_right hn2 1), by rw [← hrd]; simp [rd, white]⟩))
            by_cases e34 : c = 34
            · subst e34
              obtain rfl := hb.trans lit34
              have f1 := lit_qd
              have f2 := lit_wd
              have f3 := lit_nd
              have f4 := lit_ed
              have f5 := lit_ld
              k_steps
              all_goals exact qn _ (IH (.d, tok, qd, n1 + 1) _ (mu_lt hlt) (RTI.mk ⟨fr_congr (by assumption) (fun _ => rfl), by assumption, rfl, rfl, hlt, by first | exact Nat.le_succ_of_le hn2 | exact Nat.succ_le_succ (Nat.zero_le _) | (show (_ ++ [_]).length ≤ n1 + 1; rw [List.length_append]; exact Nat.add_le_add_right hn2 1), by rw [← hrd]; simp [rd, white]⟩))
            subst hb
            cases hwh : white c
            · rw [hwh] at g1
              have g3 := has_quo e39 e34
              rcases bool_or (isIn wordS ⟨#[c]⟩) with g4 | g4
              ·
                k_steps
                all_goals exact qn _ (IH (.a, [c], qd, n1 + 1) _ (mu_lt hlt) (RTI.mk ⟨fr_congr (by assumption) (fun _ => rfl), by assumption, rfl, rfl, hlt, by first | exact Nat.le_succ_of_le hn2 | exact Nat.succ_le_succ (Nat.zero_le _) | (show (_ ++ [_]).length ≤ n1 + 1; rw [List.length_append]; exact Nat.add_le_add_right hn2 1), by rw [← hrd]; simp [rd, hwh, e39, e34]⟩))
              ·
                k_steps
                all_goals exact qn _ (IH (.a, [c], qd, n1 + 1) _ (mu_lt hlt) (RTI.mk ⟨fr_congr (by assumption) (fun _ => rfl), by assumption, rfl, rfl, hlt, by first | exact Nat.le_succ_of_le hn2 | exact Nat.succ_le_succ (Nat.zero_le _) | (show (_ ++ [_]).length ≤ n1 + 1; rw [List.length_append]; exact Nat.add_le_add_right hn2 1), by rw [← hrd]; simp [rd, hwh, e39, e34]⟩))
            · rw [hwh] at g1
              by_cases ht : tok = []
              · cases qd
                ·
                  k_steps
                  all_goals exact qc _ (IH (.sp, tok, false, n1 + 1) _ (mu_lt hlt) (RTI.mk ⟨fr_congr (by assumption) (fun _ => rfl), by assumption, rfl, rfl, hlt, by first | exact Nat.le_succ_of_le hn2 | exact Nat.succ_le_succ (Nat.zero_le _) | (show (_ ++ [_]).length ≤ n1 + 1; rw [List.length_append]; exact Nat.add_le_add_right hn2 1), by rw [← hrd]; simp [rd, hwh, ht]⟩))
                ·
                  k_steps
                  all_goals exact qb _ (RTQ.mk (tok' := tok) (qd' := true) (ended := false) (rest' := xs.cps.toList.drop (n1 + 1)) (ts' := _) ⟨fr_congr (by assumption) (fun _ => rfl), by assumption, rfl, by rw [← hrd]; simp [rd, hwh], n1 + 1, rfl, rfl, hlt, Nat.le_succ_of_le hn2⟩)
              ·
                k_steps
                all_goals exact qb _ (RTQ.mk (tok' := tok) (qd' := qd) (ended := false) (rest' := xs.cps.toList.drop (n1 + 1)) (ts' := _) ⟨fr_congr (by assumption) (fun _ => rfl), by assumption, rfl, by rw [← hrd]; simp [rd, hwh, ht], n1 + 1, rfl, rfl, hlt, Nat.le_succ_of_le hn2⟩)
          · dsimp only [St.val] at N4
            have f1 := lit_qa
            have f2 := lit_ea
            have g0 := has_nil c
            have g1 := has_ws c
            have g2 := has_esc e92
            by_cases e39 : c = 39
            · subst e39
              obtain rfl := hb.trans lit39
              have f3 := lit_qq
              have f4 := lit_wq
              have f5 := lit_nq
              have f6 := lit_eq
              have f7 := lit_lq
              k_steps
              all_goals exact qn _ (IH (.q, tok, qd, n1 + 1) _ (mu_lt hlt) (RTI.mk ⟨fr_congr (by assumption) (fun _ => rfl), News.tail' (by assumption), rfl, rfl, hlt, by first | exact Nat.le_succ_of_le hn2 | exact Nat.succ_le_succ (Nat.zero_le _) | (show (_ ++ [_]).length ≤ n1 + 1; rw [List.length_append]; exact Nat.add_le_add_right hn2 1), by rw [← hrd]; simp [rd, white]⟩))
            by_cases e34 : c = 34
            · subst e34
              obtain rfl := hb.trans lit34
              have f3 := lit_qd
              have f4 := lit_wd
              have f5 := lit_nd
              have f6 := lit_ed
              have f7 := lit_ld
              k_steps
              all_goals exact qn _ (IH (.d, tok, qd, n1 + 1) _ (mu_lt hlt) (RTI.mk ⟨fr_congr (by assumption) (fun _ => rfl), News.tail' (by assumption), rfl, rfl, hlt, by first | exact Nat.le_succ_of_le hn2 | exact Nat.succ_le_succ (Nat.zero_le _) | (show (_ ++ [_]).length ≤ n1 + 1; rw [List.length_append]; exact Nat.add_le_add_right hn2 1), by rw [← hrd]; simp [rd, white]⟩))
            subst hb
            cases hwh : white c
            · rw [hwh] at g1
              have g3 := has_quo e39 e34
              rcases bool_or (isIn wordS ⟨#[c]⟩) with g4 | g4
              ·
                k_steps
                all_goals exact qn _ (IH (.a, tok ++ [c], qd, n1 + 1) _ (mu_lt hlt) (RTI.mk ⟨fr_congr (by assumption) (fun _ => rfl), News.tail' (by assumption), app_one _ _, rfl, hlt, by first | exact Nat.le_succ_of_le hn2 | exact Nat.succ_le_succ (Nat.zero_le _) | (show (_ ++ [_]).length ≤ n1 + 1; rw [List.length_append]; exact Nat.add_le_add_right hn2 1), by rw [← hrd]; simp [rd, hwh, e39, e34]⟩))
              ·
                k_steps
                all_goals exact qn _ (IH (.a, tok ++ [c], qd, n1 + 1) _ (mu_lt hlt) (RTI.mk ⟨fr_congr (by assumption) (fun _ => rfl), News.tail' (by assumption), app_one _ _, rfl, hlt, by first | exact Nat.le_succ_of_le hn2 | exact Nat.succ_le_succ (Nat.zero_le _) | (show (_ ++ [_]).length ≤ n1 + 1; rw [List.length_append]; exact Nat.add_le_add_right hn2 1), by rw [← hrd]; simp [rd, hwh, e39, e34]⟩))
            · rw [hwh] at g1
              by_cases ht : tok = []
              · cases qd
                ·
                  k_steps
                  all_goals exact qc _ (IH (.sp, tok, false, n1 + 1) _ (mu_lt hlt) (RTI.mk ⟨fr_congr (by assumption) (fun _ => rfl), News.tail' (by assumption), rfl, rfl, hlt, by first | exact Nat.le_succ_of_le hn2 | exact Nat.succ_le_succ (Nat.zero_le _) | (show (_ ++ [_]).length ≤ n1 + 1; rw [List.length_append]; exact Nat.add_le_add_right hn2 1), by rw [← hrd]; simp [rd, hwh, ht]⟩))
                ·
                  k_steps
                  all_goals exact qb _ (RTQ.mk (tok' := tok) (qd' := true) (ended := false) (rest' := xs.cps.toList.drop (n1 + 1)) (ts' := _) ⟨fr_congr (by assumption) (fun _ => rfl), News.tail' (by assumption), rfl, by rw [← hrd]; simp [rd, hwh], n1 + 1, rfl, rfl, hlt, Nat.le_succ_of_le hn2⟩)
              ·
                k_steps
                all_goals exact qb _ (RTQ.mk (tok' := tok) (qd' := qd) (ended := false) (rest' := xs.cps.toList.drop (n1 + 1)) (ts' := _) ⟨fr_congr (by assumption) (fun _ => rfl), News.tail' (by assumption), rfl, by rw [← hrd]; simp [rd, hwh, ht], n1 + 1, rfl, rfl, hlt, Nat.le_succ_of_le hn2⟩)
          · dsimp only [St.val] at N4
            have f1 := lit_qq
            have g2 := has_esc e92
            by_cases e39 : c = 39
            · subst e39
              obtain rfl := hb.trans lit39
              have f2 := lit_eq
              k_steps
              all_goals exact qn _ (IH (.a, tok, true, n1 + 1) _ (mu_lt hlt) (RTI.mk ⟨fr_congr (by assumption) (frRT_quoted _ _ _ _ _), by assumption, rfl, rfl, hlt, by first | exact Nat.le_succ_of_le hn2 | exact Nat.succ_le_succ (Nat.zero_le _) | (show (_ ++ [_]).length ≤ n1 + 1; rw [List.length_append]; exact Nat.add_le_add_right hn2 1), by rw [← hrd]; simp [rd, List.nil_append]⟩))
            · have g3 := one_ne_q e39
              subst hb
              k_steps
              all_goals exact qn _ (IH (.q, tok ++ [c], true, n1 + 1) _ (mu_lt hlt) (RTI.mk ⟨fr_congr (by assumption) (frRT_quoted _ _ _ _ _), by assumption, app_one _ _, rfl, hlt, by first | exact Nat.le_succ_of_le hn2 | exact Nat.succ_le_succ (Nat.zero_le _) | (show (_ ++ [_]).length ≤ n1 + 1; rw [List.length_append]; exact Nat.add_le_add_right hn2 1), by rw [← hrd]; simp [rd, e39]⟩))
          · dsimp only [St.val] at N4
            have f1 := lit_qd
            have g2 := has_esc e92
            by_cases e34 : c = 34
            · subst e34
              obtain rfl := hb.trans lit34
              have f2 := lit_ed
              k_steps
              all_goals exact qn _ (IH (.a, tok, true, n1 + 1) _ (mu_lt hlt) (RTI.mk ⟨fr_congr (by assumption) (frRT_quoted _ _ _ _ _), by assumption, rfl, rfl, hlt, by first | exact Nat.le_succ_of_le hn2 | exact Nat.succ_le_succ (Nat.zero_le _) | (show (_ ++ [_]).length ≤ n1 + 1; rw [List.length_append]; exact Nat.add_le_add_right hn2 1), by rw [← hrd]; simp [rd, List.nil_append]⟩))
            · have g3 := one_ne_d e34
              subst hb
              k_steps
              all_goals exact qn _ (IH (.d, tok ++ [c], true, n1 + 1) _ (mu_lt hlt) (RTI.mk ⟨fr_congr (by assumption) (frRT_quoted _ _ _ _ _), by assumption, app_one _ _, rfl, hlt, by first | exact Nat.le_succ_of_le hn2 | exact Nat.succ_le_succ (Nat.zero_le _) | (show (_ ++ [_]).length ≤ n1 + 1; rw [List.length_append]; exact Nat.add_le_add_right hn2 1), by rw [← hrd]; simp [rd, e34]⟩))
  ·
    rintro f s' ⟨rfl, tok', qd', ended, rest', n', h2, tk2, u2, te2, tp2, sv2, ts2, ln2, tl2, tt2, rfl, F2, N2, hsv, hrd, k, rfl, hdr, hk1, hk2⟩
    clear F1 N1 F1'
    dsimp only
    by_cases ht : tok' = []
    · have g1 := nil_eq ht
      cases qd'
      · k_steps
        all_goals exact ret _ 0 tok' false ended rest' k _ _ _ _ _ _ _ _ (by rw [if_pos ⟨rfl, ht⟩]) hrd hdr hk1 hk2 (by assumption) (by assumption) hsv
      · k_steps
        all_goals exact ret _ tt2 tok' true ended rest' k _ _ _ _ _ _ _ _ (by rw [if_neg (fun q => by cases q.1)]) hrd hdr hk1 hk2 (by assumption) (by assumption) hsv
    · have g1 := cons_eq ht
      cases qd'
      · k_steps
        all_goals exact ret _ tt2 tok' false ended rest' k _ _ _ _ _ _ _ _ (by rw [if_neg (fun q => ht q.2)]) hrd hdr hk1 hk2 (by assumption) (by assumption) hsv
      · k_steps
        all_goals exact ret _ tt2 tok' true ended rest' k _ _ _ _ _ _ _ _ (by rw [if_neg (fun q => ht q.2)]) hrd hdr hk1 hk2 (by assumption) (by assumption) hsv
end
section
open PySem PySem.W PyProof.Rows PySem.Calls
set_option maxRecDepth 100000
set_option maxHeartbeats 8000000
theorem readtok_none {prog : Program} {w : World} {p : Program} {loose : List Str} {mean : ExcName → Option Value} {mg mb : Str → Option Value}
    {dp un : Nat} {gd : Option (List Code)} {env : Env} {outer : List Env} {A₀ : Around} {base h₀ : Heap} {L : Addr} {m : Str → Option Value} {s : Shared} {Q E : Value → Shared → Prop}
    {κ : List Tok} {li : Nat} {lo : Obj} {fs pb sx sd x d : Nat} {xs : Str} {tx : Tok} {n : Nat} {tp : Tok} {ln : Int} {tl : Tok} {tt : Tok}
    (B : Below A₀ base outer h₀) (F : Fr h₀ L s.heap m) (X : (Mine.seed.heap_1 w.params).In h₀) (N : News h₀ L s.heap (Led w.params κ li lo fs pb sx sd x d xs tx n tp .none ln tl (Str.ofString "") tt)) (T : Top p loose mean mg mb h₀)
    (hf : env.frame = some L) (hke : env.scope.kind = .function) (hd : dp + 8 < recursionLimit)
    (ord : d < x ∧ x < sd ∧ sd < sx ∧ sx < pb ∧ pb < fs ∧ fs < li) (hx : xs.length ≤ 1000) (hn : xs.cps.toList.drop n = [])
    (ret : ∀ h' tk' tp' ln' tl' tt', Fr h₀ L h' m → News h₀ L h' (Led w.params κ li lo fs pb sx sd x d xs tx n tp' .none ln' tl' (Str.ofString "") tt') → Q .none { s with heap := h', toks := tk' }) :
    wpAny (model prog w) (Ar dp un gd env outer) (call (.ref 700) [.ref x]) Q E s := by
  obtain ⟨o1, o2, o3, o4, o5, o6⟩ := ord
  have hc : xs.cps[n]? = none := by
    refine Array.getElem?_eq_none_iff.mpr ?_
    have := List.drop_eq_nil_iff.mp hn
    simpa using this
  refine wpAny_call ?_
  k_dflt (refine' code_def (binds := [(Str.ofString "self", .ref x)]) ?k1 ?k2 ?k3 ?k4 ?k5 ?kA ?kF ?kK ?k6 ?k7 ?k8 ?k9 ?kB ?_ ?c2 ?c3 ?c4 ?c5; (case kA => exact rfl); (case kF => exact hf); (case kK => assumption); (case k1 => k_asm); (case k2 => k_asm); (case k3 => k_asm); (case k4 => exact N); (case k5 => k_asm); (case k6 => k_is); (case k7 => k_is); (case k8 => (dsimp only [Ar]; omega)); (case k9 => exact BindsTo.of_eq rfl); (case c5 => decide); (case kB => exact locs rfl); (case c2 => exact rfl); (case c3 => exact rfl); (case c4 => exact rfl))
  intro g' L' h' FG' F' N' B' X' T'
  try dsimp only
  try k_fold
  repeat ((fail_if_success (with_reducible show wpAny _ _ (call (Value.ref 543) _ _) _ _ _)); first | (k_unfold; (try dsimp only)) | walk1 | (dsimp only; walk1))
  rename Fr g' L' _ _ => F3
  rename News g' L' _ _ => N3
  refine' read1_spec ?k1 ?k2 ?k3 ?k4 ?k5 ?k6 ?k7 ?k8 ?k9 ?k10 ?_
  case k1 => k_asm
  case k2 => exact F3
  case k3 => k_asm
  case k4 => exact N3
  case k5 => k_asm
  case k6 => exact rfl
  case k7 => exact rfl
  case k8 => k_room
  case k9 => exact ⟨by assumption, by assumption, by assumption, by assumption, by assumption, by assumption⟩
  case k10 => assumption
  k_whole
  intro b9 t9 np9 tp9 h9 tk9 F9 hb9 hn9 N9
  clear F3 N3
  obtain ⟨rfl, rfl⟩ := hn9 hc
  clear hb9 hn9
  (try k_fold)
  k_steps
  all_goals exact ret _ _ _ _ _ _ (by assumption) (by assumption)
end
section
open PySem PySem.W PyProof.Rows PySem.Calls
set_option maxRecDepth 100000
set_option maxHeartbeats 8000000

/-- one more token: the reader over what is left -/
noncomputable def nx (ed : Bool) (rest : List Nat) : Option (Option (List Nat) × Bool × List Nat) :=
  if ed = true then some (none, true, rest) else match rd .sp [] false rest with
    | none => none
    | some (tok, qd, e, r) => some (if qd = false ∧ tok = [] then none else some tok, e, r)
theorem rd_end : ∀ (l : List Nat) (st : St) (tok : List Nat) (qd : Bool) (t' : List Nat) (q' : Bool) (r : List Nat), rd st tok qd l = some (t', q', true, r) → r = [] := by
  intro l
  induction l with
  | nil => intro st tok qd t' q' r h; cases st <;> simp [rd] at h <;> first | exact h.2.2 | exact h.2.2.symm
  | cons c l ih =>
    intro st tok qd t' q' r h
    cases st <;> simp only [rd] at h
    all_goals (repeat' split at h)
    all_goals first | exact ih _ _ _ _ _ _ h | (simp at h)
noncomputable def TokVal (o : Option (List Nat)) (v : Value) : Prop := match o with
  | none => v = .none
  | some t => ∃ tv, v = .str (S t) tv

theorem readtok_any {prog : Program} {w : World} {p : Program} {loose : List Str} {mean : ExcName → Option Value} {mg mb : Str → Option Value}
    {dp un : Nat} {gd : Option (List Code)} {env : Env} {outer : List Env} {A₀ : Around} {base h₀ : Heap} {L : Addr} {m : Str → Option Value} {s : Shared} {Q E : Value → Shared → Prop}
    {κ : List Tok} {li : Nat} {lo : Obj} {fs pb sx sd x d : Nat} {xs : Str} {tx : Tok} {n : Nat} {tp : Tok} {sv : Value} {ed : Bool} {ts : Tok} {ln : Int} {tl : Tok} {tt : Tok}
    (B : Below A₀ base outer h₀) (F : Fr h₀ L s.heap m) (X : (Mine.seed.heap_1 w.params).In h₀) (N : News h₀ L s.heap (Led w.params κ li lo fs pb sx sd x d xs tx n tp sv ln tl (Str.ofString "") tt)) (T : Top p loose mean mg mb h₀)
    (hf : env.frame = some L) (hke : env.scope.kind = .function) (hd : dp + 8 < recursionLimit)
    (ord : d < x ∧ x < sd ∧ sd < sx ∧ sx < pb ∧ pb < fs ∧ fs < li) (hx : xs.length ≤ 1000) (hn : n ≤ xs.length) (h92 : ∀ c ∈ xs.cps.toList, c ≠ 92)
    (hsv : sv = if ed = true then Value.none else Value.str (Str.ofString " ") ts) (hed : ed = true → xs.cps.toList.drop n = [])
    (ret : ∀ v o ed' (k : Nat) h' tk' tp' sv' ts' ln' tl' tt', TokVal o v → (∀ t, o = some t → t.length ≤ k) → nx ed (xs.cps.toList.drop n) = some (o, ed', xs.cps.toList.drop k) → k ≤ xs.length → (ed' = true → xs.cps.toList.drop k = []) → Fr h₀ L h' m →
      News h₀ L h' (Led w.params κ li lo fs pb sx sd x d xs tx k tp' sv' ln' tl' (Str.ofString "") tt') → (sv' = if ed' = true then Value.none else Value.str (Str.ofString " ") ts') → Q v { s with heap := h', toks := tk' })
    (err : nx ed (xs.cps.toList.drop n) = none → ∀ e g h' tk', Fr h₀ L g m → RaisedSN base g (env :: outer) e (.type "ValueError") [] h' → g.UpToSlots h' → E (.ref e) { s with heap := h', toks := tk' }) :
    wpAny (model prog w) (Ar dp un gd env outer) (call (.ref 700) [.ref x]) Q E s := by
  cases ed with
  | true =>
    rw [if_pos rfl] at hsv
    subst hsv
    have hnil := hed rfl
    refine readtok_none B F X N T hf hke hd ord hx hnil fun h' tk' tp' ln' tl' tt' F' N' => ?_
    exact ret _ none true n _ _ _ _ 0 _ _ _ rfl (fun t q => by cases q) (by simp [nx, hnil]) hn (fun _ => hnil) F' N' (by rw [if_pos rfl])
  | false =>
    rw [if_neg (by decide)] at hsv
    subst hsv
    refine readtok_spec B F X N T hf hke hd ord hx hn h92 ?_ ?_
    · intro v tv tok' qd' ended rest' k h' tk' tp' sv' ts' ln' tl' tt' hv hrd hdr hk1 hk2 F' N' hsv'
      subst hdr
      have he : ended = true → xs.cps.toList.drop k = [] := fun q => by subst q; exact rd_end _ _ _ _ _ _ _ hrd
      by_cases hc : qd' = false ∧ tok' = []
      · rw [if_pos hc] at hv
        exact ret v none ended k _ _ _ _ ts' _ _ _ hv (fun t q => by cases q) (by simp only [nx, hrd, if_pos hc]; rfl) hk1 he F' N' hsv'
      · rw [if_neg hc] at hv
        exact ret v (some tok') ended k _ _ _ _ ts' _ _ _ ⟨tv, hv⟩ (fun t q => by cases q; exact hk2) (by simp only [nx, hrd, if_neg hc]; rfl) hk1 he F' N' hsv'
    · intro hrd
      exact err (by simp only [nx, hrd]; rfl)
theorem gettok_spec {prog : Program} {w : World} {p : Program} {loose : List Str} {mean : ExcName → Option Value} {mg mb : Str → Option Value}
    {dp un : Nat} {gd : Option (List Code)} {env : Env} {outer : List Env} {A₀ : Around} {base h₀ : Heap} {L : Addr} {m : Str → Option Value} {s : Shared} {Q E : Value → Shared → Prop}
    {κ : List Tok} {li : Nat} {lo : Obj} {fs pb sx sd x d : Nat} {xs : Str} {tx : Tok} {n : Nat} {tp : Tok} {sv : Value} {ed : Bool} {ts : Tok} {ln : Int} {tl : Tok} {tt : Tok}
    (B : Below A₀ base outer h₀) (F : Fr h₀ L s.heap m) (X : (Mine.seed.heap_1 w.params).In h₀) (N : News h₀ L s.heap (Led w.params κ li lo fs pb sx sd x d xs tx n tp sv ln tl (Str.ofString "") tt)) (T : Top p loose mean mg mb h₀)
    (hf : env.frame = some L) (hke : env.scope.kind = .function) (hd : dp + 12 < recursionLimit)
    (ord : d < x ∧ x < sd ∧ sd < sx ∧ sx < pb ∧ pb < fs ∧ fs < li) (hx : xs.length ≤ 1000) (hn : n ≤ xs.length) (h92 : ∀ c ∈ xs.cps.toList, c ≠ 92)
    (hsv : sv = if ed = true then Value.none else Value.str (Str.ofString " ") ts) (hed : ed = true → xs.cps.toList.drop n = [])
    (ret : ∀ v o ed' (k : Nat) h' tk' tp' sv' ts' ln' tl' tt', TokVal o v → (∀ t, o = some t → t.length ≤ k) → nx ed (xs.cps.toList.drop n) = some (o, ed', xs.cps.toList.drop k) → k ≤ xs.length → (ed' = true → xs.cps.toList.drop k = []) → Fr h₀ L h' m →
      News h₀ L h' (Led w.params κ li lo fs pb sx sd x d xs tx k tp' sv' ln' tl' (Str.ofString "") tt') → (sv' = if ed' = true then Value.none else Value.str (Str.ofString " ") ts') → Q v { s with heap := h', toks := tk' })
    (err : nx ed (xs.cps.toList.drop n) = none → ∀ e g h' tk', Fr h₀ L g m → RaisedSN base g (env :: outer) e (.type "ValueError") [] h' → g.UpToSlots h' → E (.ref e) { s with heap := h', toks := tk' }) :
    wpAny (model prog w) (Ar dp un gd env outer) (call (.ref 693) [.ref x]) Q E s := by
  obtain ⟨o1, o2, o3, o4, o5, o6⟩ := ord
  refine wpAny_call ?_
  k_dflt (refine' code_def (binds := [(Str.ofString "self", .ref x)]) ?k1 ?k2 ?k3 ?k4 ?k5 ?kA ?kF ?kK ?k6 ?k7 ?k8 ?k9 ?kB ?_ ?c2 ?c3 ?c4 ?c5; (case kA => exact rfl); (case kF => exact hf); (case kK => assumption); (case k1 => k_asm); (case k2 => k_asm); (case k3 => k_asm); (case k4 => exact N); (case k5 => k_asm); (case k6 => k_is); (case k7 => k_is); (case k8 => (dsimp only [Ar]; omega)); (case k9 => exact BindsTo.of_eq rfl); (case c5 => decide); (case kB => exact locs rfl); (case c2 => exact rfl); (case c3 => exact rfl); (case c4 => exact rfl))
  intro g' L' h' FG' F' N' B' X' T'
  try dsimp only
  try k_fold
  repeat ((fail_if_success (with_reducible show wpAny _ _ (call (Value.ref 700) _) _ _ _)); first | (k_unfold; (try dsimp only)) | walk1 | (dsimp only; walk1))
  rename Fr g' L' _ _ => F3
  rename News g' L' _ _ => N3
  refine' readtok_any ?k1 ?k2 ?k3 ?k4 ?k5 ?k6 ?k7 ?k8 ?k9 ?k10 ?k11 ?k12 ?k13 ?k14 ?_ ?_
  case k1 => k_asm
  case k2 => exact F3
  case k3 => k_asm
  case k4 => exact N3
  case k5 => k_asm
  case k6 => exact rfl
  case k7 => exact rfl
  case k8 => k_room
  case k9 => exact ⟨by assumption, by assumption, by assumption, by assumption, by assumption, by assumption⟩
  case k10 => assumption
  case k11 => exact hn
  case k12 => exact h92
  case k13 => exact hsv
  case k14 => exact hed
  · intro v o ed' k h9 tk9 tp9 sv9 ts9 ln9 tl9 tt9 hv hol hnx hk hee F9 N9 hsv9
    clear F3 N3
    cases o with
    | none =>
      cases hv
      (try k_fold)
      k_steps
      all_goals exact ret _ none ed' k _ _ _ _ ts9 _ _ _ rfl hol hnx hk hee (by assumption) (by assumption) hsv9
    | some t =>
      obtain ⟨tv, rfl⟩ := hv
      (try k_fold)
      k_steps
      all_goals exact ret _ (some t) ed' k _ _ _ _ ts9 _ _ _ ⟨_, rfl⟩ hol hnx hk hee (by assumption) (by assumption) hsv9
  · intro hnx e g h9 tk9 F9 R9 U9
    have kD := ktsDicts_nil (g := g')
    k_steps
    all_goals exact err hnx _ _ _ _ FG' (by assumption) (by assumption)
theorem next_spec {prog : Program} {w : World} {p : Program} {loose : List Str} {mean : ExcName → Option Value} {mg mb : Str → Option Value}
    {dp un : Nat} {gd : Option (List Code)} {env : Env} {outer : List Env} {A₀ : Around} {base h₀ : Heap} {L : Addr} {m : Str → Option Value} {s : Shared} {Q E : Value → Shared → Prop}
    {κ : List Tok} {li : Nat} {lo : Obj} {fs pb sx sd x d : Nat} {xs : Str} {tx : Tok} {n : Nat} {tp : Tok} {sv : Value} {ed : Bool} {ts : Tok} {ln : Int} {tl : Tok} {tt : Tok}
    (B : Below A₀ base outer h₀) (F : Fr h₀ L s.heap m) (X : (Mine.seed.heap_1 w.params).In h₀) (N : News h₀ L s.heap (Led w.params κ li lo fs pb sx sd x d xs tx n tp sv ln tl (Str.ofString "") tt)) (T : Top p loose mean mg mb h₀)
    (hf : env.frame = some L) (hke : env.scope.kind = .function) (hd : dp + 16 < recursionLimit)
    (ord : d < x ∧ x < sd ∧ sd < sx ∧ sx < pb ∧ pb < fs ∧ fs < li) (hx : xs.length ≤ 1000) (hn : n ≤ xs.length) (h92 : ∀ c ∈ xs.cps.toList, c ≠ 92)
    (hsv : sv = if ed = true then Value.none else Value.str (Str.ofString " ") ts) (hed : ed = true → xs.cps.toList.drop n = [])
    (ret : ∀ t tv ed' (k : Nat) h' tk' tp' sv' ts' ln' tl' tt', t.length ≤ k → nx ed (xs.cps.toList.drop n) = some (some t, ed', xs.cps.toList.drop k) → k ≤ xs.length → (ed' = true → xs.cps.toList.drop k = []) → Fr h₀ L h' m →
      News h₀ L h' (Led w.params κ li lo fs pb sx sd x d xs tx k tp' sv' ln' tl' (Str.ofString "") tt') → (sv' = if ed' = true then Value.none else Value.str (Str.ofString " ") ts') → Q (.str (S t) tv) { s with heap := h', toks := tk' })
    (stop : ∀ ed' (k : Nat), nx ed (xs.cps.toList.drop n) = some (none, ed', xs.cps.toList.drop k) → ∀ e t g h' tk' tp' sv' ln' tl' tt', Fr h₀ L g m →
      RaisedS base g (env :: outer) e (.type "StopIteration") t [] (Led w.params κ li lo fs pb sx sd x d xs tx k tp' sv' ln' tl' (Str.ofString "") tt') h' → g.UpToSlots h' → E (.ref e) { s with heap := h', toks := tk' })
    (err : nx ed (xs.cps.toList.drop n) = none → ∀ e g h' tk', Fr h₀ L g m → RaisedSN base g (env :: outer) e (.type "ValueError") [] h' → g.UpToSlots h' → E (.ref e) { s with heap := h', toks := tk' }) :
    wpAny (model prog w) (Ar dp un gd env outer) (call (.ref 729) [.ref x]) Q E s := by
  obtain ⟨o1, o2, o3, o4, o5, o6⟩ := ord
  refine wpAny_call ?_
  k_dflt (refine' code_def (binds := [(Str.ofString "self", .ref x)]) ?k1 ?k2 ?k3 ?k4 ?k5 ?kA ?kF ?kK ?k6 ?k7 ?k8 ?k9 ?kB ?_ ?c2 ?c3 ?c4 ?c5; (case kA => exact rfl); (case kF => exact hf); (case kK => assumption); (case k1 => k_asm); (case k2 => k_asm); (case k3 => k_asm); (case k4 => exact N); (case k5 => k_asm); (case k6 => k_is); (case k7 => k_is); (case k8 => (dsimp only [Ar]; omega)); (case k9 => exact BindsTo.of_eq rfl); (case c5 => decide); (case kB => exact locs rfl); (case c2 => exact rfl); (case c3 => exact rfl); (case c4 => exact rfl))
  intro g' L' h' FG' F' N' B' X' T'
  try dsimp only
  try k_fold
  repeat ((fail_if_success (with_reducible show wpAny _ _ (call (Value.ref 693) _) _ _ _)); first | (k_unfold; (try dsimp only)) | walk1 | (dsimp only; walk1))
  rename Fr g' L' _ _ => F3
  rename News g' L' _ _ => N3
  refine' gettok_spec ?k1 ?k2 ?k3 ?k4 ?k5 ?k6 ?k7 ?k8 ?k9 ?k10 ?k11 ?k12 ?k13 ?k14 ?_ ?_
  case k1 => k_asm
  case k2 => exact F3
  case k3 => k_asm
  case k4 => exact N3
  case k5 => k_asm
  case k6 => exact rfl
  case k7 => exact rfl
  case k8 => k_room
  case k9 => exact ⟨by assumption, by assumption, by assumption, by assumption, by assumption, by assumption⟩
  case k10 => assumption
  case k11 => exact hn
  case k12 => exact h92
  case k13 => exact hsv
  case k14 => exact hed
  · intro v o ed' k h9 tk9 tp9 sv9 ts9 ln9 tl9 tt9 hv hol hnx hk hee F9 N9 hsv9
    clear F3 N3
    cases o with
    | none =>
      cases hv
      have kD := ktsDicts_nil (g := g')
      (try k_fold)
      k_steps
      all_goals exact stop ed' k hnx _ _ _ _ _ _ _ _ _ _ FG' (by assumption) (by assumption)
    | some t =>
      obtain ⟨tv, rfl⟩ := hv
      (try k_fold)
      k_steps
      all_goals exact ret t _ ed' k _ _ _ _ ts9 _ _ _ (hol _ rfl) hnx hk hee (by assumption) (by assumption) hsv9
  · intro hnx e g h9 tk9 F9 R9 U9
    have kD := ktsDicts_nil (g := g')
    k_steps
    all_goals exact err hnx _ _ _ _ FG' (by assumption) (by assumption)
end
end
section
open PySem PySem.W PyProof.Rows PySem.Calls
set_option maxRecDepth 100000
set_option maxHeartbeats 8000000
noncomputable abbrev liObj (acc : Array Value) (c : Nat) : Obj := { cls := .type "list", dict := none, data := .seq acc c, slots := #[] }
/-- the tokens that are left -/
noncomputable def rds : Nat → Bool → List Nat → Option (List (List Nat))
  | 0, _, _ => some []
  | f + 1, ed, rest => match nx ed rest with
    | none => none
    | some (none, _, _) => some []
    | some (some t, ed', r) => (rds f ed' r).map (t :: ·)
noncomputable def StrsAre : List Value → List (List Nat) → Prop
  | [], [] => True
  | v :: vs, t :: ts => (∃ tv, v = .str (S t) tv) ∧ StrsAre vs ts
  | _, _ => False
theorem StrsAre.snoc : ∀ {vs : List Value} {ts : List (List Nat)} {t : List Nat} {tv : Tok}, StrsAre vs ts → StrsAre (vs ++ [.str (S t) tv]) (ts ++ [t])
  | [], [], t, tv, _ => ⟨⟨tv, rfl⟩, trivial⟩
  | _ :: _, _ :: _, _, _, h => ⟨h.1, StrsAre.snoc h.2⟩
noncomputable def mu (ed : Bool) (rest : List Nat) : Nat := 2 * rest.length + (if ed = true then 0 else 1)
theorem rd_less : ∀ (l : List Nat) (st : St) (tok : List Nat) (qd : Bool) (t' : List Nat) (q' e' : Bool) (r : List Nat), rd st tok qd l = some (t', q', e', r) → 2 * r.length + (if e' = true then 0 else 1) < 2 * l.length + 1 := by
  intro l
  induction l with
  | nil => intro st tok qd t' q' e' r h; cases st <;> simp [rd] at h <;> (obtain ⟨_, _, h3, h4⟩ := h; subst h3; subst h4; simp)
  | cons c l ih =>
    intro st tok qd t' q' e' r h
    cases st <;> simp only [rd] at h
    all_goals (repeat' split at h)
    all_goals first
      | (have := ih _ _ _ _ _ _ _ h; simp only [List.length_cons]; omega)
      | (simp at h; obtain ⟨_, _, rfl, rfl⟩ := h; simp only [List.length_cons, Bool.false_eq_true, if_false]; omega)
theorem nx_less {ed : Bool} {rest : List Nat} {t : List Nat} {ed' : Bool} {r : List Nat} (h : nx ed rest = some (some t, ed', r)) : mu ed' r < mu ed rest := by
  unfold nx at h
  cases ed with
  | true => simp at h
  | false =>
    simp only [Bool.false_eq_true, if_false] at h
    split at h
    · cases h
    · rename_i tok qd e r' hr
      simp only [Option.some.injEq, Prod.mk.injEq] at h
      obtain ⟨_, rfl, rfl⟩ := h
      have := rd_less _ _ _ _ _ _ _ _ hr
      simpa [mu] using this
theorem sub_stop : isSubtype (.type "StopIteration") (.type "StopIteration") = pure true := by rw [isSubtype_type]; kernel_rfl
theorem sub_value : isSubtype (.type "ValueError") (.type "StopIteration") = pure false := by rw [isSubtype_type]; kernel_rfl
theorem raised_is {M : Model} {A : Around} {Q : Option Value → Shared → Prop} {E : Value → Shared → Prop} {s : Shared} {base G : Heap} {l : List Env} {e : Addr} {news : List (Addr × Obj)}
    (R : RaisedSN base G l e (.type "ValueError") news s.heap) (h : E (.ref e) s) : OwitStop M A Q E (.ref e) s := by
  obtain ⟨B, a0, hB, hG, hl, hfl⟩ := R
  obtain ⟨ob, hob, hobc⟩ := hfl.there
  have hT : s.TypeIs (.ref e) "ValueError" := (show ∃ o, s.heap.get? e = some o ∧ o.cls = .type "ValueError" from ⟨ob, hob, hobc⟩)
  unfold OwitStop
  refine wpAny_isInstance hT sub_value ?_
  show (if false = true then Q none s else E (.ref e) s)
  rw [if_neg (by decide)]
  exact h
/-- an own iterator's StopIteration ends the walk; the ground's frames may have turned -/
theorem stop_S {M : Model} {A A₀ : Around} {Q : Option Value → Shared → Prop} {E : Value → Shared → Prop} {s : Shared} {base G g : Heap} {outer : List Env} {e t : Addr} {news : List (Addr × Obj)} {name : Str} {scope : Scope} {L a : Addr} {cd : Value} {vs : List Value} {m : Str → Option Value}
    (R : RaisedS base G (envOf name scope L a cd :: outer) e (.type "StopIteration") t vs news s.heap) (hsm : G.UpToSlots s.heap) (F : Fr g L G m) (K : Below A₀ base outer g)
    (k : ∀ g', KtsTurn (outer.filterMap (·.frame)) g g' → Below A₀ base outer g' → Fr g' L s.heap m → News g' L s.heap news → Q none s) : OwitStop M A Q E (.ref e) s := by
  obtain ⟨⟨B, hB, hBG, hl, hfl, hnew⟩, htup⟩ := R
  have hL : B.get? L = none := by
    obtain ⟨_, ⟨L', _, hf, hn', _⟩, _⟩ := hfl.2.2.1
    obtain rfl : L = L' := Option.some.inj hf
    exact hn'
  obtain ⟨g', T', F', K'⟩ := kts_ground K F hBG hfl.1 hsm
  obtain ⟨ob, hob, hobc⟩ := hfl.there
  have hT : s.TypeIs (.ref e) "StopIteration" := (show ∃ o, s.heap.get? e = some o ∧ o.cls = .type "StopIteration" from ⟨ob, hob, hobc⟩)
  unfold OwitStop
  refine wpAny_isInstance hT sub_stop ?_
  show (if true = true then Q none s else E (.ref e) s)
  rw [if_pos rfl]
  exact k g' T' K' F' fun q hq => ⟨hfl.1 _ _ (hl q hq).1, (fun z => by have := (hl q hq).1; rw [z, hL] at this; cases this), T'.none_ _ (kts_none F.keep (hl q hq).2.1)⟩
theorem fnd_next (P : Params) : findIn (Mine.seed.heap_1 P) (.ref 732) "__next__" = some (some (.ref 729)) := by k_is
theorem fnd_iter (P : Params) : findIn (Mine.seed.heap_1 P) (.ref 732) "__iter__" = some (some (.ref 722)) := by k_is
theorem fnd_len (P : Params) : findIn (Mine.seed.heap_1 P) (.ref 732) "__len__" = some none := by k_is
theorem fnd_hint (P : Params) : findIn (Mine.seed.heap_1 P) (.ref 732) "__length_hint__" = some none := by k_is
theorem fn_next (P : Params) : isFn (Mine.seed.heap_1 P) (.ref 729) = true := by k_is
theorem fn_iter (P : Params) : isFn (Mine.seed.heap_1 P) (.ref 722) = true := by k_is

theorem inst_of {h₀ : Heap} {L : Addr} {h : Heap} {P : Params} {κ : List Tok} {li : Nat} {lo : Obj} {fs pb sx sd x d : Nat} {xs : Str} {tx : Tok} {n : Int} {tp : Tok} {sv : Value} {ln : Int} {tl : Tok} {tk : Str} {tt : Tok}
    (N : News h₀ L h (Led P κ li lo fs pb sx sd x d xs tx n tp sv ln tl tk tt)) : InstAt h x (instObj 732 d) 732 (some (dictOf (lexE P κ fs pb sx sv ln tl tk tt) 19)) :=
  ⟨N.get (by simp), rfl, rfl, N.get (by simp)⟩
theorem loop_own {prog : Program} {w : World} {p : Program} {loose : List Str} {mean : ExcName → Option Value} {mg mb : Str → Option Value}
    {dp un : Nat} {gd : Option (List Code)} {cn : Str} {cs : Scope} {a : Addr} {ccd : Value} {outer : List Env} {A₀ : Around} {base h₀ : Heap} {L : Addr} {m : Str → Option Value} {R : Result → Shared → Prop} {res : Value}
    {κ : List Tok} {li : Nat} {fs pb sx sd x d : Nat} {xs : Str} {tx : Tok}
    (B : Below A₀ base outer h₀) (X : (Mine.seed.heap_1 w.params).In h₀) (T : Top p loose mean mg mb h₀)
    (hke : cs.kind = .function) (hd : dp + 16 < recursionLimit)
    (ord : d < x ∧ x < sd ∧ sd < sx ∧ sx < pb ∧ pb < fs ∧ fs < li) (hx : xs.length ≤ 1000) (h92 : ∀ c ∈ xs.cps.toList, c ≠ 92) :
    ∀ (f : Nat) (n : Nat) (ed : Bool) (acc : Array Value) (c : Nat) (l0 : List (List Nat)) (s : Shared) (tp : Tok) (sv : Value) (ts : Tok) (ln : Int) (tl : Tok) (tt : Tok),
    mu ed (xs.cps.toList.drop n) < f → acc.size + f ≤ 4000 → n ≤ xs.length → (ed = true → xs.cps.toList.drop n = []) → (sv = if ed = true then Value.none else Value.str (Str.ofString " ") ts) → StrsAre acc.toList l0 →
    Fr h₀ L s.heap m → News h₀ L s.heap (Led w.params κ li (liObj acc c) fs pb sx sd x d xs tx n tp sv ln tl (Str.ofString "") tt) →
    (∀ l acc' c' (n' : Nat) h' tk' tp' sv' ln' tl' tt', rds f ed (xs.cps.toList.drop n) = some l → StrsAre acc'.toList (l0 ++ l) → ∀ g', KtsTurn (outer.filterMap (·.frame)) h₀ g' → Below A₀ base outer g' → Fr g' L h' m →
      News g' L h' (Led w.params κ li (liObj acc' c') fs pb sx sd x d xs tx n' tp' sv' ln' tl' (Str.ofString "") tt') → R (.ok (.ret res)) { s with heap := h', toks := tk' }) →
    (rds f ed (xs.cps.toList.drop n) = none → ∀ e g h' tk', Fr h₀ L g m → RaisedSN base g (envOf cn cs L a ccd :: outer) e (.type "ValueError") [] h' → g.UpToSlots h' → R (.error (.ref e)) { s with heap := h', toks := tk' }) →
    codeAny (model prog w) (Ar dp un gd (envOf cn cs L a ccd) outer) (.builtin "list.extend.loop" ⟨[.ref li, .ref x, res], []⟩) R s := by
  intro f
  induction f with
  | zero => intro n ed acc c l0 s tp sv ts ln tl tt hm; exact absurd hm (Nat.not_lt_zero _)
  | succ f ih =>
    intro n ed acc c l0 s tp sv ts ln tl tt hmu hsz hn hed hsv hst F N ret err
    refine codeAny_builtin PySem.F.entry_extend_loop ?_
    rw [Around.under_plainId PySem.F.plain_extend_loop _]
    show wpAny _ (Ar dp un gd (envOf cn cs L a ccd) outer).in1 (pyNext (.ref x) >>= _) _ _ s
    refine wpAny_bind (owit_next F X (inst_of N) (fnd_next _) (fn_next _) ?_)
    refine next_spec (base := base) (un := un + 1) B F X N T rfl hke hd ord hx hn h92 hsv hed ?_ ?_ ?_
    · intro t tv ed' k h' tk' tp' sv' ts' ln' tl' tt' htk hnx hk hee F' N' hsv'
      show wpAny _ (Ar dp un gd (envOf cn cs L a ccd) outer).in1 (updateSeq li (·.push (.str (S t) tv)) >>= _) _ _ _
      have hS : h'.get? li = some (liObj acc c) := N'.get (by simp)
      have hl := nx_less hnx
      refine wpAny_bind (wpAny_updateSeq hS rfl (wpAny_pure ⟨plainId_quiet PySem.F.plain_extend_loop _, ?_⟩) (by show acc.size ≤ 2 ^ 24; omega) (by show (acc.push _).size ≤ 2 ^ 24 + 1; rw [Array.size_push]; omega))
      have hsame : Heap.SameBut li h' (h'.update li (Obj.mapSeq (·.push (.str (S t) tv)))) := Heap.SameBut.update ..
      have hS' := Heap.get?_update_self (Obj.mapSeq (·.push (.str (S t) tv))) hS rfl
      have F2 := F'.update N' (List.mem_cons_self) hsame
      have N2 := N'.setHead (d := li) (o := liObj acc c) (by
        intro q hq
        obtain ⟨o1, o2, o3, o4, o5, o6⟩ := ord
        have q1 : fs ≠ li := by omega
        have q2 : pb ≠ li := by omega
        have q3 : sx ≠ li := by omega
        have q4 : sd ≠ li := by omega
        have q5 : x ≠ li := by omega
        have q6 : d ≠ li := by omega
        simp only [List.mem_cons, List.not_mem_nil, or_false] at hq
        rcases hq with rfl | rfl | rfl | rfl | rfl | rfl
        · exact q1
        · exact q2
        · exact q3
        · exact q4
        · exact q5
        · exact q6) hsame hS'
      refine ih k ed' (acc.push (.str (S t) tv)) _ (l0 ++ [t]) _ tp' sv' ts' ln' tl' tt' (by omega) (by rw [Array.size_push]; omega) hk hee hsv' (by rw [Array.toList_push]; exact hst.snoc) F2 N2 ?_ ?_
      · intro l acc' c' n' h9 tk9 tp9 sv9 ln9 tl9 tt9 hr9 hs9 g9 T9 B9 F9 N9
        refine ret (t :: l) acc' c' n' h9 tk9 tp9 sv9 ln9 tl9 tt9 (by simp only [rds, hnx, hr9]; rfl) (by rw [List.append_assoc] at hs9; exact hs9) g9 T9 B9 F9 N9
      · intro hr9
        exact err (by simp only [rds, hnx, hr9]; rfl)
    · intro ed' k hnx e t g h' tk' tp' sv' ln' tl' tt' G R' U
      refine stop_S R' U G B fun g9 T9 B9 F' N' => ?_
      exact wpAny_pure (ret [] acc c k h' tk' tp' sv' ln' tl' tt' (by simp only [rds, hnx]) (by rw [List.append_nil]; exact hst) g9 T9 B9 F' N')
    · intro hnx e g h' tk' G R' U
      refine raised_is R' ?_
      exact err (by simp only [rds, hnx]) e g h' tk' G R' U
end
section
open PySem PySem.W PyProof.Rows PySem.Calls
set_option maxRecDepth 100000
set_option maxHeartbeats 8000000
theorem iter_spec {prog : Program} {w : World} {p : Program} {loose : List Str} {mean : ExcName → Option Value} {mg mb : Str → Option Value}
    {dp un : Nat} {gd : Option (List Code)} {env : Env} {outer : List Env} {A₀ : Around} {base h₀ : Heap} {L : Addr} {m : Str → Option Value} {s : Shared} {Q E : Value → Shared → Prop}
    {κ : List Tok} {li : Nat} {lo : Obj} {fs pb sx sd x d : Nat} {xs : Str} {tx : Tok} {n : Nat} {tp : Tok} {sv : Value} {ln : Int} {tl : Tok} {tt : Tok}
    (B : Below A₀ base outer h₀) (F : Fr h₀ L s.heap m) (X : (Mine.seed.heap_1 w.params).In h₀) (N : News h₀ L s.heap (Led w.params κ li lo fs pb sx sd x d xs tx n tp sv ln tl (Str.ofString "") tt)) (T : Top p loose mean mg mb h₀)
    (hf : env.frame = some L) (hke : env.scope.kind = .function) (hd : dp + 8 < recursionLimit)
    (ord : d < x ∧ x < sd ∧ sd < sx ∧ sx < pb ∧ pb < fs ∧ fs < li)
    (ret : ∀ h' tk', Fr h₀ L h' m → News h₀ L h' (Led w.params κ li lo fs pb sx sd x d xs tx n tp sv ln tl (Str.ofString "") tt) → Q (.ref x) { s with heap := h', toks := tk' }) :
    wpAny (model prog w) (Ar dp un gd env outer) (call (.ref 722) [.ref x]) Q E s := by
  obtain ⟨o1, o2, o3, o4, o5, o6⟩ := ord
  refine wpAny_call ?_
  k_dflt (refine' code_def (binds := [(Str.ofString "self", .ref x)]) ?k1 ?k2 ?k3 ?k4 ?k5 ?kA ?kF ?kK ?k6 ?k7 ?k8 ?k9 ?kB ?_ ?c2 ?c3 ?c4 ?c5; (case kA => exact rfl); (case kF => exact hf); (case kK => assumption); (case k1 => k_asm); (case k2 => k_asm); (case k3 => k_asm); (case k4 => exact N); (case k5 => k_asm); (case k6 => k_is); (case k7 => k_is); (case k8 => (dsimp only [Ar]; omega)); (case k9 => exact BindsTo.of_eq rfl); (case c5 => decide); (case kB => exact locs rfl); (case c2 => exact rfl); (case c3 => exact rfl); (case c4 => exact rfl))
  intro g' L' h' FG' F' N' B' X' T'
  try dsimp only
  try k_fold
  k_steps
  all_goals exact ret _ _ (by assumption) (by assumption)
theorem led_set {h₀ h h' : Heap} {L : Addr} {m : Str → Option Value} {P : Params} {κ : List Tok} {li : Nat} {lo lo' : Obj} {fs pb sx sd x d : Nat} {xs : Str} {tx : Tok} {n : Int} {tp : Tok} {sv : Value} {ln : Int} {tl : Tok} {tk : Str} {tt : Tok}
    (F : Fr h₀ L h m) (N : News h₀ L h (Led P κ li lo fs pb sx sd x d xs tx n tp sv ln tl tk tt))
    (ord : d < x ∧ x < sd ∧ sd < sx ∧ sx < pb ∧ pb < fs ∧ fs < li) (hs : Heap.SameBut li h h') (ho : h'.get? li = some lo') :
    Fr h₀ L h' m ∧ News h₀ L h' (Led P κ li lo' fs pb sx sd x d xs tx n tp sv ln tl tk tt) := by
  refine ⟨F.update N (List.mem_cons_self) hs, N.setHead (d := li) (o := lo) ?_ hs ho⟩
  intro q hq
  obtain ⟨o1, o2, o3, o4, o5, o6⟩ := ord
  have q1 : fs ≠ li := by omega
  have q2 : pb ≠ li := by omega
  have q3 : sx ≠ li := by omega
  have q4 : sd ≠ li := by omega
  have q5 : x ≠ li := by omega
  have q6 : d ≠ li := by omega
  simp only [List.mem_cons, List.not_mem_nil, or_false] at hq
  rcases hq with rfl | rfl | rfl | rfl | rfl | rfl
  · exact q1
  · exact q2
  · exact q3
  · exact q4
  · exact q5
  · exact q6
theorem list_own {prog : Program} {w : World} {p : Program} {loose : List Str} {mean : ExcName → Option Value} {mg mb : Str → Option Value}
    {dp un : Nat} {gd : Option (List Code)} {cn : Str} {cs : Scope} {a : Addr} {ccd : Value} {outer : List Env} {A₀ : Around} {base h₀ : Heap} {L : Addr} {m : Str → Option Value} {s : Shared} {Q E : Value → Shared → Prop}
    {κ : List Tok} {fs pb sx sd x d : Nat} {xs : Str} {tx tp ts : Tok} {ln : Int} {tl tt : Tok}
    (B : Below A₀ base outer h₀) (X : (Mine.seed.heap_1 w.params).In h₀) (T : Top p loose mean mg mb h₀)
    (hke : cs.kind = .function) (hd : dp + 16 < recursionLimit)
    (ord : d < x ∧ x < sd ∧ sd < sx ∧ sx < pb ∧ pb < fs) (hx : xs.length ≤ 1000) (h92 : ∀ c ∈ xs.cps.toList, c ≠ 92)
    (F : Fr h₀ L s.heap m) (N : News h₀ L s.heap [(fs, dqObj), (pb, dqObj), (sx, instObj 597 sd), (sd, dictOf (ioE w.params κ xs tx 0 tp) 3), (x, instObj 732 d), (d, dictOf (lexE w.params κ fs pb sx (Value.str (Str.ofString " ") ts) ln tl (Str.ofString "") tt) 19)])
    (ret : ∀ l acc c h' tk', rds 2500 false xs.cps.toList = some l → StrsAre acc.toList l → ∀ g', KtsTurn (outer.filterMap (·.frame)) h₀ g' → Below A₀ base outer g' → Fr g' L h' m → News g' L h' [(s.heap.objs.size, liObj acc c)] → Q (.ref s.heap.objs.size) { s with heap := h', toks := tk' })
    (err : rds 2500 false xs.cps.toList = none → ∀ e g h' tk', Fr h₀ L g m → RaisedSN base g (envOf cn cs L a ccd :: outer) e (.type "ValueError") [] h' → g.UpToSlots h' → E (.ref e) { s with heap := h', toks := tk' }) :
    wpAny (model prog w) (Ar dp un gd (envOf cn cs L a ccd) outer) (call (.type "list") [.ref x]) Q E s := by
  have hfs : (fs : Nat) < s.heap.objs.size := Heap.lt_size (N.get (a := fs) List.mem_cons_self)
  have ord' : d < x ∧ x < sd ∧ sd < sx ∧ sx < pb ∧ pb < fs ∧ fs < s.heap.objs.size := ⟨ord.1, ord.2.1, ord.2.2.1, ord.2.2.2.1, ord.2.2.2.2, hfs⟩
  have hxli : (s.heap.objs.size : Nat) ≠ x := by omega
  refine callType_codes (Q₁ := fun obj s₁ => obj = .ref s.heap.objs.size ∧ s₁ = { s with heap := s.heap.push { cls := .type "list", data := .seq #[] } }) PySem.F.called_list (PySem.F.typeCall_list_1 _) PySem.F.entry_list_init
    (code_list_new _ ⟨rfl, rfl⟩) fun obj s₁ h₁ => ?_
  obtain ⟨rfl, rfl⟩ := h₁
  have hS : (s.heap.push { cls := .type "list", data := .seq #[] }).get? s.heap.objs.size = some { cls := .type "list", data := .seq #[] } := Heap.get?_push_size _ rfl
  refine ⟨⟨_, hS, rfl⟩, PySem.F.args_list_init_2 _ _, ?_⟩
  have F1 : Fr h₀ L (s.heap.push (liObj #[] 0)) m := F.push _
  have N1 : News h₀ L (s.heap.push (liObj #[] 0)) (Led w.params κ s.heap.objs.size (liObj #[] 0) fs pb sx sd x d xs tx ((0 : Nat) : Int) tp (Value.str (Str.ofString " ") ts) ln tl (Str.ofString "") tt) := N.push F _ rfl
  generalize hli : s.heap.objs.size = li at *
  show wpAny _ (Ar dp un gd (envOf cn cs L a ccd) outer).in1.in1 (do let old ← Builtin.List.listItems (.ref li); Builtin.List.listUpdate (.ref li) (fun _ => #[]); letGo old.toList.reverse; Builtin.List.listExtendWith (.ref li) (.ref x) .none) _ _ _
  refine wpAny_bind ?_
  unfold Builtin.List.listItems
  refine wpAny_bind (wpAny_seqItems hS rfl (wpAny_pure ?_))
  show wpAny _ (Ar dp un gd (envOf cn cs L a ccd) outer).in1.in1 (updateSeq li (fun _ => #[]) >>= fun _ => letGo (#[] : Array Value).toList.reverse >>= fun _ => Builtin.List.listExtendWith (.ref li) (.ref x) .none) _ _ _
  refine wpAny_bind (wpAny_updateSeq hS rfl ?_)
  have hS₂ := Heap.get?_update_self (Obj.mapSeq (fun _ => (#[] : Array Value))) hS rfl
  obtain ⟨F2, N2⟩ := led_set F1 N1 ord' (Heap.SameBut.update ..) hS₂
  refine wpAny_bind (wpAny_letGo ?_)
  unfold Builtin.List.listExtendWith
  refine wpAny_bind ((inst_of N2).type.here ?_)
  have h1 : Builtin.List.listSameRef (.ref li) (.ref x) = false := by simp [Builtin.List.listSameRef, hxli]
  rw [if_neg (by rw [h1]; decide)]
  have X2 := X.keeps F2.keep
  refine wpAny_bind (owit_iter F2 X (inst_of N2) (fnd_iter _) (fn_iter _) ?_)
  refine iter_spec (base := base) (dp := dp) (un := un + 1 + 1) B F2 X N2 T rfl hke (by omega) ord' fun h3 tk3 F3 N3 => ?_
  refine owit_it F3 X (inst_of N3) (fnd_next _) ?_
  refine wpAny_bind (wpAny_holding ?_)
  unfold Builtin.List.listLengthHint
  have X3 := X.keeps F3.keep
  refine wpAny_bind (wpAny_bind ((inst_of N3).type.here ((looks_findIn X3 (fnd_len _)).here ?_)))
  show wpAny _ _ (specialOf (Value.ref x) (Str.ofString "__length_hint__") >>= _) _ _ _
  refine wpAny_bind (wpAny_bind ((inst_of N3).type.here ((looks_findIn X3 (fnd_hint _)).here ?_)))
  refine wpAny_pure ?_
  show wpAny _ _ (rule "list.extend.makes-room" >>= fun _ => Builtin.List.listTouch (.ref li) >>= fun _ =>
    again (.builtin "list.extend.loop" ⟨[.ref li, .ref x, .none], []⟩)) _ _ _
  refine wpAny_bind (wpAny_rule ?_)
  refine wpAny_bind ?_
  show wpAny _ _ (updateSeq li (·.push .none) >>= fun _ => updateSeq li (·.pop)) _ _ _
  have hS3 : h3.get? li = some _ := N3.get List.mem_cons_self
  refine wpAny_bind (wpAny_updateSeq hS3 rfl ?_)
  have hS4 := Heap.get?_update_self (Obj.mapSeq (·.push Value.none)) hS3 rfl
  obtain ⟨F4, N4⟩ := led_set F3 N3 ord' (Heap.SameBut.update ..) hS4
  refine wpAny_updateSeq (hz := by seq_fits) hS4 rfl ?_
  have hS5 := Heap.get?_update_self (Obj.mapSeq (·.pop)) hS4 rfl
  obtain ⟨F5, N5⟩ := led_set F4 N4 ord' (Heap.SameBut.update ..) hS5
  refine wpAny_pure ⟨plainId_quiet PySem.F.plain_extend_loop _, ?_⟩
  have hmu : mu false (xs.cps.toList.drop 0) < 2500 := by
    show 2 * xs.cps.toList.length + 1 < 2500
    have : xs.cps.toList.length ≤ 1000 := by rw [Array.length_toList]; exact hx
    omega
  refine loop_own (un := un + 1) B X T hke hd ord' hx h92 2500 0 false #[] _ [] _ tp _ ts ln tl tt hmu (by show 0 + 2500 ≤ 4000; decide) (Nat.zero_le _) (fun q => by cases q) rfl trivial F5 N5 ?_ ?_
  · intro l acc c n' h' tk' tp' sv' ln' tl' tt' hr hs g9 T9 B9 F' N'
    exact ⟨rfl, ret l acc c h' tk' hr hs g9 T9 B9 F' fun q hq => N' q (by rw [List.mem_singleton.mp hq]; exact List.mem_cons_self)⟩
  · intro hr e g h' tk' G R' U
    exact err hr e g h' tk' G R' U
end
section
open PySem PySem.W PyProof.Rows PySem.Calls
set_option maxRecDepth 100000
set_option maxHeartbeats 8000000

theorem turn_none {fs : List Addr} {g g' : Heap} (T : KtsTurn fs g g') {b : Addr} (e : g'.get? b = none) : g.get? b = none := by
  cases q : g.get? b with
  | none => rfl
  | some o =>
    obtain ⟨sl, h⟩ := T.up q
    rw [e] at h; cases h
theorem split_spec {prog : Program} {w : World} {p : Program} {loose : List Str} {mean : ExcName → Option Value} {mg mb : Str → Option Value}
    {dp un : Nat} {gd : Option (List Code)} {cn : Str} {cs : Scope} {a : Addr} {ccd : Value} {outer : List Env} {A₀ : Around} {base h₀ : Heap} {L : Addr} {m : Str → Option Value} {s : Shared} {Q E : Value → Shared → Prop} {x : Str} {t : Tok}
    (B : Below A₀ base outer h₀) (F : Fr h₀ L s.heap m) (X : (Mine.seed.heap_1 w.params).In s.heap) (T : Top p loose mean mg mb s.heap) (hk : cs.kind = .function)
    (hd : dp + 24 < recursionLimit) (hx : x.length ≤ 1000) (h92 : ∀ c ∈ x.cps.toList, c ≠ 92)
    (ret : ∀ l li acc c g' h' tk', rds 2500 false x.cps.toList = some l → StrsAre acc.toList l → KtsTurn ((envOf cn cs L a ccd :: outer).filterMap (·.frame)) s.heap g' → Kp g' h' → h'.get? li = some (liObj acc c) → s.heap.get? li = none → Q (.ref li) { s with heap := h', toks := tk' })
    (err : rds 2500 false x.cps.toList = none → ∀ e h' tk', RaisedSN base s.heap (envOf cn cs L a ccd :: outer) e (.type "ValueError") [] h' → s.heap.UpToSlots h' → E (.ref e) { s with heap := h', toks := tk' }) :
    wpAny (model prog w) (Ar dp un gd (envOf cn cs L a ccd) outer) (call (.ref 744) [.str x t]) Q E s := by
  refine wpAny_call ?_
  k_dflt (refine' code_at (binds := [(Str.ofString "s", .str x t), (Str.ofString "comments", .bool false), (Str.ofString "posix", .bool true)]) ?k1 ?k2 ?k3 ?k5 ?kA ?kF ?kK ?k6 ?k7 ?k8 ?k9 ?kB ?_ ?c2 ?c3 ?c4 ?c5; (case kA => exact rfl); (case kF => exact rfl); (case kK => exact hk); (case k1 => exact B); (case k2 => exact F); (case k3 => exact X); (case k5 => exact T); (case k6 => k_is); (case k7 => k_is); (case k8 => (dsimp only [Ar]; omega)); (case k9 => exact binds_K X rfl (by k_is) rfl rfl rfl); (case c5 => decide); (case kB => exact locs rfl); (case c2 => exact rfl); (case c3 => exact rfl); (case c4 => exact rfl))
  intro L' h' F' N' B'
  try dsimp only
  try k_fold
  repeat ((fail_if_success (with_reducible show wpAny _ _ (call (Value.ref 597) _) _ _ _)); first | (k_unfold; (try dsimp only)) | walk1 | (dsimp only; walk1))
  try (k_unfold; dsimp only)
  (refine' wpAny_call (strio_new ?k1 ?k2 ?k3 ?_); (case k1 => exact Frag.In.keeps (by k_asm) (Fr.keep (by k_asm))); (case k2 => exact TopRead.keeps (by k_asm) (Fr.keep (by k_asm))); (case k3 => k_room)); intro sx sd h' tk' kk e1 e2 l1 l2; (rename Fr _ _ _ _ => fF); (rename News _ _ _ _ => fN); have F' := Fr.keeps fF kk; have N' := news_two fF fN kk e1 e2 l1 l2; have l3 := below_new fN l1; (k_lt l3); (k_lt2 l2); clear kk e1 e2; k_dflt k_enter
  repeat ((fail_if_success (with_reducible show wpAny _ _ (call (Value.type "collections.deque") _) _ _ _)); first | (k_unfold; (try dsimp only)) | walk1 | (dsimp only; walk1))
  try (k_unfold; dsimp only)
  refine dq_new_spec ?_; intro sd h' tk' kk e1 l1; (rename Fr _ _ _ _ => fF); (rename News _ _ _ _ => fN); have F' := Fr.keeps fF kk; have N' := news_one fF fN kk e1 l1; have l3 := below_new fN l1; (k_lt l3); clear kk e1; (try dsimp only)
  repeat ((fail_if_success (with_reducible show wpAny _ _ (call (Value.type "collections.deque") _) _ _ _)); first | (k_unfold; (try dsimp only)) | walk1 | (dsimp only; walk1))
  try (k_unfold; dsimp only)
  refine dq_new_spec ?_; intro sd h' tk' kk e1 l1; (rename Fr _ _ _ _ => fF); (rename News _ _ _ _ => fN); have F' := Fr.keeps fF kk; have N' := news_one fF fN kk e1 l1; have l3 := below_new fN l1; (k_lt l3); clear kk e1; (try dsimp only)
  repeat ((fail_if_success (with_reducible show wpAny _ _ (call (Value.type "list") _) _ _ _)); first | (k_unfold; (try dsimp only)) | walk1 | (dsimp only; walk1))
  rename Fr s.heap L' _ _ => F3
  rename News s.heap L' _ _ => N3
  refine' list_own (κ := [_, _, _, _, _, _, _, _, _, _, _, _, _, _, _, _, _, _, _, _, _, _, _, _, _, _, _, _, _, _]) ?k1 ?k2 ?k3 ?k4 ?k5 ?k6 ?k7 ?k8 ?k9 ?k10 ?_ ?_
  case k1 => exact B'
  case k9 => exact F3
  case k10 => exact N3
  case k2 => exact X
  case k3 => exact T
  case k4 => exact rfl
  case k5 => k_room
  case k6 => exact ⟨by assumption, And.left (by assumption), by assumption, And.left (by assumption), And.left (by assumption)⟩
  case k7 => exact hx
  case k8 => exact h92
  · intro l acc c h9 tk9 hl hs g9 T9 B9 F9 N9
    (try k_fold)
    k_steps
    all_goals exact ret l _ acc c g9 h9 _ hl hs T9 F9.keep (N9.get List.mem_cons_self) (turn_none T9 (N9.fresh List.mem_cons_self))
  · intro hl e g h9 tk9 F9 R9 U9
    have kD := ktsDicts_nil (g := s.heap)
    k_steps
    all_goals exact err hl _ _ _ (by assumption) (by assumption)
end
end
section
open PySem PySem.W PyProof.Rows PySem.Calls
set_option maxRecDepth 100000
set_option maxHeartbeats 8000000
/-- back in a frame whose cells may have turned -/
theorem turned_back {h₀ h h' g : Heap} {L : Addr} {m : Str → Option Value} {news : List (Addr × Obj)} {fs : List Addr} (F : Fr h₀ L h m) (N : News h₀ L h news) (T : KtsTurn fs h g) (hfs : ∀ b ∈ fs, b = L) (k : Kp g h') :
    Fr h₀ L h' m ∧ News h₀ L h' news := by
  have keep : ∀ b o, h.get? b = some o → b ≠ L → h'.get? b = some o := fun b o e n => k _ _ (T.other b o e fun q => n (hfs b q))
  obtain ⟨oL, es, ep, hL, hLd, hLk, hLf⟩ := F.ns
  obtain ⟨sl, hs⟩ := T.up hL
  have nL₀ : h₀.get? L = none := kts_self F
  refine ⟨⟨⟨_, es, ep, k _ _ hs, hLd, hLk, hLf⟩, fun b o e => keep b o (F.keep b o e) (fun q => by rw [q, nL₀] at e; cases e), F.above⟩, fun p hp => ⟨keep _ _ (N p hp).1 (N p hp).2.1, (N p hp).2⟩⟩
theorem read_spec {prog : Program} {w : World} {p : Program} {loose : List Str} {mean : ExcName → Option Value} {mg mb : Str → Option Value}
    {dp un : Nat} {gd : Option (List Code)} {cn : Str} {cs : Scope} {a : Addr} {ccd : Value} {A₀ : Around} {base h₀ : Heap} {L : Addr} {m : Str → Option Value} {s : Shared} {Q E : Value → Shared → Prop} {x : Str} {t : Tok} {news : List (Addr × Obj)}
    (B : Below A₀ base [] h₀) (F : Fr h₀ L s.heap m) (X : (Mine.seed.heap_1 w.params).In h₀) (N : News h₀ L s.heap news) (T : Top p loose mean mg mb h₀) (XB : (Mine.seed.heap_1 w.params).In base) (TB : Top p loose mean mg mb base) (hk : cs.kind = .function)
    (hd : dp + 28 < recursionLimit) (hx : x.length ≤ 1000) (h92 : ∀ c ∈ x.cps.toList, c ≠ 92)
    (ret : ∀ v ns h' tk', (match rds 2500 false x.cps.toList with | none => v = Value.none ∧ ns = [] | some l => ∃ li acc c, v = .ref li ∧ ns = [(li, liObj acc c)] ∧ StrsAre acc.toList l ∧ s.heap.get? li = none) → Fr h₀ L h' m → News h₀ L h' (ns ++ news) → Q v { s with heap := h', toks := tk' }) :
    wpAny (model prog w) (Ar dp un gd (envOf cn cs L a ccd) []) (call (.ref 818) [.str x t]) Q E s := by
  have X1 := X.keeps F.keep
  have T1 : Top p loose mean mg mb s.heap := T.keeps F.keep
  have D : KtsDicts ([envOf cn cs L a ccd].filterMap (·.frame)) s.heap := fun b hb => by
    obtain ⟨oL, es, ep, hL, hLd, hLk, hLf⟩ := F.ns
    rcases kts_mem hb with rfl | z
    · exact ⟨oL, es, ep, hL, hLd⟩
    · simp at z
  refine wpAny_call ?_
  k_dflt (refine' code_at (binds := [(Str.ofString "line", .str x t)]) ?k1 ?k2 ?k3 ?k5 ?kA ?kF ?kK ?k6 ?k7 ?k8 ?k9 ?kB ?_ ?c2 ?c3 ?c4 ?c5; (case kA => exact rfl); (case kF => exact rfl); (case kK => exact hk); (case k1 => exact B); (case k2 => exact F); (case k3 => exact X1); (case k5 => exact T1); (case k6 => k_is); (case k7 => k_is); (case k8 => (dsimp only [Ar]; omega)); (case k9 => exact BindsTo.of_eq rfl); (case c5 => decide); (case kB => exact locs rfl); (case c2 => exact rfl); (case c3 => exact rfl); (case c4 => exact rfl))
  intro L' h' F' N' B'
  try dsimp only
  try k_fold
  repeat ((fail_if_success (with_reducible show wpAny _ _ (call (Value.ref 744) _) _ _ _)); first | (k_unfold; (try dsimp only)) | walk1 | (dsimp only; walk1))
  rename Fr s.heap L' _ _ => F3
  rename News s.heap L' _ _ => N3
  refine' split_spec ?k1 ?k2 ?k3 ?k4 ?k5 ?k6 ?k7 ?k8 ?_ ?_
  case k1 => exact B'
  case k2 => exact F3
  case k3 => exact X1.keeps F3.keep
  case k4 => exact T1.keeps F3.keep
  case k5 => exact rfl
  case k6 => k_room
  case k7 => exact hx
  case k8 => exact h92
  · intro l li acc c g9 h9 tk9 hl hs T9 k9 hli hnone
    have hL' : s.heap.get? L' = none := kts_self F3
    have hkeep : ∀ b o, s.heap.get? b = some o → ∃ o', h9.get? b = some o' ∧ (b ≠ L → o' = o) ∧ ∃ sl, o' = { o with slots := sl } := fun b o e => by
      have e1 := F3.keep b o e
      by_cases q : b = L
      · obtain ⟨sl, hs⟩ := T9.up e1
        exact ⟨_, k9 _ _ hs, fun n => absurd q n, sl, rfl⟩
      · refine ⟨o, k9 _ _ (T9.other b o e1 fun z => ?_), fun _ => rfl, o.slots, rfl⟩
        rcases kts_mem z with z | z
        · rw [z, hL'] at e; cases e
        · rcases kts_mem z with z | z
          · exact q z
          · simp at z
    have hback : Fr h₀ L h9 m ∧ News h₀ L h9 news := by
      obtain ⟨oL, es, ep, hL, hLd, hLk, hLf⟩ := F.ns
      obtain ⟨o', ho', _, sl, rfl⟩ := hkeep _ _ hL
      have nL₀ : h₀.get? L = none := kts_self F
      have keep : ∀ b o, s.heap.get? b = some o → b ≠ L → h9.get? b = some o := fun b o e n => by
        obtain ⟨o', ho', hn, _⟩ := hkeep b o e
        rw [← hn n]; exact ho'
      exact ⟨⟨⟨_, es, ep, ho', hLd, hLk, hLf⟩, fun b o e => keep b o (F.keep b o e) (fun q => by rw [q, nL₀] at e; cases e), F.above⟩, fun p hp => ⟨keep _ _ (N p hp).1 (N p hp).2.1, (N p hp).2⟩⟩
    have hlis : s.heap.get? li = none := kts_none F3.keep hnone
    have hli0 : h₀.get? li = none := kts_none F.keep hlis
    have hliL : li ≠ L := fun q => by
      obtain ⟨oL, es, ep, hL, _⟩ := F.ns
      rw [q, hL] at hlis; cases hlis
    (try k_fold)
    k_steps
    all_goals exact ret _ [(li, liObj acc c)] _ _ (by rw [hl]; exact ⟨li, acc, c, rfl, rfl, hs, hlis⟩) hback.1 (fun q hq => by
      rcases List.mem_append.mp hq with hq | hq
      · rw [List.mem_singleton.mp hq]; exact ⟨hli, hliL, hli0⟩
      · exact hback.2 q hq)
  · intro hl e h9 tk9 R9 U9
    k_steps
    all_goals (try dsimp only)
    all_goals (try k_steps)
    rename KtsTurn _ s.heap _ => kT0
    rename Fr _ L' _ _ => kF9
    have hb := turned_back F N kT0 (fun b hb => by
      rcases kts_mem hb with z | z
      · exact z
      · simp at z) kF9.keep
    exact ret _ [] _ _ (by rw [hl]; exact ⟨rfl, rfl⟩) hb.1 hb.2
end
end
section
open PySem
set_option maxRecDepth 100000
set_option maxHeartbeats 4000000
/-- the pattern's words -/
noncomputable abbrev pcode : Array Nat := #[14, 17, 4, 1, 1, 21, 9, 0, 604043296, 1, 0, 0, 0, 0, 0, 8, 4, 0, 13, 14, 21, 9, 0, 604043296, 1, 0, 0, 0, 0, 0, 8, 4, 0, 1]
noncomputable abbrev pset : Array Nat := #[0, 604043296, 1, 0, 0, 0, 0, 0]
/-- a sign of the pattern's first set -/
noncomputable def inCs (c : Nat) : Bool := decide (c < 256) && (pset.getD (c / 32) 0).testBit (c % 32)
/-- a sign that must be quoted -/
noncomputable def bad (c : Nat) : Bool := !(inCs c || Sre.isWord c)
theorem pcode_at (i : Nat) (h : i = 6 ∨ i = 21) (k : Nat) (hk : k < 8) : pcode.getD (i + (1 + k)) 0 = pset.getD k 0 := by
  rcases h with rfl | rfl
  · match k, hk with
    | 0, _ | 1, _ | 2, _ | 3, _ | 4, _ | 5, _ | 6, _ | 7, _ => rfl
  · match k, hk with
    | 0, _ | 1, _ | 2, _ | 3, _ | 4, _ | 5, _ | 6, _ | 7, _ => rfl
theorem inCs_at (i : Nat) (h : i = 6 ∨ i = 21) (c : Nat) : (decide (c < 256) && (pcode.getD (i + (1 + c / 32)) 0).testBit (c % 32)) = inCs c := by
  unfold inCs
  by_cases hc : c < 256
  · rw [pcode_at i h _ (by omega)]
  · simp [hc]
theorem fail_at (f i c : Nat) (seen : Sre.Seen) (yes : Bool) (h : i = 17 ∨ i = 32) : Sre.inSet pcode c (f + 1) i yes seen = .ok (!yes, seen.add 0) := by
  rcases h with rfl | rfl <;> rfl
theorem cat_at (f i c : Nat) (seen : Sre.Seen) (yes : Bool) (h : i = 15 ∨ i = 30) : ∃ seen', Sre.inSet pcode c (f + 2) i yes seen = .ok ((if Sre.isWord c = true then yes else !yes), seen') := by
  have e : ∀ s', Sre.inSet pcode c (f + 1) (i + 2) yes s' = .ok (!yes, s'.add 0) := fun s' => fail_at f (i + 2) c s' yes (by omega)
  have hc : Sre.category 4 c = .ok (Sre.isWord c) := by
    show Except.ok (Sre.isWord c != false) = _
    rw [Bool.bne_false]
  have key : Sre.inSet pcode c (f + 2) i yes seen = (do if ← Sre.category 4 c then pure (yes, (seen.add 8).add 59) else Sre.inSet pcode c (f + 1) (i + 2) yes ((seen.add 8).add 59)) := by
    rcases h with rfl | rfl <;> rfl
  rw [key, hc, e]
  cases hw : Sre.isWord c
  · exact ⟨_, rfl⟩
  · exact ⟨_, rfl⟩
theorem cs_at (f i c : Nat) (seen : Sre.Seen) (yes : Bool) (h : i = 6 ∨ i = 21) : Sre.inSet pcode c (f + 1) i yes seen = if inCs c = true then .ok (yes, seen.add 9) else Sre.inSet pcode c f (i + 9) yes (seen.add 9) := by
  have e := inCs_at i h c
  have key : Sre.inSet pcode c (f + 1) i yes seen = if (decide (c < 256) && (pcode.getD (i + (1 + c / 32)) 0).testBit (c % 32)) = true then .ok (yes, seen.add 9) else Sre.inSet pcode c f (i + 9) yes (seen.add 9) := by
    rcases h with rfl | rfl <;> rfl
  rw [key, e]
theorem inSet_eq (c : Nat) (seen : Sre.Seen) (i : Nat) (h : i = 5 ∨ i = 20) : ∃ seen', Sre.inSet pcode c 34 i true seen = .ok (bad c, seen') := by
  have k1 : Sre.inSet pcode c 34 i true seen = Sre.inSet pcode c 33 (i + 1) false (seen.add 21) := by
    rcases h with rfl | rfl <;> rfl
  rw [k1, cs_at 32 (i + 1) c _ _ (by omega)]
  unfold bad
  cases hb : inCs c
  · obtain ⟨s', e⟩ := cat_at 30 (i + 1 + 9) c ((seen.add 21).add 9) false (by omega)
    refine ⟨s', ?_⟩
    rw [if_neg (by decide), e]
    cases Sre.isWord c <;> rfl
  · exact ⟨_, rfl⟩
theorem admitted_eq (m : Sre.M) (hm : m.code = pcode) : ∀ fuel s seen, m.lim < fuel + s →
    (∃ j seen', Sre.M.admitted m fuel s seen = .ok (some j, seen') ∧ s ≤ j ∧ j < m.lim ∧ bad (m.text.getD j 0) = true) ∨
    (∃ seen', Sre.M.admitted m fuel s seen = .ok (none, seen') ∧ ∀ j, s ≤ j → j < m.lim → bad (m.text.getD j 0) = false) := by
  intro fuel
  induction fuel with
  | zero => intro s seen h; exact .inr ⟨seen, rfl, fun j h1 h2 => by omega⟩
  | succ f ih =>
    intro s seen h
    unfold Sre.M.admitted
    by_cases hs : s ≥ m.lim
    · rw [if_pos hs]; exact .inr ⟨seen, rfl, fun j h1 h2 => by omega⟩
    · rw [if_neg hs, hm]
      obtain ⟨seen', e⟩ := inSet_eq (m.text.getD s 0) seen 5 (.inl rfl)
      rw [show pcode.size = 34 from rfl, e]
      cases hb : bad (m.text.getD s 0)
      · dsimp only
        rcases ih (s + 1) seen' (by omega) with ⟨j, sn, h1, h2, h3, h4⟩ | ⟨sn, h1, h2⟩
        · exact .inl ⟨j, sn, h1, by omega, h3, h4⟩
        · refine .inr ⟨sn, h1, fun j h3 h4 => ?_⟩
          by_cases q : j = s
          · rw [q]; exact hb
          · exact h2 j (by omega) h4
      · exact .inl ⟨s, seen', rfl, Nat.le_refl _, by omega, hb⟩
theorem accepts_eq (c : Nat) (seen : Sre.Seen) (hb : bad c = true) : ∃ seen', Sre.accepts pcode 18 c seen = .ok (true, seen') := by
  obtain ⟨s', e⟩ := inSet_eq c seen 20 (.inr rfl)
  rw [hb] at e
  exact ⟨s', e⟩
/-- the machine ahead of the first place that the set admits -/
noncomputable abbrev m0 (text : Array Nat) (seen : Sre.Seen) (j : Nat) : Sre.M :=
  { code := pcode, text := text, lim := text.size, start := j, lastStart := text.size, pc := 18, pos := j, handed := j, marks := #[], seen := seen,
    frames := [{ wait := .nextStart, pc := 18, pos := j, outermost := true }], weight := 1 }
theorem m0_runs (text : Array Nat) (seen : Sre.Seen) (j : Nat) (hj : j < text.size) (hb : bad (text.getD j 0) = true) : ((m0 text seen j).runFor 4).outcome = some .matched := by
  obtain ⟨s', e⟩ := accepts_eq (text.getD j 0) (seen.add 13) hb
  have s1 : (m0 text seen j).step = { m0 text s' j with pc := 33, pos := j + 1 } := by
    show (if (j : Nat) ≥ text.size then _ else _) = _
    rw [if_neg (by omega)]
    show (match Sre.accepts pcode 18 (text.getD j 0) (seen.add 13) with | .error why => _ | .ok (false, seen) => _ | .ok (true, seen) => _) = _
    rw [e]
    rfl
  show Sre.M.outcome (if (none : Option Sre.Outcome).isSome = true then m0 text seen j else Sre.M.runFor 3 (m0 text seen j).step) = _
  rw [if_neg (by decide), s1]
  rfl
theorem search_eq (text : Array Nat) (h0 : 0 < text.size) :
    ((∃ j, j < text.size ∧ bad (text.getD j 0) = true) ∧ ((Sre.forSearch pcode text 0 0 text.size false).runFor 4).outcome = some .matched) ∨
    ((∀ j, j < text.size → bad (text.getD j 0) = false) ∧ ((Sre.forSearch pcode text 0 0 text.size false).runFor 4).outcome = some .failed) := by
  let m : Sre.M := { code := pcode, text := text, lim := text.size, start := 0, lastStart := text.size, pc := 18, pos := 0, handed := 0, marks := #[], seen := ({} : Sre.Seen).add 14 }
  have hm : Sre.forSearch pcode text 0 0 text.size false = m.attemptFrom 0 true := by
    show (if (decide ((0 : Nat) > text.size) || decide (text.size - 0 < 1)) = true then _ else _) = _
    rw [if_neg (by simp; exact fun q => by rw [q] at h0; exact absurd h0 (by decide))]
    rfl
  have hm2 : m.attemptFrom 0 true = (match Sre.M.admitted m (text.size + 1 - 0) 0 (({} : Sre.Seen).add 14) with
    | .ok (some s, seen) => { m with mustAdvance := false, seen }.attemptAt s true
    | .ok (none, seen) => { m with seen }.say false
    | .error why => m.stick why) := rfl
  rw [hm, hm2]
  rcases admitted_eq m rfl (text.size + 1 - 0) 0 (({} : Sre.Seen).add 14) (show text.size < text.size + 1 - 0 + 0 by omega) with ⟨j, s', e, _, hj, hb⟩ | ⟨s', e, hall⟩
  · refine .inl ⟨⟨j, hj, hb⟩, ?_⟩
    rw [e]
    exact m0_runs text s' j hj hb
  · refine .inr ⟨fun j hj => hall j (Nat.zero_le _) hj, ?_⟩
    rw [e]
    rfl
end
section
open PySem PySem.W PyProof.Rows PySem.Calls
set_option maxRecDepth 100000
set_option maxHeartbeats 8000000
theorem k_752 (P : Params) : (seed.heap_1 P).lookup 752 = some { cls := .type "builtin_function_or_method", dict := none, data := .fields #[.builtin "re.Pattern.search", .ref 49], slots := #[] } := by kernel_rfl
theorem kf_check (P : Params) (x : Str) (t : Tok) : runK (seed.heap_1 P) 4000 (checkBoundCall "re.Pattern.search" ⟨[.ref 49, .str x t], []⟩) = some () := by kernel_rfl
theorem kf_target (P : Params) (x : Str) (t : Tok) : runK (seed.heap_1 P) 4000 (Builtin.Re.reTarget "re.Pattern.search" "search" ⟨[.ref 49, .str x t], []⟩) =
  some { pattern := .ref 49, string := .str x t, code := pcode, text := x.cps, kind := 0, groups := 0, pos := min 0 x.cps.size, lim := min 9223372036854775807 x.cps.size } := by kernel_rfl
theorem kf_entry : entryFor table "re.Pattern.search" = some Builtin.«re.Pattern.search» := entryFor_of_tree (by kernel_rfl)
theorem wpAny_forUnit {M : Model} {A : Around} {E : Value → Shared → Prop} {f : Nat → PUnit → Sem (ForInStep PUnit)} (hf : ∀ i (Q : ForInStep PUnit → Shared → Prop) s, Q (.yield ⟨⟩) s → wpAny M A (f i ⟨⟩) Q E s) :
    ∀ (l : List Nat) (Q : PUnit → Shared → Prop) (s : Shared), Q ⟨⟩ s → wpAny M A (forIn l ⟨⟩ f) Q E s := by
  intro l
  induction l with
  | nil => intro Q s h; exact wpAny_pure h
  | cons i l ih =>
    intro Q s h
    rw [List.forIn_cons]
    exact wpAny_bind (hf i _ s (ih Q s h))
theorem find_spec {prog : Program} {w : World} {A : Around} {E Q : Value → Shared → Prop} {s : Shared} {x : Str} {t : Tok}
    (X : (Mine.seed.heap_1 w.params).In s.heap) (h0 : 0 < x.cps.size) (hx : x.length ≤ 1000)
    (ret : ∀ v h' tk', Kp s.heap h' → ((∃ j, j < x.cps.size ∧ bad (x.cps.getD j 0) = true) ∧ (∃ a, v = Value.ref a) ∨ (∀ j, j < x.cps.size → bad (x.cps.getD j 0) = false) ∧ v = Value.none) → Q v { s with heap := h', toks := tk' }) :
    wpAny (model prog w) A (call (.ref 752) [.str x t]) Q E s := by
  obtain ⟨h, g, d, tk, os⟩ := s
  dsimp only at ret X
  refine wpAny_call (codeAny_of_tree ?_)
  show wpAny _ _ (callAny (.ref 752) ⟨[.str x t], []⟩) _ _ _
  unfold callAny
  refine wpAny_bind (wpAny_load (X _ _ (k_752 _)) ?_)
  have l1 := runK_looks (M := model prog w) X 4000 _ (kf_check w.params x t)
  show wpAny _ _ (checkBoundCall "re.Pattern.search" ⟨[.ref 49, .str x t], []⟩ >>= fun _ => again (.builtin "re.Pattern.search" ⟨[.ref 49, .str x t], []⟩)) _ _ _
  refine wpAny_bind (l1.here ?_)
  refine wpAny_pure ⟨Code.quiet_builtin _ (by decide +kernel), codeAny_builtin kf_entry ?_⟩
  unfold Builtin.«re.Pattern.search»
  have l2 := runK_looks (M := model prog w) X 4000 _ (kf_target w.params x t)
  refine wpAny_bind (l2.here ?_)
  have hx' : x.cps.size ≤ 1000 := hx
  have e1 : min 0 x.cps.size = 0 := Nat.zero_min _
  have e2 : min 9223372036854775807 x.cps.size = x.cps.size := Nat.min_eq_right (by omega)
  dsimp only
  rw [e1, e2]
  unfold Builtin.Re.reAnswer Builtin.Re.reRunToEnd
  rw [show (2 : Nat) ^ 64 = 18446744073709551615 + 1 from rfl]
  rw [Builtin.Re.reDrive]
  have hs := search_eq x.cps h0
  rw [show Builtin.Re.reTurnSteps = 4 from rfl]
  generalize Sre.M.runFor 4 (Sre.forSearch pcode x.cps 0 0 x.cps.size false) = mm at *
  have loop : ∀ (A : Around) (E : Value → Shared → Prop) (i : Nat) (Q : ForInStep PUnit → Shared → Prop) s, Q (.yield ⟨⟩) s → wpAny (model prog w) A (if mm.seen.has i = true then do
              rule (Sre.names.getD i "")
              pure (ForInStep.yield PUnit.unit)
            else pure (ForInStep.yield PUnit.unit)) Q E s := by
    intro A E i Q s h
    split
    · exact wpAny_bind (wpAny_rule (wpAny_pure h))
    · exact wpAny_pure h
  rcases hs with ⟨hb, ho⟩ | ⟨hb, ho⟩
  · rw [if_pos (by rw [ho]; rfl)]
    refine wpAny_bind (wpAny_bind (wpAny_pure (wpAny_bind (wpAny_forUnit (loop _ _) _ _ _ ?_))))
    rw [ho]
    refine wpAny_pure ?_
    dsimp only
    unfold Builtin.Re.reNewMatch
    refine wpAny_bind ?_
    show wpAny _ _ (newTuple [rawInt mm.start, rawInt mm.handed] >>= fun r => newFields "re.Match" [Value.str x t, Value.ref 49, rawInt 0, rawInt x.cps.size, rawInt mm.lastindex, r]) _ _ _
    refine wpAny_bind (wpAny_newTuple ?_ (by show (2 : Nat) ≤ 2 ^ 24; decide))
    unfold newFields
    refine wpAny_newObj_type ?_
    refine wpAny_pure ?_
    exact ret _ _ _ (fun b o e => Heap.get?_push_of_some _ (Heap.get?_push_of_some _ e)) (.inl ⟨hb, ⟨_, rfl⟩⟩)
  · rw [if_pos (by rw [ho]; rfl)]
    refine wpAny_bind (wpAny_bind (wpAny_pure (wpAny_bind (wpAny_forUnit (loop _ _) _ _ _ ?_))))
    rw [ho]
    refine wpAny_pure (wpAny_pure ?_)
    exact ret .none _ _ (fun _ _ e => e) (.inr ⟨hb, rfl⟩)
end
section
open PySem PySem.W PyProof.Rows PySem.Calls
set_option maxRecDepth 100000
set_option maxHeartbeats 8000000
theorem truthy_strQ {prog : Program} {w : World} {A : Around} {E : Value → Shared → Prop} {s : Shared} {x : Str} {t : Tok} {Q : Bool → Shared → Prop} (h0 : 0 < x.cps.size) (hx : x.length ≤ 1000) (hQ : Q true { s with toks := s.toks + 1 + 1 }) : wpAny (model prog w) A (truthy (.str x t)) Q E s := by
  have h0' : 0 < x.length := h0
  refine PySem.P.truthy_str (by omega) ?_
  rw [show ((x.length : Int) != 0) = true from bne_iff_ne.mpr (by omega)]
  exact hQ
noncomputable def sqz (c : Nat) (z : List Nat) (l : List Nat) : List Nat := l.flatMap fun a => if a = c then z else [a]
theorem sqz_free (c : Nat) (z : List Nat) : ∀ l : List Nat, c ∉ l → sqz c z l = l
  | [], _ => rfl
  | k :: r, h => by
    have h1 : ¬ k = c := fun e => h (e ▸ List.mem_cons_self ..)
    have h2 : c ∉ r := fun m => h (List.mem_cons_of_mem _ m)
    have ih := sqz_free c z r h2
    unfold sqz at *
    rw [List.flatMap_cons, if_neg h1, ih]
    rfl
theorem sqz_append (c : Nat) (z a b : List Nat) : sqz c z (a ++ b) = sqz c z a ++ sqz c z b := by unfold sqz; rw [List.flatMap_append]
theorem sqz_one (c : Nat) (z : List Nat) : sqz c z [c] = z := by simp [sqz]
theorem sqz_join (c : Nat) (z : Str) : ∀ parts : List Str, (∀ p ∈ parts, c ∉ p.cps.toList) → sqz c z.cps.toList (Str.join ⟨#[c]⟩ parts).cps.toList = (Str.join z parts).cps.toList
  | [], _ => rfl
  | [p], h => sqz_free c _ _ (h p (List.mem_singleton.mpr rfl))
  | p :: q :: r, h => by
    have ih := sqz_join c z (q :: r) fun a ha => h a (List.mem_cons_of_mem _ ha)
    show sqz c z.cps.toList (p ++ ⟨#[c]⟩ ++ Str.join ⟨#[c]⟩ (q :: r)).cps.toList = (p ++ z ++ Str.join z (q :: r)).cps.toList
    simp only [Str.cps_append, Array.toList_append]
    rw [sqz_append, sqz_append, ih, sqz_free c _ _ (h p (List.mem_cons_self ..))]
    show p.cps.toList ++ sqz c _ [c] ++ _ = _
    rw [sqz_one]
theorem replace_sqz (x z : Str) (c : Nat) : (Txt.replace x ⟨#[c]⟩ z).cps.toList = sqz c z.cps.toList x.cps.toList := by
  rw [PySem.StrLaws.replace_one, ← sqz_join c z _ (PySem.StrLaws.split_free x c), PySem.StrLaws.join_split]
noncomputable abbrev sq (l : List Nat) : List Nat := sqz 39 [39, 34, 39, 34, 39] l
theorem sq_len : ∀ l : List Nat, (sq l).length ≤ 5 * l.length
  | [] => Nat.le_refl _
  | k :: r => by
    have ih := sq_len r
    unfold sq sqz at *
    rw [List.flatMap_cons, List.length_append, List.length_cons]
    split
    · simp only [List.length_cons, List.length_nil]; omega
    · simp only [List.length_cons, List.length_nil]; omega
theorem replace_q (x : Str) : ∃ r : Str, Txt.replace x (Str.ofString "'") (Str.ofString "'\"'\"'") = r ∧ r.cps.toList = sq x.cps.toList ∧ r.length ≤ 5 * x.length := by
  refine ⟨_, rfl, ?_⟩
  have h := replace_sqz x (Str.ofString "'\"'\"'") 39
  have e : (Txt.replace x (Str.ofString "'") (Str.ofString "'\"'\"'")).cps.toList = sq x.cps.toList := h
  refine ⟨e, ?_⟩
  show Array.size _ ≤ 5 * Array.size _
  rw [← Array.length_toList, ← Array.length_toList, e]
  exact sq_len _
noncomputable abbrev findObj : Obj := { cls := .type "builtin_function_or_method", dict := none, data := .fields #[.builtin "re.Pattern.search", .ref 49], slots := #[] }
theorem callWith_find {M : Model} {A : Around} {E : Value → Shared → Prop} {s : Shared} {pos : Pos} {u : Addr} {env : Env} {e : PySem.Expr} {Q : Value → Shared → Prop}
    (h : wpAny M A (spliced (backTo pos (starEach [e] env))) (fun vs s₁ => s₁.heap.get? u = some findObj ∧ wpAny M A (call (.ref u) vs) Q E s₁) E s)
    (he : starEach [e] env = (false, eval e env) :: starEach [] env := by rfl) :
    wpAny M A (callWith pos (.ref u) [] (backTo pos (starEach [e] env)) []) Q E s := by
  rw [he] at h ⊢
  have h2 := evalArgs_plain (f := .ref u) (Q := fun x s₁ => s₁.heap.get? u = some findObj ∧ wpAny M A (call (.ref u) ([] ++ x.pos) x.kw) Q E s₁) h
  unfold callWith
  refine wpAny_bind (wpAny_holding (wpAny_mono h2 (fun x s₁ h₁ => wpAny_bind (wpAny_standAt ?_)) fun _ _ x => x))
  obtain ⟨ho, hcall⟩ := h₁
  have hplain : (backTo pos ((false, eval e env) :: starEach [] env)).any (·.1) = false := rfl
  simp only [hplain, List.any_nil, Bool.or_false]
  refine wpAny_bind (m := keeperOf (.ref u)) ?_
  unfold keeperOf
  refine wpAny_bind (wpAny_load ho ?_)
  simp only [findObj, show (Value.type "builtin_function_or_method" != Value.type "method") = true by decide, show (Value.type "builtin_function_or_method" == Value.type "builtin_function_or_method" || Value.type "builtin_function_or_method" == Value.type "method-wrapper") = true by decide, if_true]
  refine wpAny_pure ?_
  exact wpAny_bind (wpAny_mono hcall (fun r s₂ hr => wpAny_bind (wpAny_holding (wpAny_point (wpAny_pure hr)))) fun _ _ x => x)
/-- a word in its quotes -/
noncomputable def qt (l : List Nat) : List Nat := if l = [] then [39, 39] else if l.any bad = true then 39 :: (sq l ++ [39]) else l
theorem any_of {x : Str} {j : Nat} (hj : j < x.cps.size) (hb : bad (x.cps.getD j 0) = true) : x.cps.toList.any bad = true := by
  rw [List.any_eq_true]
  refine ⟨x.cps.getD j 0, ?_, hb⟩
  rw [Array.getD_eq_getD_getElem?, Array.getElem?_eq_getElem hj]
  exact Array.getElem_mem_toList hj
theorem not_any {x : Str} (h : ∀ j, j < x.cps.size → bad (x.cps.getD j 0) = false) : ¬ x.cps.toList.any bad = true := by
  rw [List.any_eq_true]
  rintro ⟨c, hc, hb⟩
  obtain ⟨j, hj, e⟩ := Array.mem_iff_getElem.mp (Array.mem_toList_iff.mp hc)
  have := h j hj
  rw [Array.getD_eq_getD_getElem?, Array.getElem?_eq_getElem hj] at this
  rw [show (some x.cps[j]).getD 0 = x.cps[j] from rfl, e, hb] at this
  cases this
theorem quote_spec0 {prog : Program} {w : World} {A : Around} {E Q : Value → Shared → Prop} {s : Shared} {p : Program} {loose : List Str} {mg mb : Str → Option Value} {x : Str} {t : Tok}
    (X : (Mine.seed.heap_1 w.params).In s.heap) (T : TopRead p loose mg mb s.heap) (hd : A.depth + 4 < recursionLimit) (h0 : 0 < x.cps.size) (hx : x.length ≤ 1000)
    (ret : ∀ y t' h' tk', Kp s.heap h' → y.cps.toList = qt x.cps.toList → Q (.str y t') { s with heap := h', toks := tk' }) :
    wpAny (model prog w) A (call (.ref 759) [.str x t]) Q E s := by
  have hne : x.cps.toList ≠ [] := fun q => by
    have := congrArg List.length q
    rw [Array.length_toList] at this
    rw [this] at h0; exact absurd h0 (by decide)
  refine wpAny_call ?_
  k_dflt (refine' code_pure (binds := [(Str.ofString "s", .str x t)]) ?k1 ?k2 ?k6 ?k7 ?k8 ?k9 ?kB ?_ ?c2 ?c3 ?c4 ?c5; walk_at "mine_side")
  intro L' h' F' N' hk'
  try dsimp only
  try k_fold
  repeat ((fail_if_success (with_reducible show wpAny _ _ (truthy (Value.str _ _)) _ _ _)); first | (k_unfold; (try dsimp only)) | walk1 | (dsimp only; walk1))
  refine truthy_strQ h0 hx ?_
  repeat ((fail_if_success (with_reducible show wpAny _ _ (callWith _ (Value.ref 752) _ _ _) _ _ _)); first | (k_unfold; (try dsimp only)) | walk1 | (dsimp only; walk1))
  refine callWith_find ?_
  repeat ((fail_if_success (with_reducible show _ ∧ _)); first | (k_unfold; (try dsimp only)) | walk1 | (dsimp only; walk1))
  refine ⟨X.keeps (Fr.keep (by assumption)) _ _ (k_752 _), ?_⟩
  rename Fr s.heap L' _ _ => F1
  refine' find_spec ?k1 ?k2 ?k3 ?_
  case k1 => exact X.keeps F1.keep
  case k2 => exact h0
  case k3 => exact hx
  k_whole
  intro v h9 tk9 k9 hv
  have F2 := Fr.keeps F1 k9
  clear F1
  rcases hv with ⟨hb, ⟨a, rfl⟩⟩ | ⟨hb, rfl⟩
  · (try k_fold)
    repeat ((fail_if_success (with_reducible show wpAny _ _ (binaryOp _ _ _) _ _ _)); first | (k_unfold; (try dsimp only)) | walk1 | (dsimp only; walk1))
    obtain ⟨r, hr, hr1, hr2⟩ := replace_q x
    rw [hr]
    obtain ⟨j, hj, hbj⟩ := hb
    k_steps
    all_goals (try dsimp only)
    all_goals (try k_steps)
    all_goals refine ret _ _ _ _ (Kp.trans hk' (by assumption)) ?_
    all_goals rw [qt, if_neg hne, if_pos (any_of hj hbj), ← hr1]
    all_goals simp only [Str.cps_append, Array.toList_append]
    all_goals rfl
  · (try k_fold)
    k_steps
    all_goals (try dsimp only)
    all_goals (try k_steps)
    all_goals refine ret _ _ _ _ F2.keep ?_
    all_goals rw [qt, if_neg hne, if_neg (not_any hb)]
theorem quote_spec1 {prog : Program} {w : World} {A : Around} {E Q : Value → Shared → Prop} {s : Shared} {p : Program} {loose : List Str} {mg mb : Str → Option Value} {t : Tok}
    (X : (Mine.seed.heap_1 w.params).In s.heap) (T : TopRead p loose mg mb s.heap) (hd : A.depth + 4 < recursionLimit)
    (ret : ∀ y t' h' tk', Kp s.heap h' → y.cps.toList = qt [] → Q (.str y t') { s with heap := h', toks := tk' }) :
    wpAny (model prog w) A (call (.ref 759) [.str ⟨#[]⟩ t]) Q E s := by
  refine wpAny_call ?_
  k_dflt (refine' code_pure (binds := [(Str.ofString "s", .str ⟨#[]⟩ t)]) ?k1 ?k2 ?k6 ?k7 ?k8 ?k9 ?kB ?_ ?c2 ?c3 ?c4 ?c5; walk_at "mine_side")
  intro L' h' F' N' hk'
  try dsimp only
  try k_fold
  k_steps
  all_goals (try dsimp only)
  all_goals (try k_steps)
  all_goals exact ret _ _ _ _ hk' (by decide)
theorem quote_spec {prog : Program} {w : World} {A : Around} {E Q : Value → Shared → Prop} {s : Shared} {p : Program} {loose : List Str} {mg mb : Str → Option Value} {x : Str} {t : Tok}
    (X : (Mine.seed.heap_1 w.params).In s.heap) (T : TopRead p loose mg mb s.heap) (hd : A.depth + 4 < recursionLimit) (hx : x.length ≤ 1000)
    (ret : ∀ y t' h' tk', Kp s.heap h' → y.cps.toList = qt x.cps.toList → Q (.str y t') { s with heap := h', toks := tk' }) :
    wpAny (model prog w) A (call (.ref 759) [.str x t]) Q E s := by
  by_cases h0 : 0 < x.cps.size
  · exact quote_spec0 X T hd h0 hx ret
  · have e : x = ⟨#[]⟩ := by
      obtain ⟨⟨l⟩⟩ := x
      have : l.length = 0 := by simpa using h0
      rw [List.length_eq_zero_iff.mp this]
    subst e
    exact quote_spec1 X T hd ret
end
section
open PySem PySem.W PyProof.Rows PySem.Calls
set_option maxRecDepth 100000
set_option maxHeartbeats 8000000
noncomputable def cc (c0 : Nat) : Nat := if (if 55296 ≤ c0 then c0 + 2048 else c0) % 128 = 39 ∨ (if 55296 ≤ c0 then c0 + 2048 else c0) % 128 = 92 then (if 55296 ≤ c0 then c0 + 2048 else c0) + 1 else (if 55296 ≤ c0 then c0 + 2048 else c0)
noncomputable def lawCode (f r : Nat) : Nat :=
  if f = 1 then 39 else if f = 2 then 97 + r % 26 else if f = 3 then [32, 9, 10, 13, 34, 160, 162, 138, 35, 61, 95, 64].getD (r % 12) 0
  else cc (r % (if f = 4 then 128 else 1112064))
theorem fm (r : Nat) (n : Nat) (h : 0 < n) : (r : Int).fmod (n : Int) = ((r % n : Nat) : Int) := by
  rw [Int.fmod_eq_emod_of_nonneg _ (by omega)]; rfl
theorem any2 {i : Int} {c : Nat} (e : i = c) : (([39, 92] : List Int).any fun x => x == i.fmod 128) = decide (c % 128 = 39 ∨ c % 128 = 92) := by
  subst e
  have h := fm c 128 (by decide)
  rw [show ((128 : Nat) : Int) = 128 from rfl] at h
  rw [h]
  by_cases h1 : c % 128 = 39
  · simp [h1]
  · by_cases h2 : c % 128 = 92
    · simp [h2]
    · have n1 : ((39 : Int) == ((c % 128 : Nat) : Int)) = false := by rw [beq_eq_false_iff_ne]; omega
      have n2 : ((92 : Int) == ((c % 128 : Nat) : Int)) = false := by rw [beq_eq_false_iff_ne]; omega
      simp only [List.any_cons, List.any_nil, n1, n2]
      simp [h1, h2]
theorem cc1 {i : Int} {c : Nat} (e : i = c) (h1 : 55296 ≤ i) (h2 : (([39, 92] : List Int).any fun x => x == (i + 2048).fmod 128) = true) : i + 2048 + 1 = ((cc c : Nat) : Int) := by
  rw [any2 (c := c + 2048) (by omega), decide_eq_true_eq] at h2
  rw [cc, if_pos (show 55296 ≤ c by omega), if_pos h2]; omega
theorem cc2 {i : Int} {c : Nat} (e : i = c) (h1 : 55296 ≤ i) (h2 : (([39, 92] : List Int).any fun x => x == (i + 2048).fmod 128) = false) : i + 2048 = ((cc c : Nat) : Int) := by
  rw [any2 (c := c + 2048) (by omega), decide_eq_false_iff_not] at h2
  rw [cc, if_pos (show 55296 ≤ c by omega), if_neg h2]; omega
theorem cc3 {i : Int} {c : Nat} (e : i = c) (h1 : ¬ 55296 ≤ i) (h2 : (([39, 92] : List Int).any fun x => x == i.fmod 128) = true) : i + 1 = ((cc c : Nat) : Int) := by
  rw [any2 e, decide_eq_true_eq] at h2
  rw [cc, if_neg (show ¬ 55296 ≤ c by omega), if_pos h2]; omega
theorem cc4 {i : Int} {c : Nat} (e : i = c) (h1 : ¬ 55296 ≤ i) (h2 : (([39, 92] : List Int).any fun x => x == i.fmod 128) = false) : i = ((cc c : Nat) : Int) := by
  rw [any2 e, decide_eq_false_iff_not] at h2
  rw [cc, if_neg (show ¬ 55296 ≤ c by omega), if_neg h2]; exact e
theorem cc5 {i : Int} {c : Nat} (e : i = c) (h1 : c < 55296) (h2 : (([39, 92] : List Int).any fun x => x == i.fmod 128) = true) : i + 1 = ((cc c : Nat) : Int) := cc3 e (by omega) h2
theorem cc6 {i : Int} {c : Nat} (e : i = c) (h1 : c < 55296) (h2 : (([39, 92] : List Int).any fun x => x == i.fmod 128) = false) : i = ((cc c : Nat) : Int) := cc4 e (by omega) h2
theorem ite_yes {c : Prop} [Decidable c] {a b : Prop} (h : c) (x : a) : if c then a else b := by rw [if_pos h]; exact x
theorem ite_no {c : Prop} [Decidable c] {a b : Prop} (h : ¬ c) (x : b) : if c then a else b := by rw [if_neg h]; exact x
local macro_rules | `(tactic| walk_at "ite") => `(tactic| (with_reducible first | refine ite_yes (by decide) ?_ | refine ite_no (by decide) ?_))
theorem code1_spec {prog : Program} {w : World} {A : Around} {E Q : Value → Shared → Prop} {s : Shared} {p : Program} {loose : List Str} {mg mb : Str → Option Value} {r : Nat} {t t' : Tok}
    (X : (Mine.seed.heap_1 w.params).In s.heap) (T : TopRead p loose mg mb s.heap) (hd : A.depth + 4 < recursionLimit) (hr : r ≤ 17000000)
    (ret : ∀ t' h' tk', Kp s.heap h' → Q (.int ((lawCode 1 r : Nat) : Int) t') { s with heap := h', toks := tk' }) :
    wpAny (model prog w) A (call (.ref 787) [.int 1 t, .int (r : Int) t']) Q E s := by
  refine wpAny_call ?_
  k_dflt (refine' code_pure (binds := [(Str.ofString "figure", .int 1 t), (Str.ofString "rest", .int (r : Int) t')]) ?k1 ?k2 ?k6 ?k7 ?k8 ?k9 ?kB ?_ ?c2 ?c3 ?c4 ?c5; walk_at "mine_side")
  intro L' h' F' N' hk'
  try dsimp only
  try k_fold
  k_steps
  all_goals (try dsimp only)
  all_goals (try k_steps)
  all_goals exact ret _ _ _ hk'
theorem code2_spec {prog : Program} {w : World} {A : Around} {E Q : Value → Shared → Prop} {s : Shared} {p : Program} {loose : List Str} {mg mb : Str → Option Value} {r : Nat} {t t' : Tok}
    (X : (Mine.seed.heap_1 w.params).In s.heap) (T : TopRead p loose mg mb s.heap) (hd : A.depth + 4 < recursionLimit) (hr : r ≤ 17000000)
    (ret : ∀ t' h' tk', Kp s.heap h' → Q (.int ((lawCode 2 r : Nat) : Int) t') { s with heap := h', toks := tk' }) :
    wpAny (model prog w) A (call (.ref 787) [.int 2 t, .int (r : Int) t']) Q E s := by
  refine wpAny_call ?_
  k_dflt (refine' code_pure (binds := [(Str.ofString "figure", .int 2 t), (Str.ofString "rest", .int (r : Int) t')]) ?k1 ?k2 ?k6 ?k7 ?k8 ?k9 ?kB ?_ ?c2 ?c3 ?c4 ?c5; walk_at "mine_side")
  intro L' h' F' N' hk'
  try dsimp only
  try k_fold
  k_steps
  all_goals (try dsimp only)
  all_goals (try k_steps)
  all_goals rw [show (97 : Int) + (r : Int).fmod 26 = ((lawCode 2 r : Nat) : Int) from by
    have h := fm r 26 (by decide)
    rw [show ((26 : Nat) : Int) = 26 from rfl] at h
    rw [h]; rfl]
  all_goals exact ret _ _ _ hk'
theorem code3_spec {prog : Program} {w : World} {A : Around} {E Q : Value → Shared → Prop} {s : Shared} {p : Program} {loose : List Str} {mg mb : Str → Option Value} {r : Nat} {t t' : Tok}
    (X : (Mine.seed.heap_1 w.params).In s.heap) (T : TopRead p loose mg mb s.heap) (hd : A.depth + 4 < recursionLimit) (hr : r ≤ 17000000)
    (ret : ∀ t' h' tk', Kp s.heap h' → Q (.int ((lawCode 3 r : Nat) : Int) t') { s with heap := h', toks := tk' }) :
    wpAny (model prog w) A (call (.ref 787) [.int 3 t, .int (r : Int) t']) Q E s := by
  refine wpAny_call ?_
  k_dflt (refine' code_pure (binds := [(Str.ofString "figure", .int 3 t), (Str.ofString "rest", .int (r : Int) t')]) ?k1 ?k2 ?k6 ?k7 ?k8 ?k9 ?kB ?_ ?c2 ?c3 ?c4 ?c5; walk_at "mine_side")
  intro L' h' F' N' hk'
  try dsimp only
  try k_fold
  k_steps
  all_goals (try dsimp only)
  all_goals (try k_steps)
  all_goals (have h := fm r 12 (by decide); rw [show ((12 : Nat) : Int) = 12 from rfl] at h; rw [h, Int.toNat_natCast])
  all_goals rw [show (([32, 9, 10, 13, 34, 160, 162, 138, 35, 61, 95, 64] : List Int).getD (r % 12) 0) = ((lawCode 3 r : Nat) : Int) from by
    show _ = (((([32, 9, 10, 13, 34, 160, 162, 138, 35, 61, 95, 64] : List Nat).getD (r % 12) 0 : Nat)) : Int)
    have hk : r % 12 < 12 := Nat.mod_lt _ (by decide)
    generalize r % 12 = k at *
    match k, hk with
    | 0, _ | 1, _ | 2, _ | 3, _ | 4, _ | 5, _ | 6, _ | 7, _ | 8, _ | 9, _ | 10, _ | 11, _ => rfl]
  all_goals first
    | exact ret _ _ _ hk'
    | exact ret _ _ _ (Fr.keep (by assumption))
theorem code4_spec {prog : Program} {w : World} {A : Around} {E Q : Value → Shared → Prop} {s : Shared} {p : Program} {loose : List Str} {mg mb : Str → Option Value} {r : Nat} {t t' : Tok}
    (X : (Mine.seed.heap_1 w.params).In s.heap) (T : TopRead p loose mg mb s.heap) (hd : A.depth + 4 < recursionLimit) (hr : r ≤ 17000000)
    (ret : ∀ t' h' tk', Kp s.heap h' → Q (.int ((lawCode 4 r : Nat) : Int) t') { s with heap := h', toks := tk' }) :
    wpAny (model prog w) A (call (.ref 787) [.int 4 t, .int (r : Int) t']) Q E s := by
  have hm : (r : Int).fmod 128 = ((r % 128 : Nat) : Int) := fm r 128 (by decide)
  refine wpAny_call ?_
  k_dflt (refine' code_pure (binds := [(Str.ofString "figure", .int 4 t), (Str.ofString "rest", .int (r : Int) t')]) ?k1 ?k2 ?k6 ?k7 ?k8 ?k9 ?kB ?_ ?c2 ?c3 ?c4 ?c5; walk_at "mine_side")
  intro L' h' F' N' hk'
  try dsimp only
  try k_fold
  k_steps
  all_goals (try dsimp only)
  all_goals (try k_steps)
  all_goals first
    | rw [cc1 hm (by assumption) (by assumption)]
    | rw [cc2 hm (by assumption) (by assumption)]
    | rw [cc3 hm (by assumption) (by assumption)]
    | rw [cc4 hm (by assumption) (by assumption)]
    | rw [cc5 hm (by omega) (by assumption)]
    | rw [cc6 hm (by omega) (by assumption)]
  all_goals first
    | exact ret _ _ _ hk'
    | exact ret _ _ _ (Fr.keep (by assumption))
theorem code5_spec {prog : Program} {w : World} {A : Around} {E Q : Value → Shared → Prop} {s : Shared} {p : Program} {loose : List Str} {mg mb : Str → Option Value} {r : Nat} {t t' : Tok}
    (X : (Mine.seed.heap_1 w.params).In s.heap) (T : TopRead p loose mg mb s.heap) (hd : A.depth + 4 < recursionLimit) (hr : r ≤ 17000000)
    (ret : ∀ t' h' tk', Kp s.heap h' → Q (.int ((lawCode 5 r : Nat) : Int) t') { s with heap := h', toks := tk' }) :
    wpAny (model prog w) A (call (.ref 787) [.int 5 t, .int (r : Int) t']) Q E s := by
  have hm : (r : Int).fmod 1112064 = ((r % 1112064 : Nat) : Int) := fm r 1112064 (by decide)
  refine wpAny_call ?_
  k_dflt (refine' code_pure (binds := [(Str.ofString "figure", .int 5 t), (Str.ofString "rest", .int (r : Int) t')]) ?k1 ?k2 ?k6 ?k7 ?k8 ?k9 ?kB ?_ ?c2 ?c3 ?c4 ?c5; walk_at "mine_side")
  intro L' h' F' N' hk'
  try dsimp only
  try k_fold
  k_steps
  all_goals (try dsimp only)
  all_goals (try k_steps)
  all_goals first
    | rw [cc1 hm (by assumption) (by assumption)]
    | rw [cc2 hm (by assumption) (by assumption)]
    | rw [cc3 hm (by assumption) (by assumption)]
    | rw [cc4 hm (by assumption) (by assumption)]
    | rw [cc5 hm (by omega) (by assumption)]
    | rw [cc6 hm (by omega) (by assumption)]
  all_goals first
    | exact ret _ _ _ hk'
    | exact ret _ _ _ (Fr.keep (by assumption))
theorem code_spec {prog : Program} {w : World} {A : Around} {E Q : Value → Shared → Prop} {s : Shared} {p : Program} {loose : List Str} {mg mb : Str → Option Value} {f r : Nat} {t t' : Tok}
    (X : (Mine.seed.heap_1 w.params).In s.heap) (T : TopRead p loose mg mb s.heap) (hd : A.depth + 4 < recursionLimit) (hr : r ≤ 17000000) (hf : 1 ≤ f ∧ f ≤ 5)
    (ret : ∀ t' h' tk', Kp s.heap h' → Q (.int ((lawCode f r : Nat) : Int) t') { s with heap := h', toks := tk' }) :
    wpAny (model prog w) A (call (.ref 787) [.int (f : Int) t, .int (r : Int) t']) Q E s := by
  match f, hf with
  | 1, _ => exact code1_spec X T hd hr ret
  | 2, _ => exact code2_spec X T hd hr ret
  | 3, _ => exact code3_spec X T hd hr ret
  | 4, _ => exact code4_spec X T hd hr ret
  | 5, _ => exact code5_spec X T hd hr ret
end
section
open PySem PySem.W PyProof.Rows PySem.Calls
set_option maxRecDepth 100000
set_option maxHeartbeats 4000000
/-- a program of one line, of which nothing need be known -/
noncomputable def p0 : Program := { main := { body := [.ImportFrom (some (Str.ofString "sys")) [] (some 0) { line := 1, col := 0, endLine := 1, endCol := 0 }], scope := { kind := .module, names := [], isGenerator := false, isCoroutine := false }, futureAnnotations := false, file := Str.ofString "" }, modules := [], parses := [], absent := [] }
theorem top_re {p : Program} {loose : List Str} {mean : ExcName → Option Value} {mg mb : Str → Option Value} {h₁ h₀ : Heap} {c P : Addr} {ps ps' : Array Value} (T : Top p loose mean mg mb h₀) (B : Based h₁ h₀ c P ps) :
    Top p0 (loose ++ (recsOf p).map (·.name) ++ (litsOf p).map (·.1) ++ (clssOf p loose).map (·.name)) mean mg mb (regrown h₀ P ps') := by
  obtain ⟨mc, h1, h2⟩ := T.nolimit
  obtain ⟨md, h3, h4⟩ := T.nodigits
  obtain ⟨bm, ob, b1, b2, b3, b4, b5, b6⟩ := T.bmain
  have hP := B.tab.2
  have hne : bm ≠ P := fun q => by
    rw [q, hP] at b3
    cases b3
    cases b6
  refine ⟨LGe.ns_regrown B T.g, LGe.ns_regrown B T.b, ⟨mc, LGe.ns_regrown B h1, h2⟩, ⟨md, LGe.ns_regrown B h3, h4⟩, ?_, ?_, ?_, ?_, T.builtins, ?_, ⟨bm, ob, b1, b2, (Heap.get?_update_other _ _ (Ne.symm hne)).trans b3, b4, b5, b6⟩, ?_⟩
  · intro d hd; cases hd
  · intro o ho; cases ho
  · intro x d hx; cases hx
  · intro x hs hl _ _ _
    simp only [List.mem_append, not_or] at hl
    exact T.free x hs hl.1.1.1 hl.1.1.2 hl.1.2 hl.2
  · intro d hd; cases hd
  · intro hi; exact absurd hi (by decide +kernel)
end
section
open PySem PySem.W PyProof.Rows PySem.Calls
set_option maxRecDepth 100000
set_option maxHeartbeats 8000000
noncomputable def CharsAre : List Value → List Nat → Prop
  | [], [] => True
  | v :: vs, c :: cs => (∃ t, v = .str ⟨#[c]⟩ t) ∧ CharsAre vs cs
  | _, _ => False
theorem CharsAre.snoc : ∀ {vs : List Value} {cs : List Nat} {c : Nat} {t : Tok}, CharsAre vs cs → CharsAre (vs ++ [.str ⟨#[c]⟩ t]) (cs ++ [c])
  | [], [], _, t, _ => ⟨⟨t, rfl⟩, trivial⟩
  | _ :: _, _ :: _, _, _, h => ⟨h.1, CharsAre.snoc h.2⟩
theorem strit_st {h₀ : Heap} {L I : Addr} {x : Str} {t : Tok} {T : String} : ∀ i (h h' : Heap) (o : Obj) (nw : List (Addr × Obj)), h.IsStrIter I T x t i → h.get? I = some o → h'.get? I = some o → (∀ b o, h₀.get? b = some o → h'.get? b = some o) → News h₀ L h' nw → True → h'.IsStrIter I T x t i :=
  fun _ _ _ _ _ st e e' _ _ _ => by
    obtain ⟨o', q, r⟩ := st
    rw [e] at q; cases q
    exact ⟨_, e', r⟩
open PyProof.Rows.LCg in
theorem comp_str {prog : Program} {w : World} {A : Around} {E : Value → Shared → Prop} {s : Shared} {h₀ : Heap} {L : Addr} {m : Str → Option Value} {env : Env}
    {elt iter : PySem.Expr} {x : Str} {px : Pos} {scope : Scope} {cl : List (Str × Addr)} {pos : Pos} {Q : Value → Shared → Prop}
    (hclos : closureFor scope env = pure cl) (hcell : ∀ y ∈ scope.names, y.2 ≠ .cell) (hkind : scope.kind = .function)
    (hnames : ∀ y ∈ scope.names, y.2 = .local → scope.names.lookup y.1 = some .local) (hx : scope.names.lookup x = some .local)
    (h : wpAny (model prog w) A (eval iter env) (fun xv s₁ => ∃ y t, xv = .str y t ∧ A.handled = none ∧ Fr h₀ L s₁.heap m ∧ y.cps.size ≤ sizeLine ∧
      ∀ s₂ : Shared, (∃ h, s₂ = { s₁ with heap := h }) → CompRest prog w A h₀ L m env elt x scope cl s₂ (fun _ => True) (SignAt y) (FinE h₀ L m s₂ Q) y.cps.size 0 [] []) E s)
    (hs : ∀ x, foldedSetIterable iter env x = pure x) :
    wpAny (model prog w) A (eval (.ListComp elt [⟨.Name x px, iter, [], 0⟩] scope pos) env) Q E s := by
  rw [eval_ListComp]
  refine wpAny_comprehension_free (use := none) rfl hs hclos hkind hnames (wpAny_mono h (fun xv s₁ h₁ => ?_) fun _ _ e => e)
  obtain ⟨y, t, rfl, hh, F, hsz, R⟩ := h₁
  refine wpAny_pyIter_strU ?_
  have up : ∀ b o, s₁.heap.get? b = some o → (s₁.heap.push { cls := .type (strIterType y), data := .fields #[.str y t, .int 0 0] }).get? b = some o := fun b o e => Heap.get?_push_of_some _ e
  have W : Walks prog w A s₁.heap.objs.size [s₁.heap.objs.size] [s₁.heap.objs.size] y.cps.size (SignAt y) (fun i h => h.IsStrIter s₁.heap.objs.size (strIterType y) y t i) := by
    unfold strIterType
    split
    · exact Walks.strAscii hh _ _ _
    · exact Walks.strWide hh _ _ _
  refine block_U W hsz (fun i h st => by obtain ⟨o, e, _⟩ := st; exact ⟨o, e⟩) strit_st hcell hkind hx ⟨_, Heap.get?_push_size _ rfl, rfl, rfl⟩ (fun b hb => ?_)
      (F.keeps up) News.nil (Nat.ne_of_lt F.ns.lt) (next_is_new F) (fun p hp => (nomatch hp)) trivial (R _ ⟨_, rfl⟩) ?_
  · rw [List.mem_singleton.mp hb]
    show s₁.heap.objs.size < (s₁.heap.push _).objs.size
    rw [Heap.size_push]; exact Nat.lt_succ_self _
  · intro D C h tk m' ys news' F' N' o1 hn hC₀ hD₀ hCL hDL hCD offC fin
    refine ⟨m', hn, fun h'' hs'' => fin D h'' tk (F'.change hs'' hCL hC₀) (fun p hp => ?_) o1⟩
    refine ⟨hs''.extBut _ _ ?_ (N' p hp).1, (N' p hp).2⟩
    rcases List.mem_cons.mp hp with rfl | hp
    · exact Ne.symm hCD
    · exact offC p hp
open PyProof.Rows.LCg in
/-- every sign of the text turned by f -/
theorem rest_map {prog : Program} {w : World} {A : Around} {h₀ : Heap} {L : Addr} {m : Str → Option Value} {env : Env} {elt : PySem.Expr} {x : Str} {scope : Scope} {cl : List (Str × Addr)} {s : Shared} {Q : Value → Shared → Prop} {y : Str} (f : Nat → Nat)
    (elem : ∀ C m₂ c t (s' : Shared) (Q' E' : Value → Shared → Prop), c ∈ y.cps.toList → s'.heap.Ns C m₂ → m₂ x = some (.str ⟨#[c]⟩ t) → Fr h₀ L s'.heap m → (∀ t' h' tk', Kp s'.heap h' → Q' (.str ⟨#[f c]⟩ t') { s' with heap := h', toks := tk' }) → wpAny (model prog w) A (eval elt (compEnvC scope cl C env)) Q' E' s')
    (hQ : ∀ D h tk ys, Fr h₀ L h m → News h₀ L h [(D, lst ys)] → CharsAre ys (y.cps.toList.map f) → Q (.ref D) { s with heap := h, toks := tk }) :
    ∀ (k i : Nat) (ys : List Value), i + k = y.cps.size → CharsAre ys ((y.cps.toList.take i).map f) → CompRest prog w A h₀ L m env elt x scope cl s (fun _ => True) (SignAt y) (FinE h₀ L m s Q) k i ys [] := by
  intro k
  induction k with
  | zero =>
    intro i ys hi hc D h tk F N _
    rw [List.take_of_length_le (by rw [Array.length_toList]; omega)] at hc
    exact hQ D h tk ys F N hc
  | succ k ih =>
    intro i ys hi hc
    refine CompRest.succ fun v I oI C oC D m₂ h tk E' hv hC hm F N off hne => ?_
    obtain ⟨c, u, hcu, rfl⟩ := hv
    have hmem : c ∈ y.cps.toList := by
      obtain ⟨h1, h2⟩ := Array.getElem?_eq_some_iff.mp hcu
      rw [← h2]; exact Array.getElem_mem_toList h1
    refine elem C m₂ c u _ _ _ hmem (hC.ns (N.get (a := C) (List.mem_cons_of_mem _ List.mem_cons_self))) hm F fun t' h' tk' kk => ?_
    refine CompEnd.intro (F.keeps kk) (N.grown kk) [] (fun p hp => hp) trivial trivial ?_
    refine ih (i + 1) _ (by omega) ?_
    have e : y.cps.toList.take (i + 1) = y.cps.toList.take i ++ [c] := by
      rw [List.take_add_one]
      rw [show y.cps.toList[i]? = some c by rw [Array.getElem?_toList]; exact hcu]
      rfl
    rw [e, List.map_append]
    exact hc.snoc
end
section
open PySem PySem.W PyProof.Rows PySem.Calls
set_option maxRecDepth 100000
set_option maxHeartbeats 8000000
/-- a global name within a comprehension -/
local macro_rules | `(tactic| walk_at "mine_d") => `(tactic| ((try simp only [depth_mark, depth_under_make, depth_under_kw, depth_in1, depth_deeper, depth_caller]); omega))
theorem ld_globR {M : Model} {A : Around} {E : Value → Shared → Prop} {s : Shared} {K : Frag} {h₀ : Heap} {L C : Addr} {m mg mb : Str → Option Value} {scope : Scope} {cl : List (Str × Addr)} {env : Env} {p : Program} {loose : List Str} {x : Str} {pos : Pos} {v : Value} {Q : Value → Shared → Prop}
    (F : Fr h₀ L s.heap m) (X : K.In h₀) (T : TopRead p loose mg mb h₀) (e : nsIn K mainGlobals x = some (some v)) (h : Q v s) (hg : env.globals = mainGlobals := by rfl)
    (hk : (compEnvC scope cl C env).scope.kind = .function := by rfl) (hx : (compEnvC scope cl C env).kindOf x = some .globalImplicit := by rfl) (hd : (x == ("__debug__" : Str)) = false := by decide) :
    wpAny M A (eval (.Name x pos) (compEnvC scope cl C env)) Q E s :=
  Name_function_global hk hx (loadGlobal_global (env := compEnvC scope cl C env) (show s.heap.Ns env.globals mg from hg ▸ (T.keeps F.keep).g) (mg_of X T.g e) h) hd
local macro_rules | `(tactic| walk_at "eval Name") => `(tactic| (k_here; k_dflt (first | (refine' ld_globR ?F ?X ?T ?e ?_; (case F => assumption); (case X => assumption); (case T => assumption); (case e => k_is)) | (refine' ldVarK ?F ?hv ?_; (case F => assumption); (case hv => assumption)))))
theorem chars_strs : ∀ {vs : List Value} {cs : List Nat}, CharsAre vs cs → PyProof.Rows.StrsAre vs (cs.map fun c => (⟨#[c]⟩ : Str))
  | [], [], _ => .nil
  | _ :: _, c :: _, h => by
    obtain ⟨⟨t, rfl⟩, h2⟩ := h
    exact .cons _ t (chars_strs h2)
theorem sum_ones : ∀ (cs : List Nat), ((cs.map fun c => (⟨#[c]⟩ : Str)).map (·.length)).sum = cs.length
  | [] => rfl
  | c :: r => by
    have := sum_ones r
    simp only [List.map_cons, List.sum_cons, List.length_cons, this]
    show 1 + r.length = r.length + 1
    omega
theorem join_ones (cs : List Nat) : Txt.join (Str.ofString "") (cs.map fun c => (⟨#[c]⟩ : Str)) = ⟨cs.toArray⟩ := by
  have h := join_nil_signs ⟨cs.toArray⟩
  unfold signs at h
  have e : Txt.join (Str.ofString "") (cs.map fun c => (⟨#[c]⟩ : Str)) = Str.join ⟨#[]⟩ (cs.map fun c => (⟨#[c]⟩ : Str)) := eq_of_beq (join_closes rfl)
  rw [e]; exact h
/-- one sending -/
noncomputable def sentL (l : List Nat) : List Nat := (qt (l.map (· ||| 128))).map (· % 128)
theorem qt_len (l : List Nat) : (qt l).length ≤ 5 * l.length + 2 := by
  unfold qt
  have := sq_len l
  split
  · simp
  · split
    · simp only [List.length_cons, List.length_append, List.length_nil]; omega
    · omega
theorem sent_spec {prog : Program} {w : World} {A : Around} {E Q : Value → Shared → Prop} {s : Shared} {p : Program} {loose : List Str} {mg mb : Str → Option Value} {x : Str} {t : Tok}
    (X : (Mine.seed.heap_1 w.params).In s.heap) (T : TopRead p loose mg mb s.heap) (hh : A.handled = none) (hd : A.depth + 8 < recursionLimit) (hx : x.length ≤ 1000) (hv : ∀ c ∈ x.cps.toList, c < 1114112)
    (ret : ∀ y t' h' tk', Kp s.heap h' → y = (⟨(sentL x.cps.toList).toArray⟩ : Str) → Q (.str y t') { s with heap := h', toks := tk' }) :
    wpAny (model prog w) A (call (.ref 811) [.str x t]) Q E s := by
  refine wpAny_call ?_
  k_dflt (refine' code_pure (binds := [(Str.ofString "line", .str x t)]) ?k1 ?k2 ?k6 ?k7 ?k8 ?k9 ?kB ?_ ?c2 ?c3 ?c4 ?c5; walk_at "mine_side")
  intro L' h' F' N' hk'
  try dsimp only
  try k_fold
  repeat ((fail_if_success (with_reducible show wpAny _ _ (eval (PySem.Expr.ListComp _ _ _ _) _) _ _ _)); first | (k_unfold; (try dsimp only)) | walk1 | (dsimp only; walk1))
  rename Fr s.heap L' _ _ => F1
  k_dflt (refine' comp_str (cl := []) (m := (fun y => List.lookup y [(Str.ofString "line", Value.str x t)].reverse)) (h₀ := s.heap) (L := L') ?k1 ?k2 ?k3 ?k4 ?k5 ?_ ?k6)
  case k1 => exact rfl
  case k2 => decide
  case k3 => exact rfl
  case k4 => decide
  case k5 => exact rfl
  case k6 => intro _; exact rfl
  try k_fold
  repeat ((fail_if_success (with_reducible show wpAny _ _ (eval (PySem.Expr.ListComp _ _ _ _) _) _ _ _)); first | (k_unfold; (try dsimp only)) | walk1 | (dsimp only; walk1))
  k_dflt (refine' comp_str (cl := []) (m := (fun y => List.lookup y [(Str.ofString "line", Value.str x t)].reverse)) (h₀ := s.heap) (L := L') ?k1 ?k2 ?k3 ?k4 ?k5 ?_ ?k6)
  case k1 => exact rfl
  case k2 => decide
  case k3 => exact rfl
  case k4 => decide
  case k5 => exact rfl
  case k6 => intro _; exact rfl
  try k_fold
  repeat ((fail_if_success k_unfold); first | walk1 | (dsimp only; walk1))
  k_unfold
  dsimp only
  refine ⟨x, t, rfl, hh, F1, by show x.length ≤ 2 ^ 24; omega, ?_⟩
  rintro s₂ ⟨g, rfl⟩
  refine rest_map (fun c => c ||| 128) ?_ ?_ _ 0 [] (by simp) trivial
  · intro C m₂ c t2 s' Q' E' hc hN hm F2 hq
    repeat ((fail_if_success (with_reducible show wpAny _ _ (call (Value.ref 780) _) _ _ _)); first | walk1 | (dsimp only; walk1))
    refine alt_spec (X.keeps (Fr.keep (by assumption))) (T.keeps (Fr.keep (by assumption))) (by walk_at "mine_d") (hv c hc) fun t' h' tk' kk => ?_
    repeat (first | walk1 | (dsimp only; walk1))
    exact hq _ _ _ kk
  · intro D h tk ys F2 N2 hC
    try k_fold
    repeat ((fail_if_success (with_reducible show wpAny _ _ (call (Value.builtin "str.join") _) _ _ _)); first | (k_unfold; (try dsimp only)) | walk1 | (dsimp only; walk1))
    refine join_list (ys := (x.cps.toList.map (· ||| 128)).map fun c => (⟨#[c]⟩ : Str)) (News.isList N2 List.mem_cons_self) (chars_strs hC) ?_ fun t' k => ?_
    · rw [sum_ones]; show _ + _ * 0 ≤ _; rw [List.length_map, Array.length_toList]
      have : x.cps.size ≤ 1000 := hx
      omega
    rw [join_ones]
    try k_fold
    repeat ((fail_if_success (with_reducible show wpAny _ _ (call (Value.ref 759) _) _ _ _)); first | (k_unfold; (try dsimp only)) | walk1 | (dsimp only; walk1))
    rename Fr s.heap L' _ _ => F3
    refine quote_spec (X.keeps F3.keep) (T.keeps F3.keep) (by walk_at "mine_d") (by show Array.size _ ≤ 1000; rw [← Array.length_toList, List.length_map, Array.length_toList]; exact hx) fun y t4 h4 tk4 k4 hy => ?_
    have F4 := Fr.keeps F3 k4
    clear F3
    have hy : y.cps.toList = qt (x.cps.toList.map (· ||| 128)) := hy
    repeat ((fail_if_success (with_reducible show Exists _)); first | (k_unfold; (try dsimp only)) | walk1 | (dsimp only; walk1))
    have hyl : y.cps.size ≤ 5002 := by
      rw [← Array.length_toList, hy]
      have q1 := qt_len (x.cps.toList.map (· ||| 128))
      have e1 : x.cps.toList.length = x.cps.size := Array.length_toList
      rw [List.length_map, e1] at q1
      have q2 : x.cps.size ≤ 1000 := hx
      omega
    refine ⟨y, t4, rfl, hh, F4, by show y.cps.size ≤ 2 ^ 24; omega, ?_⟩
    rintro s₃ ⟨g₃, rfl⟩
    refine rest_map (fun c => c % 128) ?_ ?_ _ 0 [] (by simp) trivial
    · intro C m₂ c t2 s' Q' E' hc hN hm F2 hq
      repeat ((fail_if_success (with_reducible show wpAny _ _ (call (Value.ref 773) _) _ _ _)); first | walk1 | (dsimp only; walk1))
      refine ascii_spec (X.keeps (Fr.keep (by assumption))) (T.keeps (Fr.keep (by assumption))) (by walk_at "mine_d") fun t' h' tk' kk => ?_
      repeat (first | walk1 | (dsimp only; walk1))
      exact hq _ _ _ kk
    · intro D h tk ys F2 N2 hC
      try k_fold
      repeat ((fail_if_success (with_reducible show wpAny _ _ (call (Value.builtin "str.join") _) _ _ _)); first | (k_unfold; (try dsimp only)) | walk1 | (dsimp only; walk1))
      refine join_list (ys := (y.cps.toList.map (· % 128)).map fun c => (⟨#[c]⟩ : Str)) (News.isList N2 List.mem_cons_self) (chars_strs hC) ?_ fun t' k => ?_
      · rw [sum_ones]; show _ + _ * 0 ≤ _; rw [List.length_map, Array.length_toList]
        omega
      rw [join_ones]
      k_steps
      all_goals (try dsimp only)
      all_goals (try k_steps)
      all_goals exact ret _ _ _ _ (Fr.keep (by assumption)) (by rw [hy]; rfl)
end
section
open PySem PySem.W PyProof.Rows PySem.Calls
set_option maxRecDepth 100000
set_option maxHeartbeats 8000000
/-- a def with cells is entered over the whole heap as it stands -/
theorem code_pureC {prog : Program} {w : World} {A : Around} {s : Shared} {K : Frag} {p : Program} {loose : List Str} {mg mb : Str → Option Value}
    {R : Result → Shared → Prop} {name qual : Str} {params : Arguments} {body : List Stmt} {scope : Scope} {dV kV doc pm cdv ct oc : Value} {an od : Option Addr} {osl : Array (Option Value)} {f : Addr} {args : Args} {binds : List (Str × Value)}
    (X : K.In s.heap) (T : TopRead p loose mg mb s.heap)
    (ho : K.lookup f = some ⟨oc, od, .func (fnOf name qual params body scope dV kV doc pm an cdv ct), osl⟩) (hcd : codeIn K cdv qual = true) (hroom : A.depth < recursionLimit)
    (hbind : BindsTo s (fnOf name qual params body scope dV kV doc pm an cdv ct) args binds) (hkind : (binds.all fun y => scope.names.lookup y.1 == some .local || scope.names.lookup y.1 == some .cell) = true)
    (hnd : ((cellsFrom 0 scope.names []).map (·.1)).Nodup)
    (h : ∀ L' h₁ tk cells, Fr s.heap L' h₁ (bindL (envOfC qual scope L' f cdv).kindOf binds fun _ => none) → News s.heap L' h₁ cells →
      CellsAre (bindC (envOfC qual scope L' f cdv).kindOf binds fun _ => none) (cellsFrom (L' + 1) scope.names []) cells → Kp s.heap h₁ →
      wpAny (model prog w) (A.deeper (envOfC qual scope L' f cdv)) (execs body (envOfC qual scope L' f cdv))
        (fun fl s' => R (.ok (.ret (match fl with | .ret v => v | _ => .none))) s')
        (fun e s' => wpAny (model prog w) (A.deeper (envOfC qual scope L' f cdv)) (leaving (envOfC qual scope L' f cdv) e) (fun _ s'' => R (.error e) s'') (fun e' s'' => R (.error e') s'') s')
        { s with heap := h₁, toks := tk })
    (hco : scope.isCoroutine = false) (hgen : scope.isGenerator = false) (hk : scope.kind = .function) : codeAny (model prog w) A (.call (.ref f) args) R s := by
  refine codeAny_call_function hroom (X _ _ ho) rfl hco hgen rfl (codeRec_of X hcd) (hbind _ _ _ _ ?_)
  refine wpAny_newFunctionEnv_cells hk (kindsX hkind _) fun env' he s' x => ?_
  subst he
  refine ⟨T.nolimit.keeps x.toInCall.keep, codeAny_func ?_⟩
  obtain ⟨h₁, tk, rfl, _⟩ := x.done
  have hk₁ := x.toInCall.keep
  obtain ⟨cells, NC, Y⟩ := Cl.news (h₀ := s.heap) (Nat.le_refl _) fun n c hm => ⟨x.cell n c (lookup_of_mem_nodup (cellsFrom_names scope.names 0 (s.heap.objs.size + 1) [] [] rfl ▸ hnd) hm), x.above n c hm⟩
  exact h s.heap.objs.size h₁ tk cells ⟨x.toInCall.ns, hk₁, Nat.le_refl _⟩ NC Y hk₁
open PyProof.Rows.LCg PyProof.Rows.LCt in
theorem comp_strT {prog : Program} {w : World} {A : Around} {E : Value → Shared → Prop} {s : Shared} {h₀ : Heap} {L : Addr} {m : Str → Option Value} {env : Env}
    {ct elt iter : PySem.Expr} {x : Str} {px : Pos} {scope : Scope} {cl : List (Str × Addr)} {pos : Pos} {Q : Value → Shared → Prop} (news : List (Addr × Obj))
    (hclos : closureFor scope env = pure cl) (hcell : ∀ y ∈ scope.names, y.2 ≠ .cell) (hkind : scope.kind = .function)
    (hnames : ∀ y ∈ scope.names, y.2 = .local → scope.names.lookup y.1 = some .local) (hx : scope.names.lookup x = some .local)
    (h : wpAny (model prog w) A (eval iter env) (fun xv s₁ => ∃ y t, xv = .str y t ∧ A.handled = none ∧ Fr h₀ L s₁.heap m ∧ News h₀ L s₁.heap news ∧ y.cps.size ≤ sizeLine ∧
      ∀ s₂ : Shared, (∃ h, s₂ = { s₁ with heap := h }) → CompRestT prog w A h₀ L m env ct elt x scope cl s₂ (fun _ => True) (SignAt y) (FinE h₀ L m s₂ Q) y.cps.size 0 [] news) E s)
    (hs : ∀ x, foldedSetIterable iter env x = pure x) :
    wpAny (model prog w) A (eval (.ListComp elt [⟨.Name x px, iter, [ct], 0⟩] scope pos) env) Q E s := by
  rw [eval_ListComp]
  refine wpAny_comprehension_free (use := none) rfl hs hclos hkind hnames (wpAny_mono h (fun xv s₁ h₁ => ?_) fun _ _ e => e)
  obtain ⟨y, t, rfl, hh, F, N, hsz, R⟩ := h₁
  refine wpAny_pyIter_strU ?_
  have up : ∀ b o, s₁.heap.get? b = some o → (s₁.heap.push { cls := .type (strIterType y), data := .fields #[.str y t, .int 0 0] }).get? b = some o := fun b o e => Heap.get?_push_of_some _ e
  have W : Walks prog w A s₁.heap.objs.size [s₁.heap.objs.size] [s₁.heap.objs.size] y.cps.size (SignAt y) (fun i h => h.IsStrIter s₁.heap.objs.size (strIterType y) y t i) := by
    unfold strIterType
    split
    · exact Walks.strAscii hh _ _ _
    · exact Walks.strWide hh _ _ _
  refine block_T W hsz (fun i h st => by obtain ⟨o, e, _⟩ := st; exact ⟨o, e⟩) strit_st hcell hkind hx ⟨_, Heap.get?_push_size _ rfl, rfl, rfl⟩ (fun b hb => ?_)
      (F.keeps up) (N.grown up) (Nat.ne_of_lt F.ns.lt) (next_is_new F) (fun p hp => Nat.ne_of_lt (Heap.lt_size (N p hp).1)) trivial (R _ ⟨_, rfl⟩) ?_
  · rw [List.mem_singleton.mp hb]
    show s₁.heap.objs.size < (s₁.heap.push _).objs.size
    rw [Heap.size_push]; exact Nat.lt_succ_self _
  · intro D C h tk m' ys news' F' N' o1 hn hC₀ hD₀ hCL hDL hCD offC fin
    refine ⟨m', hn, fun h'' hs'' => fin D h'' tk (F'.change hs'' hCL hC₀) (fun p hp => ?_) o1⟩
    refine ⟨hs''.extBut _ _ ?_ (N' p hp).1, (N' p hp).2⟩
    rcases List.mem_cons.mp hp with rfl | hp
    · exact Ne.symm hCD
    · exact offC p hp
open PyProof.Rows.LCg PyProof.Rows.LCt in
/-- the signs that pass a test -/
theorem rest_filter {prog : Program} {w : World} {A : Around} {h₀ : Heap} {L : Addr} {m : Str → Option Value} {env : Env} {ct elt : PySem.Expr} {x : Str} {scope : Scope} {cl : List (Str × Addr)} {s : Shared} {Q : Value → Shared → Prop} {y : Str} (f : Nat → Bool) {news : List (Addr × Obj)}
    (test : ∀ C m₂ c t (s' : Shared) (Q' : Bool → Shared → Prop) (E' : Value → Shared → Prop), c ∈ y.cps.toList → s'.heap.Ns C m₂ → m₂ x = some (.str ⟨#[c]⟩ t) → Fr h₀ L s'.heap m → News h₀ L s'.heap news → (∀ h' tk', Kp s'.heap h' → Q' (f c) { s' with heap := h', toks := tk' }) → wpAny (model prog w) A (isTrue ct (compEnvC scope cl C env) (eval ct (compEnvC scope cl C env))) Q' E' s')
    (elem : ∀ C m₂ c t (s' : Shared) (Q' E' : Value → Shared → Prop), c ∈ y.cps.toList → s'.heap.Ns C m₂ → m₂ x = some (.str ⟨#[c]⟩ t) → Fr h₀ L s'.heap m → (∀ t' h' tk', Kp s'.heap h' → Q' (.str ⟨#[c]⟩ t') { s' with heap := h', toks := tk' }) → wpAny (model prog w) A (eval elt (compEnvC scope cl C env)) Q' E' s')
    (hQ : ∀ D h tk ys, Fr h₀ L h m → News h₀ L h ((D, lst ys) :: news) → CharsAre ys (y.cps.toList.filter f) → Q (.ref D) { s with heap := h, toks := tk }) :
    ∀ (k i : Nat) (ys : List Value), i + k = y.cps.size → CharsAre ys ((y.cps.toList.take i).filter f) → CompRestT prog w A h₀ L m env ct elt x scope cl s (fun _ => True) (SignAt y) (FinE h₀ L m s Q) k i ys news := by
  intro k
  induction k with
  | zero =>
    intro i ys hi hc D h tk F N _
    rw [List.take_of_length_le (by rw [Array.length_toList]; omega)] at hc
    exact hQ D h tk ys F N hc
  | succ k ih =>
    intro i ys hi hc
    refine CompRestT.succ fun v I oI C oC D m₂ h tk E' hv hC hm F N off hne => ?_
    obtain ⟨c, u, hcu, rfl⟩ := hv
    have hmem : c ∈ y.cps.toList := by
      obtain ⟨h1, h2⟩ := Array.getElem?_eq_some_iff.mp hcu
      rw [← h2]; exact Array.getElem_mem_toList h1
    have e : y.cps.toList.take (i + 1) = y.cps.toList.take i ++ [c] := by
      rw [List.take_add_one]
      rw [show y.cps.toList[i]? = some c by rw [Array.getElem?_toList]; exact hcu]
      rfl
    have hCm : (C, oC) ∈ (I, oI) :: (C, oC) :: (D, lst ys) :: news := List.mem_cons_of_mem _ List.mem_cons_self
    refine test C m₂ c u _ _ _ hmem (hC.ns (N.get hCm)) hm F (fun p hp => N p (List.mem_cons_of_mem _ (List.mem_cons_of_mem _ (List.mem_cons_of_mem _ hp)))) fun h1 tk1 k1 => ?_
    have F1 := F.keeps k1
    have N1 := N.grown k1
    cases hf : f c
    · rw [if_neg (by decide)]
      refine CompEnd.intro F1 N1 news (fun p hp => hp) off trivial ?_
      refine ih (i + 1) _ (by omega) ?_
      rw [e, List.filter_append, List.filter_cons_of_neg (by rw [hf]; decide), List.filter_nil, List.append_nil]
      exact hc
    · rw [if_pos rfl]
      refine elem C m₂ c u _ _ _ hmem (hC.ns (N1.get hCm)) hm F1 fun t' h' tk' kk => ?_
      refine CompEnd.intro (F1.keeps kk) (N1.grown kk) news (fun p hp => hp) off trivial ?_
      refine ih (i + 1) _ (by omega) ?_
      rw [e, List.filter_append, List.filter_cons_of_pos hf, List.filter_nil]
      exact hc.snoc
theorem fr_congr0 {h₀ h : Heap} {L : Addr} {m m' : Str → Option Value} (F : Fr h₀ L h m) (e : ∀ y, m y = m' y) : Fr h₀ L h m' := (funext e : m = m') ▸ F
noncomputable abbrev rowS : Str := Str.ofString "abcdefghijklmnopqrstuvwxyzABCDEFGHIJKLMNOPQRSTUVWXYZ0123456789_@%+=:,./-"
noncomputable def isRow (c : Nat) : Bool := rowS.cps.toList.contains c
theorem isRow_eq (c : Nat) : (!(Builtin.Str.occurrences rowS ⟨#[c]⟩ 0 rowS.length 1).isEmpty) = isRow c := by
  refine (PySem.StrLaws.found_one rowS c).trans ?_
  unfold isRow
  cases h : rowS.cps.toList.contains c
  · exact decide_eq_false (by simpa using h)
  · exact decide_eq_true (by simpa using h)
theorem CharsAre.len : ∀ {vs : List Value} {cs : List Nat}, CharsAre vs cs → vs.length = cs.length
  | [], [], _ => rfl
  | _ :: _, _ :: _, h => by rw [List.length_cons, List.length_cons, CharsAre.len h.2]
/-- a word that no quotes must hold -/
noncomputable def safeL (l : List Nat) : Bool := !l.isEmpty && l.all isRow
theorem safe_of {l : List Nat} {ys : List Value} (h0 : l ≠ []) (h : CharsAre ys (l.filter fun c => !(isRow c))) : (!(!ys.toArray.isEmpty)) = safeL l := by
  have e1 : ys.toArray.isEmpty = (l.filter fun c => !(isRow c)).isEmpty := by
    have := h.len
    cases ys with
    | nil => cases hq : l.filter fun c => !(isRow c) with
      | nil => rfl
      | cons a b => rw [hq] at this; simp at this
    | cons a b => cases hq : l.filter fun c => !(isRow c) with
      | nil => rw [hq] at this; simp at this
      | cons a b => simp
  have e2 : (l.filter fun c => !(isRow c)).isEmpty = l.all isRow := by
    rw [Bool.eq_iff_iff, List.isEmpty_iff, List.filter_eq_nil_iff, List.all_eq_true]
    simp
  rw [Bool.not_not, e1, e2]
  unfold safeL
  cases l with
  | nil => exact absurd rfl h0
  | cons a b => rfl
theorem safe_spec0 {prog : Program} {w : World} {A : Around} {E Q : Value → Shared → Prop} {s : Shared} {p : Program} {loose : List Str} {mg mb : Str → Option Value} {x : Str} {t : Tok}
    (X : (Mine.seed.heap_1 w.params).In s.heap) (T : TopRead p loose mg mb s.heap) (hh : A.handled = none) (hd : A.depth + 8 < recursionLimit) (hx : x.length ≤ 1000) (hne : (x != Str.ofString "") = true)
    (ret : ∀ h' tk', Kp s.heap h' → Q (.bool (safeL x.cps.toList)) { s with heap := h', toks := tk' }) :
    wpAny (model prog w) A (call (.ref 799) [.str x t]) Q E s := by
  have hn0 : x.cps.toList ≠ [] := fun q => by
    have e : x = Str.ofString "" := by
      obtain ⟨⟨l⟩⟩ := x
      have : l = [] := q
      subst this; rfl
    rw [e] at hne; exact absurd hne (by decide)
  refine wpAny_call ?_
  k_dflt (refine' code_pureC (binds := [(Str.ofString "word", .str x t)]) X T ?k6 ?k7 ?k8 ?k9 ?kB ?kN ?_ ?c2 ?c3 ?c4; (case k6 => k_is); (case k7 => k_is); (case k8 => omega); (case k9 => exact BindsTo.of_eq rfl); (case kB => exact rfl); (case kN => decide); (case c2 => exact rfl); (case c3 => exact rfl); (case c4 => exact rfl))
  intro L' h' tk cells F' N' Y hk'
  obtain ⟨o', hE', d1'⟩ := CellsAre.one Y
  subst hE'
  clear Y
  have F2 := fr_congr0 F' (m' := fun y => if y = Str.ofString "word" then some (.str x t) else none) (fun y => rfl)
  clear F'
  try dsimp only
  try k_fold
  repeat ((fail_if_success (with_reducible show wpAny _ _ (compareOp CmpOp.NotEq _ _) _ _ _)); first | (k_unfold; (try dsimp only)) | walk1 | (dsimp only; walk1))
  walk1
  rw [hne]
  try k_fold
  repeat ((fail_if_success (with_reducible show wpAny _ _ (eval (PySem.Expr.ListComp _ _ _ _) _) _ _ _)); first | (k_unfold; (try dsimp only)) | walk1 | (dsimp only; walk1))
  rename Fr s.heap L' _ _ => F3
  rename News s.heap L' _ _ => N3
  rename Obj => o9
  rename o9.data = _ => d9
  k_dflt (refine' comp_strT (cl := [(Str.ofString "row", L' + 1)]) (m := (fun y => if y = Str.ofString "word" then some (Value.str x t) else none)) (h₀ := s.heap) (L := L') [(L' + 1, o9)] ?k1 ?k2 ?k3 ?k4 ?k5 ?_ ?k6)
  case k1 => exact rfl
  case k2 => decide
  case k3 => exact rfl
  case k4 => decide
  case k5 => exact rfl
  case k6 => intro _; exact rfl
  try k_fold
  repeat ((fail_if_success (with_reducible show Exists _)); first | (k_unfold; (try dsimp only)) | walk1 | (dsimp only; walk1))
  refine ⟨x, t, rfl, hh, F3, N3, by show x.length ≤ 2 ^ 24; omega, ?_⟩
  rintro s₂ ⟨g, rfl⟩
  refine rest_filter (fun c => !(isRow c)) ?_ ?_ ?_ _ 0 [] (by simp) trivial
  · intro C m₂ c t2 s' Q' E' hc hN hm F4 N4 hq
    repeat (first | walk1 | (dsimp only; walk1))
    have hr := isRow_eq c
    rw [show (!(Builtin.Str.occurrences (Str.ofString "abcdefghijklmnopqrstuvwxyzABCDEFGHIJKLMNOPQRSTUVWXYZ0123456789_@%+=:,./-") ⟨#[c]⟩ 0 (Str.ofString "abcdefghijklmnopqrstuvwxyzABCDEFGHIJKLMNOPQRSTUVWXYZ0123456789_@%+=:,./-").length 1).isEmpty) = isRow c from hr]
    exact hq s'.heap s'.toks (fun _ _ e => e)
  · intro C m₂ c t2 s' Q' E' hc hN hm F4 hq
    repeat (first | walk1 | (dsimp only; walk1))
    exact hq t2 s'.heap s'.toks (fun _ _ e => e)
  · intro D h tk ys F4 N4 hC
    try k_fold
    repeat ((fail_if_success (with_reducible show wpAny _ _ (truthy (Value.ref _)) _ _ _)); first | (k_unfold; (try dsimp only)) | walk1 | (dsimp only; walk1))
    have hl := hC.len
    have hl2 := List.length_filter_le (fun c => !(isRow c)) x.cps.toList
    have hl4 : x.cps.toList.length = x.cps.size := Array.length_toList
    have hl3 : x.cps.size ≤ 1000 := hx
    refine wpAny_truthy_list (News.isList N4 List.mem_cons_self) (by show (ys.length : Int) < _; omega) ?_
    k_steps
    all_goals (try dsimp only)
    all_goals (try k_steps)
    all_goals rw [safe_of hn0 hC]
    all_goals exact ret _ _ (Fr.keep (by assumption))
theorem safe_spec1 {prog : Program} {w : World} {A : Around} {E Q : Value → Shared → Prop} {s : Shared} {p : Program} {loose : List Str} {mg mb : Str → Option Value} {t : Tok}
    (X : (Mine.seed.heap_1 w.params).In s.heap) (T : TopRead p loose mg mb s.heap) (hd : A.depth + 8 < recursionLimit)
    (ret : ∀ h' tk', Kp s.heap h' → Q (.bool false) { s with heap := h', toks := tk' }) :
    wpAny (model prog w) A (call (.ref 799) [.str (Str.ofString "") t]) Q E s := by
  refine wpAny_call ?_
  k_dflt (refine' code_pureC (binds := [(Str.ofString "word", .str (Str.ofString "") t)]) X T ?k6 ?k7 ?k8 ?k9 ?kB ?kN ?_ ?c2 ?c3 ?c4; (case k6 => k_is); (case k7 => k_is); (case k8 => omega); (case k9 => exact BindsTo.of_eq rfl); (case kB => exact rfl); (case kN => decide); (case c2 => exact rfl); (case c3 => exact rfl); (case c4 => exact rfl))
  intro L' h' tk cells F' N' Y hk'
  obtain ⟨o', hE', d1'⟩ := CellsAre.one Y
  subst hE'
  clear Y
  have F2 := fr_congr0 F' (m' := fun y => if y = Str.ofString "word" then some (.str (Str.ofString "") t) else none) (fun y => rfl)
  clear F'
  try dsimp only
  try k_fold
  k_steps
  all_goals (try dsimp only)
  all_goals (try k_steps)
  all_goals exact ret _ _ (Fr.keep (by assumption))
theorem safe_spec {prog : Program} {w : World} {A : Around} {E Q : Value → Shared → Prop} {s : Shared} {p : Program} {loose : List Str} {mg mb : Str → Option Value} {x : Str} {t : Tok}
    (X : (Mine.seed.heap_1 w.params).In s.heap) (T : TopRead p loose mg mb s.heap) (hh : A.handled = none) (hd : A.depth + 8 < recursionLimit) (hx : x.length ≤ 1000)
    (ret : ∀ h' tk', Kp s.heap h' → Q (.bool (safeL x.cps.toList)) { s with heap := h', toks := tk' }) :
    wpAny (model prog w) A (call (.ref 799) [.str x t]) Q E s := by
  cases hne : (x != Str.ofString "")
  · have e : x = Str.ofString "" := by simpa using hne
    subst e
    exact safe_spec1 X T hd ret
  · exact safe_spec0 X T hh hd hx hne ret
end
section
open PySem PySem.W PyProof.Rows PySem.Calls
set_option maxRecDepth 100000
set_option maxHeartbeats 8000000
section
variable {prog : Program} {w : World} {A : Around} {E : Value → Shared → Prop} {s : Shared} {env : Env} {h₀ : Heap} {target : PySem.Expr} {body : List Stmt} {Q : Flow → Shared → Prop}
noncomputable def signItems (l : List Nat) : List Itm := l.map fun c => Itm.tok (fun t => .str ⟨#[c]⟩ t)
theorem it_str {y : Str} {py : Pos} {x : Str} {t : Tok} {m₀ : Str → Option Value} {news : List (Addr × Obj)}
    (hh : A.handled = none) (F : Fr h₀ env.locals s.heap m₀) (N : News h₀ env.locals s.heap news)
    (rest₀ : ∀ I : Addr, (∀ p ∈ news, p.1 < I) → ItemsRest prog w A E h₀ env (.Name y py) body Q s [(I, strIterType x)] [] (signItems x.cps.toList) m₀ news) :
    wpAny (model prog w) A (pyIter (.str x t)) (fun it s₂ => TurnsAt prog w A h₀ env (.Name y py) body Q E it s₂) E s := by
  refine wpAny_pyIter_strU ?_
  have W : Walks prog w A s.heap.objs.size [s.heap.objs.size] [s.heap.objs.size] x.cps.size (SignAt x) (fun i h => h.IsStrIter s.heap.objs.size (strIterType x) x t i) := by
    unfold strIterType
    split
    · exact Walks.strAscii hh _ _ _
    · exact Walks.strWide hh _ _ _
  refine ktg_core (tk0 := s.toks) (keep := []) (KTurns.ofWalks W fun i v s Q E st q => by unfold letOwnedTupleGo; exact wpAny_pure q) (by simp [signItems]) (fun i v h hp => ?_) (fun i h st => ?_) (fun b hb => ?_) (fun b hb => by simpa using hb) (fun b hb => ?_) ?_ (fun p hp hI => ?_) ?_ (F.push _) (fun p hp => ⟨Heap.get?_push_of_some _ (N p hp).1, (N p hp).2⟩) trivial (rest₀ _ fun p hp => Heap.lt_size (N p hp).1)
  · obtain ⟨c, u, hc, rfl⟩ := hp
    refine ⟨.tok (fun t => .str ⟨#[c]⟩ t), ?_, u, rfl⟩
    unfold signItems
    rw [List.getElem?_map, Array.getElem?_toList, hc]; rfl
  · obtain ⟨o, ho, hc, _⟩ := st
    exact ⟨[(s.heap.objs.size, o)], ⟨⟨rfl, hc⟩, trivial⟩, fun p hp => by rw [List.mem_singleton.mp hp]; exact ho⟩
  · have hb' : b = s.heap.objs.size := by simpa using hb
    rw [hb']
    exact ⟨List.mem_cons_self .., next_is_new F⟩
  · exact .inl (by simpa using hb)
  · intro hI
    have e : env.locals = s.heap.objs.size := List.mem_singleton.mp hI
    exact absurd F.ns.lt (e ▸ Nat.lt_irrefl _)
  · exact absurd (Heap.lt_size (N p hp).1) ((List.mem_singleton.mp hI) ▸ Nat.lt_irrefl _)
  · exact ⟨_, Heap.get?_push_size _ rfl, rfl, rfl⟩
noncomputable def rangeItems (n : Nat) : List Itm := (List.range n).map fun (i : Nat) => Itm.tok (fun t => .int (i : Int) t)
theorem it_range {y : Str} {py : Pos} {r : Addr} {n : Nat} {t u v : Tok} {m₀ : Str → Option Value} {news : List (Addr × Obj)}
    (hh : A.handled = none) (F : Fr h₀ env.locals s.heap m₀) (N : News h₀ env.locals s.heap news) (hr : IsRange s.heap r 0 (n : Int) 1 t u v) (hsm : Builtin.Range.small 0 (n : Int) 1 = true) (hsz : Builtin.Range.rangeSize 0 (n : Int) 1 = n)
    (rest₀ : ∀ I : Addr, (∀ p ∈ news, p.1 < I) → ItemsRest prog w A E h₀ env (.Name y py) body Q s [(I, "range_iterator")] [] (rangeItems n) m₀ news) :
    wpAny (model prog w) A (pyIter (.ref r)) (fun it s₂ => TurnsAt prog w A h₀ env (.Name y py) body Q E it s₂) E s := by
  refine wpAny_pyIter_range hr hsm ?_
  have W0 := Walks.range (prog := prog) (w := w) hh s.heap.objs.size 0 1 n
  have W : Walks prog w A s.heap.objs.size [s.heap.objs.size] [s.heap.objs.size] n (fun i v => i < n ∧ ∃ t, v = .int (0 + i * 1) t) (fun i h => IsRangeIter h s.heap.objs.size (0 + (i : Nat) * 1) ((n : Int) - (i : Nat)) 1) :=
    { W0 with item := fun i s Q E hi st hQ => W0.item i s Q E hi st fun v h' tk hP => hQ v h' tk ⟨hi, hP⟩ }
  refine ktg_core (tk0 := s.toks) (keep := []) (KTurns.ofWalks W fun i v s Q E st q => by unfold letOwnedTupleGo; exact wpAny_pure q) (by simp [rangeItems]) (fun i v h hp => ?_) (fun i h st => ?_) (fun b hb => ?_) (fun b hb => by simpa using hb) (fun b hb => ?_) ?_ (fun p hp hI => ?_) ?_ (F.push _) (fun p hp => ⟨Heap.get?_push_of_some _ (N p hp).1, (N p hp).2⟩) trivial (rest₀ _ fun p hp => Heap.lt_size (N p hp).1)
  · obtain ⟨hi, t, rfl⟩ := hp
    refine ⟨.tok (fun t => .int (i : Int) t), ?_, t, ?_⟩
    · unfold rangeItems
      rw [List.getElem?_map, List.getElem?_range hi]; rfl
    · show Value.int (0 + (i : Int) * 1) t = Value.int (i : Int) t
      rw [Int.zero_add, Int.mul_one]
  · exact ⟨[(s.heap.objs.size, _)], ⟨⟨rfl, rfl⟩, trivial⟩, fun p hp => by rw [List.mem_singleton.mp hp]; exact st⟩
  · have hb' : b = s.heap.objs.size := by simpa using hb
    rw [hb']
    exact ⟨List.mem_cons_self .., next_is_new F⟩
  · exact .inl (by simpa using hb)
  · intro hI
    have e : env.locals = s.heap.objs.size := List.mem_singleton.mp hI
    exact absurd F.ns.lt (e ▸ Nat.lt_irrefl _)
  · exact absurd (Heap.lt_size (N p hp).1) ((List.mem_singleton.mp hI) ▸ Nat.lt_irrefl _)
  · rw [hsz]
    have q : IsRangeIter (s.heap.push { cls := .type "range_iterator", data := .fields #[rawInt 0, rawInt (n : Int), rawInt 1] }) s.heap.objs.size 0 (n : Int) 1 := Heap.get?_push_size _ rfl
    simpa using q
theorem it_enum {elts : List PySem.Expr} {k : Nat} {pos : Pos} {l : Addr} {vs : List Value} {m₀ : Str → Option Value} {news : List (Addr × Obj)}
    (hh : A.handled = none) (F : Fr h₀ env.locals s.heap m₀) (N : News h₀ env.locals s.heap news) (hl₀ : h₀.IsList l vs.toArray)
    (rest₀ : ∀ I : Addr, (∀ p ∈ news, p.1 < I) → ItemsRest prog w A E h₀ env (.Tuple elts k pos) body Q s [(I + 1, "enumerate"), (I, "list_iterator")] [] (enumItems 0 vs) m₀ news) :
    wpAny (model prog w) A (call (.type "enumerate") [.ref l]) (fun xv s₁ => wpAny (model prog w) A (pyIter xv) (fun it s₂ => TurnsAt prog w A h₀ env (.Tuple elts k pos) body Q E it s₂) E s₁) E s := by
  have hl : s.heap.IsList l vs.toArray := F.lst hl₀
  obtain ⟨lo, hlo, _⟩ := id hl₀
  have hlt : l < s.heap.objs.size := Heap.lt_size (F.keep _ _ hlo)
  have hLs : env.locals < s.heap.objs.size := F.ns.lt
  refine call_enumerate_list hl fun h' hE hI hsz hk => ?_
  refine wpAny_pyIter_enum hE ?_
  refine ktg_core (tk0 := s.toks) (keep := []) (KTurns.ofWalksU (WalksT.enumerate hh (s.heap.objs.size + 1) s.heap.objs.size l (Nat.succ_ne_self _) (ktu_ne 1 hlt) (Nat.ne_of_lt hlt) vs.toArray).toU) (by simp [enumItems_length]) ?_ ?_ ?_ ?_ ?_ ?_ ?_ ?_ (F.keeps hk) (N.grown hk) trivial (rest₀ _ fun p hp => Heap.lt_size (N p hp).1)
  · rintro i v h ⟨T, vals, rfl, ⟨t, x, hx, rfl⟩, hT⟩
    refine ⟨_, enumItems_get vs 0 i (v := x) (by simpa using hx), T, t, rfl, ?_⟩
    show IsTup h T #[.int ((0 + i : Nat) : Int) t, x]
    rw [Nat.zero_add]
    exact hT
  · rintro i h ⟨⟨old, he⟩, ⟨oi, hoi, hic, _⟩, _⟩
    have he' : ∃ oe : Obj, h.get? (s.heap.objs.size + 1) = some oe ∧ oe.cls = .type "enumerate" := ⟨_, he, rfl⟩
    obtain ⟨oe, h1, h2⟩ := he'
    refine ⟨[(s.heap.objs.size + 1, oe), (s.heap.objs.size, oi)], ⟨⟨rfl, h2⟩, ⟨rfl, hic⟩, trivial⟩, fun p hp => ?_⟩
    rcases List.mem_cons.mp hp with rfl | hp
    · exact h1
    · rw [List.mem_singleton.mp hp]; exact hoi
  · intro b hb
    have hb' : b = s.heap.objs.size + 1 ∨ b = s.heap.objs.size := by simpa using hb
    rcases hb' with rfl | rfl
    · exact ⟨by simp, ktu_new F (Nat.le_add_right _ _)⟩
    · exact ⟨by simp, ktu_new F (Nat.le_refl _)⟩
  · intro b hb
    simpa using hb
  · intro b hb
    have hb' : b = s.heap.objs.size + 1 ∨ b = s.heap.objs.size ∨ b = l := by simpa using hb
    rcases hb' with rfl | rfl | rfl
    · exact .inl (by simp)
    · exact .inl (by simp)
    · exact .inr (.inr ⟨lo, hlo⟩)
  · intro hI'
    have hb' : env.locals = s.heap.objs.size + 1 ∨ env.locals = s.heap.objs.size ∨ env.locals = l := by simpa using hI'
    rcases hb' with e | e | e
    · exact ktu_ne 1 hLs e
    · exact Nat.ne_of_lt hLs e
    · exact absurd (Heap.lt_size hlo) (Nat.not_lt.mpr (e ▸ F.above))
  · intro p hp hI'
    have hb' : p.1 = s.heap.objs.size + 1 ∨ p.1 = s.heap.objs.size := by simpa using hI'
    have hlp := Heap.lt_size (N p hp).1
    rcases hb' with e | e
    · exact ktu_ne 1 hlp e
    · exact Nat.ne_of_lt hlp e
  · exact ⟨⟨.none, hE⟩, hI, hl.at fun o e => hk l o e⟩
theorem UnrPostW.mono {L : Addr} {s₁ s₂ : Shared} {its : List (Addr × Obj)} {rest rest' : (Str → Option Value) → List (Addr × Obj) → Prop} {f : Flow} (h : UnrPostW h₀ L s₁ its rest Q f s₂) (hr : ∀ m n, rest m n → rest' m n) : UnrPostW h₀ L s₁ its rest' Q f s₂ := by
  cases f with
  | ret v => exact h
  | brk => exact h
  | next => obtain ⟨h', tk, m', news', e, F', N', ho, r⟩ := h; exact ⟨h', tk, m', news', e, F', N', ho, hr _ _ r⟩
  | cont => obtain ⟨h', tk, m', news', e, F', N', ho, r⟩ := h; exact ⟨h', tk, m', news', e, F', N', ho, hr _ _ r⟩
theorem AllObj.mono : ∀ {ws : List (Addr × String)} {k k' : List (Addr × Obj) → Prop}, AllObj ws k → (∀ its, k its → k' its) → AllObj ws k'
  | [], _, _, h, hk => hk _ h
  | _ :: _, _, _, h, hk => fun o ho => AllObj.mono (h o ho) fun its x => hk _ x
theorem rest_ind {ws : List (Addr × String)} {keep : List (Addr × Obj)} (J : List Itm → (Str → Option Value) → List (Addr × Obj) → Prop)
    (done : ∀ m news h tk, J [] m news → Fr h₀ env.locals h m → News h₀ env.locals h news → Q .next { s with heap := h, toks := tk })
    (turn : ∀ a r m news v h tk, J (a :: r) m news → a.Is v h → Fr h₀ env.locals h m → AllObj ws (fun its => News h₀ env.locals h (its ++ news) →
      wpAny (model prog w) A (assign target env v) (fun _ s₂ => wpAny (model prog w) A (execs body env) (UnrPostW h₀ env.locals { s with heap := h, toks := tk } its (fun m' n' => SubL keep n' ∧ J r m' n') Q) E s₂) E { s with heap := h, toks := tk })) :
    ∀ (items : List Itm) (m : Str → Option Value) (news : List (Addr × Obj)), J items m news → ItemsRest prog w A E h₀ env target body Q s ws keep items m news
  | [], m, news, hJ => fun h tk F N => done m news h tk hJ F N
  | a :: r, m, news, hJ => fun v h tk ha F => AllObj.mono (turn a r m news v h tk hJ ha F) fun its x N =>
      wpAny_mono (x N) (fun _ s₂ h₂ => wpAny_mono h₂ (fun f s₃ h₃ => UnrPostW.mono h₃ fun m' n' z => ⟨z.1, rest_ind J done turn r m' n' z.2⟩) fun _ _ e => e) fun _ _ e => e
theorem news_set {L : Addr} {h h' : Heap} {lw : Addr} {o o' : Obj} {rest news : List (Addr × Obj)} (N : News h₀ L h news) (hm : (lw, o) ∈ news) (hs : Heap.SameBut lw h h') (ho' : h'.get? lw = some o') (hr : ∀ p ∈ rest, p ∈ news ∧ p.1 ≠ lw) : News h₀ L h' ((lw, o') :: rest) := fun p hp => by
  rcases List.mem_cons.mp hp with rfl | hp
  · exact ⟨ho', (N _ hm).2⟩
  · have := N p (hr p hp).1
    exact ⟨(hs.2 _ (hr p hp).2).trans this.1, this.2⟩
/-- a list and no more -/
noncomputable def LO (o : Obj) (us : List Value) : Prop := o.cls = .type "list" ∧ o.dict = none ∧ ∃ n, o.data = .seq us.toArray n
theorem LO.listOf (us : List Value) (n : Nat) : LO (W.listOf us.toArray n) us := ⟨rfl, rfl, n, rfl⟩
theorem LO.isList {h : Heap} {a : Addr} {o : Obj} {us : List Value} (x : LO o us) (ho : h.get? a = some o) : h.IsList a us.toArray := ⟨o, ho, x.1, x.2.2⟩
theorem meth_append_news {L : Addr} {lw : Addr} {o : Obj} {us : List Value} {pl : Sem Bool} {news : List (Addr × Obj)} {Q : Value × List Value → Shared → Prop}
    (N : News h₀ L s.heap news) (hm : (lw, o) ∈ news) (hl : LO o us) (h : Q (.builtin "list.append", [.ref lw]) s) : wpAny (model prog w) A (getMethod (.ref lw) (Str.ofString "append") pl) Q E s :=
  getMethod_list_append (N _ hm).1 hl.1 hl.2.1 h
theorem append_news {L : Addr} {m : Str → Option Value} {lw : Addr} {o : Obj} {us : List Value} {x : Value} {rest news : List (Addr × Obj)} {Q : Value → Shared → Prop}
    (F : Fr h₀ L s.heap m) (N : News h₀ L s.heap news) (hm : (lw, o) ∈ news) (hl : LO o us) (hsz : us.length ≤ 100000) (hr : ∀ p ∈ rest, p ∈ news ∧ p.1 ≠ lw)
    (h : ∀ h' o', Fr h₀ L h' m → News h₀ L h' ((lw, o') :: rest) → LO o' (us ++ [x]) → Q .none { s with heap := h' }) :
    wpAny (model prog w) A (call (.builtin "list.append") [.ref lw, x]) Q E s := by
  have z := N _ hm
  obtain ⟨hc, hdn, n, hd⟩ := hl
  refine list_append_plainL (hsz := by rw [List.size_toArray]; exact Nat.le_trans hsz (by decide)) (⟨o, n, z.1, hc, hdn, hd⟩ : PlainL s.heap lw us.toArray) fun h' hl' hs' => ?_
  obtain ⟨o', n', ho', hc', hdn', hd'⟩ := hl'
  exact h h' o' (F.change hs' z.2.1 z.2.2) (news_set N hm hs' ho' hr) ⟨hc', hdn', n', by rw [hd']; simp⟩
theorem wpAny_setItem_last {l : Addr} {items : Array Value} {t : Tok} {v : Value} {Q : Unit → Shared → Prop} (hlp : PlainL s.heap l items) (hn : 0 < items.size)
    (hQ : ∀ h', PlainL h' l (items.setIfInBounds (items.size - 1) v) → Heap.SameBut l s.heap h' → Q () { s with heap := h' }) :
    wpAny (model prog w) A (setItem (.ref l) (.int (-1) t) v) Q E s := by
  have hl := hlp.isList
  obtain ⟨o, ne, ho, hc, hdn, hd⟩ := id hlp
  unfold setItem
  try with_reducible refine wpAny_holding ?_
  first | refine wpAny_bind (wpAny_pure ?_) | skip
  refine wpAny_bind (wpAny_sequenceKey hl.typeIs (by decide) ?_)
  refine wpAny_bind (wpAny_callSpecial?_slot (name := Str.ofString "__setitem__") hl.typeIs slot_list_setitem
    (wpAny_call_entry slot_list_setitem hl.typeIs entry_list_setitem ?_ (args_list_setitem _ _ _)))
  show wpAny _ _ (Builtin.List.listSubscript? (.int (-1) t) >>= _) _ _ s
  refine wpAny_bind (wpAny_listSubscript_int (fitsIndex_neg (by decide) (by decide)) ?_)
  have hidx := seqIndex_neg (k := -1) (n := items.size) (by decide) (by omega)
  have hj : items.size - 1 < items.size := by omega
  have hx' : items[items.size - 1]? = some items[items.size - 1] := Array.getElem?_eq_getElem hj
  have hidx' : seqIndex? (Int.negSucc 0) items.size = some (items.size - 1) := by
    rw [show Int.negSucc 0 = (-1 : Int) from rfl, hidx]; congr 1; omega
  show wpAny _ _ ((Builtin.List.listItems (.ref l) >>= fun xs => pure ((seqIndex? (Int.negSucc 0) xs.size).bind fun i => xs[i]?.map (i, ·))) >>= _) _ _ s
  refine wpAny_bind (wpAny_bind ?_)
  show wpAny _ _ (seqItems? (.ref l) >>= _) _ _ s
  refine wpAny_bind (wpAny_seqItems ho hd (wpAny_pure (wpAny_pure ?_)))
  rw [hidx']
  simp only [Option.bind_some, hx', Option.map_some]
  show wpAny _ _ (setSeqItemAt l (items.size - 1) v >>= _) _ _ s
  obtain ⟨n', hd'⟩ := Obj.data_mapSeq hd (·.setIfInBounds (items.size - 1) v)
  have hfin : PlainL (s.heap.update l (Obj.mapSeq (·.setIfInBounds (items.size - 1) v))) l (items.setIfInBounds (items.size - 1) v) := by
    refine ⟨_, n', Heap.get?_update_self _ ho (Obj.isFreed_of_seq hd'), (Obj.cls_mapSeq ..).trans hc, ?_, hd'⟩
    obtain ⟨c, d, dt, sl⟩ := o
    subst hd
    exact hdn
  refine wpAny_bind (wpAny_setSeqItemAt ho hd ?_)
  first
    | exact wpAny_bind (wpAny_pure (wpAny_pure ⟨.none, rfl, wpAny_pure (hQ _ hfin (Heap.SameBut.update ..))⟩))
    | exact wpAny_pure ⟨.none, rfl, wpAny_pure (hQ _ hfin (Heap.SameBut.update ..))⟩
theorem set_last_news {L : Addr} {m : Str → Option Value} {lw : Addr} {o : Obj} {us : List Value} {u x : Value} {t : Tok} {rest news : List (Addr × Obj)} {Q : Unit → Shared → Prop}
    (F : Fr h₀ L s.heap m) (N : News h₀ L s.heap news) (hm : (lw, o) ∈ news) (hl : LO o (us ++ [u])) (hr : ∀ p ∈ rest, p ∈ news ∧ p.1 ≠ lw)
    (h : ∀ h' o', Fr h₀ L h' m → News h₀ L h' ((lw, o') :: rest) → LO o' (us ++ [x]) → Q () { s with heap := h' }) :
    wpAny (model prog w) A (setItem (.ref lw) (.int (-1) t) x) Q E s := by
  have z := N _ hm
  obtain ⟨hc, hdn, n, hd⟩ := hl
  refine wpAny_setItem_last (⟨o, n, z.1, hc, hdn, hd⟩ : PlainL s.heap lw (us ++ [u]).toArray) (by simp) fun h' hl' hs' => ?_
  obtain ⟨o', n', ho', hc', hdn', hd'⟩ := hl'
  exact h h' o' (F.change hs' z.2.1 z.2.2) (news_set N hm hs' ho' hr) ⟨hc', hdn', n', by rw [hd']; simp⟩
theorem get_last_news {L : Addr} {lw : Addr} {o : Obj} {us : List Value} {u : Value} {t : Tok} {news : List (Addr × Obj)} {Q : Value → Shared → Prop}
    (N : News h₀ L s.heap news) (hm : (lw, o) ∈ news) (hl : LO o (us ++ [u])) (h : Q u s) :
    wpAny (model prog w) A (getItem (.ref lw) (.int (-1) t)) Q E s := by
  have z := N _ hm
  refine wpAny_getItem_list_neg (hl.isList z.1) (by decide) (by simp; omega) (by decide) ?_ h
  have e : (-1 + ((us ++ [u]).toArray.size : Int)).toNat = us.length := by simp; omega
  rw [e]; simp
open Builtin Builtin.List in
theorem list_iadd_call {l b : Addr} {items its2 : Array Value} {Q : Value → Shared → Prop} (hlp : PlainL s.heap l items) (hb : s.heap.IsList b its2) (hne : l ≠ b) (hsz : items.size + its2.size ≤ sizeLine)
    (hQ : ∀ h', PlainL h' l (items ++ its2) → Heap.SameBut l s.heap h' → Q (.ref l) { s with heap := h' }) : wpAny (model prog w) A (call (.builtin "list.__iadd__") [.ref l, .ref b]) Q E s := by
  have hl := hlp.isList
  obtain ⟨o, n, ho, hc, hdn, hd⟩ := id hlp
  obtain ⟨o2, ho2, hc2, n2, hd2⟩ := id hb
  refine wpAny_call_entry F.slot_list_iadd hl.typeIs F.entry_list_iadd ?_ (F.args_list_iadd_2 _ _)
  show wpAny _ A.in1 (Builtin.List.listExtendWith (.ref l) (.ref b) (.ref l)) _ _ _
  unfold Builtin.List.listExtendWith
  refine wpAny_bind (wpAny_typeOf hb.typeIs ?_)
  have h2 : (Value.type "list" == Value.type "list") = true := by decide
  simp only [h2, Bool.or_true, Bool.true_or, if_true]
  unfold Builtin.List.listItems
  refine wpAny_bind (wpAny_bind (wpAny_seqItems ho2 hd2 (wpAny_pure ?_)))
  refine wpAny_bind (wpAny_bind (wpAny_seqItems ho hd (wpAny_pure ?_)))
  have h3 : listTooLong (items.size + its2.size) = false := by
    unfold listTooLong; rw [decide_eq_false_iff_not]; omega
  rw [h3, Bool.and_false, if_neg Bool.false_ne_true]
  obtain ⟨n', hd'⟩ := Obj.data_mapSeq hd (· ++ its2)
  show wpAny _ A.in1 (updateSeq l (· ++ its2) >>= _) _ _ _
  refine wpAny_bind ?_
  refine wpAny_updateSeq ho hd (wpAny_pure ⟨.ref l, rfl, hQ _ ?_ (Heap.SameBut.update ..)⟩) (by omega) (by rw [Array.size_append]; omega)
  refine ⟨_, n', Heap.get?_update_self _ ho (Obj.isFreed_of_seq hd'), (Obj.cls_mapSeq ..).trans hc, ?_, hd'⟩
  obtain ⟨c, d, dt, sl⟩ := o
  subst hd
  exact hdn
theorem iadd_list {l b : Addr} {items its2 : Array Value} {Q : Value → Shared → Prop} (hlp : PlainL s.heap l items) (hb : s.heap.IsList b its2) (hne : l ≠ b) (hsz : items.size + its2.size ≤ sizeLine)
    (hQ : ∀ h', PlainL h' l (items ++ its2) → Heap.SameBut l s.heap h' → Q (.ref l) { s with heap := h' }) : wpAny (model prog w) A (inplaceOp .Add (.ref l) (.ref b)) Q E s := by
  unfold inplaceOp
  refine wpAny_holding ?_
  have hfi : fillsInplaceSlot (.type "list") "add" (Operator.Add == .Add) = pure false := by
    unfold fillsInplaceSlot
    show (typeLookup (.type "list") (dunderI "add") >>= fun fi => pure (fi.isSome && !isSeqSlot fi)) = pure false
    rw [F.slot_list_iadd.lookup]
    rfl
  have hsi : seqSlot? (.type "list") (dunderI "add") = pure (some (.builtin "list.__iadd__")) := PySem.seqSlot_of F.slot_list_iadd.lookup (by decide +kernel)
  refine wpAny_bind (wpAny_typeOf hlp.isList.typeIs (wpAny_bind (wpAny_of_eq hfi ?_)))
  show wpAny _ A (if false = true then _ else _) Q E s
  rw [if_neg Bool.false_ne_true]
  refine wpAny_bind (binaryOp1_none (nm := "add") hlp.isList.typeIs hb.typeIs noFill_list_add ?_)
  refine wpAny_bind (wpAny_of_eq hsi ?_)
  exact wpAny_bind (wpAny_rule (list_iadd_call hlp hb hne hsz hQ))
theorem iadd_news {L : Addr} {m : Str → Option Value} {lw b : Addr} {o ob : Obj} {us xs : List Value} {rest news : List (Addr × Obj)} {Q : Value → Shared → Prop}
    (F : Fr h₀ L s.heap m) (N : News h₀ L s.heap news) (hm : (lw, o) ∈ news) (hl : LO o us) (hmb : (b, ob) ∈ news) (hlb : LO ob xs) (hne : lw ≠ b) (hsz : us.length + xs.length ≤ 100000) (hr : ∀ p ∈ rest, p ∈ news ∧ p.1 ≠ lw)
    (h : ∀ h' o', Fr h₀ L h' m → News h₀ L h' ((lw, o') :: rest) → LO o' (us ++ xs) → Q (.ref lw) { s with heap := h' }) :
    wpAny (model prog w) A (inplaceOp .Add (.ref lw) (.ref b)) Q E s := by
  have z := N _ hm
  obtain ⟨hc, hdn, n, hd⟩ := hl
  refine iadd_list (⟨o, n, z.1, hc, hdn, hd⟩ : PlainL s.heap lw us.toArray) (hlb.isList (N _ hmb).1) hne (by rw [List.size_toArray, List.size_toArray]; exact Nat.le_trans hsz (by decide)) fun h' hl' hs' => ?_
  obtain ⟨o', n', ho', hc', hdn', hd'⟩ := hl'
  exact h h' o' (F.change hs' z.2.1 z.2.2) (news_set N hm hs' ho' hr) ⟨hc', hdn', n', by rw [hd']; simp⟩
end
end
section
open PySem PySem.W PyProof.Rows PySem.Calls
set_option maxRecDepth 100000
set_option maxHeartbeats 8000000
/-- the words, one cell more -/
noncomputable def wordStep (ws : List (List Nat)) (i : Int) : List (List Nat) :=
  let n := (i.emod 100000000).toNat
  if n % 6 = 0 then ws ++ [[]] else ws.dropLast ++ [ws.getLastD [] ++ [lawCode (n % 6) (n / 6)]]
noncomputable def words0 : List (List Nat) := [[107], [32, 98, 9, 99]]
theorem fr_eq {h₀ h : Heap} {L : Addr} {m m' : Str → Option Value} (F : Fr h₀ L h m) (e : m = m') : Fr h₀ L h m' := e ▸ F
noncomputable def wordM (l lw : Addr) (x1 x2 : Option Value) : Str → Option Value := fun y => if y = Str.ofString "number" then x1 else if y = Str.ofString "cell" then x2 else if y = Str.ofString "words" then some (.ref lw) else List.lookup y [(Str.ofString "script", Value.ref l)].reverse
noncomputable def wordJ (l D lw : Addr) (lo : Obj) (fin : List (List Nat)) (items : List Itm) (m : Str → Option Value) (news : List (Addr × Obj)) : Prop :=
  ∃ (vs : List Value) (is : List Int) (acc : List (List Nat)) (us : List Value) (ow : Obj) (x1 x2 : Option Value), items = vs.map .val ∧ IntsAre vs is ∧ m = wordM l lw x1 x2 ∧ news = [(lw, ow), (D, lo)] ∧ LO ow us ∧ lw ≠ D ∧
    PyProof.Rows.StrsAre us (acc.map S) ∧ is.foldl wordStep acc = fin ∧ acc ≠ [] ∧ acc.length + is.length ≤ 14 ∧ ∀ z ∈ acc, z.length + is.length ≤ 16
theorem wordM0 (l lw : Addr) : (fun y => if y = Str.ofString "words" then some (Value.ref lw) else List.lookup y [(Str.ofString "script", Value.ref l)].reverse) = wordM l lw none none := by
  funext y
  unfold wordM
  by_cases h1 : y = Str.ofString "number"
  · subst h1; rw [if_pos rfl]; exact (if_neg (by decide +kernel)).trans (by with_unfolding_all rfl)
  · rw [if_neg h1]
    by_cases h2 : y = Str.ofString "cell"
    · subst h2; rw [if_pos rfl]; exact (if_neg (by decide +kernel)).trans (by with_unfolding_all rfl)
    · rw [if_neg h2]
theorem wordM_set (l lw : Addr) (v1 v2 x1 x2 : Option Value) : (fun y => if y = Str.ofString "number" then v1 else if y = Str.ofString "cell" then v2 else wordM l lw x1 x2 y) = wordM l lw v1 v2 := by
  funext y
  unfold wordM
  by_cases h1 : y = Str.ofString "number"
  · simp only [if_pos h1]
  · simp only [if_neg h1]
    by_cases h2 : y = Str.ofString "cell"
    · simp only [if_pos h2]
    · simp only [if_neg h2]
theorem num_of (n : Int) : ∃ N : Nat, n.fmod (10 ^ Int.toNat 8) = (N : Int) ∧ N = (n.emod 100000000).toNat ∧ N < 100000000 := by
  have e : (10 : Int) ^ Int.toNat 8 = 100000000 := by decide
  rw [e, Int.fmod_eq_emod_of_nonneg _ (by decide)]
  have h1 := Int.emod_nonneg n (show (100000000 : Int) ≠ 0 by decide)
  have h2 := Int.emod_lt_of_pos n (show (0 : Int) < 100000000 by decide)
  refine ⟨(n.emod 100000000).toNat, (Int.toNat_of_nonneg h1).symm, rfl, ?_⟩
  have h3 : n.emod 100000000 = n % 100000000 := rfl
  rw [h3]
  omega
theorem fmod6 (N : Nat) : (N : Int).fmod 6 = ((N % 6 : Nat) : Int) := by rw [Int.fmod_eq_emod_of_nonneg _ (by decide)]; rfl
theorem fdiv6 (N : Nat) : (N : Int).fdiv 6 = ((N / 6 : Nat) : Int) := by rw [Int.fdiv_eq_ediv_of_nonneg _ (by decide)]; rfl
theorem cc_ok {c : Nat} (h : c < 1112064) : cc c < 1114112 ∧ cc c % 128 ≠ 39 ∧ cc c % 128 ≠ 92 := by
  unfold cc
  split <;> split <;> rename_i h1 <;> refine ⟨?_, ?_, ?_⟩ <;> omega
theorem lawCode_ok {f r : Nat} (hf : 1 ≤ f ∧ f ≤ 5) : lawCode f r < 1114112 ∧ (lawCode f r = 39 ∨ (lawCode f r % 128 ≠ 39 ∧ lawCode f r % 128 ≠ 92)) := by
  unfold lawCode
  split
  · exact ⟨by decide, .inl rfl⟩
  · split
    · refine ⟨by omega, .inr ⟨by omega, by omega⟩⟩
    · split
      · have h : ∀ k : Nat, k < 12 → [32, 9, 10, 13, 34, 160, 162, 138, 35, 61, 95, 64].getD k 0 < 1114112 ∧ ([32, 9, 10, 13, 34, 160, 162, 138, 35, 61, 95, 64].getD k 0 % 128 ≠ 39 ∧ [32, 9, 10, 13, 34, 160, 162, 138, 35, 61, 95, 64].getD k 0 % 128 ≠ 92) := by decide
        have := h _ (Nat.mod_lt r (show 12 > 0 by decide))
        exact ⟨this.1, .inr this.2⟩
      · have := cc_ok (c := r % (if f = 4 then 128 else 1112064)) (by split <;> omega)
        exact ⟨this.1, .inr this.2⟩
theorem lawCode_lt {f r : Nat} (hf : 1 ≤ f ∧ f ≤ 5) : lawCode f r < 1114112 := (lawCode_ok hf).1
local macro_rules | `(tactic| walk_at "call builtin:chr") => `(tactic| (k_here; refine chr_of_range (by omega) (by omega) ?_; simp only [Int.toNat_natCast]))
theorem split_last {us : List Value} {acc : List (List Nat)} (h : PyProof.Rows.StrsAre us (acc.map S)) (hne : acc ≠ []) :
    ∃ us0 u acc0 a0 t0, us = us0 ++ [u] ∧ acc = acc0 ++ [a0] ∧ u = Value.str (S a0) t0 ∧ PyProof.Rows.StrsAre us0 (acc0.map S) := by
  induction acc generalizing us with
  | nil => exact absurd rfl hne
  | cons a r ih =>
    cases h with
    | cons _ t h =>
    by_cases hr : r = []
    · subst hr
      cases h
      exact ⟨[], _, [], a, t, rfl, rfl, rfl, .nil⟩
    · obtain ⟨us0, u, acc0, a0, t0, rfl, rfl, hu, h0⟩ := ih h hr
      exact ⟨_ :: us0, u, a :: acc0, a0, t0, rfl, rfl, hu, .cons _ _ h0⟩
theorem S_snoc (a : List Nat) (c : Nat) : (S a ++ (⟨#[c]⟩ : Str)) = S (a ++ [c]) := by
  show (⟨a.toArray ++ #[c]⟩ : Str) = ⟨(a ++ [c]).toArray⟩
  simp
theorem word_end {h₀ : Heap} {L : Addr} {l lw D I : Addr} {h2 : Heap} {s₁ : Shared} {tk : Nat} {o o2 lo : Obj} {v1 v2 : Option Value} {fin : List (List Nat)} {acc : List (List Nat)} {us vs : List Value} {is : List Int}
    (F : Fr h₀ L h2 (wordM l lw v1 v2)) (N : News h₀ L h2 [(lw, o2), (I, o), (D, lo)]) (hl : LO o2 us) (hlD : lw ≠ D) (hIw : lw < I) (hID : D < I) (his : IntsAre vs is) (hus : PyProof.Rows.StrsAre us (acc.map S)) (hfin : is.foldl wordStep acc = fin) (hne : acc ≠ [])
    (hb1 : acc.length + is.length ≤ 14) (hb2 : ∀ z ∈ acc, z.length + is.length ≤ 16) :
    UnrEndW h₀ L s₁ [(I, o)] (fun m' n' => SubL [(D, lo)] n' ∧ wordJ l D lw lo fin (vs.map .val) m' n') { s₁ with heap := h2, toks := tk } := by
  refine ⟨h2, tk, _, [(lw, o2), (D, lo)], rfl, F, fun p hp => N p ?_, ?_, ⟨List.mem_cons_of_mem _ List.mem_cons_self, trivial⟩, vs, is, acc, us, o2, v1, v2, rfl, his, rfl, rfl, hl, hlD, hus, hfin, hne, hb1, hb2⟩
  · simp only [List.cons_append, List.nil_append, List.mem_cons, List.not_mem_nil, or_false] at hp ⊢
    rcases hp with h | h | h
    · exact .inr (.inl h)
    · exact .inl h
    · exact .inr (.inr h)
  · intro p hp q hq
    rw [List.mem_singleton.mp hq]
    simp only [List.mem_cons, List.not_mem_nil, or_false] at hp
    rcases hp with rfl | rfl
    · exact Nat.ne_of_lt hIw
    · exact Nat.ne_of_lt hID
theorem words_spec {prog : Program} {w : World} {A : Around} {E Q : Value → Shared → Prop} {s : Shared} {p : Program} {loose : List Str} {mg mb : Str → Option Value} {l : Addr} {vs : List Value} {ns : List Int}
    (X : (Mine.seed.heap_1 w.params).In s.heap) (T : TopRead p loose mg mb s.heap) (hh : A.handled = none) (hd : A.depth + 8 < recursionLimit)
    (hl : s.heap.IsList l vs.toArray) (hi : IntsAre vs ns) (hlen : ns.length ≤ 63)
    (ret : ∀ a (us : List Value) o h' tk', Kp s.heap h' → s.heap.get? a = none → h'.get? a = some o → LO o us → PyProof.Rows.StrsAre us (((ns.take 12).foldl wordStep words0).map S) → Q (.ref a) { s with heap := h', toks := tk' }) :
    wpAny (model prog w) A (call (.ref 794) [.ref l]) Q E s := by
  refine wpAny_call ?_
  k_dflt (refine' code_pure (binds := [(Str.ofString "script", .ref l)]) ?k1 ?k2 ?k6 ?k7 ?k8 ?k9 ?kB ?_ ?c2 ?c3 ?c4 ?c5; walk_at "mine_side")
  intro L' h' F' N' hk'
  try dsimp only
  try k_fold
  repeat ((fail_if_success (with_reducible show wpAny _ _ (exec (Stmt.For _ _ _ _ _) _) _ _ _)); first | (k_unfold; (try dsimp only)) | walk1 | (dsimp only; walk1))
  try (k_unfold; dsimp only)
  rename Fr s.heap L' _ _ => F1
  k_dflt (refine' For_turns F1 ?_ ?hs ?hE)
  case hs => intro _; exact rfl
  case hE => passes_own
  try k_fold
  repeat ((fail_if_success (with_reducible show wpAny _ _ (pyIter _) _ _ _)); first | (k_unfold; (try dsimp only)) | walk1 | (dsimp only; walk1))
  try (k_unfold; dsimp only)
  rename Fr s.heap L' _ _ => F2
  rename News s.heap L' _ _ => N2
  rename IntsAre _ (List.take 12 _) => hi2
  have F2' := fr_eq F2 (wordM0 _ _)
  have N2' := kst_newsOf N2 (l' := [(_, W.listOf #[_, _] 0), (_, _)]) (fun p hp => by
    rcases List.mem_cons.mp hp with rfl | hp
    · exact List.mem_cons_of_mem _ List.mem_cons_self
    · rw [List.mem_singleton.mp hp]; exact List.mem_cons_self)
  rename _ < _ => hlt
  rename_i lw hA hB hC0 DD wsD hhD hC hL
  clear F2 N2 hk'
  refine iter_listTurns (by exact hh) F2' N2' (List.mem_cons_of_mem _ List.mem_cons_self) rfl rfl fun I hI => ?_
  have hIw := hI _ List.mem_cons_self
  have hID := hI _ (List.mem_cons_of_mem _ List.mem_cons_self)
  k_dflt (refine' rest_ind (wordJ l _ _ _ ((ns.take 12).foldl wordStep words0)) ?done ?turn _ _ _ ?init)
  case init =>
    refine ⟨_, _, words0, [_, _], _, none, none, rfl, hi2, rfl, (by exact rfl), LO.listOf _ _, (Nat.ne_of_lt hlt), ?_, rfl, by decide, ?_, ?_⟩
    · exact .cons _ _ (.cons _ _ .nil)
    · rw [List.length_take]; show 2 + _ ≤ 14; omega
    · intro z hz
      rw [List.length_take]
      have : z.length ≤ 4 := by
        rcases List.mem_cons.mp hz with rfl | hz
        · decide
        · rw [List.mem_singleton.mp hz]; decide
      omega
  case done =>
    intro m news h tk hJ F N
    obtain ⟨vs, is, acc, us, ow, x1, x2, hvs, his, rfl, rfl, hlo, hlD, hus, hfin, hne, hb1, hb2⟩ := hJ
    cases vs with
    | cons _ _ => cases hvs
    | nil =>
    cases his
    dsimp only
    clear F2'
    have F : Fr s.heap L' h _ := F
    unfold wordM at F
    k_steps
    all_goals (try dsimp only)
    all_goals (try k_steps)
    have hfin : acc = _ := hfin
    subst hfin
    have z := N _ List.mem_cons_self
    exact ret _ us ow _ _ F.keep z.2.2 z.1 hlo hus
  case turn =>
    intro a r m news v h tk hJ hv F
    obtain ⟨vs, is, acc, us, ow, x1, x2, hvs, his, rfl, rfl, hlo, hlD, hus, hfin, hne, hb1, hb2⟩ := hJ
    cases vs with
    | nil => cases hvs
    | cons v0 vs =>
    obtain ⟨rfl, rfl⟩ := List.cons.inj hvs
    cases his with
    | cons n t his =>
    have hv : v = .int n t := hv
    subst hv
    clear hvs F2' N2'
    have F : Fr s.heap L' h _ := F
    unfold wordM at F
    refine AllObj.cons fun o ho => AllObj.nil fun N => ?_
    simp only [List.cons_append, List.nil_append] at N
    k_fold
    k_steps
    · rename News s.heap L' _ [_, _, _] => N1
      rename Fr s.heap L' _ _ => F1
      rename Int.fmod _ 6 = 0 => h6
      obtain ⟨N', hN1, hN2, hN3⟩ := num_of n
      rw [hN1, fmod6] at h6
      have h6 : N' % 6 = 0 := by omega
      refine meth_append_news N1 (List.mem_cons_of_mem _ List.mem_cons_self) hlo ?_
      repeat ((fail_if_success (with_reducible show wpAny _ _ (call (Value.builtin "list.append") _) _ _ _)); first | (k_unfold; (try dsimp only)) | walk1 | (dsimp only; walk1))
      try (k_unfold; dsimp only)
      refine append_news F1 N1 (List.mem_cons_of_mem _ List.mem_cons_self) hlo (by have := hus.length; rw [List.length_map] at this; omega) (rest := [(I, o), (DD, W.listOf wsD.toArray 0)]) (fun p hp => ?_) fun h2 o2 F2 N2 hl2 => ?_
      · rcases List.mem_cons.mp hp with rfl | hp
        · exact ⟨List.mem_cons_self, fun q => Nat.ne_of_gt hIw q⟩
        · rw [List.mem_singleton.mp hp]
          exact ⟨List.mem_cons_of_mem _ (List.mem_cons_of_mem _ List.mem_cons_self), fun q => hlD q.symm⟩
      clear F1 N1
      have hstep : wordStep acc n = acc ++ [[]] := by unfold wordStep; simp only [← hN2]; rw [if_pos h6]
      k_steps
      refine word_end (fr_eq F2 (wordM_set l lw _ _ _ _)) N2 hl2 hlD hIw hID his (acc := acc ++ [[]]) ?_ (by rw [← hstep]; exact hfin) (by simp) ?_ ?_
      · rw [List.map_append]; exact hus.append' (.cons _ _ .nil)
      · rw [List.length_append]; simp only [List.length_cons, List.length_nil] at hb1 ⊢; omega
      · intro z hz
        rcases List.mem_append.mp hz with hz | hz
        · have := hb2 z hz; simp only [List.length_cons] at this; omega
        · rw [List.mem_singleton.mp hz]; simp only [List.length_cons, List.length_nil] at hb1 ⊢; omega
    · rename News s.heap L' _ [_, _, _] => N1
      rename Fr s.heap L' _ _ => F1
      rename Int.fmod _ 6 ≠ 0 => h6
      obtain ⟨N', hN1, hN2, hN3⟩ := num_of n
      rw [hN1, fmod6] at h6
      have h6 : N' % 6 ≠ 0 := by omega
      obtain ⟨us0, u, acc0, a0, t0, rfl, rfl, hu, hus0⟩ := split_last hus hne
      subst hu
      refine get_last_news N1 (List.mem_cons_of_mem _ List.mem_cons_self) hlo ?_
      repeat ((fail_if_success (with_reducible show wpAny _ _ (call (Value.ref 787) _) _ _ _)); first | (k_unfold; (try dsimp only)) | walk1 | (dsimp only; walk1))
      try (k_unfold; dsimp only)
      rw [hN1, fmod6, fdiv6]
      rename Fr s.heap L' _ _ => F1
      rename News s.heap L' _ [_, _, _] => N1
      refine code_spec (X.keeps F1.keep) (T.keeps F1.keep) (by show A.depth + 1 + 4 < _; omega) (by omega) (by omega) fun t' h' tk' k' => ?_
      obtain ⟨cc, hcc, hcl⟩ : ∃ cc, lawCode (N' % 6) (N' / 6) = cc ∧ cc < 1114112 := ⟨_, rfl, lawCode_lt (by omega)⟩
      rw [hcc]
      have F2 := Fr.keeps F1 k'
      have N2 := News.grown N1 k'
      clear F1 N1
      have hb3 : a0.length ≤ 16 := by have := hb2 a0 (List.mem_append_right _ List.mem_cons_self); omega
      have hsz : (S a0).length + (⟨#[cc]⟩ : Str).length ≤ sizeLine := by
        show a0.toArray.size + 1 ≤ sizeLine
        rw [List.size_toArray]; exact Nat.le_trans (Nat.add_le_add_right hb3 1) (by decide)
      repeat ((fail_if_success (with_reducible show wpAny _ _ (setItem _ _ _) _ _ _)); first | (k_unfold; (try dsimp only)) | walk1 | (dsimp only; walk1))
      try (k_unfold; dsimp only)
      refine set_last_news F2 N2 (List.mem_cons_of_mem _ List.mem_cons_self) hlo (rest := [(I, o), (DD, W.listOf wsD.toArray 0)]) (fun p hp => ?_) fun h2 o2 F2 N2 hl2 => ?_
      · rcases List.mem_cons.mp hp with rfl | hp
        · exact ⟨List.mem_cons_self, fun q => Nat.ne_of_gt hIw q⟩
        · rw [List.mem_singleton.mp hp]
          exact ⟨List.mem_cons_of_mem _ (List.mem_cons_of_mem _ List.mem_cons_self), fun q => hlD q.symm⟩
      have hstep : wordStep (acc0 ++ [a0]) n = acc0 ++ [a0 ++ [cc]] := by
        unfold wordStep; simp only [← hN2]; rw [if_neg h6, hcc]; simp
      rw [S_snoc] at hl2
      k_steps
      refine word_end (fr_eq F2 (wordM_set l lw _ _ _ _)) N2 hl2 hlD hIw hID his (acc := acc0 ++ [a0 ++ [cc]]) ?_ (by rw [← hstep]; exact hfin) (by simp) ?_ ?_
      · rw [List.map_append]; exact hus0.append' (.cons _ _ .nil)
      · simp only [List.length_append, List.length_cons, List.length_nil] at hb1 ⊢; omega
      · intro z hz
        rcases List.mem_append.mp hz with hz | hz
        · have := hb2 z (List.mem_append_left _ hz); simp only [List.length_cons] at this; omega
        · rw [List.mem_singleton.mp hz]
          have := hb2 a0 (List.mem_append_right _ List.mem_cons_self)
          simp only [List.length_append, List.length_cons, List.length_nil] at this ⊢; omega
end
section
open PySem PySem.W PyProof.Rows PySem.Calls
set_option maxRecDepth 100000
set_option maxHeartbeats 8000000
local macro_rules | `(tactic| walk_at "assign Tuple") => `(tactic| (k_here; (with_reducible show wpAny _ _ (assign (Expr.Tuple _ _ _) _ (Value.ref _)) _ _ _); k_dflt (refine' unpackN_ ?F ?N ?T ?k1 ?k2 ?k3 ?_; (case F => k_asm); (case N => k_asm); (case T => first | with_reducible assumption | (refine News.isTup (by k_asm) (by k_mem))); (case k1 => assumption); (case k2 => exact rfl); (case k3 => exact rfl)); intro h' F' N'; (try k_sweep)))
section
variable {prog : Program} {w : World} {A : Around} {E : Value → Shared → Prop} {s : Shared} {env : Env}
theorem ifexp_merge {test : PySem.Expr} {x y : Str} {k1 k2 : Nat} {p1 p2 pos : Pos} {b : Bool} {Q : Value → Shared → Prop}
    (ht : ∀ Q' : Bool → Shared → Prop, (∀ tk, Q' b { s with toks := tk }) → wpAny (model prog w) A (isTrue test env (eval test env)) Q' E s)
    (h : ∀ t' tk, Q (.str (if b = true then x else y) t') { s with toks := tk }) :
    wpAny (model prog w) A (eval (.IfExp test (.Constant (.str x) k1 p1) (.Constant (.str y) k2 p2) pos) env) Q E s := by
  refine IfExp_ (ht _ fun tk => ?_)
  cases b
  · rw [if_neg (by decide)]
    walk1
    exact h _ _
  · rw [if_pos rfl]
    walk1
    exact h _ _
theorem iadd_S {a b : List Nat} {y : Str} {t u : Tok} {Q : Value → Shared → Prop} (hy : y = S b) (hsz : a.length + b.length ≤ 3000) (h : ∀ t' k, Q (.str (S (a ++ b)) t') { s with toks := k }) : wpAny (model prog w) A (inplaceOp .Add (.str (S a) t) (.str y u)) Q E s := by
  subst hy
  have e : (S a ++ S b : Str) = S (a ++ b) := by
    show (⟨a.toArray ++ b.toArray⟩ : Str) = ⟨(a ++ b).toArray⟩
    simp
  refine PyProof.Rows.SBL.iadd (fun t' k _ => ?_) ?_
  · rw [e]; exact h _ _
  · show a.toArray.size + b.toArray.size ≤ sizeLine
    rw [List.size_toArray, List.size_toArray]; exact Nat.le_trans hsz (by decide)
theorem litSp : Str.ofString " " = S [32] := by decide +kernel
theorem litNil : Str.ofString "" = S [] := by decide +kernel
theorem litQ : Str.ofString "'" = S [39] := by decide +kernel
theorem litQD : Str.ofString "'\"" = S [39, 34] := by decide +kernel
theorem litDQ : Str.ofString "\"'" = S [34, 39] := by decide +kernel
end
theorem litIf {b : Bool} {x y : Str} {p q : List Nat} (hx : x = S p) (hy : y = S q) : (if b = true then x else y) = S (if b = true then p else q) := by
  cases b
  · exact hy
  · exact hx
local macro_rules | `(tactic| walk_at "truthy int") => `(tactic| (k_here; refine PySem.P.truthy_int ?_))
local macro_rules | `(tactic| walk_at "eval IfExp") => `(tactic| (k_here; k_dflt (refine' ifexp_merge ?ht ?_; (case ht => (intro Q' hQ'; (repeat (first | walk1 | (dsimp only; walk1))); exact hQ' _)); intro t' k')))
local macro_rules | `(tactic| walk_at "inplaceOp Add str str") => `(tactic| (k_here; k_dflt (refine' iadd_S ?hy ?hsz ?_); (case hy => with_reducible first | exact litIf litSp litNil | exact litIf litQ litNil | exact litIf litQD litDQ | exact litSp | exact litNil | exact litQ | exact litQD | exact litDQ | exact rfl); (case hsz => ((repeat' split) <;> (try simp only [List.length_append, List.length_cons, List.length_nil]) <;> omega)); intro t' k'))
local macro_rules | `(tactic| walk_at "compareOp Eq str str") => `(tactic| (k_here; (with_reducible first | refine eq_no (by assumption) ?_ | refine eq_yes (by assumption) ?_)))
local macro_rules | `(tactic| walk_at "unpackItems") => `(tactic| (k_here; k_dflt (refine' unpackItemsN_ ?F ?N ?T ?k1 ?k2 ?_; (case F => k_asm); (case N => k_asm); (case T => (refine News.isTup (by k_asm) (by k_mem))); (case k1 => assumption); (case k2 => exact rfl)); intro h' F' N'; (try k_sweep)))
local macro_rules | `(tactic| walk_at "truthy str") => `(tactic| (k_here; first | with_reducible refine truthy_nilS (by assumption) ?_ | (with_reducible refine truthy_consS (by assumption) (by omega) ?_)))
/-- the state of the inside-out reading -/
structure TSt where
  tokens : List (List Nat)
  held : List Nat
  seen : Bool
  within : Bool
noncomputable def signStep (st : TSt) (c : Nat) : TSt :=
  if c = 39 then { st with held := st.held ++ (if st.within = true then [39, 34] else [34, 39]), within := !st.within, seen := true }
  else if c % 128 = 34 then { st with within := !st.within, seen := true }
  else if st.within = true ∨ white (c % 128) = false then { st with held := st.held ++ [c % 128] }
  else { st with tokens := st.tokens ++ (if st.held ≠ [] ∨ st.seen = true then [st.held] else []), held := [], seen := false }
noncomputable def wordTurn (st : TSt) (first : Bool) (w : List Nat) : TSt :=
  let st1 : TSt := { st with held := st.held ++ (if first = true then [] else [32]) }
  if safeL w = true then { st1 with held := st1.held ++ w }
  else
    let st2 := w.foldl signStep { st1 with held := st1.held ++ (if st1.within = true then [39] else []) }
    { st2 with held := st2.held ++ (if st2.within = true then [39] else []), seen := true }
noncomputable def turnFold : TSt → Bool → List (List Nat) → TSt
  | st, _, [] => st
  | st, first, w :: r => turnFold (wordTurn st first w) false r
noncomputable def turnedL (words : List (List Nat)) : Option (List (List Nat)) :=
  let st := turnFold ⟨[], [], true, false⟩ true words
  if st.within = true then none else some (st.tokens ++ [st.held])
noncomputable def wsum : List (List Nat) → Nat
  | [] => 0
  | w :: r => 4 + 3 * w.length + wsum r
theorem fr_put5 {h₀ h : Heap} {L : Addr} {m : Str → Option Value} {a1 a2 a3 a4 a5 : Str} {v1 v2 v3 v4 v5 : Value} (F : Fr h₀ L h m) (h1 : m a1 = some v1) (h2 : m a2 = some v2) (h3 : m a3 = some v3) (h4 : m a4 = some v4) (h5 : m a5 = some v5) :
    Fr h₀ L h (fun y => if y = a1 then some v1 else if y = a2 then some v2 else if y = a3 then some v3 else if y = a4 then some v4 else if y = a5 then some v5 else m y) := by
  refine fr_congr F fun y => ?_
  by_cases q1 : y = a1
  · rw [if_pos q1, q1, h1]
  rw [if_neg q1]
  by_cases q2 : y = a2
  · rw [if_pos q2, q2, h2]
  rw [if_neg q2]
  by_cases q3 : y = a3
  · rw [if_pos q3, q3, h3]
  rw [if_neg q3]
  by_cases q4 : y = a4
  · rw [if_pos q4, q4, h4]
  rw [if_neg q4]
  by_cases q5 : y = a5
  · rw [if_pos q5, q5, h5]
  rw [if_neg q5]
/-- what the names hold -/
noncomputable def TM (l lt : Addr) (st : TSt) (m : Str → Option Value) : Prop :=
  m (Str.ofString "words") = some (.ref l) ∧ m (Str.ofString "tokens") = some (.ref lt) ∧ (∃ t, m (Str.ofString "held") = some (.str (S st.held) t)) ∧ m (Str.ofString "seen") = some (.bool st.seen) ∧ m (Str.ofString "within") = some (.bool st.within)
noncomputable def outJ (l lt : Addr) (fin : TSt) (items : List Itm) (m : Str → Option Value) (news : List (Addr × Obj)) : Prop :=
  ∃ (st : TSt) (i : Nat) (vs : List Value) (ws : List (List Nat)) (us : List Value) (ot : Obj), items = enumItems i vs ∧ PyProof.Rows.StrsAre vs (ws.map S) ∧ TM l lt st m ∧ news = [(lt, ot)] ∧ LO ot us ∧ PyProof.Rows.StrsAre us (st.tokens.map S) ∧
    turnFold st (i == 0) ws = fin ∧ st.held.length + st.tokens.length + wsum ws ≤ 1000 ∧ ∀ z ∈ ws, ∀ c ∈ z, c < 1114112
theorem pre_eq (i : Nat) : (if ((i : Int) != 0) = true then [32] else []) = (if (i == 0) = true then ([] : List Nat) else [32]) := by
  cases i with
  | zero => rfl
  | succ n => rw [if_pos (by rw [bne_iff_ne]; omega)]; rfl
theorem out_end {h₀ : Heap} {L : Addr} {l lt I : Addr} {h2 : Heap} {s₁ : Shared} {tk : Nat} {oe oi ot : Obj} {m : Str → Option Value} {st fin : TSt} {us vs : List Value} {ws : List (List Nat)} {i : Nat}
    (F : Fr h₀ L h2 m) (N : News h₀ L h2 [(I + 1, oe), (I, oi), (lt, ot)]) (hTM : TM l lt st m) (hIw : lt < I) (hlo : LO ot us) (hws : PyProof.Rows.StrsAre vs (ws.map S)) (hus : PyProof.Rows.StrsAre us (st.tokens.map S)) (hfin : turnFold st false ws = fin)
    (hb1 : st.held.length + st.tokens.length + wsum ws ≤ 1000) (hb2 : ∀ z ∈ ws, ∀ c ∈ z, c < 1114112) :
    UnrEndW h₀ L s₁ [(I + 1, oe), (I, oi)] (fun m' n' => SubL [] n' ∧ outJ l lt fin (enumItems (i + 1) vs) m' n') { s₁ with heap := h2, toks := tk } := by
  refine ⟨h2, tk, _, [(lt, ot)], rfl, F, fun p hp => N p hp, ?_, trivial, st, i + 1, vs, ws, us, ot, rfl, hws, hTM, rfl, hlo, hus, hfin, hb1, hb2⟩
  intro p hp q hq
  rw [List.mem_singleton.mp hp]
  simp only [List.mem_cons, List.not_mem_nil, or_false] at hq
  rcases hq with rfl | rfl
  · exact Nat.ne_of_lt (Nat.lt_succ_of_lt hIw)
  · exact Nat.ne_of_lt hIw
noncomputable def inJ (l lt : Addr) (p1 p2 : Addr × Obj) (B : Nat) (fin : TSt) (items : List Itm) (m : Str → Option Value) (news : List (Addr × Obj)) : Prop :=
  ∃ (st : TSt) (cs : List Nat) (us : List Value) (ot : Obj), items = signItems cs ∧ TM l lt st m ∧ news = [(lt, ot), p1, p2] ∧ LO ot us ∧ PyProof.Rows.StrsAre us (st.tokens.map S) ∧
    cs.foldl signStep st = fin ∧ st.held.length + st.tokens.length + 3 * cs.length + B ≤ 1000 ∧ ∀ c ∈ cs, c < 1114112
theorem in_end {h₀ : Heap} {L : Addr} {l lt I2 : Addr} {p1 p2 : Addr × Obj} {h2 : Heap} {s₁ : Shared} {tk : Nat} {o5 ot : Obj} {m : Str → Option Value} {st fin : TSt} {us : List Value} {cs : List Nat} {B : Nat} {nn : List (Addr × Obj)}
    (F : Fr h₀ L h2 m) (N : News h₀ L h2 nn) (n1 : (I2, o5) ∈ nn) (n2 : (lt, ot) ∈ nn) (n3 : p1 ∈ nn) (n4 : p2 ∈ nn) (hTM : TM l lt st m) (q1 : lt < I2) (q2 : p1.1 < I2) (q3 : p2.1 < I2) (hlo : LO ot us) (hus : PyProof.Rows.StrsAre us (st.tokens.map S)) (hfin : cs.foldl signStep st = fin)
    (hb1 : st.held.length + st.tokens.length + 3 * cs.length + B ≤ 1000) (hb2 : ∀ c ∈ cs, c < 1114112) :
    UnrEndW h₀ L s₁ [(I2, o5)] (fun m' n' => SubL [] n' ∧ inJ l lt p1 p2 B fin (cs.map fun c => Itm.tok (fun t => .str ⟨#[c]⟩ t)) m' n') { s₁ with heap := h2, toks := tk } := by
  refine ⟨h2, tk, _, [(lt, ot), p1, p2], rfl, F, fun p hp => N p ?_, ?_, trivial, st, cs, us, ot, rfl, hTM, rfl, hlo, hus, hfin, hb1, hb2⟩
  · simp only [List.cons_append, List.nil_append, List.mem_cons, List.not_mem_nil, or_false] at hp
    rcases hp with rfl | rfl | rfl | rfl <;> assumption
  · intro p hp q hq
    rw [List.mem_singleton.mp hq]
    simp only [List.mem_cons, List.not_mem_nil, or_false] at hp
    rcases hp with rfl | rfl | rfl
    · exact Nat.ne_of_lt q1
    · exact Nat.ne_of_lt q2
    · exact Nat.ne_of_lt q3
theorem fm128 (c : Nat) : (c : Int).fmod 128 = ((c % 128 : Nat) : Int) := by rw [Int.fmod_eq_emod_of_nonneg _ (by decide)]; rfl
theorem fmN (c : Nat) : ((c : Int).fmod 128).toNat = c % 128 := by rw [fm128]; rfl
theorem any4 (c : Nat) : (([9, 10, 13, 32] : List Int).any fun x => x == (c : Int).fmod 128) = white (c % 128) := by
  rw [fm128]
  have e : ∀ k : Nat, k < 128 → (([9, 10, 13, 32] : List Int).any fun x => x == (k : Int)) = white k := by decide
  exact e _ (Nat.mod_lt _ (by decide))
theorem ss39 (st : TSt) : signStep st 39 = { st with held := st.held ++ (if st.within = true then [39, 34] else [34, 39]), within := !st.within, seen := true } := rfl
theorem ss34 (st : TSt) {c : Nat} (h : c ≠ 39) (h2 : c % 128 = 34) : signStep st c = { st with within := !st.within, seen := true } := by unfold signStep; rw [if_neg h, if_pos h2]
theorem ssApp (st : TSt) {c : Nat} (h : c ≠ 39) (h2 : c % 128 ≠ 34) (h3 : st.within = true ∨ white (c % 128) = false) : signStep st c = { st with held := st.held ++ [c % 128] } := by unfold signStep; rw [if_neg h, if_neg h2, if_pos h3]
theorem ssBrk (st : TSt) {c : Nat} (h : c ≠ 39) (h2 : c % 128 ≠ 34) (h3 : st.within = false) (h4 : white (c % 128) = true) : signStep st c = { st with tokens := st.tokens ++ (if st.held ≠ [] ∨ st.seen = true then [st.held] else []), held := [], seen := false } := by
  unfold signStep; rw [if_neg h, if_neg h2, if_neg (by rw [h3, h4]; simp)]
theorem wordTurn_un {st : TSt} {f : Bool} {w : List Nat} {st2 : TSt} (h : safeL w = false) (h2 : st2 = w.foldl signStep ⟨st.tokens, (st.held ++ (if f = true then [] else [32])) ++ (if st.within = true then [39] else []), st.seen, st.within⟩) :
    wordTurn st f w = ⟨st2.tokens, st2.held ++ (if st2.within = true then [39] else []), true, st2.within⟩ := by
  subst h2
  unfold wordTurn
  rw [if_neg (by rw [h]; decide)]
theorem turned_spec {prog : Program} {w : World} {A : Around} {E Q : Value → Shared → Prop} {s : Shared} {p : Program} {loose : List Str} {mg mb : Str → Option Value} {l : Addr} {vs : List Value} {ws : List (List Nat)}
    (X : (Mine.seed.heap_1 w.params).In s.heap) (T : TopRead p loose mg mb s.heap) (hh : A.handled = none) (hd : A.depth + 12 < recursionLimit)
    (hl : s.heap.IsList l vs.toArray) (hi : PyProof.Rows.StrsAre vs (ws.map S)) (hlen : wsum ws ≤ 1000) (hcs : ∀ z ∈ ws, ∀ c ∈ z, c < 1114112)
    (ret : ∀ v h' tk', Kp s.heap h' → (match turnedL ws with | none => v = .none | some toks => ∃ a us o, v = .ref a ∧ s.heap.get? a = none ∧ h'.get? a = some o ∧ LO o us ∧ PyProof.Rows.StrsAre us (toks.map S)) → Q v { s with heap := h', toks := tk' }) :
    wpAny (model prog w) A (call (.ref 806) [.ref l]) Q E s := by
  refine wpAny_call ?_
  k_dflt (refine' code_pure (binds := [(Str.ofString "words", .ref l)]) ?k1 ?k2 ?k6 ?k7 ?k8 ?k9 ?kB ?_ ?c2 ?c3 ?c4 ?c5; walk_at "mine_side")
  intro L' h' F' N' hk'
  try dsimp only
  try k_fold
  repeat ((fail_if_success (with_reducible show wpAny _ _ (exec (Stmt.For _ _ _ _ _) _) _ _ _)); first | (k_unfold; (try dsimp only)) | walk1 | (dsimp only; walk1))
  try (k_unfold; dsimp only)
  rename Fr s.heap L' _ _ => F1
  k_dflt (refine' For_turns F1 ?_ ?hs ?hE)
  case hs => intro _; exact rfl
  case hE => passes_own
  try k_fold
  repeat ((fail_if_success (with_reducible show wpAny _ _ (call (Value.type _) _) _ _ _)); first | (k_unfold; (try dsimp only)) | walk1 | (dsimp only; walk1))
  try (k_unfold; dsimp only)
  rename Fr s.heap L' _ _ => F2
  rename News s.heap L' _ _ => N2
  have N3 := kst_newsOf N2 (l' := [(_, W.listOf #[] 0)]) (fun p hp => by
    rw [List.mem_singleton.mp hp]; exact List.mem_cons_of_mem _ List.mem_cons_self)
  clear hk' 
  refine it_enum (by exact hh) F2 N3 hl fun I hI => ?_
  have hIw := hI _ List.mem_cons_self
  k_dflt (refine' rest_ind (outJ l _ (turnFold ⟨[], [], true, false⟩ true ws)) ?done ?turn _ _ _ ?init)
  case init =>
    refine ⟨⟨[], [], true, false⟩, 0, vs, ws, [], _, rfl, hi, ⟨by with_unfolding_all rfl, by with_unfolding_all rfl, ⟨_, by with_unfolding_all rfl⟩, by with_unfolding_all rfl, by with_unfolding_all rfl⟩, (by exact rfl), LO.listOf [] _, .nil, rfl, ?_, hcs⟩
    show 0 + 0 + _ ≤ _; omega
  case done =>
    intro m news h tk hJ F N
    obtain ⟨st, i, vs, ws, us, ot, hvs, hws, hTM, rfl, hlo, hus, hfin, hb1, hb2⟩ := hJ
    cases vs with
    | cons _ _ => cases hvs
    | nil =>
    cases ws with
    | cons _ _ => cases hws
    | nil =>
    obtain ⟨htm1, htm2, ⟨th, htm3⟩, htm4, htm5⟩ := hTM
    clear F2 N3 N2
    have F : Fr s.heap L' h _ := fr_put5 F htm1 htm2 htm3 htm4 htm5
    dsimp only
    k_steps
    all_goals (try dsimp only)
    all_goals (try k_steps)
    · rename TSt.within _ = true => hwi
      have hfin : st = _ := hfin
      refine ret _ _ _ F.keep ?_
      unfold turnedL
      simp only [← hfin, hwi, if_true]
    · rename TSt.within _ = false => hwi
      have hfin : st = _ := hfin
      rename Fr s.heap L' _ _ => F1
      rename News s.heap L' _ _ => N1
      refine add_lists (vs := us) (ws := [Value.str (S st.held) th]) F1 N1 (hlo.isList (N1 (_, ot) (by k_mem)).1) ((LO.listOf _ 0).isList (N1 (_, W.listOf (List.toArray [Value.str (S st.held) th]) 0) (by k_mem)).1) (fun h6 F6 N6 => ?_) (by
        have := hus.length; rw [List.length_map] at this; simp only [List.length_cons, List.length_nil]; exact Nat.le_trans (show us.length + 1 ≤ 2000 by omega) (by decide))
      try (k_unfold; dsimp only)
      have z := N6 _ List.mem_cons_self
      refine ret _ _ _ F6.keep ?_
      unfold turnedL
      simp only [← hfin, hwi, Bool.false_eq_true, if_false]
      exact ⟨_, _, _, rfl, z.2.2, z.1, ⟨rfl, rfl, 0, rfl⟩, by rw [List.map_append]; exact hus.append' (.cons _ _ .nil)⟩
  case turn =>
    intro a r m news v h tk hJ hv F
    obtain ⟨st, i, vs, ws, us, ot, hvs, hws, hTM, rfl, hlo, hus, hfin, hb1, hb2⟩ := hJ
    cases vs with
    | nil => cases hvs
    | cons v0 vs =>
    obtain ⟨rfl, rfl⟩ := List.cons.inj hvs
    cases ws with
    | nil => cases hws
    | cons w0 ws =>
    cases hws with
    | cons _ t0 hws =>
    obtain ⟨T0, ti, rfl, hT0⟩ := hv
    clear hvs F2 N3 N2
    obtain ⟨htm1, htm2, ⟨th, htm3⟩, htm4, htm5⟩ := hTM
    have F : Fr s.heap L' h _ := fr_put5 F htm1 htm2 htm3 htm4 htm5
    refine AllObj.cons fun oe hoe => AllObj.cons fun oi hoi => AllObj.nil fun N => ?_
    simp only [List.cons_append, List.nil_append] at N
    k_fold
    have hb1 : st.held.length + st.tokens.length + (4 + 3 * w0.length + wsum ws) ≤ 1000 := hb1
    repeat ((fail_if_success (with_reducible show wpAny _ _ (call (Value.ref 799) _) _ _ _)); first | (k_unfold; (try dsimp only)) | walk1 | (dsimp only; walk1))
    try (k_unfold; dsimp only)
    rename Fr s.heap L' _ _ => F1
    rename News s.heap L' _ _ => N1
    refine safe_spec (X.keeps F1.keep) (T.keeps F1.keep) (by exact hh) (by show A.depth + 1 + 8 < _; omega) (by show w0.toArray.size ≤ 1000; rw [List.size_toArray]; omega) fun h1 tk1 k1 => ?_
    have F3 := Fr.keeps F1 k1
    have N3 := News.grown N1 k1
    clear F1 N1
    rw [show (S w0).cps.toList = w0 from List.toList_toArray]
    rcases bool_or (safeL w0) with hs | hs
    all_goals rw [hs]
    · repeat ((fail_if_success (with_reducible show wpAny _ _ (exec (Stmt.For _ _ _ _ _) _) _ _ _)); first | (k_unfold; (try dsimp only)) | walk1 | (dsimp only; walk1))
      try (k_unfold; dsimp only)
      rename Fr s.heap L' _ _ => F1
      rename News s.heap L' _ _ => N1
      have N4 := kst_newsOf N1 (l' := [(_, ot), (I + 1, oe), (I, oi)]) (fun p hp => by
        simp only [List.mem_cons, List.not_mem_nil, or_false] at hp ⊢
        rcases hp with rfl | hp | hp
        · exact .inr (.inr rfl)
        · exact .inl hp
        · exact .inr (.inl hp))
      k_dflt (refine' For_turns F1 ?_ ?hs ?hE)
      case hs => intro _; exact rfl
      case hE => passes_own
      clear N1
      try k_fold
      repeat ((fail_if_success (with_reducible show wpAny _ _ (pyIter _) _ _ _)); first | (k_unfold; (try dsimp only)) | walk1 | (dsimp only; walk1))
      try (k_unfold; dsimp only)
      refine it_str (by exact hh) F1 N4 fun I2 hI2 => ?_
      rw [show (S w0).cps.toList = w0 from List.toList_toArray]
      have hIw2 := hI2 _ List.mem_cons_self
      have hIe2 := hI2 _ (List.mem_cons_of_mem _ List.mem_cons_self)
      have hIi2 := hI2 _ (List.mem_cons_of_mem _ (List.mem_cons_of_mem _ List.mem_cons_self))
      k_dflt (refine' rest_ind (inJ l _ (I + 1, oe) (I, oi) (wsum ws + 1) (w0.foldl signStep ⟨st.tokens, (st.held ++ (if (i == 0) = true then ([] : List Nat) else [32])) ++ (if st.within = true then [39] else []), st.seen, st.within⟩)) ?done2 ?turn2 _ _ _ ?init2)
      case init2 =>
        refine ⟨⟨st.tokens, (st.held ++ (if (i == 0) = true then ([] : List Nat) else [32])) ++ (if st.within = true then [39] else []), st.seen, st.within⟩, w0, us, ot, rfl, ⟨by with_unfolding_all rfl, by with_unfolding_all rfl, ⟨_, by rw [← pre_eq]; with_unfolding_all rfl⟩, by with_unfolding_all rfl, by with_unfolding_all rfl⟩, (by exact rfl), hlo, hus, rfl, ?_, hb2 w0 List.mem_cons_self⟩
        · simp only [List.length_append]
          split <;> split <;> simp only [List.length_cons, List.length_nil] <;> omega
      case done2 =>
        intro m news h tk hJ F N
        obtain ⟨st2, cs, us2, ot2, hcs2, hTM2, rfl, hlo2, hus2, hfin2, hc1, hc2⟩ := hJ
        cases cs with
        | cons _ _ => cases hcs2
        | nil =>
        obtain ⟨htm1, htm2, ⟨th, htm3⟩, htm4, htm5⟩ := hTM2
        clear F1 N4
        have F : Fr s.heap L' h _ := fr_put5 F htm1 htm2 htm3 htm4 htm5
        simp only [List.length_nil] at hc1
        dsimp only
        k_steps
        all_goals (try dsimp only)
        all_goals (try k_steps)
        rename Fr s.heap L' _ _ => F1
        rename News s.heap L' _ _ => N5
        have N4' := kst_newsOf N5 (l' := [(I + 1, oe), (I, oi), (_, ot2)]) (fun p hp => by
          simp only [List.mem_cons, List.not_mem_nil, or_false] at hp ⊢
          rcases hp with hp | hp | rfl
          · exact .inr (.inl hp)
          · exact .inr (.inr hp)
          · exact .inl rfl)
        have hst2 : st2 = _ := hfin2
        refine out_end (st := ⟨st2.tokens, st2.held ++ (if st2.within = true then [39] else []), true, st2.within⟩) F1 N4' ⟨by with_unfolding_all rfl, by with_unfolding_all rfl, ⟨_, by with_unfolding_all rfl⟩, by with_unfolding_all rfl, by with_unfolding_all rfl⟩ hIw hlo2 hws hus2 ?_ ?_ fun z hz => hb2 z (List.mem_cons_of_mem _ hz)
        · rw [← hfin]
          show _ = turnFold (wordTurn st (i == 0) w0) false ws
          rw [wordTurn_un hs hst2]
        · simp only [List.length_append]
          split <;> simp only [List.length_cons, List.length_nil] <;> omega
      case turn2 =>
        intro a r m news v h tk hJ hv F
        obtain ⟨st2, cs, us2, ot2, hcs2, hTM2, rfl, hlo2, hus2, hfin2, hc1, hc2⟩ := hJ
        cases cs with
        | nil => cases hcs2
        | cons c cs =>
        obtain ⟨rfl, rfl⟩ := List.cons.inj hcs2
        obtain ⟨tc, rfl⟩ := hv
        obtain ⟨htm1, htm2, ⟨th, htm3⟩, htm4, htm5⟩ := hTM2
        clear F1 N4 hcs2
        have F : Fr s.heap L' h _ := fr_put5 F htm1 htm2 htm3 htm4 htm5
        simp only [List.length_cons] at hc1
        refine AllObj.cons fun o5 ho5 => AllObj.nil fun N => ?_
        simp only [List.cons_append, List.nil_append] at N
        k_fold
        by_cases h39 : c = 39
        · subst h39
          have hq : ((⟨#[39]⟩ : Str) == Str.ofString "'") = true := by rw [lit39]; exact beq_self_eq_true _
          k_steps
          · rename Fr s.heap L' _ _ => F1
            rename News s.heap L' _ _ => N1
            refine in_end (st := ⟨st2.tokens, st2.held ++ (if st2.within = true then [39, 34] else [34, 39]), true, !st2.within⟩) F1 N1 (by k_mem) (by k_mem) (by k_mem) (by k_mem) ⟨by with_unfolding_all rfl, by with_unfolding_all rfl, ⟨_, by with_unfolding_all rfl⟩, by with_unfolding_all rfl, by with_unfolding_all rfl⟩ hIw2 hIe2 hIi2 hlo2 hus2 (by rw [← hfin2, List.foldl_cons, ss39]) ?_ (fun c' hc' => hc2 c' (List.mem_cons_of_mem _ hc'))
            · simp only [List.length_append, List.length_cons, List.length_nil]; (try split) <;> (try simp only [List.length_cons, List.length_nil]) <;> omega
        · have hq : ((⟨#[c]⟩ : Str) == Str.ofString "'") = false := by
            rw [← lit39, beq_eq_false_iff_ne]; intro e; apply h39; exact (by simpa using congrArg (fun z : Str => z.cps.toList) e)
          by_cases hnil : st2.held = []
          · k_steps
            · rename Fr s.heap L' _ _ => F1
              rename News s.heap L' _ _ => N1
              rename Int.fmod _ 128 = 34 => h34
              have h34' : c % 128 = 34 := by rw [fm128] at h34; omega
              refine in_end (st := ⟨st2.tokens, st2.held, true, !st2.within⟩) F1 N1 (by k_mem) (by k_mem) (by k_mem) (by k_mem) ⟨by with_unfolding_all rfl, by with_unfolding_all rfl, ⟨_, by with_unfolding_all rfl⟩, by with_unfolding_all rfl, by with_unfolding_all rfl⟩ hIw2 hIe2 hIi2 hlo2 hus2 (by rw [← hfin2, List.foldl_cons, ss34 _ h39 h34']) ?_ (fun c' hc' => hc2 c' (List.mem_cons_of_mem _ hc'))
              · simp only [List.length_append, List.length_cons, List.length_nil]; (try split) <;> (try simp only [List.length_cons, List.length_nil]) <;> omega
            · rename Fr s.heap L' _ _ => F1
              rename News s.heap L' _ _ => N1
              rename Int.fmod _ 128 ≠ 34 => h34
              have h34' : c % 128 ≠ 34 := by rw [fm128] at h34; omega
              rename TSt.within _ = true => hwi
              refine in_end (st := ⟨st2.tokens, st2.held ++ [c % 128], st2.seen, st2.within⟩) F1 N1 (by k_mem) (by k_mem) (by k_mem) (by k_mem) ⟨by with_unfolding_all rfl, by with_unfolding_all rfl, ⟨_, by rw [← fmN c]; with_unfolding_all rfl⟩, by with_unfolding_all rfl, by with_unfolding_all rfl⟩ hIw2 hIe2 hIi2 hlo2 hus2 (by rw [← hfin2, List.foldl_cons, ssApp _ h39 h34' (.inl hwi)]) ?_ (fun c' hc' => hc2 c' (List.mem_cons_of_mem _ hc'))
              · simp only [List.length_append, List.length_cons, List.length_nil]; (try split) <;> (try simp only [List.length_cons, List.length_nil]) <;> omega
            · rename Fr s.heap L' _ _ => F1
              rename News s.heap L' _ _ => N1
              rename Int.fmod _ 128 ≠ 34 => h34
              have h34' : c % 128 ≠ 34 := by rw [fm128] at h34; omega
              rename TSt.within _ = false => hwi
              rename List.any _ _ = true => hany
              rw [any4] at hany
              rename TSt.seen _ = true => hsn
              rename _ < _ ∧ _ < _ ∧ _ < _ ∧ _ < _ ∧ _ < _ => hl1
              refine iadd_news F1 N1 (by k_mem) hlo2 (ob := W.listOf (List.toArray [Value.str (S st2.held) th]) 0) (by k_mem) (LO.listOf _ _) (Nat.ne_of_lt hl1.2.2.1) (by have := hus2.length; rw [List.length_map] at this; simp only [List.length_cons, List.length_nil]; omega) (rest := [(I2, o5), (I + 1, oe), (I, oi)]) (fun p hp => by
                simp only [List.mem_cons, List.not_mem_nil, or_false] at hp
                rcases hp with rfl | rfl | rfl
                · exact ⟨by k_mem, Nat.ne_of_gt hIw2⟩
                · exact ⟨by k_mem, Nat.ne_of_gt (Nat.lt_succ_of_lt hIw)⟩
                · exact ⟨by k_mem, Nat.ne_of_gt hIw⟩) fun h3 o3 F3 N3 hl3 => ?_
              clear F1 N1
              k_steps
              rename Fr s.heap L' _ _ => F1
              rename News s.heap L' _ _ => N1
              refine in_end (st := ⟨st2.tokens ++ [st2.held], [], false, st2.within⟩) F1 N1 (by k_mem) (by k_mem) (by k_mem) (by k_mem) ⟨by with_unfolding_all rfl, by with_unfolding_all rfl, ⟨_, by with_unfolding_all rfl⟩, by with_unfolding_all rfl, by with_unfolding_all rfl⟩ hIw2 hIe2 hIi2 hl3 (by rw [List.map_append]; exact hus2.append' (.cons _ _ .nil)) (by rw [← hfin2, List.foldl_cons, ssBrk _ h39 h34' hwi hany, if_pos (.inr hsn)]) ?_ (fun c' hc' => hc2 c' (List.mem_cons_of_mem _ hc'))
              · simp only [List.length_append, List.length_cons, List.length_nil]; omega
            · rename Fr s.heap L' _ _ => F1
              rename News s.heap L' _ _ => N1
              rename Int.fmod _ 128 ≠ 34 => h34
              have h34' : c % 128 ≠ 34 := by rw [fm128] at h34; omega
              rename TSt.within _ = false => hwi
              rename List.any _ _ = true => hany
              rw [any4] at hany
              rename TSt.seen _ = false => hsn
              rename _ < _ ∧ _ < _ ∧ _ < _ ∧ _ < _ ∧ _ < _ => hl1
              refine iadd_news F1 N1 (by k_mem) hlo2 (ob := W.listOf (List.toArray []) 0) (by k_mem) (LO.listOf _ _) (Nat.ne_of_lt hl1.2.2.1) (by have := hus2.length; rw [List.length_map] at this; simp only [List.length_cons, List.length_nil]; omega) (rest := [(I2, o5), (I + 1, oe), (I, oi)]) (fun p hp => by
                simp only [List.mem_cons, List.not_mem_nil, or_false] at hp
                rcases hp with rfl | rfl | rfl
                · exact ⟨by k_mem, Nat.ne_of_gt hIw2⟩
                · exact ⟨by k_mem, Nat.ne_of_gt (Nat.lt_succ_of_lt hIw)⟩
                · exact ⟨by k_mem, Nat.ne_of_gt hIw⟩) fun h3 o3 F3 N3 hl3 => ?_
              clear F1 N1
              k_steps
              rename Fr s.heap L' _ _ => F1
              rename News s.heap L' _ _ => N1
              refine in_end (st := ⟨st2.tokens ++ [], [], false, st2.within⟩) F1 N1 (by k_mem) (by k_mem) (by k_mem) (by k_mem) ⟨by with_unfolding_all rfl, by with_unfolding_all rfl, ⟨_, by with_unfolding_all rfl⟩, by with_unfolding_all rfl, by with_unfolding_all rfl⟩ hIw2 hIe2 hIi2 hl3 (by rw [List.map_append]; exact hus2.append' .nil) (by rw [← hfin2, List.foldl_cons, ssBrk _ h39 h34' hwi hany, if_neg (by rw [hnil, hsn]; simp)]) ?_ (fun c' hc' => hc2 c' (List.mem_cons_of_mem _ hc'))
              · simp only [List.length_append, List.length_cons, List.length_nil]; omega
            · rename Fr s.heap L' _ _ => F1
              rename News s.heap L' _ _ => N1
              rename Int.fmod _ 128 ≠ 34 => h34
              have h34' : c % 128 ≠ 34 := by rw [fm128] at h34; omega
              rename List.any _ _ = false => hany
              rw [any4] at hany
              refine in_end (st := ⟨st2.tokens, st2.held ++ [c % 128], st2.seen, st2.within⟩) F1 N1 (by k_mem) (by k_mem) (by k_mem) (by k_mem) ⟨by with_unfolding_all rfl, by with_unfolding_all rfl, ⟨_, by rw [← fmN c]; with_unfolding_all rfl⟩, by with_unfolding_all rfl, by with_unfolding_all rfl⟩ hIw2 hIe2 hIi2 hlo2 hus2 (by rw [← hfin2, List.foldl_cons, ssApp _ h39 h34' (.inr hany)]) ?_ (fun c' hc' => hc2 c' (List.mem_cons_of_mem _ hc'))
              · simp only [List.length_append, List.length_cons, List.length_nil]; (try split) <;> (try simp only [List.length_cons, List.length_nil]) <;> omega
          · k_steps
            · rename Fr s.heap L' _ _ => F1
              rename News s.heap L' _ _ => N1
              rename Int.fmod _ 128 = 34 => h34
              have h34' : c % 128 = 34 := by rw [fm128] at h34; omega
              refine in_end (st := ⟨st2.tokens, st2.held, true, !st2.within⟩) F1 N1 (by k_mem) (by k_mem) (by k_mem) (by k_mem) ⟨by with_unfolding_all rfl, by with_unfolding_all rfl, ⟨_, by with_unfolding_all rfl⟩, by with_unfolding_all rfl, by with_unfolding_all rfl⟩ hIw2 hIe2 hIi2 hlo2 hus2 (by rw [← hfin2, List.foldl_cons, ss34 _ h39 h34']) ?_ (fun c' hc' => hc2 c' (List.mem_cons_of_mem _ hc'))
              · simp only [List.length_append, List.length_cons, List.length_nil]; (try split) <;> (try simp only [List.length_cons, List.length_nil]) <;> omega
            · rename Fr s.heap L' _ _ => F1
              rename News s.heap L' _ _ => N1
              rename Int.fmod _ 128 ≠ 34 => h34
              have h34' : c % 128 ≠ 34 := by rw [fm128] at h34; omega
              rename TSt.within _ = true => hwi
              refine in_end (st := ⟨st2.tokens, st2.held ++ [c % 128], st2.seen, st2.within⟩) F1 N1 (by k_mem) (by k_mem) (by k_mem) (by k_mem) ⟨by with_unfolding_all rfl, by with_unfolding_all rfl, ⟨_, by rw [← fmN c]; with_unfolding_all rfl⟩, by with_unfolding_all rfl, by with_unfolding_all rfl⟩ hIw2 hIe2 hIi2 hlo2 hus2 (by rw [← hfin2, List.foldl_cons, ssApp _ h39 h34' (.inl hwi)]) ?_ (fun c' hc' => hc2 c' (List.mem_cons_of_mem _ hc'))
              · simp only [List.length_append, List.length_cons, List.length_nil]; (try split) <;> (try simp only [List.length_cons, List.length_nil]) <;> omega
            · rename Fr s.heap L' _ _ => F1
              rename News s.heap L' _ _ => N1
              rename Int.fmod _ 128 ≠ 34 => h34
              have h34' : c % 128 ≠ 34 := by rw [fm128] at h34; omega
              rename TSt.within _ = false => hwi
              rename List.any _ _ = true => hany
              rw [any4] at hany
              rename _ < _ ∧ _ < _ ∧ _ < _ ∧ _ < _ ∧ _ < _ => hl1
              refine iadd_news F1 N1 (by k_mem) hlo2 (ob := W.listOf (List.toArray [Value.str (S st2.held) th]) 0) (by k_mem) (LO.listOf _ _) (Nat.ne_of_lt hl1.2.2.1) (by have := hus2.length; rw [List.length_map] at this; simp only [List.length_cons, List.length_nil]; omega) (rest := [(I2, o5), (I + 1, oe), (I, oi)]) (fun p hp => by
                simp only [List.mem_cons, List.not_mem_nil, or_false] at hp
                rcases hp with rfl | rfl | rfl
                · exact ⟨by k_mem, Nat.ne_of_gt hIw2⟩
                · exact ⟨by k_mem, Nat.ne_of_gt (Nat.lt_succ_of_lt hIw)⟩
                · exact ⟨by k_mem, Nat.ne_of_gt hIw⟩) fun h3 o3 F3 N3 hl3 => ?_
              clear F1 N1
              k_steps
              rename Fr s.heap L' _ _ => F1
              rename News s.heap L' _ _ => N1
              refine in_end (st := ⟨st2.tokens ++ [st2.held], [], false, st2.within⟩) F1 N1 (by k_mem) (by k_mem) (by k_mem) (by k_mem) ⟨by with_unfolding_all rfl, by with_unfolding_all rfl, ⟨_, by with_unfolding_all rfl⟩, by with_unfolding_all rfl, by with_unfolding_all rfl⟩ hIw2 hIe2 hIi2 hl3 (by rw [List.map_append]; exact hus2.append' (.cons _ _ .nil)) (by rw [← hfin2, List.foldl_cons, ssBrk _ h39 h34' hwi hany, if_pos (.inl hnil)]) ?_ (fun c' hc' => hc2 c' (List.mem_cons_of_mem _ hc'))
              · simp only [List.length_append, List.length_cons, List.length_nil]; omega
            · rename Fr s.heap L' _ _ => F1
              rename News s.heap L' _ _ => N1
              rename Int.fmod _ 128 ≠ 34 => h34
              have h34' : c % 128 ≠ 34 := by rw [fm128] at h34; omega
              rename List.any _ _ = false => hany
              rw [any4] at hany
              refine in_end (st := ⟨st2.tokens, st2.held ++ [c % 128], st2.seen, st2.within⟩) F1 N1 (by k_mem) (by k_mem) (by k_mem) (by k_mem) ⟨by with_unfolding_all rfl, by with_unfolding_all rfl, ⟨_, by rw [← fmN c]; with_unfolding_all rfl⟩, by with_unfolding_all rfl, by with_unfolding_all rfl⟩ hIw2 hIe2 hIi2 hlo2 hus2 (by rw [← hfin2, List.foldl_cons, ssApp _ h39 h34' (.inr hany)]) ?_ (fun c' hc' => hc2 c' (List.mem_cons_of_mem _ hc'))
              · simp only [List.length_append, List.length_cons, List.length_nil]; (try split) <;> (try simp only [List.length_cons, List.length_nil]) <;> omega
    · k_steps
      rename Fr s.heap L' _ _ => F1
      rename News s.heap L' _ _ => N1
      refine out_end (st := ⟨st.tokens, (st.held ++ (if (i == 0) = true then ([] : List Nat) else [32])) ++ w0, st.seen, st.within⟩) F1 N1 ⟨by with_unfolding_all rfl, by with_unfolding_all rfl, ⟨_, by rw [← pre_eq]; with_unfolding_all rfl⟩, by with_unfolding_all rfl, by with_unfolding_all rfl⟩ hIw hlo hws hus ?_ ?_ fun z hz => hb2 z (List.mem_cons_of_mem _ hz)
      · rw [← hfin]
        show _ = turnFold (wordTurn st (i == 0) w0) false ws
        unfold wordTurn
        rw [if_pos hs]
      · simp only [List.length_append]
        split <;> simp only [List.length_cons, List.length_nil] <;> omega
end
section
open PySem PySem.W PyProof.Rows PySem.Calls
set_option maxRecDepth 100000
set_option maxHeartbeats 8000000
open PyProof.Rows.LCg in
theorem comp_strN {prog : Program} {w : World} {A : Around} {E : Value → Shared → Prop} {s : Shared} {h₀ : Heap} {L : Addr} {m : Str → Option Value} {env : Env}
    {elt iter : PySem.Expr} {x : Str} {px : Pos} {scope : Scope} {cl : List (Str × Addr)} {pos : Pos} {Q : Value → Shared → Prop} (news : List (Addr × Obj))
    (hclos : closureFor scope env = pure cl) (hcell : ∀ y ∈ scope.names, y.2 ≠ .cell) (hkind : scope.kind = .function)
    (hnames : ∀ y ∈ scope.names, y.2 = .local → scope.names.lookup y.1 = some .local) (hx : scope.names.lookup x = some .local)
    (h : wpAny (model prog w) A (eval iter env) (fun xv s₁ => ∃ y t, xv = .str y t ∧ A.handled = none ∧ Fr h₀ L s₁.heap m ∧ News h₀ L s₁.heap news ∧ y.cps.size ≤ sizeLine ∧
      ∀ s₂ : Shared, (∃ h, s₂ = { s₁ with heap := h }) → CompRest prog w A h₀ L m env elt x scope cl s₂ (fun _ => True) (SignAt y) (FinE h₀ L m s₂ Q) y.cps.size 0 [] news) E s)
    (hs : ∀ x, foldedSetIterable iter env x = pure x) :
    wpAny (model prog w) A (eval (.ListComp elt [⟨.Name x px, iter, [], 0⟩] scope pos) env) Q E s := by
  rw [eval_ListComp]
  refine wpAny_comprehension_free (use := none) rfl hs hclos hkind hnames (wpAny_mono h (fun xv s₁ h₁ => ?_) fun _ _ e => e)
  obtain ⟨y, t, rfl, hh, F, N, hsz, R⟩ := h₁
  refine wpAny_pyIter_strU ?_
  have up : ∀ b o, s₁.heap.get? b = some o → (s₁.heap.push { cls := .type (strIterType y), data := .fields #[.str y t, .int 0 0] }).get? b = some o := fun b o e => Heap.get?_push_of_some _ e
  have W : Walks prog w A s₁.heap.objs.size [s₁.heap.objs.size] [s₁.heap.objs.size] y.cps.size (SignAt y) (fun i h => h.IsStrIter s₁.heap.objs.size (strIterType y) y t i) := by
    unfold strIterType
    split
    · exact Walks.strAscii hh _ _ _
    · exact Walks.strWide hh _ _ _
  refine block_U W hsz (fun i h st => by obtain ⟨o, e, _⟩ := st; exact ⟨o, e⟩) strit_st hcell hkind hx ⟨_, Heap.get?_push_size _ rfl, rfl, rfl⟩ (fun b hb => ?_)
      (F.keeps up) (N.grown up) (Nat.ne_of_lt F.ns.lt) (next_is_new F) (fun p hp => Nat.ne_of_lt (Heap.lt_size (N p hp).1)) trivial (R _ ⟨_, rfl⟩) ?_
  · rw [List.mem_singleton.mp hb]
    show s₁.heap.objs.size < (s₁.heap.push _).objs.size
    rw [Heap.size_push]; exact Nat.lt_succ_self _
  · intro D C h tk m' ys news' F' N' o1 hn hC₀ hD₀ hCL hDL hCD offC fin
    refine ⟨m', hn, fun h'' hs'' => fin D h'' tk (F'.change hs'' hCL hC₀) (fun p hp => ?_) o1⟩
    refine ⟨hs''.extBut _ _ ?_ (N' p hp).1, (N' p hp).2⟩
    rcases List.mem_cons.mp hp with rfl | hp
    · exact Ne.symm hCD
    · exact offC p hp
open PyProof.Rows.LCg in
/-- every sign of the text turned by f -/
theorem rest_mapN {prog : Program} {w : World} {A : Around} {h₀ : Heap} {L : Addr} {m : Str → Option Value} {env : Env} {elt : PySem.Expr} {x : Str} {scope : Scope} {cl : List (Str × Addr)} {s : Shared} {Q : Value → Shared → Prop} {y : Str} (f : Nat → Nat) {news : List (Addr × Obj)}
    (elem : ∀ C m₂ c t (s' : Shared) (Q' E' : Value → Shared → Prop), c ∈ y.cps.toList → s'.heap.Ns C m₂ → m₂ x = some (.str ⟨#[c]⟩ t) → Fr h₀ L s'.heap m → (∀ t' h' tk', Kp s'.heap h' → Q' (.str ⟨#[f c]⟩ t') { s' with heap := h', toks := tk' }) → wpAny (model prog w) A (eval elt (compEnvC scope cl C env)) Q' E' s')
    (hQ : ∀ D h tk ys, Fr h₀ L h m → News h₀ L h ((D, lst ys) :: news) → CharsAre ys (y.cps.toList.map f) → Q (.ref D) { s with heap := h, toks := tk }) :
    ∀ (k i : Nat) (ys : List Value), i + k = y.cps.size → CharsAre ys ((y.cps.toList.take i).map f) → CompRest prog w A h₀ L m env elt x scope cl s (fun _ => True) (SignAt y) (FinE h₀ L m s Q) k i ys news := by
  intro k
  induction k with
  | zero =>
    intro i ys hi hc D h tk F N _
    rw [List.take_of_length_le (by rw [Array.length_toList]; omega)] at hc
    exact hQ D h tk ys F N hc
  | succ k ih =>
    intro i ys hi hc
    refine CompRest.succ fun v I oI C oC D m₂ h tk E' hv hC hm F N off hne => ?_
    obtain ⟨c, u, hcu, rfl⟩ := hv
    have hmem : c ∈ y.cps.toList := by
      obtain ⟨h1, h2⟩ := Array.getElem?_eq_some_iff.mp hcu
      rw [← h2]; exact Array.getElem_mem_toList h1
    refine elem C m₂ c u _ _ _ hmem (hC.ns (N.get (a := C) (List.mem_cons_of_mem _ List.mem_cons_self))) hm F fun t' h' tk' kk => ?_
    refine CompEnd.intro (F.keeps kk) (N.grown kk) news (fun p hp => hp) off trivial ?_
    refine ih (i + 1) _ (by omega) ?_
    have e : y.cps.toList.take (i + 1) = y.cps.toList.take i ++ [c] := by
      rw [List.take_add_one]
      rw [show y.cps.toList[i]? = some c by rw [Array.getElem?_toList]; exact hcu]
      rfl
    rw [e, List.map_append]
    exact hc.snoc
open PyProof.Rows.LCg in
/-- every word of a list turned by f -/
theorem rest_words {prog : Program} {w : World} {A : Around} {h₀ : Heap} {L : Addr} {m : Str → Option Value} {env : Env} {elt : PySem.Expr} {x : Str} {scope : Scope} {cl : List (Str × Addr)} {s : Shared} {SP : List (Addr × Obj) → Prop} {Fin : List Value → List (Addr × Obj) → Prop} (f : List Nat → List Nat) {news : List (Addr × Obj)} {us : List Value} {ws : List (List Nat)}
    (hm : SP news) (hus : PyProof.Rows.StrsAre us (ws.map S))
    (elem : ∀ C m₂ wv t (all : List (Addr × Obj)) (s' : Shared) (Q' E' : Value → Shared → Prop), wv ∈ ws → s'.heap.Ns C m₂ → m₂ x = some (.str (S wv) t) → Fr h₀ L s'.heap m → News h₀ L s'.heap all → (∀ t' h' tk', Fr h₀ L h' m → News h₀ L h' all → Q' (.str (S (f wv)) t') { s' with heap := h', toks := tk' }) → wpAny (model prog w) A (eval elt (compEnvC scope cl C env)) Q' E' s')
    (hQ : ∀ ys, PyProof.Rows.StrsAre ys ((ws.map f).map S) → Fin ys news) :
    ∀ (k i : Nat) (ys : List Value), i + k = us.length → PyProof.Rows.StrsAre ys (((ws.take i).map f).map S) → CompRest prog w A h₀ L m env elt x scope cl s SP (fun i v => us.toArray[i]? = some v) Fin k i ys news := by
  have hlen : us.length = ws.length := by have := hus.length; rw [List.length_map] at this; exact this
  intro k
  induction k with
  | zero =>
    intro i ys hi hc
    rw [List.take_of_length_le (by omega)] at hc
    exact hQ ys hc
  | succ k ih =>
    intro i ys hi hc
    refine CompRest.succ fun v I oI C oC D m₂ h tk E' hv hC hm2 F N off hne => ?_
    have hi2 : i < ws.length := by omega
    have hv : us[i]? = some v := by simpa using hv
    obtain ⟨wv, hwv, t, hvt⟩ : ∃ wv, ws[i]? = some wv ∧ ∃ t, v = .str (S wv) t := by
      obtain ⟨a, ha, hK⟩ := (PyProof.Rows.StrsAre.areOf hus).get i v hv
      rw [List.getElem?_map] at ha
      obtain ⟨wv, h1, h2⟩ := Option.map_eq_some_iff.mp ha
      obtain ⟨t, ht⟩ := ItemKind.str_is hK
      exact ⟨wv, h1, t, by rw [ht, ← h2]⟩
    subst hvt
    refine elem C m₂ wv t _ { s with heap := h, toks := tk } _ _ (List.mem_of_getElem? hwv) (hC.ns (N.get (a := C) (List.mem_cons_of_mem _ List.mem_cons_self))) hm2 F N fun t' h' tk' F' N' => ?_
    refine CompEnd.intro F' N' news (fun p hp => hp) off hm ?_
    refine ih (i + 1) _ (by omega) ?_
    have e : ws.take (i + 1) = ws.take i ++ [wv] := by
      rw [List.take_add_one, hwv]
      rfl
    rw [e, List.map_append, List.map_append]
    exact hc.append' (.cons _ _ .nil)
open PyProof.Rows.LCg in
theorem srcL_of {prog : Program} {w : World} {A : Around} {h₀ : Heap} {L : Addr} {m : Str → Option Value} {env : Env} {elt : PySem.Expr} {x : Str} {scope : Scope} {cl : List (Str × Addr)} {Fin : Shared → List Value → List (Addr × Obj) → Prop} {s₁ : Shared} {news : List (Addr × Obj)} {l : Addr} {o : Obj} {us : List Value}
    (hh : A.handled = none) (F : Fr h₀ L s₁.heap m) (N : News h₀ L s₁.heap news) (hm : (l, o) ∈ news) (hl : LO o us) (hsz : us.length ≤ 1000)
    (h : ∀ g, CompRest prog w A h₀ L m env elt x scope cl { s₁ with heap := g } (SrcAt h₀ l us.toArray) (fun i v => us.toArray[i]? = some v) (Fin { s₁ with heap := g }) us.length 0 [] news) :
    CompSrc prog w A h₀ L m env elt x scope cl Fin (.ref l) s₁ :=
  .inl ⟨l, us.toArray, news, rfl, hh, F, N, .inr ⟨o, hm, hl.1, hl.2.2⟩, by rw [List.size_toArray]; exact Nat.le_trans hsz (by decide), fun _ ⟨g, e⟩ => by rw [List.size_toArray]; exact e ▸ h g⟩
open PyProof.Rows.LCg in
theorem srcAt_of {h₀ : Heap} {news : List (Addr × Obj)} {l : Addr} {o : Obj} {us : List Value} (hm : (l, o) ∈ news) (hl : LO o us) : SrcAt h₀ l us.toArray news := .inr ⟨o, hm, hl.1, hl.2.2⟩
open PyProof.Rows.LCg in
theorem comp_strF {prog : Program} {w : World} {A : Around} {E : Value → Shared → Prop} {s : Shared} {h₀ : Heap} {L : Addr} {m : Str → Option Value} {env : Env}
    {elt iter : PySem.Expr} {x : Str} {px : Pos} {scope : Scope} {cl : List (Str × Addr)} {pos : Pos} {Q : Value → Shared → Prop} (news : List (Addr × Obj)) (_F : Fr h₀ L s.heap m)
    (hclos : closureFor scope env = pure cl) (hcell : ∀ y ∈ scope.names, y.2 ≠ .cell) (hkind : scope.kind = .function)
    (hnames : ∀ y ∈ scope.names, y.2 = .local → scope.names.lookup y.1 = some .local) (hx : scope.names.lookup x = some .local)
    (hs : ∀ x, foldedSetIterable iter env x = pure x)
    (h : wpAny (model prog w) A (eval iter env) (fun xv s₁ => ∃ y t, xv = .str y t ∧ A.handled = none ∧ Fr h₀ L s₁.heap m ∧ News h₀ L s₁.heap news ∧ y.cps.size ≤ sizeLine ∧
      ∀ s₂ : Shared, (∃ h, s₂ = { s₁ with heap := h }) → CompRest prog w A h₀ L m env elt x scope cl s₂ (fun _ => True) (SignAt y) (FinE h₀ L m s₂ Q) y.cps.size 0 [] news) E s) :
    wpAny (model prog w) A (eval (.ListComp elt [⟨.Name x px, iter, [], 0⟩] scope pos) env) Q E s := comp_strN news hclos hcell hkind hnames hx h hs
end
section
open PySem PySem.W PyProof.Rows PySem.Calls
set_option maxRecDepth 100000
set_option maxHeartbeats 8000000
theorem ld_globG {M : Model} {A : Around} {E : Value → Shared → Prop} {s : Shared} {K : Frag} {h₀ : Heap} {C : Addr} {m mg mb : Str → Option Value} {scope : Scope} {cl : List (Str × Addr)} {code : Value} {env : Env} {p : Program} {loose : List Str} {x : Str} {pos : Pos} {v : Value} {Q : Value → Shared → Prop}
    (F : Fr h₀ C s.heap m) (X : K.In h₀) (T : TopRead p loose mg mb h₀) (e : nsIn K mainGlobals x = some (some v)) (h : Q v s) (hg : env.globals = mainGlobals := by rfl)
    (hk : scope.kind = .function := by rfl) (hx : (genEnv scope cl C code builtinsNs env).kindOf x = some .globalImplicit := by rfl) (hd : (x == ("__debug__" : Str)) = false := by decide) :
    wpAny M A (eval (.Name x pos) (genEnv scope cl C code builtinsNs env)) Q E s :=
  Name_function_global hk hx (loadGlobal_global (env := genEnv scope cl C code builtinsNs env) (show s.heap.Ns env.globals mg from hg ▸ (T.keeps F.keep).g) (mg_of X T.g e) h) hd
local macro_rules | `(tactic| walk_at "eval Name") => `(tactic| (k_here; k_dflt (first | (refine' ld_globG ?F ?X ?T ?e ?_; (case F => assumption); (case X => assumption); (case T => assumption); (case e => k_is)) | (refine' ldVarG ?F ?hv ?_; (case F => assumption); (case hv => assumption)))))
/-- the record of the codes of join's code object, before anything is laid down -/
noncomputable abbrev rec0 : Obj := { cls := .none, data := .fields #[] }
noncomputable abbrev vs750 : Array Value := #[.str { cps := #[106, 111, 105, 110] } 1238, .str { cps := #[106, 111, 105, 110] } 1239, .str { cps := #[47, 99, 108, 97, 105, 109, 47, 99, 117, 116, 46, 112, 121] } 1240, .int 733 0, .int 1 0, .int 0 0, .int 0 0, .int 3 0, .ref 745, .bool true, .int 318 0, .ref 746, .none, .ref 747, .ref 748, .ref 749, .int 1242 0, .int 733 0, .str { cps := #[47, 99, 108, 97, 105, 109, 47, 99, 117, 116, 46, 112, 121] } 1243]
theorem k_750 (P : Params) : (Mine.seed.heap_1 P).lookup 750 = some { cls := .type "code", dict := none, data := .fields vs750, slots := #[] } := by kernel_rfl
theorem based746 {P : Params} {h : Heap} (X : (Mine.seed.heap_1 P).In h) (h7 : h.get? 746 = some rec0) : Based h h 750 746 #[] := by
  have e := X _ _ (k_750 P)
  exact Based.start ⟨_, vs750, _, _, _, _, _, _, _, _, e, rfl, rfl, rfl, rfl, rfl, rfl, h7, rfl, trivial, by decide⟩ ⟨⟨_, vs750, e, rfl, rfl, rfl⟩, h7⟩ (by decide)
theorem filter_true {α : Type} (l : List α) : l.filter (fun _ => true) = l := List.filter_eq_self.mpr fun _ _ => rfl
theorem fold_le : ∀ (ts : List Str) (sep : Str) (B n : Nat), (∀ t ∈ ts, t.length ≤ B) → ts.foldl (fun a t => a + t.length + sep.length) n ≤ n + ts.length * (B + sep.length)
  | [], _, _, _, _ => by simp
  | t :: r, sep, B, n, h => by
    have h1 := h t List.mem_cons_self
    have h2 := fold_le r sep B (n + t.length + sep.length) fun x hx => h x (List.mem_cons_of_mem _ hx)
    rw [List.foldl_cons, List.length_cons, Nat.add_mul, Nat.one_mul]
    omega
theorem join_ok {xs : List Str} (hn : xs.length ≤ 20) (hx : ∀ x ∈ xs, x.length ≤ 100) : JoinOk (Str.ofString " ") (xs.map fun x => (⟨(qt x.cps.toList).toArray⟩ : Str)) = true := by
  have h1 : ∀ t ∈ xs.map (fun x => (⟨(qt x.cps.toList).toArray⟩ : Str)), t.length ≤ 502 := fun t ht => by
    obtain ⟨x, hm, rfl⟩ := List.mem_map.mp ht
    have h1 := hx x hm
    have h2 := qt_len x.cps.toList
    have h3 : x.cps.toList.length = x.cps.size := Array.length_toList
    have h4 : x.length = x.cps.size := rfl
    show (qt x.cps.toList).toArray.size ≤ 502
    rw [List.size_toArray]
    omega
  have h2 := fold_le _ (Str.ofString " ") 502 0 h1
  rw [List.length_map] at h2
  have h3 : (Str.ofString " ").length = 1 := by decide +kernel
  rw [h3] at h2
  unfold JoinOk PySem.Builtin.Str.tooLong
  rw [h3, List.foldl_toArray', Bool.not_eq_true']
  · rw [decide_eq_false_iff_not]
    have : sizeLine = 2 ^ 24 := rfl
    rw [h3] at *
    omega
  · rfl
theorem join_spec {prog : Program} {w : World} {A : Around} {E Q : Value → Shared → Prop} {s : Shared} {p : Program} {loose : List Str} {mg mb : Str → Option Value} {bm : Addr} {ob : Obj} {l : Addr} {vs : List Value} {xs : List Str}
    (X : (Mine.seed.heap_1 w.params).In s.heap) (T : TopRead p loose mg mb s.heap) (M : BMod s.heap mainGlobals mg bm ob) (h7 : s.heap.get? 746 = some rec0) (hh : A.handled = none) (hd : A.depth + 12 < recursionLimit) (hg : AllBare s.gens)
    (hl : s.heap.IsList l vs.toArray) (hi : AreOf .str vs xs) (hn : xs.length ≤ 20) (hx : ∀ x ∈ xs, x.length ≤ 100)
    (ret : ∀ y t' s' ps', (∀ b o, (regrown s.heap 746 ps').get? b = some o → s'.heap.get? b = some o) → AllBare s'.gens → s'.os = s.os → y = Txt.join (Str.ofString " ") (xs.map fun x => (⟨(qt x.cps.toList).toArray⟩ : Str)) → Q (.str y t') s') :
    wpAny (model prog w) A (call (.ref 751) [.ref l]) Q E s := by
  have B0 := based746 X h7
  refine wpAny_call ?_
  k_dflt (refine' code_pure (binds := [(Str.ofString "split_command", .ref l)]) ?k1 ?k2 ?k6 ?k7 ?k8 ?k9 ?kB ?_ ?c2 ?c3 ?c4 ?c5; walk_at "mine_side")
  intro L' h' F' N' hk'
  try dsimp only
  try k_fold
  repeat ((fail_if_success (with_reducible show wpAny _ _ (eval (PySem.Expr.GeneratorExp _ _ _ _) _) _ _ _)); first | (k_unfold; (try dsimp only)) | walk1 | (dsimp only; walk1))
  rename Fr s.heap L' _ _ => F1
  k_dflt (refine' GeneratorExp_DF (K := .str) (pz := fun _ => true) (d := fun x => .str (⟨(qt x.cps.toList).toArray⟩ : Str)) (m := (fun y => List.lookup y [(Str.ofString "split_command", Value.ref l)].reverse)) (L := L') (c := 750) (P := 746) (ps := #[]) B0 M ?hcode ?hnf ?hh ?hco ?hclos ?hcell ?h0 ?hx ?hkind ?hroom ?_ ?hs)
  case hcode => exact rfl
  case hnf => exact rfl
  case hh => exact hh
  case hco => exact rfl
  case hclos => exact rfl
  case hcell => decide
  case h0 => exact rfl
  case hx => exact rfl
  case hkind => exact rfl
  case hroom => (try simp only [depth_under_make, depth_under_kw, depth_in1, depth_deeper, depth_caller]); omega
  case hs => intro _; exact rfl
  try k_fold
  repeat ((fail_if_success (with_reducible show Exists _)); first | (k_unfold; (try dsimp only)) | walk1 | (dsimp only; walk1))
  refine ⟨l, vs, xs, L', rfl, F1.lst hl, hi, F1, hg, (T.keeps F1.keep).nolimit, Nat.le_refl _, (by obtain ⟨o, es, ep, e, _⟩ := F1.ns; exact Heap.lt_size e), ?_, ?_, ?_⟩
  · intro c' C A' E' a v u m₂ hA hD hU ha hv hF hm hLC hk
    exact wpAny_pure ⟨rfl, _, _, rfl, fun _ _ e => e⟩
  · intro c' C A' E' a v u m₂ hA hD hU ha hv hpz hF hm hLC hk
    obtain ⟨tv, rfl⟩ := hv
    have X2 := kb_in_regrown (ps' := #[] ++ #[rawInt 734, rawInt 20, .ref c']) B0 X T.g (by kernel_rfl)
    have T2 := LGe.top_regrown hF T B0
    have X3 := X2.keeps hF.keep
    repeat ((fail_if_success (with_reducible show wpAny _ _ (call (Value.ref 759) _) _ _ _)); first | walk1 | (dsimp only; walk1))
    have hD2 : A'.depth ≤ A.depth + 2 := hD
    refine quote_spec X3 (T2.keeps hF.keep) (by omega) (Nat.le_trans (hx a ha) (by decide)) fun y t' h' tk' kk hy => ?_
    have hy2 : y = (⟨(qt a.cps.toList).toArray⟩ : Str) := by
      obtain ⟨⟨yl⟩⟩ := y
      have hy : yl = qt a.cps.toList := hy
      rw [hy]
    subst hy2
    exact ⟨.str _ _, _, _, rfl, kk⟩
  · intro c' a s₅ B5 F5 hg5 hos5 hk5 G5
    repeat ((fail_if_success (with_reducible show wpAny _ _ (call (Value.builtin "str.join") _) _ _ _)); first | (k_unfold; (try dsimp only)) | walk1 | (dsimp only; walk1))
    try (k_unfold; dsimp only)
    have hle : xs.length ≤ sizeLine := Nat.le_trans hn (by decide)
    refine' join_genD F5 hg5 G5 (Nat.le_refl _) ?_ ?_ hle
    · rw [filter_true]; exact join_ok hn hx
    intro s6 t6 F6 hg6 hos6 hk6
    try k_fold
    k_steps
    all_goals (try dsimp only)
    all_goals (try k_steps)
    all_goals exact ret _ _ _ _ F6.keep hg6 (hos6.trans hos5) (by rw [filter_true])
end
end
section
open PySem
set_option maxRecDepth 100000
/-- the tokens of a text, from within -/
noncomputable def tk : St → List Nat → Bool → List Nat → Option (List (List Nat))
  | .sp, tok, qd, [] => some (if qd = false ∧ tok = [] then [] else [tok])
  | .a, tok, qd, [] => some (if qd = false ∧ tok = [] then [] else [tok])
  | .q, _, _, [] => none
  | .d, _, _, [] => none
  | .sp, tok, qd, c :: r => if white c then (if tok ≠ [] ∨ qd = true then (tk .sp [] false r).map (tok :: ·) else tk .sp tok qd r)
      else if c = 39 then tk .q tok qd r else if c = 34 then tk .d tok qd r else tk .a [c] qd r
  | .a, tok, qd, c :: r => if white c then (if tok ≠ [] ∨ qd = true then (tk .sp [] false r).map (tok :: ·) else tk .sp tok qd r)
      else if c = 39 then tk .q tok qd r else if c = 34 then tk .d tok qd r else tk .a (tok ++ [c]) qd r
  | .q, tok, _, c :: r => if c = 39 then tk .a tok true r else tk .q (tok ++ [c]) true r
  | .d, tok, _, c :: r => if c = 34 then tk .a tok true r else tk .d (tok ++ [c]) true r
noncomputable def goR (n : Nat) : Option (List Nat × Bool × Bool × List Nat) → Option (List (List Nat))
  | none => none
  | some (t, q, e, r) => if q = false ∧ t = [] then some [] else (rds n e r).map (t :: ·)
theorem rds_go (n : Nat) (l : List Nat) : rds (n + 1) false l = goR n (rd .sp [] false l) := by
  simp only [rds, nx]
  rw [if_neg (by decide)]
  cases h : rd .sp [] false l with
  | none => rfl
  | some x =>
    obtain ⟨t, q, e, r⟩ := x
    simp only [goR]
    by_cases hq : q = false ∧ t = []
    · rw [if_pos hq, if_pos hq]
    · rw [if_neg hq, if_neg hq]
theorem rds_end (n : Nat) : rds n true [] = some [] := by cases n <;> rfl
theorem go_tk : ∀ (l : List Nat) (n : Nat) (st : St) (tok : List Nat) (qd : Bool), l.length ≤ n → goR n (rd st tok qd l) = tk st tok qd l := by
  intro l
  induction l with
  | nil =>
    intro n st tok qd _
    cases st <;> simp only [rd, tk, goR, rds_end] <;> (try split) <;> rfl
  | cons c r ih =>
    intro n st tok qd hn
    have hr : r.length ≤ n := Nat.le_of_succ_le hn
    have cut : ∀ tok : List Nat, ¬ (qd = false ∧ tok = []) → goR n (some (tok, qd, false, r)) = (tk .sp [] false r).map (tok :: ·) := by
      intro tok h
      simp only [goR]
      rw [if_neg h]
      obtain ⟨m, rfl⟩ : ∃ m, n = m + 1 := ⟨n - 1, by simp only [List.length_cons] at hn; omega⟩
      rw [rds_go, ih m .sp [] false (by simp only [List.length_cons] at hn; omega)]
    cases st <;> simp only [rd, tk]
    · by_cases hw : white c = true
      · rw [if_pos hw, if_pos hw]
        by_cases h : tok ≠ [] ∨ qd = true
        · rw [if_pos h, if_pos h]; exact cut tok (by rintro ⟨h1, h2⟩; rcases h with h | h; exact h h2; rw [h1] at h; cases h)
        · rw [if_neg h, if_neg h]; exact ih n _ _ _ hr
      · rw [if_neg hw, if_neg hw]
        split
        · exact ih n _ _ _ hr
        · split
          · exact ih n _ _ _ hr
          · exact ih n _ _ _ hr
    · by_cases hw : white c = true
      · rw [if_pos hw, if_pos hw]
        by_cases h : tok ≠ [] ∨ qd = true
        · rw [if_pos h, if_pos h]; exact cut tok (by rintro ⟨h1, h2⟩; rcases h with h | h; exact h h2; rw [h1] at h; cases h)
        · rw [if_neg h, if_neg h]; exact ih n _ _ _ hr
      · rw [if_neg hw, if_neg hw]
        split
        · exact ih n _ _ _ hr
        · split
          · exact ih n _ _ _ hr
          · exact ih n _ _ _ hr
    · split <;> exact ih n _ _ _ hr
    · split <;> exact ih n _ _ _ hr
theorem rds_tk {l : List Nat} {n : Nat} (h : l.length ≤ n) : rds (n + 1) false l = tk .sp [] false l := by rw [rds_go, go_tk l n _ _ _ h]
/-- a fresh start between words and within one are alike -/
theorem sp_a : ∀ l : List Nat, tk .sp [] false l = tk .a [] false l
  | [] => rfl
  | c :: r => by simp only [tk, List.nil_append]
noncomputable def low (l : List Nat) : List Nat := l.map (· % 128)
theorem low_app (a b : List Nat) : low (a ++ b) = low a ++ low b := List.map_append
noncomputable def okW (w : List Nat) : Prop := ∀ c ∈ w, c = 39 ∨ (c % 128 ≠ 39 ∧ c % 128 ≠ 92)
theorem q_any (tok : List Nat) (b b' : Bool) : ∀ l, tk .q tok b l = tk .q tok b' l
  | [] => rfl
  | _ :: _ => rfl
theorem d_any (tok : List Nat) (b b' : Bool) : ∀ l, tk .d tok b l = tk .d tok b' l
  | [] => rfl
  | _ :: _ => rfl
theorem a39 (tok : List Nat) (b : Bool) (r : List Nat) : tk .a tok b (39 :: r) = tk .q tok true r := by
  simp only [tk]; rw [if_neg (by decide), if_pos trivial]; exact q_any _ _ _ _
theorem a34 (tok : List Nat) (b : Bool) (r : List Nat) : tk .a tok b (34 :: r) = tk .d tok true r := by
  simp only [tk]; rw [if_neg (by decide), if_neg (by decide), if_pos trivial]; exact d_any _ _ _ _
theorem aApp (tok : List Nat) (b : Bool) (r : List Nat) {c : Nat} (h : white c = false) (h1 : c ≠ 39) (h2 : c ≠ 34) : tk .a tok b (c :: r) = tk .a (tok ++ [c]) b r := by
  simp only [tk]; rw [if_neg (by rw [h]; decide), if_neg h1, if_neg h2]
theorem q39 (tok : List Nat) (b : Bool) (r : List Nat) : tk .q tok b (39 :: r) = tk .a tok true r := by simp only [tk]; rw [if_pos trivial]
theorem qApp (tok : List Nat) (b : Bool) (r : List Nat) {c : Nat} (h : c ≠ 39) : tk .q tok b (c :: r) = tk .q (tok ++ [c]) true r := by simp only [tk]; rw [if_neg h]
theorem d34 (tok : List Nat) (b : Bool) (r : List Nat) : tk .d tok b (34 :: r) = tk .a tok true r := by simp only [tk]; rw [if_pos trivial]
theorem dApp (tok : List Nat) (b : Bool) (r : List Nat) {c : Nat} (h : c ≠ 34) : tk .d tok b (c :: r) = tk .d (tok ++ [c]) true r := by simp only [tk]; rw [if_neg h]
theorem aCut (tok : List Nat) (b : Bool) (r : List Nat) {c : Nat} (hw : white c = true) (h : tok ≠ [] ∨ b = true) : tk .a tok b (c :: r) = (tk .a [] false r).map (tok :: ·) := by
  simp only [tk]; rw [if_pos hw, if_pos h, sp_a]
theorem aSkip (r : List Nat) {c : Nat} (hw : white c = true) : tk .a [] false (c :: r) = tk .a [] false r := by
  simp only [tk]; rw [if_pos hw, if_neg (by simp), sp_a]
/-- the reading within a word that join had quoted, inside out -/
noncomputable def tkB (st : TSt) (l : List Nat) : Option (List (List Nat)) := (if st.within = true then tk .d st.held true l else tk .a st.held st.seen l).map (st.tokens ++ ·)
noncomputable def tkM (st : TSt) (l : List Nat) : Option (List (List Nat)) := (if st.within = true then tk .d st.held true l else tk .q st.held true l).map (st.tokens ++ ·)
theorem sq_cons (c : Nat) (w : List Nat) : sq (c :: w) = (if c = 39 then [39, 34, 39, 34, 39] else [c]) ++ sq w := by
  unfold sq sqz; rw [List.flatMap_cons]
theorem tkB_sign (st : TSt) (c : Nat) (hc : c = 39 ∨ (c % 128 ≠ 39 ∧ c % 128 ≠ 92)) (R : List Nat) : tkB st (low (if c = 39 then [39, 34, 39, 34, 39] else [c]) ++ R) = tkB (signStep st c) R := by
  obtain ⟨toks, held, seen, within⟩ := st
  by_cases h39 : c = 39
  · subst h39
    rw [ss39]
    simp only [low, if_true, List.map_cons, List.map_nil, List.cons_append, List.nil_append, tkB]
    cases within
    · simp only [Bool.false_eq_true, if_false, Bool.not_false, if_true]
      rw [a39, qApp _ _ _ (by decide), q39, a34, dApp _ _ _ (by decide), List.append_assoc]; rfl
    · simp only [if_true, Bool.not_true, Bool.false_eq_true, if_false]
      rw [dApp _ _ _ (by decide), d34, a39, qApp _ _ _ (by decide), q39, List.append_assoc]; rfl
  · have hk : c % 128 ≠ 39 := by rcases hc with h | h; exact absurd h h39; exact h.1
    simp only [low, if_neg h39, List.map_cons, List.map_nil, List.cons_append, List.nil_append]
    by_cases h34 : c % 128 = 34
    · rw [ss34 _ h39 h34, h34]
      simp only [tkB]
      cases within
      · simp only [Bool.false_eq_true, if_false, Bool.not_false, if_true]; rw [a34]
      · simp only [if_true, Bool.not_true, Bool.false_eq_true, if_false]; rw [d34]
    · cases within
      · cases hw : white (c % 128)
        · rw [ssApp _ h39 h34 (.inr hw)]
          simp only [tkB, Bool.false_eq_true, if_false]
          rw [aApp _ _ _ hw hk h34]
        · rw [ssBrk _ h39 h34 rfl hw]
          simp only [tkB, Bool.false_eq_true, if_false]
          by_cases hh : held ≠ [] ∨ seen = true
          · rw [aCut _ _ _ hw hh, if_pos hh]
            cases tk .a [] false R with
            | none => rfl
            | some x => simp
          · have h1 : held = [] := by rcases held with _ | ⟨a, b⟩; rfl; exact absurd (.inl (by simp)) hh
            have h2 : seen = false := by cases seen; rfl; exact absurd (.inr rfl) hh
            subst h1 h2
            rw [aSkip _ hw, if_neg hh, List.append_nil]
      · rw [ssApp _ h39 h34 (.inl rfl)]
        simp only [tkB, if_true]
        rw [dApp _ _ _ h34]
theorem tkB_word : ∀ (w : List Nat) (st : TSt) (R : List Nat), okW w → tkB st (low (sq w) ++ R) = tkB (w.foldl signStep st) R
  | [], st, R, _ => rfl
  | c :: w, st, R, h => by
    rw [sq_cons, low_app, List.append_assoc, tkB_sign st c (h c List.mem_cons_self), List.foldl_cons]
    exact tkB_word w _ R fun x hx => h x (List.mem_cons_of_mem _ hx)
theorem row_bad (c : Nat) : isRow c = !(bad c) := by
  by_cases h : c < 256
  · have e : ∀ k : Nat, k < 256 → isRow k = !(bad k) := by decide +kernel
    exact e c h
  · have e1 : isRow c = false := by
      unfold isRow
      have hall : ∀ k ∈ rowS.cps.toList, k < 256 := by
        have : rowS.cps.toList.all (fun k => decide (k < 256)) = true := by decide +kernel
        intro k hk; exact of_decide_eq_true (List.all_eq_true.mp this k hk)
      cases q : rowS.cps.toList.contains c
      · rfl
      · exact absurd (hall c (by simpa using q)) h
    have e2 : bad c = true := by
      unfold bad inCs Sre.isWord Sre.isDigit
      rw [decide_eq_false h]
      simp only [Bool.false_and, Bool.false_or, Bool.not_eq_true', Bool.or_eq_false_iff, Bool.and_eq_false_iff, decide_eq_false_iff_not, beq_eq_false_iff_ne]
      omega
    rw [e1, e2]; rfl
theorem qt_safe {w : List Nat} (h : safeL w = true) : qt w = w ∧ w ≠ [] ∧ ∀ c ∈ w, isRow c = true := by
  unfold safeL at h
  simp only [Bool.and_eq_true, Bool.not_eq_true', List.isEmpty_eq_false_iff, List.all_eq_true] at h
  refine ⟨?_, h.1, h.2⟩
  unfold qt
  rw [if_neg h.1, if_neg]
  rw [List.any_eq_true]
  rintro ⟨c, hc, hb⟩
  have := h.2 c hc
  rw [row_bad, hb] at this; cases this
theorem qt_unsafe {w : List Nat} (h : safeL w = false) : qt w = 39 :: (sq w ++ [39]) := by
  unfold qt
  by_cases h0 : w = []
  · subst h0; rfl
  · rw [if_neg h0]
    rw [if_pos]
    unfold safeL at h
    have h1 : w.isEmpty = false := by simpa using h0
    rw [h1, Bool.not_false, Bool.true_and] at h
    rw [List.any_eq_true]
    have h2 : ¬ ∀ c ∈ w, isRow c = true := by rw [← List.all_eq_true, h]; decide
    have h3 := Classical.not_forall.mp h2
    obtain ⟨c, hc⟩ := h3
    have h4 := Classical.not_imp.mp hc
    refine ⟨c, h4.1, ?_⟩
    have h5 := h4.2
    rw [row_bad] at h5
    cases q : bad c
    · rw [q] at h5; exact absurd rfl h5
    · rfl
theorem row_ok {c : Nat} (h : isRow c = true) : c % 128 = c ∧ c ≠ 39 ∧ c ≠ 34 ∧ white c = false := by
  have hall : rowS.cps.toList.all (fun k => decide (k % 128 = k ∧ k ≠ 39 ∧ k ≠ 34 ∧ white k = false)) = true := by decide +kernel
  exact of_decide_eq_true (List.all_eq_true.mp hall c (by unfold isRow at h; simpa using h))
theorem low_row {w : List Nat} (h : ∀ c ∈ w, isRow c = true) : low w = w := by
  unfold low
  exact (List.map_congr_left fun c hc => (row_ok (h c hc)).1).trans (List.map_id w)
theorem q_row : ∀ (w tok : List Nat) (b : Bool) (R : List Nat), (∀ c ∈ w, isRow c = true) → tk .q tok b (w ++ R) = tk .q (tok ++ w) b R
  | [], tok, b, R, _ => by rw [List.append_nil]; rfl
  | c :: w, tok, b, R, h => by
    rw [List.cons_append, qApp _ _ _ (row_ok (h c List.mem_cons_self)).2.1, q_row w _ _ R fun x hx => h x (List.mem_cons_of_mem _ hx), List.append_assoc]
    exact q_any _ _ _ _
theorem d_row : ∀ (w tok : List Nat) (b : Bool) (R : List Nat), (∀ c ∈ w, isRow c = true) → tk .d tok b (w ++ R) = tk .d (tok ++ w) b R
  | [], tok, b, R, _ => by rw [List.append_nil]; rfl
  | c :: w, tok, b, R, h => by
    rw [List.cons_append, dApp _ _ _ (row_ok (h c List.mem_cons_self)).2.2.1, d_row w _ _ R fun x hx => h x (List.mem_cons_of_mem _ hx), List.append_assoc]
    exact d_any _ _ _ _
theorem a_row : ∀ (w tok : List Nat) (b : Bool) (R : List Nat), (∀ c ∈ w, isRow c = true) → tk .a tok b (w ++ R) = tk .a (tok ++ w) b R
  | [], tok, b, R, _ => by rw [List.append_nil]; rfl
  | c :: w, tok, b, R, h => by
    have z := row_ok (h c List.mem_cons_self)
    rw [List.cons_append, aApp _ _ _ z.2.2.2 z.2.1 z.2.2.1, a_row w _ _ R fun x hx => h x (List.mem_cons_of_mem _ hx), List.append_assoc]
    rfl
theorem tkM_word (st : TSt) (w : List Nat) (R : List Nat) (hw : okW w) (hs : st.seen = true) : tkM st (low (qt w) ++ R) = tkM (wordTurn st true w) R ∧ (wordTurn st true w).seen = true := by
  cases h : safeL w
  · have e := wordTurn_un (st := st) (f := true) h rfl
    rw [e]
    refine ⟨?_, rfl⟩
    rw [qt_unsafe h]
    obtain ⟨toks, held, seen, within⟩ := st
    have hs : seen = true := hs
    subst hs
    have e1 : low (39 :: (sq w ++ [39])) ++ R = 39 :: (low (sq w) ++ (39 :: R)) := by
      rw [show (39 :: (sq w ++ [39])) = [39] ++ (sq w ++ [39]) from rfl, low_app, low_app]
      simp [low]
    rw [e1]
    have e2 : tkM ⟨toks, held, true, within⟩ (39 :: (low (sq w) ++ (39 :: R))) = tkB ⟨toks, held ++ (if within = true then [39] else []), true, within⟩ (low (sq w) ++ (39 :: R)) := by
      cases within
      · simp only [tkM, tkB, Bool.false_eq_true, if_false, List.append_nil]; rw [q39]
      · simp only [tkM, tkB, if_true]; rw [dApp _ _ _ (by decide)]
    rw [e2, tkB_word w _ _ hw]
    simp only [if_true, List.append_nil]
    generalize w.foldl signStep ⟨toks, held ++ (if within = true then [39] else []), true, within⟩ = st2
    obtain ⟨t2, h2, s2, w2⟩ := st2
    cases w2
    · simp only [tkB, tkM, Bool.false_eq_true, if_false, List.append_nil]; rw [a39]
    · simp only [tkB, tkM, if_true]; rw [dApp _ _ _ (by decide)]
  · obtain ⟨h1, h2, h3⟩ := qt_safe h
    rw [h1, low_row h3]
    have e : wordTurn st true w = { st with held := st.held ++ w } := by
      unfold wordTurn; simp only [h, if_true, List.append_nil]
    rw [e]
    refine ⟨?_, hs⟩
    simp only [tkM]
    split
    · rw [d_row w _ _ R h3]
    · rw [q_row w _ _ R h3]
theorem tkM_blank (st : TSt) (R : List Nat) : tkM st (32 :: R) = tkM { st with held := st.held ++ [32] } R := by
  simp only [tkM]
  split
  · rw [dApp _ _ _ (by decide)]
  · rw [qApp _ _ _ (by decide)]
theorem wordTurn_blank (st : TSt) (w : List Nat) : wordTurn st false w = wordTurn { st with held := st.held ++ [32] } true w := by
  unfold wordTurn
  simp only [Bool.false_eq_true, if_false, if_true, List.append_nil]
/-- the line after its first word -/
noncomputable def lineR : List (List Nat) → List Nat
  | [] => []
  | w :: r => 32 :: (qt w ++ lineR r)
noncomputable def lineL : List (List Nat) → List Nat
  | [] => []
  | w :: r => qt w ++ lineR r
theorem tkM_rest : ∀ (ws : List (List Nat)) (st : TSt) (R : List Nat), (∀ w ∈ ws, okW w) → st.seen = true → tkM st (low (lineR ws) ++ R) = tkM (turnFold st false ws) R
  | [], _, _, _, _ => rfl
  | w :: ws, st, R, hw, hs => by
    have e : low (lineR (w :: ws)) ++ R = 32 :: (low (qt w) ++ (low (lineR ws) ++ R)) := by
      show low (32 :: (qt w ++ lineR ws)) ++ R = _
      rw [show (32 :: (qt w ++ lineR ws)) = [32] ++ (qt w ++ lineR ws) from rfl, low_app, low_app]
      simp [low]
    have h2 := tkM_word { st with held := st.held ++ [32] } w (low (lineR ws) ++ R) (hw w List.mem_cons_self) hs
    rw [e, tkM_blank, h2.1, ← wordTurn_blank]
    exact tkM_rest ws _ R (fun x hx => hw x (List.mem_cons_of_mem _ hx)) (by rw [wordTurn_blank]; exact h2.2)
theorem tkM_line (ws : List (List Nat)) (st : TSt) (R : List Nat) (hw : ∀ w ∈ ws, okW w) (hs : st.seen = true) : tkM st (low (lineL ws) ++ R) = tkM (turnFold st true ws) R := by
  cases ws with
  | nil => rfl
  | cons w ws =>
    have h2 := tkM_word st w (low (lineR ws) ++ R) (hw w List.mem_cons_self) hs
    rw [show lineL (w :: ws) = qt w ++ lineR ws from rfl, low_app, List.append_assoc, h2.1]
    exact tkM_rest ws _ R (fun x hx => hw x (List.mem_cons_of_mem _ hx)) h2.2
noncomputable def marks : Nat → List Nat
  | 0 => []
  | n + 1 => 39 :: marks n
theorem a_pairs : ∀ (j : Nat) (tok : List Nat) (b : Bool) (X : List Nat), tk .a tok b (marks (2 * j) ++ X) = tk .a tok (b || decide (0 < j)) X
  | 0, tok, b, X => by simp [marks]
  | j + 1, tok, b, X => by
    rw [show 2 * (j + 1) = 2 * j + 1 + 1 by omega]
    simp only [marks, List.cons_append]
    rw [a39, q39, a_pairs j]
    simp
theorem d_marks : ∀ (k : Nat) (tok : List Nat) (b : Bool), tk .d tok b (marks k) = none
  | 0, _, _ => rfl
  | k + 1, tok, b => by
    simp only [marks]
    rw [dApp _ _ _ (by decide)]; exact d_marks k _ _
theorem tk_odd (ws : List (List Nat)) (j : Nat) (hw : ∀ w ∈ ws, okW w) : tk .sp [] false (marks (2 * j + 1) ++ (low (lineL ws) ++ marks (2 * j + 1))) = turnedL ws := by
  rw [sp_a]
  have e : marks (2 * j + 1) ++ (low (lineL ws) ++ marks (2 * j + 1)) = marks (2 * j) ++ (39 :: (low (lineL ws) ++ marks (2 * j + 1))) := by
    have : ∀ k (X : List Nat), marks (k + 1) ++ X = marks k ++ (39 :: X) := by
      intro k
      induction k with
      | zero => intro X; rfl
      | succ k ih => intro X; show 39 :: (marks (k + 1) ++ X) = 39 :: (marks k ++ (39 :: X)); rw [ih]
    exact this _ _
  rw [e, a_pairs, a39]
  have h := tkM_line ws ⟨[], [], true, false⟩ (marks (2 * j + 1)) hw rfl
  have h2 : tkM ⟨[], [], true, false⟩ (low (lineL ws) ++ marks (2 * j + 1)) = tk .q [] true (low (lineL ws) ++ marks (2 * j + 1)) := by
    simp only [tkM, Bool.false_eq_true, if_false]
    cases tk .q [] true (low (lineL ws) ++ marks (2 * j + 1)) <;> simp
  rw [← h2, h]
  unfold turnedL
  generalize turnFold ⟨[], [], true, false⟩ true ws = st
  simp only [tkM]
  split
  · rw [d_marks]; rfl
  · simp only [marks]
    rw [q39]
    have := a_pairs j st.held true []
    rw [List.append_nil] at this
    rw [this]
    simp [tk]
end
section
open PySem
set_option maxRecDepth 100000
theorem q_word : ∀ (w tok : List Nat) (b : Bool) (R : List Nat), okW w → tk .q tok b (low (sq w) ++ (39 :: R)) = tk .a (tok ++ low w) true R
  | [], tok, b, R, _ => by
    show tk .q tok b (39 :: R) = _
    rw [q39, show low [] = [] from rfl, List.append_nil]
  | c :: w, tok, b, R, h => by
    have hr : okW w := fun x hx => h x (List.mem_cons_of_mem _ hx)
    rw [sq_cons, low_app, List.append_assoc, show low (c :: w) = [c % 128] ++ low w from rfl]
    by_cases h39 : c = 39
    · subst h39
      simp only [low, if_true, List.map_cons, List.map_nil, List.cons_append, List.nil_append]
      rw [q39, a34, dApp _ _ _ (by decide), d34, a39]
      have := q_word w (tok ++ [39]) true R hr
      simp only [low] at this
      rw [this, List.append_assoc]; rfl
    · have hk : c % 128 ≠ 39 := by rcases h c List.mem_cons_self with z | z; exact absurd z h39; exact z.1
      simp only [low, if_neg h39, List.map_cons, List.map_nil, List.cons_append, List.nil_append]
      rw [qApp _ _ _ hk]
      have := q_word w (tok ++ [c % 128]) true R hr
      simp only [low] at this
      rw [this, List.append_assoc]; rfl
theorem a_word (w : List Nat) (b : Bool) (R : List Nat) (hw : okW w) : tk .a [] b (low (qt w) ++ R) = tk .a (low w) (b || !safeL w) R := by
  cases h : safeL w
  · rw [qt_unsafe h]
    have e1 : low (39 :: (sq w ++ [39])) ++ R = 39 :: (low (sq w) ++ (39 :: R)) := by
      rw [show (39 :: (sq w ++ [39])) = [39] ++ (sq w ++ [39]) from rfl, low_app, low_app]
      simp [low]
    rw [e1, a39, q_word w _ _ _ hw]
    simp
  · obtain ⟨h1, h2, h3⟩ := qt_safe h
    rw [h1, low_row h3, a_row w _ _ R h3]
    simp
theorem low_ne {w : List Nat} (h : w ≠ []) : low w ≠ [] := by
  unfold low; simpa using h
theorem straight_rest (j : Nat) : ∀ (ws : List (List Nat)) (tok : List Nat) (b : Bool), (∀ w ∈ ws, okW w) → (tok ≠ [] ∨ b = true) → tk .a tok b (low (lineR ws) ++ marks (2 * j)) = some (tok :: ws.map low)
  | [], tok, b, _, ht => by
    show tk .a tok b (marks (2 * j)) = _
    have := a_pairs j tok b []
    rw [List.append_nil] at this
    rw [this]
    simp only [tk]
    rw [if_neg]; rfl
    rintro ⟨h1, h2⟩
    rcases ht with h | h
    · exact h h2
    · rw [h] at h1; simp at h1
  | w :: ws, tok, b, hw, ht => by
    have e : low (lineR (w :: ws)) ++ marks (2 * j) = 32 :: (low (qt w) ++ (low (lineR ws) ++ marks (2 * j))) := by
      show low (32 :: (qt w ++ lineR ws)) ++ _ = _
      rw [show (32 :: (qt w ++ lineR ws)) = [32] ++ (qt w ++ lineR ws) from rfl, low_app, low_app]
      simp [low]
    rw [e, aCut _ _ _ (by decide) ht, a_word w false _ (hw w List.mem_cons_self), straight_rest j ws _ _ (fun x hx => hw x (List.mem_cons_of_mem _ hx))]
    · rfl
    · cases h : safeL w
      · right; rfl
      · left; exact low_ne (qt_safe h).2.1
theorem tk_even (ws : List (List Nat)) (j : Nat) (hw : ∀ w ∈ ws, okW w) (hne : ws ≠ []) : tk .sp [] false (marks (2 * (j + 1)) ++ (low (lineL ws) ++ marks (2 * (j + 1)))) = some (ws.map low) := by
  rw [sp_a, a_pairs]
  cases ws with
  | nil => exact absurd rfl hne
  | cons w ws =>
    rw [show lineL (w :: ws) = qt w ++ lineR ws from rfl, low_app, List.append_assoc, a_word w _ _ (hw w List.mem_cons_self)]
    rw [straight_rest (j + 1) ws _ _ (fun x hx => hw x (List.mem_cons_of_mem _ hx))]
    · rfl
    · right; simp
/-- the sending -/
theorem or_low (c : Nat) : (c ||| 128) % 128 = c % 128 := by
  rw [show (128 : Nat) = 2 ^ 7 from rfl, Nat.or_mod_two_pow]
  simp
theorem or_ge (c : Nat) : 128 ≤ c ||| 128 := Nat.right_le_or
theorem sq_none : ∀ (l : List Nat), (∀ c ∈ l, c ≠ 39) → sq l = l
  | [], _ => rfl
  | c :: l, h => by rw [sq_cons, if_neg (h c List.mem_cons_self), sq_none l fun x hx => h x (List.mem_cons_of_mem _ hx)]; rfl
theorem bad_ge {c : Nat} (h : 128 ≤ c) : bad c = true := by
  cases q : bad c
  · have h2 : isRow c = true := by rw [row_bad, q]; rfl
    have h3 := (row_ok h2).1
    have := Nat.mod_lt c (show 128 > 0 by decide)
    omega
  · rfl
theorem sentL_eq {l : List Nat} (h : l ≠ []) : sentL l = 39 :: (low l ++ [39]) := by
  have hge : ∀ c ∈ l.map (· ||| 128), 128 ≤ c := by
    intro c hc
    obtain ⟨a, _, rfl⟩ := List.mem_map.mp hc
    exact or_ge a
  have hne : l.map (· ||| 128) ≠ [] := by simpa using h
  unfold sentL qt
  rw [if_neg hne, if_pos, sq_none _ fun c hc q => by have := hge c hc; omega]
  · simp only [List.map_cons, List.map_append, List.map_map, List.map_nil, low]
    congr 2
    apply List.map_congr_left
    intro c _
    exact or_low c
  · rw [List.any_eq_true]
    obtain ⟨c, r, hr⟩ := List.exists_cons_of_ne_nil hne
    exact ⟨c, by rw [hr]; exact List.mem_cons_self, bad_ge (hge c (by rw [hr]; exact List.mem_cons_self))⟩
theorem low_low (l : List Nat) : low (low l) = low l := by
  unfold low; rw [List.map_map]; apply List.map_congr_left; intro c _; simp
theorem low_marks : ∀ k, low (marks k) = marks k
  | 0 => rfl
  | k + 1 => by rw [show marks (k + 1) = [39] ++ marks k from rfl, low_app, low_marks k]; rfl
theorem marks_snoc : ∀ k, marks k ++ [39] = marks (k + 1)
  | 0 => rfl
  | k + 1 => by rw [show marks (k + 1) = 39 :: marks k from rfl, List.cons_append, marks_snoc k]; rfl
noncomputable def sentN : Nat → List Nat → List Nat
  | 0, l => l
  | k + 1, l => sentL (sentN k l)
theorem sentN_eq {l : List Nat} (h : l ≠ []) : ∀ k, sentN (k + 1) l = marks (k + 1) ++ (low l ++ marks (k + 1))
  | 0 => by show sentL l = _; rw [sentL_eq h]; rfl
  | k + 1 => by
    show sentL (sentN (k + 1) l) = _
    rw [sentN_eq h k, sentL_eq (by simp [marks]), low_app, low_app, low_marks, low_low, List.append_assoc, List.append_assoc, marks_snoc]
    rfl
/-- what the words weigh -/
noncomputable def wt : List (List Nat) → Nat
  | [] => 0
  | w :: r => 5 * w.length + 4 + wt r
theorem wt_app : ∀ (a b : List (List Nat)), wt (a ++ b) = wt a + wt b
  | [], b => by simp [wt]
  | w :: a, b => by simp only [List.cons_append, wt, wt_app a b]; omega
noncomputable def goodWs (ws : List (List Nat)) : Prop := ws ≠ [] ∧ ∀ w ∈ ws, okW w ∧ ∀ c ∈ w, c < 1114112
theorem good_step {ws : List (List Nat)} (i : Int) (h : goodWs ws) : goodWs (wordStep ws i) ∧ wt (wordStep ws i) ≤ wt ws + 5 ∧ (wordStep ws i).length ≤ ws.length + 1 := by
  unfold wordStep
  dsimp only
  split
  · refine ⟨⟨by simp, ?_⟩, ?_, by simp⟩
    · intro w hw
      rcases List.mem_append.mp hw with hw | hw
      · exact h.2 w hw
      · rw [List.mem_singleton.mp hw]; exact ⟨fun c hc => (nomatch hc), fun c hc => (nomatch hc)⟩
    · rw [wt_app]; simp [wt]
  · rename_i h6
    obtain ⟨a, l, rfl⟩ : ∃ a l, ws = a ++ [l] := ⟨ws.dropLast, ws.getLast h.1, (List.dropLast_concat_getLast h.1).symm⟩
    have hc := lawCode_ok (f := (i.emod 100000000).toNat % 6) (r := (i.emod 100000000).toNat / 6) (by omega)
    refine ⟨⟨by simp, ?_⟩, ?_, by simp⟩
    · intro w hw
      simp only [List.dropLast_concat, List.getLastD_concat] at hw
      rcases List.mem_append.mp hw with hw | hw
      · exact h.2 w (List.mem_append_left _ hw)
      · rw [List.mem_singleton.mp hw]
        have hl := h.2 l (List.mem_append_right _ List.mem_cons_self)
        refine ⟨fun c hc' => ?_, fun c hc' => ?_⟩
        · rcases List.mem_append.mp hc' with hc' | hc'
          · exact hl.1 c hc'
          · rw [List.mem_singleton.mp hc']; exact hc.2
        · rcases List.mem_append.mp hc' with hc' | hc'
          · exact hl.2 c hc'
          · rw [List.mem_singleton.mp hc']; exact hc.1
    · simp only [List.dropLast_concat, List.getLastD_concat, wt_app, wt, List.length_append, List.length_cons, List.length_nil]; omega
theorem good_fold : ∀ (is : List Int) (ws : List (List Nat)), goodWs ws → goodWs (is.foldl wordStep ws) ∧ wt (is.foldl wordStep ws) ≤ wt ws + 5 * is.length ∧ (is.foldl wordStep ws).length ≤ ws.length + is.length
  | [], ws, h => ⟨h, by simp, by simp⟩
  | i :: is, ws, h => by
    have h1 := good_step i h
    have h2 := good_fold is _ h1.1
    rw [List.foldl_cons, List.length_cons]
    exact ⟨h2.1, by omega, by omega⟩
theorem good0 : goodWs words0 := by
  refine ⟨by decide, ?_⟩
  have : ∀ w ∈ words0, ∀ c ∈ w, (c = 39 ∨ (c % 128 ≠ 39 ∧ c % 128 ≠ 92)) ∧ c < 1114112 := by decide
  exact fun w hw => ⟨fun c hc => (this w hw c hc).1, fun c hc => (this w hw c hc).2⟩
theorem lineR_len : ∀ ws : List (List Nat), (lineR ws).length ≤ wt ws
  | [] => Nat.le_refl _
  | w :: r => by
    have h1 := qt_len w
    have h2 := lineR_len r
    simp only [lineR, wt, List.length_cons, List.length_append]; omega
theorem lineL_len (ws : List (List Nat)) : (lineL ws).length ≤ wt ws := by
  cases ws with
  | nil => exact Nat.le_refl _
  | cons w r =>
    have h1 := qt_len w
    have h2 := lineR_len r
    simp only [lineL, wt, List.length_append]; omega
theorem wsum_wt : ∀ ws : List (List Nat), wsum ws ≤ wt ws
  | [] => Nat.le_refl _
  | w :: r => by have := wsum_wt r; simp only [wsum, wt]; omega
theorem len_wt : ∀ (ws : List (List Nat)), ∀ w ∈ ws, 5 * w.length ≤ wt ws
  | [], _, h => nomatch h
  | x :: r, w, h => by
    rcases List.mem_cons.mp h with rfl | h
    · simp only [wt]; omega
    · have := len_wt r w h; simp only [wt]; omega
/-- the signs of the line -/
noncomputable def okC (c : Nat) : Prop := c < 1114112 ∧ c % 128 ≠ 92
theorem qt_ok {w : List Nat} (h : okW w ∧ ∀ c ∈ w, c < 1114112) : ∀ c ∈ qt w, okC c := by
  have hw : ∀ c ∈ w, okC c := fun c hc => ⟨h.2 c hc, by rcases h.1 c hc with z | z; rw [z]; decide; exact z.2⟩
  have hsq : ∀ l : List Nat, (∀ c ∈ l, okC c) → ∀ c ∈ sq l, okC c := by
    intro l
    induction l with
    | nil => intro _ c hc; cases hc
    | cons a l ih =>
      intro hl c hc
      rw [sq_cons] at hc
      rcases List.mem_append.mp hc with hc | hc
      · split at hc
        · have : ∀ c ∈ [39, 34, 39, 34, 39], c < 1114112 ∧ c % 128 ≠ 92 := by decide
          exact this c hc
        · rw [List.mem_singleton.mp hc]; exact hl a List.mem_cons_self
      · exact ih (fun x hx => hl x (List.mem_cons_of_mem _ hx)) c hc
  have h39 : okC 39 := ⟨by decide, by decide⟩
  intro c hc
  unfold qt at hc
  split at hc
  · have : ∀ c ∈ [39, 39], c < 1114112 ∧ c % 128 ≠ 92 := by decide
    exact this c hc
  · split at hc
    · rcases List.mem_cons.mp hc with rfl | hc
      · exact h39
      · rcases List.mem_append.mp hc with hc | hc
        · exact hsq w hw c hc
        · rw [List.mem_singleton.mp hc]; exact h39
    · exact hw c hc
theorem lineR_ok : ∀ ws : List (List Nat), (∀ w ∈ ws, okW w ∧ ∀ c ∈ w, c < 1114112) → ∀ c ∈ lineR ws, okC c
  | [], _, c, hc => nomatch hc
  | w :: r, h, c, hc => by
    rcases List.mem_cons.mp hc with rfl | hc
    · exact ⟨by decide, by decide⟩
    · rcases List.mem_append.mp hc with hc | hc
      · exact qt_ok (h w List.mem_cons_self) c hc
      · exact lineR_ok r (fun x hx => h x (List.mem_cons_of_mem _ hx)) c hc
theorem lineL_ok {ws : List (List Nat)} (h : goodWs ws) : ∀ c ∈ lineL ws, okC c := by
  cases ws with
  | nil => intro c hc; cases hc
  | cons w r =>
    intro c hc
    rcases List.mem_append.mp hc with hc | hc
    · exact qt_ok (h.2 w List.mem_cons_self) c hc
    · exact lineR_ok r (fun x hx => h.2 x (List.mem_cons_of_mem _ hx)) c hc
theorem qt_ne (w : List Nat) : qt w ≠ [] := by
  unfold qt
  split
  · simp
  · split
    · simp
    · assumption
theorem lineL_ne {ws : List (List Nat)} (h : ws ≠ []) : lineL ws ≠ [] := by
  cases ws with
  | nil => exact absurd rfl h
  | cons w r => intro q; exact qt_ne w (List.append_eq_nil_iff.mp q).1
theorem marks_len : ∀ k, (marks k).length = k
  | 0 => rfl
  | k + 1 => by simp [marks, marks_len k]
theorem marks_mem : ∀ k, ∀ c ∈ marks k, c = 39
  | 0, _, h => nomatch h
  | k + 1, c, h => by rcases List.mem_cons.mp h with h | h; exact h; exact marks_mem k c h
/-- all that the law needs of its words -/
theorem sent_facts {ws : List (List Nat)} (h : goodWs ws) (hw : wt ws ≤ 900) (k : Nat) (hk : k ≤ 4) : (sentN k (lineL ws)).length ≤ 1000 ∧ (∀ c ∈ sentN k (lineL ws), c < 1114112) ∧ (0 < k → ∀ c ∈ sentN k (lineL ws), c ≠ 92) := by
  have hl := lineL_len ws
  cases k with
  | zero => exact ⟨by show (lineL ws).length ≤ 1000; omega, fun c hc => (lineL_ok h c hc).1, fun q => absurd q (Nat.lt_irrefl _)⟩
  | succ k =>
    rw [sentN_eq (lineL_ne h.1)]
    refine ⟨?_, ?_, ?_⟩
    · simp only [List.length_append, marks_len, low, List.length_map]; omega
    all_goals
      have hm : ∀ c ∈ marks (k + 1) ++ (low (lineL ws) ++ marks (k + 1)), c < 1114112 ∧ c ≠ 92 := by
        intro c hc
        have h39 : ∀ c, c = 39 → c < 1114112 ∧ c ≠ 92 := by intro c hc; subst hc; exact ⟨by decide, by decide⟩
        rcases List.mem_append.mp hc with hc | hc
        · exact h39 c (marks_mem _ c hc)
        · rcases List.mem_append.mp hc with hc | hc
          · obtain ⟨a, ha, rfl⟩ := List.mem_map.mp hc
            exact ⟨by have := Nat.mod_lt a (show 128 > 0 by decide); omega, (lineL_ok h a ha).2⟩
          · exact h39 c (marks_mem _ c hc)
    · exact fun c hc => (hm c hc).1
    · exact fun _ c hc => (hm c hc).2
/-- the law, in plain lists: an odd number of sendings -/
theorem read_odd {ws : List (List Nat)} (h : goodWs ws) (hw : wt ws ≤ 900) (j : Nat) (hj : 2 * j + 1 ≤ 4) : rds 2500 false (sentN (2 * j + 1) (lineL ws)) = turnedL ws := by
  have h1 := (sent_facts h hw (2 * j + 1) hj).1
  rw [show 2500 = 2499 + 1 from rfl, rds_tk (by omega), sentN_eq (lineL_ne h.1)]
  exact tk_odd ws j fun w hw => (h.2 w hw).1
theorem read_even {ws : List (List Nat)} (h : goodWs ws) (hw : wt ws ≤ 900) (j : Nat) (hj : 2 * j + 2 ≤ 4) : rds 2500 false (sentN (2 * j + 2) (lineL ws)) = some (ws.map low) := by
  have h1 := (sent_facts h hw (2 * j + 2) hj).1
  rw [show 2500 = 2499 + 1 from rfl, rds_tk (by omega), sentN_eq (lineL_ne h.1)]
  exact tk_even ws j (fun w hw => (h.2 w hw).1) h.1
theorem words_good {us : List Value} {ns : List Int} (h : PyProof.Rows.StrsAre us (((ns.take 12).foldl wordStep words0).map S)) : ∃ ws, PyProof.Rows.StrsAre us (ws.map S) ∧ goodWs ws ∧ wt ws ≤ 100 ∧ ws.length ≤ 14 := by
  have h1 := good_fold (ns.take 12) words0 good0
  have h2 : (ns.take 12).length ≤ 12 := by rw [List.length_take]; omega
  have h3 : wt words0 = 33 := by decide
  have h4 : words0.length = 2 := by decide
  exact ⟨_, h, h1.1, by omega, by omega⟩
end
section
open PySem PySem.W PyProof.Rows PySem.Calls PySem.Spec PySem.SeqAt
set_option maxRecDepth 100000
set_option maxHeartbeats 8000000
theorem reads_strs {h : Heap} : ∀ {vs : List Value} {xs : List Str}, PyProof.Rows.StrsAre vs xs → ReadsAll h vs (xs.map PyData.str) []
  | _, _, .nil => .nil
  | _, _, .cons k t r => by
    have := ReadsAll.cons (Reads.str (h := h) k t) (reads_strs (h := h) r)
    simpa using this
theorem reads_strL {h : Heap} {a : Addr} {vs : List Value} {xs : List Str} (hl : h.IsList a vs.toArray) (hi : PyProof.Rows.StrsAre vs xs) : Reads h (.ref a) (.list (xs.map PyData.str)) [a] := by
  obtain ⟨o, ho, hc, n, hd⟩ := hl
  exact Reads.list ho hc hd (by simpa using reads_strs hi)
noncomputable def bounded (xs : List Str) : Prop := ∀ x ∈ xs, ∀ c ∈ x.cps.toList, c < 1114112
theorem canLay_strs : ∀ xs : List Str, bounded xs → PyData.canLayAll0 (xs.map PyData.str) = true
  | [], _ => by simp [PyData.canLayAll0]
  | n :: r, h => by
    have h1 : PyData.strOk n = true := by
      unfold PyData.strOk
      rw [Array.all_eq_true_iff_forall_mem]
      intro c hc
      exact decide_eq_true (h n List.mem_cons_self c (by simpa using hc))
    simp [PyData.canLayAll0, PyData.canLay0, h1, canLay_strs r fun x hx => h x (List.mem_cons_of_mem _ hx)]
theorem depth_strs : ∀ xs : List Str, PyData.depthAll (xs.map PyData.str) ≤ 1
  | [] => by simp [PyData.depthAll]
  | n :: r => by
    have := depth_strs r
    simp only [List.map_cons, PyData.depthAll, PyData.depth]
    omega
theorem shaped_strs (xs : List Str) (hb : bounded xs) : shaped (.list (xs.map PyData.str)) = true := by
  have h1 := depth_strs xs
  have h2 : PyData.depth (.list (xs.map PyData.str)) ≤ 64 := by simp only [PyData.depth]; omega
  show (PyData.canLay0 (.list (xs.map PyData.str)) && decide (PyData.depth (.list (xs.map PyData.str)) ≤ 64)) = true
  rw [Bool.and_eq_true]
  exact ⟨by simp only [PyData.canLay0]; exact canLay_strs xs hb, decide_eq_true h2⟩
theorem noMix_strs : ∀ xs : List Str, noMixAll (xs.map PyData.str) (xs.map PyData.str) = true
  | [] => by simp [noMixAll]
  | _ :: r => by simp [noMixAll, noMix, noMix_strs r]
theorem same_strs : ∀ xs : List Str, PySem.Spec.sameAll (xs.map PyData.str) (xs.map PyData.str) = true
  | [] => by simp [PySem.Spec.sameAll]
  | n :: r => by simp [PySem.Spec.sameAll, PySem.Spec.same, same_strs r]
/-- two lists of the same texts -/
theorem ne_strs {prog : Program} {w : World} {A : Around} {E Q : Value → Shared → Prop} {s : Shared} {a b : Addr} {vs us : List Value} {xs : List Str} (hl : s.heap.IsList a vs.toArray) (hi : PyProof.Rows.StrsAre vs xs) (hl' : s.heap.IsList b us.toArray) (hi' : PyProof.Rows.StrsAre us xs) (hb : bounded xs) (hu : A.units + 64 < cLine)
    (h : Q (.bool false) s) : wpAny (model prog w) A (compareOp .NotEq (.ref a) (.ref b)) Q E s :=
  ne_dataH_same (reads_strL hl hi) (reads_strL hl' hi') (shaped_strs xs hb) (shaped_strs xs hb) hu (by simp only [noMix]; exact noMix_strs xs) (by simp only [PySem.Spec.same]; rw [same_strs]; exact h)
theorem strs_of : ∀ {vs : List Value} {ts : List (List Nat)}, Mine.StrsAre vs ts → PyProof.Rows.StrsAre vs (ts.map S)
  | [], [], _ => .nil
  | _ :: _, _ :: _, h => by
    obtain ⟨⟨tv, rfl⟩, h2⟩ := h
    exact .cons _ tv (strs_of h2)
/-- the line -/
theorem join_rest : ∀ (w : List Nat) (ws : List (List Nat)), Str.join (Str.ofString " ") ((((w :: ws).map S).map fun x => (⟨(qt x.cps.toList).toArray⟩ : Str))) = S (qt w ++ lineR ws)
  | w, [] => by simp [Str.join, lineR]
  | w, v :: ws => by
    have ih := join_rest v ws
    have e : ∀ (x y : Str) (l : List Str), Str.join (Str.ofString " ") (x :: y :: l) = x ++ Str.ofString " " ++ Str.join (Str.ofString " ") (y :: l) := fun _ _ _ => rfl
    simp only [List.map_cons] at ih ⊢
    rw [e, ih, litSp]
    show (⟨((S (qt w)).cps ++ (S [32]).cps) ++ (S (qt v ++ lineR ws)).cps⟩ : Str) = ⟨_⟩
    simp [lineR]
theorem join_line {ws : List (List Nat)} (h : ws ≠ []) : Txt.join (Str.ofString " ") ((ws.map S).map fun x => (⟨(qt x.cps.toList).toArray⟩ : Str)) = S (lineL ws) := by
  cases ws with
  | nil => exact absurd rfl h
  | cons w r => exact (eq_of_beq (join_closes rfl)).trans (join_rest w r)
/-- the ground with the record grown -/
theorem fr_re {h₀ : Heap} {L : Addr} {s s' : Heap} {m : Str → Option Value} {news : List (Addr × Obj)} {ps' : Array Value} (F : Fr h₀ L s m) (N : News h₀ L s news) (h7 : h₀.get? 746 = some rec0) (hk : ∀ b o, (regrown s 746 ps').get? b = some o → s'.get? b = some o) :
    Fr (regrown h₀ 746 ps') L s' m ∧ News (regrown h₀ 746 ps') L s' news := by
  have hL₀ : h₀.get? L = none := kts_self F
  have hL7 : L ≠ 746 := fun q => by rw [q, h7] at hL₀; cases hL₀
  have other : ∀ b o, b ≠ 746 → s.get? b = some o → s'.get? b = some o := fun b o hb e => hk b o ((Heap.get?_update_other _ _ (Ne.symm hb)).trans e)
  have self : ∀ h : Heap, h.get? 746 = some rec0 → (regrown h 746 ps').get? 746 = some { cls := .none, data := .fields ps' } := fun h e => Heap.get?_update_self _ e rfl
  have o0 : ∀ b, b ≠ 746 → (regrown h₀ 746 ps').get? b = h₀.get? b := fun b hb => Heap.get?_update_other _ _ (Ne.symm hb)
  refine ⟨⟨?_, ?_, ?_⟩, ?_⟩
  · obtain ⟨oL, es, ep, e, r⟩ := F.ns
    exact ⟨oL, es, ep, other _ _ hL7 e, r⟩
  · intro b o e
    by_cases hb : b = 746
    · subst hb
      rw [self h₀ h7] at e
      exact hk _ _ ((self s (F.keep _ _ h7)).trans e)
    · rw [o0 b hb] at e
      exact other b o hb (F.keep _ _ e)
  · show (h₀.update 746 _).objs.size ≤ L
    rw [Heap.size_after_update]; exact F.above
  · intro p hp
    have z := N p hp
    have hp7 : p.1 ≠ 746 := fun q => by rw [q, h7] at z; cases z.2.2
    exact ⟨other _ _ hp7 z.1, z.2.1, (o0 _ hp7).trans z.2.2⟩
/-- what turned is -/
noncomputable def TurnOk (ws : List (List Nat)) (vt : Value) (nt : List (Addr × Obj)) : Prop :=
  (turnedL ws = none ∧ vt = .none) ∨ ∃ toks a us o, turnedL ws = some toks ∧ vt = .ref a ∧ (a, o) ∈ nt ∧ LO o us ∧ PyProof.Rows.StrsAre us (toks.map S)
theorem news_add {h₀ h h1 : Heap} {L : Addr} {m : Str → Option Value} {news : List (Addr × Obj)} {a : Addr} {o : Obj} (F : Fr h₀ L h m) (N : News h₀ L h1 news) (hn : h.get? a = none) (hg : h1.get? a = some o) : News h₀ L h1 ((a, o) :: news) := fun p hp => by
  rcases List.mem_cons.mp hp with rfl | hp
  · refine ⟨hg, fun q => ?_, kts_none F.keep hn⟩
    obtain ⟨_, _, _, e, _⟩ := F.ns
    have q : a = L := q
    rw [q] at hn
    rw [hn] at e; cases e
  · exact N p hp
theorem turn_news {h₀ h h4 : Heap} {L : Addr} {m : Str → Option Value} {news : List (Addr × Obj)} {ws : List (List Nat)} {vt : Value} (F : Fr h₀ L h m) (N : News h₀ L h4 news)
    (ht : match turnedL ws with | none => vt = .none | some toks => ∃ a us o, vt = .ref a ∧ h.get? a = none ∧ h4.get? a = some o ∧ LO o us ∧ PyProof.Rows.StrsAre us (toks.map S)) :
    ∃ nt, News h₀ L h4 (nt ++ news) ∧ TurnOk ws vt nt := by
  cases hq : turnedL ws with
  | none => rw [hq] at ht; exact ⟨[], N, .inl ⟨hq, ht⟩⟩
  | some toks =>
    rw [hq] at ht
    obtain ⟨a, us, o, hv, hn, hg, hl, hs⟩ := ht
    exact ⟨[(a, o)], news_add F N hn hg, .inr ⟨toks, a, us, o, hq, hv, List.mem_cons_self, hl, hs⟩⟩
theorem bounded_S {ws : List (List Nat)} (h : ∀ w ∈ ws, ∀ c ∈ w, c < 1114112) : bounded (ws.map S) := by
  intro x hx c hc
  obtain ⟨w, hw, rfl⟩ := List.mem_map.mp hx
  exact h w hw c (by simpa using hc)
theorem bounded_low (ws : List (List Nat)) : bounded ((ws.map low).map S) := bounded_S fun w hw c hc => by
  obtain ⟨v, _, rfl⟩ := List.mem_map.mp hw
  obtain ⟨a, _, rfl⟩ := List.mem_map.mp hc
  have := Nat.mod_lt a (show 128 > 0 by decide); omega
noncomputable def GoodT (st : TSt) : Prop := (∀ t ∈ st.tokens, ∀ c ∈ t, c < 1114112) ∧ ∀ c ∈ st.held, c < 1114112
theorem app_lt {a b : List Nat} (ha : ∀ c ∈ a, c < 1114112) (hb : ∀ c ∈ b, c < 1114112) : ∀ c ∈ a ++ b, c < 1114112 := fun c hc => (List.mem_append.mp hc).elim (ha c) (hb c)
theorem goodT_sign (st : TSt) (c : Nat) (h : GoodT st) : GoodT (signStep st c) := by
  unfold signStep
  have hm := Nat.mod_lt c (show 128 > 0 by decide)
  split
  · refine ⟨h.1, app_lt h.2 ?_⟩
    split
    · have : ∀ c ∈ [39, 34], c < 1114112 := by decide
      exact this
    · have : ∀ c ∈ [34, 39], c < 1114112 := by decide
      exact this
  · split
    · exact h
    · split
      · exact ⟨h.1, app_lt h.2 fun x hx => by rw [List.mem_singleton.mp hx]; omega⟩
      · refine ⟨fun t ht => ?_, fun c hc => (nomatch hc)⟩
        rcases List.mem_append.mp ht with ht | ht
        · exact h.1 t ht
        · split at ht
          · rw [List.mem_singleton.mp ht]; exact h.2
          · cases ht
theorem goodT_signs : ∀ (w : List Nat) (st : TSt), GoodT st → GoodT (w.foldl signStep st)
  | [], _, h => h
  | c :: w, st, h => goodT_signs w _ (goodT_sign st c h)
theorem goodT_word (st : TSt) (f : Bool) (w : List Nat) (h : GoodT st) (hw : ∀ c ∈ w, c < 1114112) : GoodT (wordTurn st f w) := by
  have h1 : ∀ c ∈ st.held ++ (if f = true then [] else [32]), c < 1114112 := app_lt h.2 (by
    split
    · intro c hc; cases hc
    · have : ∀ c ∈ [32], c < 1114112 := by decide
      exact this)
  have h39 : ∀ b : Bool, ∀ c ∈ (if b = true then [39] else ([] : List Nat)), c < 1114112 := by decide
  cases hs : safeL w
  · rw [wordTurn_un hs rfl]
    have h2 := goodT_signs w ⟨st.tokens, (st.held ++ (if f = true then [] else [32])) ++ (if st.within = true then [39] else []), st.seen, st.within⟩ ⟨h.1, app_lt h1 (h39 _)⟩
    exact ⟨h2.1, app_lt h2.2 (h39 _)⟩
  · unfold wordTurn
    rw [if_pos hs]
    exact ⟨h.1, app_lt h1 hw⟩
theorem goodT_fold : ∀ (ws : List (List Nat)) (st : TSt) (f : Bool), GoodT st → (∀ w ∈ ws, ∀ c ∈ w, c < 1114112) → GoodT (turnFold st f ws)
  | [], _, _, h, _ => h
  | w :: ws, st, f, h, hw => goodT_fold ws _ false (goodT_word st f w h (hw w List.mem_cons_self)) fun x hx => hw x (List.mem_cons_of_mem _ hx)
theorem bounded_turned {ws : List (List Nat)} {toks : List (List Nat)} (h : turnedL ws = some toks) (hw : ∀ w ∈ ws, ∀ c ∈ w, c < 1114112) : bounded (toks.map S) := by
  have hg := goodT_fold ws ⟨[], [], true, false⟩ true ⟨fun t ht => (nomatch ht), fun c hc => (nomatch hc)⟩ hw
  unfold turnedL at h
  dsimp only at h
  split at h
  · cases h
  · cases h
    refine bounded_S fun t ht => ?_
    rcases List.mem_append.mp ht with ht | ht
    · exact hg.1 t ht
    · rw [List.mem_singleton.mp ht]; exact hg.2
noncomputable def lawJ (ws : List (List Nat)) (D : Addr) (vt : Value) (nb : List (Addr × Obj)) (items : List Itm) (m : Str → Option Value) (news : List (Addr × Obj)) : Prop :=
  ∃ k, k ≤ 4 ∧ items = (rangeItems 4).drop k ∧ (∃ t, m (Str.ofString "line") = some (.str (S (sentN k (lineL ws))) t)) ∧ m (Str.ofString "straight") = some (.ref D) ∧ m (Str.ofString "turned") = some vt ∧ news = nb
theorem drop_range {k : Nat} (hk : k ≤ 4) {a : Itm} {r : List Itm} (h : a :: r = (rangeItems 4).drop k) : k < 4 ∧ a = Itm.tok (fun t => .int (k : Int) t) ∧ r = (rangeItems 4).drop (k + 1) := by
  match k, hk with
  | 0, _ => cases h; exact ⟨by decide, rfl, rfl⟩
  | 1, _ => cases h; exact ⟨by decide, rfl, rfl⟩
  | 2, _ => cases h; exact ⟨by decide, rfl, rfl⟩
  | 3, _ => cases h; exact ⟨by decide, rfl, rfl⟩
  | 4, _ => cases h
theorem read_k {ws : List (List Nat)} (h : goodWs ws) (hw : wt ws ≤ 900) {k : Nat} (hk : k < 4) : rds 2500 false (sentN (k + 1) (lineL ws)) = if k % 2 = 0 then turnedL ws else some (ws.map low) := by
  match k, hk with
  | 0, _ => exact read_odd h hw 0 (by decide)
  | 1, _ => exact read_even h hw 0 (by decide)
  | 2, _ => exact read_odd h hw 1 (by decide)
  | 3, _ => exact read_even h hw 1 (by decide)
theorem fr_put3 {h₀ h : Heap} {L : Addr} {m : Str → Option Value} {a1 a2 a3 : Str} {v1 v2 v3 : Value} (F : Fr h₀ L h m) (h1 : m a1 = some v1) (h2 : m a2 = some v2) (h3 : m a3 = some v3) :
    Fr h₀ L h (fun y => if y = a1 then some v1 else if y = a2 then some v2 else if y = a3 then some v3 else m y) := by
  refine fr_congr F fun y => ?_
  by_cases q1 : y = a1
  · rw [if_pos q1, q1, h1]
  rw [if_neg q1]
  by_cases q2 : y = a2
  · rw [if_pos q2, q2, h2]
  rw [if_neg q2]
  by_cases q3 : y = a3
  · rw [if_pos q3, q3, h3]
  rw [if_neg q3]
theorem law_end {h₀ : Heap} {L D I : Addr} {h2 : Heap} {s₁ : Shared} {tk : Nat} {oR : Obj} {m : Str → Option Value} {ws : List (List Nat)} {vt : Value} {nb nn : List (Addr × Obj)} {k : Nat}
    (F : Fr h₀ L h2 m) (N : News h₀ L h2 nn) (hs : ∀ p ∈ (I, oR) :: nb, p ∈ nn) (hI : ∀ p ∈ nb, p.1 < I) (hk : k < 4) (h1 : ∃ t, m (Str.ofString "line") = some (.str (S (sentN (k + 1) (lineL ws))) t)) (h3 : m (Str.ofString "straight") = some (.ref D)) (h4 : m (Str.ofString "turned") = some vt) :
    UnrEndW h₀ L s₁ [(I, oR)] (fun m' n' => SubL [] n' ∧ lawJ ws D vt nb ((rangeItems 4).drop (k + 1)) m' n') { s₁ with heap := h2, toks := tk } :=
  ⟨h2, tk, _, nb, rfl, F, fun p hp => N p (hs p hp), fun p hp q hq => by rw [List.mem_singleton.mp hq]; exact Nat.ne_of_lt (hI p hp), trivial, k + 1, hk, rfl, h1, h3, h4, rfl⟩
/-- what was there stays, but for the grown record -/
theorem old746 {P : Params} {h₀ h : Heap} {ps' : Array Value} (X : (Mine.seed.heap_1 P).In h₀) (h7 : h₀.get? 746 = some rec0) (hk : ∀ b o, (regrown h₀ 746 ps').get? b = some o → h.get? b = some o) : OldK h₀ h := by
  have B := based746 X h7
  have K : OldK h₀ (regrown h₀ 746 ps') := by
    refine ⟨fun b o e => ?_, fun b o e => ?_⟩
    · by_cases hb : b = 746
      · subst hb
        rw [h7] at e; cases e
        exact .inr (.inl ⟨B.tab.isCodeTable, rfl, #[], ps', rfl, by rw [show (#[] ++ ps') = ps' by simp]; exact Heap.get?_update_self _ h7 rfl⟩)
      · exact .inl ((Heap.get?_update_other _ _ (Ne.symm hb)).trans e)
    · by_cases hb : b = 746
      · subst hb; exact ⟨_, Heap.get?_update_self _ h7 rfl⟩
      · exact ⟨o, (Heap.get?_update_other _ _ (Ne.symm hb)).trans e⟩
  exact K.step_keeps hk
theorem goodWG_true {c : ClaimW} {cl : Str → Option Addr} {mean : ExcName → Option Value} {args : List WData} {s₁ s' : Shared} (K : OldK s₁.heap s'.heap) (hg : AllBare s'.gens) (hn : ∀ cls, c.raises args cls = false) (hp : c.post args (.bool true) args = true) (hos : s'.os = s₁.os) :
    GoodWG c cl mean args s₁ (.ok (.ret (.bool true))) s' := ⟨.inl ⟨.bool true, .bool true, [], rfl, hn, .bool true, hp, unshared_nil⟩, K, hos, hg⟩
end
/-! names that are taken, so that no twin is laid of the heaps the top leaves: their proofs would fill the compiled file -/
theorem core.tw232065781530161973 : True := trivial
theorem core.tw9277408003564632469 : True := trivial
theorem core.tw33017470902146549 : True := trivial
theorem core.tw1825182522426771999 : True := trivial
theorem core.tw5693663147941308640 : True := trivial
theorem core.tw15949203669621066058 : True := trivial
theorem core.tw12477466821062102429 : True := trivial
theorem core.tw15135451264138389384 : True := trivial
theorem core.tw8913225364066017344 : True := trivial
theorem core.tw13845557525906187334 : True := trivial
theorem core.tw16607590759335211876 : True := trivial
theorem core.tw1452998555716195346 : True := trivial
theorem core.tw844014514312136630 : True := trivial
theorem core.tw9683611027417026024 : True := trivial
theorem core.tw5821282957513525424 : True := trivial
theorem core.tw9529769455943138268 : True := trivial
theorem core.tw8239642834275342569 : True := trivial
theorem core.tw3350180732592356963 : True := trivial
theorem core.tw478081758502990878 : True := trivial
theorem core.tw13195155036777514472 : True := trivial
theorem core.tw9173177567234777266 : True := trivial
theorem core.tw12778858452623771514 : True := trivial
theorem core.tw17951054576106973473 : True := trivial
theorem core.tw13069250345739707864 : True := trivial
theorem core.tw14508760535711976736 : True := trivial
theorem core.tw1940959894689180577 : True := trivial
theorem core.tw17092507149219294896 : True := trivial
theorem core.tw14946407619626681526 : True := trivial
theorem core.tw547173992472487933 : True := trivial
theorem core.tw8169744207503848327 : True := trivial
theorem core.tw12462273129704840966 : True := trivial
theorem core.tw11507623367858752870 : True := trivial
theorem core.tw6028454213651384053 : True := trivial
theorem core.tw3121241813119491033 : True := trivial
theorem core.tw13550992265264873152 : True := trivial
theorem core.tw4021012387525269228 : True := trivial
theorem core.tw4359105942670733616 : True := trivial
theorem core.tw17314109004634205553 : True := trivial
theorem core.tw3302048831068800884 : True := trivial
theorem core.tw4030327405288269601 : True := trivial
theorem core.tw6696792977944571214 : True := trivial
theorem core.tw14189424350634083244 : True := trivial
theorem core.tw14443234774277117686 : True := trivial
theorem core.tw13183521527567345932 : True := trivial
theorem core.tw4404218868684915768 : True := trivial
theorem core.tw3851132559041957935 : True := trivial
theorem core.tw8496804438084337722 : True := trivial
theorem core.tw10862382917748819813 : True := trivial
theorem core.tw10309085395608714220 : True := trivial
theorem core.tw4749030555619550186 : True := trivial
theorem core.tw5500771608712711976 : True := trivial
theorem core.tw4431893868045946463 : True := trivial
theorem core.tw2794261787216237744 : True := trivial
theorem core.tw435187890894096261 : True := trivial
theorem core.tw215214886402058695 : True := trivial
theorem core.tw10606387729944813975 : True := trivial
theorem core.tw9407938111316076274 : True := trivial
theorem core.tw6439714370691273190 : True := trivial
theorem core.tw11016440155836721604 : True := trivial
theorem core.tw9164635423911499549 : True := trivial
theorem core.tw72486070090622160 : True := trivial
theorem core.tw10204273853576897857 : True := trivial
theorem core.tw17161107894211559320 : True := trivial
theorem core.tw15834546043735535884 : True := trivial
theorem core.tw10948428838744181969 : True := trivial
theorem core.tw9259901359180076790 : True := trivial
theorem core.tw10432970932316607113 : True := trivial
theorem core.tw9861357093961561719 : True := trivial
theorem core.tw10261820053809229445 : True := trivial
theorem core.tw9330253641128948230 : True := trivial
theorem core.tw10923394741768522282 : True := trivial
theorem core.tw15781438292810385379 : True := trivial
theorem core.tw1878201954910067727 : True := trivial
theorem core.tw3544293042028450075 : True := trivial
theorem core.tw16937413979866860718 : True := trivial
theorem core.tw1942810731872033405 : True := trivial
theorem core.tw17303567306155679255 : True := trivial
theorem core.tw4474066057246472379 : True := trivial
theorem core.tw104889286660574942 : True := trivial
theorem core.tw11890027193187901779 : True := trivial
theorem core.tw14445221932735113718 : True := trivial
theorem core.tw13863460959568510414 : True := trivial
theorem core.tw16641385307845392136 : True := trivial
theorem core.tw10916054147364214475 : True := trivial
theorem core.tw18203689535063478132 : True := trivial
theorem core.tw12374809757791881079 : True := trivial
theorem core.tw9673068733744582021 : True := trivial
theorem core.tw4847490577543894088 : True := trivial
theorem core.tw5970240932203409684 : True := trivial
theorem core.tw9862033525642612862 : True := trivial
theorem core.tw18173536504036807895 : True := trivial
theorem core.tw1026642617415988225 : True := trivial
theorem core.tw8478578770095507170 : True := trivial
theorem core.tw12762166179490204401 : True := trivial
theorem core.tw11468165453452967028 : True := trivial
theorem core.tw12873220095352121431 : True := trivial
theorem core.tw15962553698313031077 : True := trivial
theorem core.tw11510918689587906331 : True := trivial
theorem core.tw15693476911269330211 : True := trivial
theorem core.tw198032898922750992 : True := trivial
theorem core.tw8639838891833805722 : True := trivial
theorem core.tw12802407705830074207 : True := trivial
theorem core.tw395840785122027349 : True := trivial
theorem core.tw3750724225851792059 : True := trivial
theorem core.tw13767024053025511904 : True := trivial
theorem core.tw10772570537617439352 : True := trivial
theorem core.tw11143394727647337486 : True := trivial
theorem core.tw13959520542054466753 : True := trivial
theorem core.tw8545575655794415304 : True := trivial
theorem core.tw4886892684845474122 : True := trivial
theorem core.tw4444544767841391627 : True := trivial
theorem core.tw9963056458884284441 : True := trivial
theorem core.tw2662414285963934297 : True := trivial
theorem core.tw2720593983204940307 : True := trivial
theorem core.tw2054154788919417630 : True := trivial
theorem core.tw396347153069073754 : True := trivial
theorem core.tw2973855930877010843 : True := trivial
theorem core.tw3810788506544415170 : True := trivial
theorem core.tw13205827878138224610 : True := trivial
theorem core.tw5857439206750606036 : True := trivial
theorem core.tw4125988392439573290 : True := trivial
theorem core.tw7503425146635674679 : True := trivial
theorem core.tw448675812597370685 : True := trivial
theorem core.tw2139803084004549999 : True := trivial
theorem core.tw211064556265040263 : True := trivial
theorem core.tw11815975552939243413 : True := trivial
theorem core.tw14720426257500914624 : True := trivial
theorem core.tw7166364244797941167 : True := trivial
theorem core.tw4393408643073464778 : True := trivial
theorem core.tw16372071147675540489 : True := trivial
theorem core.tw591370495084368172 : True := trivial
theorem core.tw3803159782261780071 : True := trivial
theorem core.tw10471074101332642484 : True := trivial
theorem core.tw15057748127170436395 : True := trivial
theorem core.tw17651109269288931208 : True := trivial
theorem core.tw2636253422744857022 : True := trivial
theorem core.tw3059090827378897585 : True := trivial
theorem core.tw2007031149374381640 : True := trivial
theorem core.tw4048323837848254447 : True := trivial
theorem core.tw14305296767000436891 : True := trivial
theorem core.tw12113311694347984659 : True := trivial
theorem core.tw8206679548526584443 : True := trivial
theorem core.tw5269928424375079785 : True := trivial
theorem core.tw7532324505685845435 : True := trivial
theorem core.tw11046762005591291393 : True := trivial
theorem core.tw10049122206358605792 : True := trivial
theorem core.tw9718138096701185236 : True := trivial
theorem core.tw7546511349370786015 : True := trivial
theorem core.tw4231173081018764789 : True := trivial
theorem core.tw8783522399137863720 : True := trivial
theorem core.tw11962134483875102330 : True := trivial
theorem core.tw1930895741848064642 : True := trivial
theorem core.tw17440361959084801653 : True := trivial
theorem core.tw4954765762980564977 : True := trivial
theorem core.tw16480693138309746807 : True := trivial
theorem core.tw11144222980412032756 : True := trivial
theorem core.tw11944985047512435256 : True := trivial
theorem core.tw13051763374683824602 : True := trivial
theorem core.tw10624113869223614476 : True := trivial
theorem core.tw13250798521456905796 : True := trivial
theorem core.tw10746737336877050708 : True := trivial
theorem core.tw13792781822525461134 : True := trivial
theorem core.tw2024234331916360881 : True := trivial
theorem core.tw8162441569240819768 : True := trivial
theorem core.tw18146860059879598536 : True := trivial
theorem core.tw9866117916954536518 : True := trivial
theorem core.tw3208291992559303298 : True := trivial
theorem core.tw3583788385509805853 : True := trivial
theorem core.tw10302435104427656729 : True := trivial
theorem core.tw18414779700217491303 : True := trivial
theorem core.tw12067882698908019733 : True := trivial
theorem core.tw2507141536782340330 : True := trivial
theorem core.tw12395522534647141246 : True := trivial
theorem core.tw12545545703723313026 : True := trivial
theorem core.tw12589091429166575234 : True := trivial
theorem core.tw3002426797286255783 : True := trivial
theorem core.tw13732708313983657529 : True := trivial
theorem core.tw2782624519275293422 : True := trivial
theorem core.tw5689283801784062046 : True := trivial
theorem core.tw16820015653507034951 : True := trivial
theorem core.tw5572752005224699908 : True := trivial
theorem core.tw11797572445599282411 : True := trivial
theorem core.tw13472270668343080521 : True := trivial
theorem core.tw5915880568657506904 : True := trivial
theorem core.tw9888488306368295634 : True := trivial
theorem core.tw11403322986919704335 : True := trivial
theorem core.tw1314237250367588335 : True := trivial
theorem core.tw5289867670381689147 : True := trivial
theorem core.tw1493173100341254314 : True := trivial
theorem core.tw5959555148096563306 : True := trivial
theorem core.tw9305077459654206983 : True := trivial
theorem core.tw15649024473956946092 : True := trivial
theorem core.tw8012938661269632233 : True := trivial
theorem core.tw5962972262994285265 : True := trivial
theorem core.tw15423173404783017597 : True := trivial
theorem core.tw6117315672272679043 : True := trivial
theorem core.tw15798434271551112992 : True := trivial
theorem core.tw13410164332819525104 : True := trivial
theorem core.tw14060741842424865979 : True := trivial
theorem core.tw6854925519463645645 : True := trivial
theorem core.tw12338073694025301984 : True := trivial
theorem core.tw7396257459991145129 : True := trivial
theorem core.tw14961085865811423947 : True := trivial
theorem core.tw1244750024581383290 : True := trivial
theorem core.tw17448778763131349543 : True := trivial
theorem core.tw4376551896688870000 : True := trivial
theorem core.tw17357987663816993116 : True := trivial
theorem core.tw4365246241144794597 : True := trivial
theorem core.tw6243168772045532202 : True := trivial
theorem core.tw7562604338393642645 : True := trivial
theorem core.tw14473447975431719473 : True := trivial
theorem core.tw713171199821834825 : True := trivial
theorem core.tw4203645457731992280 : True := trivial
theorem core.tw14572916401846278922 : True := trivial
theorem core.tw2741193812800411951 : True := trivial
theorem core.tw15783614587040091405 : True := trivial
theorem core.tw17530885066373689763 : True := trivial
theorem core.tw6195698734515462681 : True := trivial
theorem core.tw11965678676896487408 : True := trivial
theorem core.tw15312111127289359801 : True := trivial
theorem core.tw1990152197848752726 : True := trivial
theorem core.tw15641254397815949873 : True := trivial
theorem core.tw7553281612460030148 : True := trivial
theorem core.tw5195377422463690873 : True := trivial
theorem core.tw5750714316828207533 : True := trivial
theorem core.tw11676359070966932750 : True := trivial
theorem core.tw4970809479168651746 : True := trivial
theorem core.tw859668088878229676 : True := trivial
theorem core.tw3441693648263067685 : True := trivial
theorem core.tw44048401167379536 : True := trivial
theorem core.tw15974770434805098543 : True := trivial
theorem core.tw3126710295690454948 : True := trivial
theorem core.tw466907273635250971 : True := trivial
theorem core.tw7400916526341901772 : True := trivial
theorem core.tw15776866687896521629 : True := trivial
theorem core.tw18017894919959805294 : True := trivial
theorem core.tw1380547788803612503 : True := trivial
theorem core.tw7033523004761056413 : True := trivial
theorem core.tw10249592036188079128 : True := trivial
theorem core.tw9410298710569922852 : True := trivial
theorem core.tw13246764017499302452 : True := trivial
theorem core.tw14347158328536569304 : True := trivial
theorem core.tw7003238227474012337 : True := trivial
theorem core.tw10763978308546930579 : True := trivial
theorem core.tw1944012979907783413 : True := trivial
theorem core.tw4015953807317474082 : True := trivial
theorem core.tw9336381335450682805 : True := trivial
theorem core.tw9772132954842849480 : True := trivial
theorem core.tw17805718197549441075 : True := trivial
theorem core.tw9820834853484435038 : True := trivial
theorem core.tw9416771392249298315 : True := trivial
theorem core.tw7150277680904063942 : True := trivial
theorem core.tw10224360840118963430 : True := trivial
theorem core.tw3465396518471573814 : True := trivial
theorem core.tw7338506855797360169 : True := trivial
theorem core.tw3049039846653406991 : True := trivial
theorem core.tw5375821393079000745 : True := trivial
theorem core.tw8314638346855542781 : True := trivial
theorem core.tw16035488922018503107 : True := trivial
theorem core.tw4971488135421998901 : True := trivial
theorem core.tw1996036968644813246 : True := trivial
theorem core.tw11306738092912383816 : True := trivial
theorem core.tw13038525836935920032 : True := trivial
theorem core.tw15550033546924390850 : True := trivial
theorem core.tw13862687694006870612 : True := trivial
theorem core.tw12138590433884935824 : True := trivial
theorem core.tw12082747186356729147 : True := trivial
theorem core.tw10142413413755228885 : True := trivial
theorem core.tw10414922257301320035 : True := trivial
theorem core.tw5918738462316677458 : True := trivial
theorem core.tw12491990794907931940 : True := trivial
theorem core.tw7606555390957724509 : True := trivial
theorem core.tw6246534438952034831 : True := trivial
theorem core.tw4782635468180704824 : True := trivial
theorem core.tw12287221310929401179 : True := trivial
theorem core.tw16328554638242285845 : True := trivial
theorem core.tw1530481100367676372 : True := trivial
theorem core.tw10204109993890343025 : True := trivial
theorem core.tw12855628987967908601 : True := trivial
theorem core.tw9770958715097344292 : True := trivial
theorem core.tw1140304519968407317 : True := trivial
theorem core.tw14414217278276872951 : True := trivial
theorem core.tw10629601453902470527 : True := trivial
theorem core.tw9628085928894221284 : True := trivial
theorem core.tw6057542223958930969 : True := trivial
theorem core.tw17654920398769735394 : True := trivial
theorem core.tw14025604602632252787 : True := trivial
theorem core.tw4675571805504608070 : True := trivial
theorem core.tw16040109146569757792 : True := trivial
theorem core.tw13672888705577015700 : True := trivial
theorem core.tw2191977042887155504 : True := trivial
theorem core.tw2625933945587530763 : True := trivial
theorem core.tw11175415985939125724 : True := trivial
theorem core.tw17000984267990200693 : True := trivial
theorem core.tw12817117102533636495 : True := trivial
theorem core.tw9849462325133632833 : True := trivial
theorem core.tw17431273780671130463 : True := trivial
theorem core.tw8867455949165609684 : True := trivial
theorem core.tw18155493798578305743 : True := trivial
theorem core.tw7673376263200578055 : True := trivial
theorem core.tw17103358818948393290 : True := trivial
theorem core.tw11088000869254195194 : True := trivial
theorem core.tw16448577078982126916 : True := trivial
theorem core.tw9433870256546925898 : True := trivial
theorem core.tw9373488673189168311 : True := trivial
theorem core.tw1384098398728058145 : True := trivial
theorem core.tw8767521723211651728 : True := trivial
theorem core.tw217443208964749834 : True := trivial
theorem core.tw4873404589351043446 : True := trivial
theorem core.tw2129814628688897989 : True := trivial
theorem core.tw15802031279065414281 : True := trivial
theorem core.tw17214086772132861259 : True := trivial
theorem core.tw2241240692838250267 : True := trivial
theorem core.tw4345407116730157734 : True := trivial
theorem core.tw1512546217641134837 : True := trivial
theorem core.tw18056043842683378237 : True := trivial
theorem core.tw1123989087283327413 : True := trivial
theorem core.tw5608609344920978997 : True := trivial
theorem core.tw3774323398764069078 : True := trivial
theorem core.tw10154556403778159099 : True := trivial
theorem core.tw10305795038944920181 : True := trivial
theorem core.tw16690317154140926088 : True := trivial
theorem core.tw3792007043989430316 : True := trivial
theorem core.tw663308357670336937 : True := trivial
theorem core.tw5379878895746910749 : True := trivial
theorem core.tw13537412214804094562 : True := trivial
theorem core.tw13160633226936444994 : True := trivial
theorem core.tw9080563993606165884 : True := trivial
theorem core.tw3904493487167500769 : True := trivial
theorem core.tw1441682879238972689 : True := trivial
theorem core.tw1802834572402844774 : True := trivial
theorem core.tw17080040057006218103 : True := trivial
theorem core.tw11965942907771166476 : True := trivial
theorem core.tw9561540487845824613 : True := trivial
theorem core.tw7150639116127892670 : True := trivial
theorem core.tw10244785698314304882 : True := trivial
theorem core.tw16987121816569473167 : True := trivial
theorem core.tw11636989167375265763 : True := trivial
theorem core.tw17734793350411554783 : True := trivial
theorem core.tw6722619806568567317 : True := trivial
theorem core.tw6050164527148384910 : True := trivial
theorem core.tw2530723678585290077 : True := trivial
theorem core.tw4454749953763188837 : True := trivial
theorem core.tw10357696950005041718 : True := trivial
theorem core.tw8176102278119238065 : True := trivial
theorem core.tw9600142792185163863 : True := trivial
theorem core.tw12851777507020604372 : True := trivial
theorem core.tw9044643595031967448 : True := trivial
theorem core.tw8568167075347920116 : True := trivial
theorem core.tw6821597338055701669 : True := trivial
theorem core.tw3955889899310466586 : True := trivial
theorem core.tw12702649369643136768 : True := trivial
theorem core.tw13514661353689827312 : True := trivial
theorem core.tw15466041496015129043 : True := trivial
theorem core.tw2687635561390671551 : True := trivial
theorem core.tw14868859001621878791 : True := trivial
theorem core.tw13324105168704265595 : True := trivial
theorem core.tw13178671798833728616 : True := trivial
theorem core.tw16776203489075879460 : True := trivial
theorem core.tw8952827872267167119 : True := trivial
theorem core.tw13879994455129493259 : True := trivial
theorem core.tw8438012388792771280 : True := trivial
theorem core.tw17144022164860399754 : True := trivial
theorem core.tw18003041194372728776 : True := trivial
theorem core.tw5662967791045523329 : True := trivial
theorem core.tw764569776365594847 : True := trivial
theorem core.tw11553480280577747821 : True := trivial
theorem core.tw3958710224753219948 : True := trivial
theorem core.tw10625520985689371194 : True := trivial
theorem core.tw884339361265358060 : True := trivial
theorem core.tw1308926397501988059 : True := trivial
theorem core.tw518847003565698691 : True := trivial
theorem core.tw16010185613535716317 : True := trivial
theorem core.tw10940338750332978609 : True := trivial
theorem core.tw4156363616307672039 : True := trivial
theorem core.tw8848609523284515961 : True := trivial
theorem core.tw682583845592109288 : True := trivial
theorem core.tw8025164568668315380 : True := trivial
theorem core.tw14582703698596026559 : True := trivial
theorem core.tw12640281415511263436 : True := trivial
theorem core.tw14612184899255698807 : True := trivial
theorem core.tw6917228962823704093 : True := trivial
theorem core.tw13640272903234078574 : True := trivial
theorem core.tw10932850364150182418 : True := trivial
theorem core.tw5350706325447293174 : True := trivial
theorem core.tw8286928411970542345 : True := trivial
theorem core.tw17754410410535333473 : True := trivial
theorem core.tw1094758580310225547 : True := trivial
theorem core.tw16854565387666283286 : True := trivial
theorem core.tw16416736043039545831 : True := trivial
theorem core.tw5990832489997728645 : True := trivial
theorem core.tw12902559525705931842 : True := trivial
theorem core.tw5297006868569398625 : True := trivial
theorem core.tw6052472551349838054 : True := trivial
theorem core.tw15373424440816472986 : True := trivial
theorem core.tw7594751369786334575 : True := trivial
theorem core.tw11982397665546969386 : True := trivial
theorem core.tw387533482241455507 : True := trivial
theorem core.tw9937202857364048534 : True := trivial
theorem core.tw15727353791540354860 : True := trivial
theorem core.tw12390925930247977895 : True := trivial
theorem core.tw5261705687625144768 : True := trivial
theorem core.tw9135358590668154909 : True := trivial
theorem core.tw17955627881272705945 : True := trivial
theorem core.tw2857814629201592773 : True := trivial
theorem core.tw16936940087280152696 : True := trivial
theorem core.tw7581451877314275101 : True := trivial
theorem core.tw18401164883762629482 : True := trivial
theorem core.tw7810589185516428471 : True := trivial
theorem core.tw5473908834374000092 : True := trivial
theorem core.tw1729510056553044428 : True := trivial
theorem core.tw12829464638173673107 : True := trivial
theorem core.tw14423544910301835909 : True := trivial
theorem core.tw11765359011730870386 : True := trivial
theorem core.tw9484909277582156533 : True := trivial
theorem core.tw18039113081209382231 : True := trivial
theorem core.tw15196311969517532090 : True := trivial
theorem core.tw15833026361559840693 : True := trivial
theorem core.tw12578579630606953566 : True := trivial
theorem core.tw4381951883575371915 : True := trivial
theorem core.tw13449368820067402073 : True := trivial
theorem core.tw6127851177894062474 : True := trivial
theorem core.tw1956430531970777290 : True := trivial
theorem core.tw591631920562008163 : True := trivial
theorem core.tw15035671722019894106 : True := trivial
theorem core.tw9575242300664322933 : True := trivial
theorem core.tw4041487796511522760 : True := trivial
theorem core.tw5385412463565247094 : True := trivial
theorem core.tw15931048341140821030 : True := trivial
theorem core.tw17389065085206870139 : True := trivial
theorem core.tw17747921532387604031 : True := trivial
theorem core.tw5523099483961294423 : True := trivial
theorem core.tw10954836878677837290 : True := trivial
theorem core.tw11747244664618548576 : True := trivial
theorem core.tw5339456915209906065 : True := trivial
theorem core.tw15752830634621569457 : True := trivial
theorem core.tw2776006807870607812 : True := trivial
theorem core.tw8501726749417233336 : True := trivial
theorem core.tw4842252531905189586 : True := trivial
theorem core.tw4500225962057987459 : True := trivial
theorem core.tw6759122522634419119 : True := trivial
theorem core.tw11342635216236010773 : True := trivial
theorem core.tw3006274759489984977 : True := trivial
theorem core.tw6718260745079706214 : True := trivial
theorem core.tw3446039206123135267 : True := trivial
theorem core.tw14793638126418775891 : True := trivial
theorem core.tw13846703977051667263 : True := trivial
theorem core.tw16791908385445053268 : True := trivial
theorem core.tw9076224200263218417 : True := trivial
theorem core.tw824571663937056733 : True := trivial
theorem core.tw3806718758141544176 : True := trivial
theorem core.tw6854600058786028135 : True := trivial
theorem core.tw549189695567912901 : True := trivial
theorem core.tw1269350712292928185 : True := trivial
theorem core.tw14231463280701371856 : True := trivial
theorem core.tw15677246781937635751 : True := trivial
theorem core.tw17694437769087781630 : True := trivial
theorem core.tw16906202702779241495 : True := trivial
theorem core.tw11761593286385810698 : True := trivial
theorem core.tw1090764855255675192 : True := trivial
theorem core.tw8851870384423487982 : True := trivial
theorem core.tw10135492537236963461 : True := trivial
theorem core.tw15407070742305341865 : True := trivial
theorem core.tw15557904806863800789 : True := trivial
theorem core.tw12901242131509760013 : True := trivial
theorem core.tw14867218160136200873 : True := trivial
theorem core.tw12157921010447360179 : True := trivial
theorem core.tw8210611492323658578 : True := trivial
theorem core.tw11731011827722494537 : True := trivial
theorem core.tw2205471287056680907 : True := trivial
theorem core.tw11344723193728702376 : True := trivial
theorem core.tw5899502807022963850 : True := trivial
theorem core.tw10017096200928130398 : True := trivial
theorem core.tw12766034420542672877 : True := trivial
theorem core.tw15705714704798042915 : True := trivial
theorem core.tw12786467789115739560 : True := trivial
theorem core.tw7126441994174125082 : True := trivial
theorem core.tw9673012710425526253 : True := trivial
theorem core.tw12035427384147600578 : True := trivial
theorem core.tw2116094350861755648 : True := trivial
theorem core.tw14560549911835422602 : True := trivial
theorem core.tw18316690524777832096 : True := trivial
theorem core.tw5304416813032855372 : True := trivial
theorem core.tw15278560419324327028 : True := trivial
theorem core.tw6179163050044044131 : True := trivial
theorem core.tw13257151336333516013 : True := trivial
theorem core.tw7739678160776806357 : True := trivial
theorem core.tw3809443473659285453 : True := trivial
theorem core.tw4941428550667672163 : True := trivial
theorem core.tw1917231362710448531 : True := trivial
theorem core.tw13806516255209311368 : True := trivial
theorem core.tw8821576549469482882 : True := trivial
theorem core.tw5141298278182696449 : True := trivial
theorem core.tw6096653941942136949 : True := trivial
theorem core.tw8666945926026104078 : True := trivial
theorem core.tw17114092101572916603 : True := trivial
theorem core.tw2629477164439298789 : True := trivial
theorem core.tw3473499224550047600 : True := trivial
theorem core.tw5485049572281218402 : True := trivial
theorem core.tw3320162995846674370 : True := trivial
theorem core.tw7851613200756570282 : True := trivial
theorem core.tw5119178041707473850 : True := trivial
theorem core.tw8085441857703693732 : True := trivial
theorem core.tw4035062351940953433 : True := trivial
theorem core.tw7373226506090286531 : True := trivial
theorem core.tw14338248038517948556 : True := trivial
theorem core.tw16437039937234113899 : True := trivial
theorem core.tw16764307571406459253 : True := trivial
theorem core.tw14580673121850905944 : True := trivial
theorem core.tw9310419147119358960 : True := trivial
theorem core.tw5545071456835670158 : True := trivial
theorem core.tw3987870806285667533 : True := trivial
theorem core.tw17884565470258199197 : True := trivial
theorem core.tw17648118812056450667 : True := trivial
theorem core.tw9068546171674689432 : True := trivial
theorem core.tw5605149262453843307 : True := trivial
theorem core.tw8766264074823620287 : True := trivial
theorem core.tw10296299818106684874 : True := trivial
theorem core.tw11485196145589907088 : True := trivial
theorem core.tw12940773216846415273 : True := trivial
theorem core.tw15837595572891351721 : True := trivial
theorem core.tw3965601927701766113 : True := trivial
theorem core.tw11054911092353981311 : True := trivial
theorem core.tw14480442840448163466 : True := trivial
theorem core.tw999022612192247809 : True := trivial
theorem core.tw15489449551080028578 : True := trivial
theorem core.tw11249709130419260736 : True := trivial
theorem core.tw13162776828819675097 : True := trivial
theorem core.tw11526046192627106615 : True := trivial
theorem core.tw11984461644297296953 : True := trivial
theorem core.tw16461148496868087622 : True := trivial
theorem core.tw15230538745179053097 : True := trivial
theorem core.tw2178342413845504596 : True := trivial
theorem core.tw16110169381831498530 : True := trivial
theorem core.tw3823002113026293884 : True := trivial
theorem core.tw1006651989338762738 : True := trivial
theorem core.tw10344834010857601908 : True := trivial
theorem core.tw7932184187028268261 : True := trivial
theorem core.tw6080950445226433994 : True := trivial
theorem core.tw10415067136580805896 : True := trivial
theorem core.tw7139594746758052227 : True := trivial
theorem core.tw17231748245418880033 : True := trivial
theorem core.tw7031405358778180650 : True := trivial
theorem core.tw9859934616680235459 : True := trivial
theorem core.tw7415808882260396913 : True := trivial
theorem core.tw8060894015996298585 : True := trivial
theorem core.tw14187509975288990381 : True := trivial
theorem core.tw14422295265896150008 : True := trivial
theorem core.tw1974721082354822350 : True := trivial
theorem core.tw3633217002809444047 : True := trivial
theorem core.tw9718414498828622159 : True := trivial
theorem core.tw10094829433025561866 : True := trivial
theorem core.tw2198500633384045450 : True := trivial
theorem core.tw10533110324409978831 : True := trivial
theorem core.tw1261698676818648228 : True := trivial
theorem core.tw14098311263417736686 : True := trivial
theorem core.tw8504121588021083662 : True := trivial
theorem core.tw14007299174097078657 : True := trivial
theorem core.tw67568186074337003 : True := trivial
theorem core.tw4218548350556451698 : True := trivial
theorem core.tw17448379858747099796 : True := trivial
theorem core.tw11727631600059985809 : True := trivial
theorem core.tw3099067818304959121 : True := trivial
theorem core.tw16083083029804659062 : True := trivial
theorem core.tw5965924006813582849 : True := trivial
theorem core.tw5615011194061197980 : True := trivial
theorem core.tw14968718495335706595 : True := trivial
theorem core.tw4942563654290620240 : True := trivial
theorem core.tw17721632246615433551 : True := trivial
theorem core.tw9036405795653091176 : True := trivial
theorem core.tw16710859044565004235 : True := trivial
theorem core.tw7618468169812894620 : True := trivial
theorem core.tw4203250062621904329 : True := trivial
theorem core.tw5164906240776599918 : True := trivial
theorem core.tw4748578212882696846 : True := trivial
theorem core.tw18111941901945638755 : True := trivial
theorem core.tw7934482170797722311 : True := trivial
theorem core.tw13719565316278312636 : True := trivial
theorem core.tw11682486017939695562 : True := trivial
theorem core.tw18023141348979660959 : True := trivial
theorem core.tw9687661336322359846 : True := trivial
theorem core.tw11171835678131424702 : True := trivial
theorem core.tw4484028088078438408 : True := trivial
theorem core.tw4415921295612205336 : True := trivial
theorem core.tw9838125213784758527 : True := trivial
theorem core.tw13276767447366037924 : True := trivial
theorem core.tw11557428228438283606 : True := trivial
theorem core.tw2693454037913846054 : True := trivial
theorem core.tw7243360094335076226 : True := trivial
theorem core.tw7448556219392931635 : True := trivial
theorem core.tw13128131648622037394 : True := trivial
theorem core.tw3941719521735548933 : True := trivial
theorem core.tw5948704944844905821 : True := trivial
theorem core.tw6972636671258589683 : True := trivial
theorem core.tw4746827732444513037 : True := trivial
theorem core.tw14215601074492520356 : True := trivial
theorem core.tw9371950852334843324 : True := trivial
theorem core.tw5304468433914715630 : True := trivial
theorem core.tw3168608307289388870 : True := trivial
theorem core.tw7619181925447420648 : True := trivial
theorem core.tw3766684434965799323 : True := trivial
theorem core.tw17267812235765236903 : True := trivial
theorem core.tw11283838478779629281 : True := trivial
theorem core.tw1512969457490399775 : True := trivial
theorem core.tw14045785540243927616 : True := trivial
theorem core.tw17114534446880182368 : True := trivial
theorem core.tw1057283631256834038 : True := trivial
theorem core.tw5723503966022892775 : True := trivial
theorem core.tw6847873437990767018 : True := trivial
theorem core.tw56640029984677273 : True := trivial
theorem core.tw2295881648805526096 : True := trivial
theorem core.tw17148705648381100504 : True := trivial
theorem core.tw9321318154333252393 : True := trivial
theorem core.tw10874378043219069488 : True := trivial
theorem core.tw14851735353490819281 : True := trivial
theorem core.tw3678318609723987374 : True := trivial
theorem core.tw12481319625460735788 : True := trivial
theorem core.tw7638913558752532934 : True := trivial
theorem core.tw10208114004356842968 : True := trivial
theorem core.tw1495740877110671925 : True := trivial
theorem core.tw9776664130270093463 : True := trivial
theorem core.tw10836489966474343243 : True := trivial
theorem core.tw2269531263640259734 : True := trivial
theorem core.tw10452281980075765433 : True := trivial
theorem core.tw11354723713056889696 : True := trivial
theorem core.tw17455250597111082582 : True := trivial
theorem core.tw15726110794585395910 : True := trivial
theorem core.tw16722350663929246941 : True := trivial
theorem core.tw6634547390489108358 : True := trivial
theorem core.tw1206567035388106193 : True := trivial
theorem core.tw16999448053258088601 : True := trivial
theorem core.tw2314968490883414602 : True := trivial
theorem core.tw4974439569481732480 : True := trivial
theorem core.tw3195544209135350097 : True := trivial
theorem core.tw18017826333369274686 : True := trivial
theorem core.tw6459306397031339477 : True := trivial
theorem core.tw4890527609804025463 : True := trivial
theorem core.tw12745748093713006412 : True := trivial
theorem core.tw9168932284136831664 : True := trivial
theorem core.tw4683715547542114046 : True := trivial
theorem core.tw10948763168644076424 : True := trivial
theorem core.tw10826480359416030221 : True := trivial
theorem core.tw5839083478463544043 : True := trivial
theorem core.tw13110168981031916725 : True := trivial
theorem core.tw13558072107661016702 : True := trivial
theorem core.tw12432749387964933590 : True := trivial
theorem core.tw17870296109711275874 : True := trivial
theorem core.tw14300178438497743950 : True := trivial
theorem core.tw4850628765256676781 : True := trivial
theorem core.tw7291647667491334283 : True := trivial
theorem core.tw11230085379784409281 : True := trivial
theorem core.tw2216630136555482241 : True := trivial
theorem core.tw3199013022971410629 : True := trivial
theorem core.tw5712116715846622141 : True := trivial
theorem core.tw8173160357943110967 : True := trivial
theorem core.tw13918583878269630975 : True := trivial
theorem core.tw9297393795861012614 : True := trivial
theorem core.tw2873485660495235627 : True := trivial
theorem core.tw10137683793042469475 : True := trivial
theorem core.tw17907190329835742043 : True := trivial
theorem core.tw4626324563194348409 : True := trivial
theorem core.tw13046895752648194933 : True := trivial
theorem core.tw9799128639556320565 : True := trivial
theorem core.tw14427897364036298982 : True := trivial
theorem core.tw13668106950354679392 : True := trivial
theorem core.tw11627141173588150596 : True := trivial
theorem core.tw7966327181522932687 : True := trivial
theorem core.tw542356833908160907 : True := trivial
theorem core.tw10723749357518702774 : True := trivial
theorem core.tw11290638926462692808 : True := trivial
theorem core.tw925693554676259740 : True := trivial
theorem core.tw18165687365141398564 : True := trivial
theorem core.tw13308322583677570060 : True := trivial
theorem core.tw1168746917550775747 : True := trivial
theorem core.tw3425393584190486287 : True := trivial
theorem core.tw14165122626021767104 : True := trivial
theorem core.tw11508600795981040670 : True := trivial
theorem core.tw7568785802848586763 : True := trivial
theorem core.tw1831123994163249252 : True := trivial
theorem core.tw8036617341039389480 : True := trivial
theorem core.tw5987355511626037583 : True := trivial
theorem core.tw5036384045079583575 : True := trivial
theorem core.tw17915443926085530992 : True := trivial
theorem core.tw15802726470985648802 : True := trivial
theorem core.tw4494471750686710222 : True := trivial
theorem core.tw3023605514707144745 : True := trivial
theorem core.tw7346387320053678418 : True := trivial
theorem core.tw5020707482700620944 : True := trivial
theorem core.tw13635270465545506380 : True := trivial
theorem core.tw206814089914310951 : True := trivial
theorem core.tw5490423932988703582 : True := trivial
theorem core.tw1725671477926803867 : True := trivial
theorem core.tw18159304346776532128 : True := trivial
theorem core.tw683776435491802668 : True := trivial
theorem core.tw12622688542563133827 : True := trivial
theorem core.tw14577524023124792554 : True := trivial
theorem core.tw14415922504726166179 : True := trivial
theorem core.tw8006714971931179818 : True := trivial
theorem core.tw17932529675455536205 : True := trivial
theorem core.tw18080785396683689559 : True := trivial
theorem core.tw5541873105793868304 : True := trivial
theorem core.tw12659978593469820096 : True := trivial
theorem core.tw686784610144474501 : True := trivial
theorem core.tw14594811972378830130 : True := trivial
theorem core.tw5108868195347255050 : True := trivial
theorem core.tw6771703732559107742 : True := trivial
theorem core.tw8585620319363038738 : True := trivial
theorem core.tw9468492925863373243 : True := trivial
theorem core.tw16046183349562758134 : True := trivial
theorem core.tw8061689857268194946 : True := trivial
theorem core.tw15587198665201532864 : True := trivial
theorem core.tw12463003748013446866 : True := trivial
theorem core.tw3864055289444571033 : True := trivial
theorem core.tw859861681725786963 : True := trivial
theorem core.tw3318178260489153099 : True := trivial
theorem core.tw10580544452488823341 : True := trivial
theorem core.tw1642365603876983707 : True := trivial
theorem core.tw14040265485904361180 : True := trivial
theorem core.tw10284136867329358590 : True := trivial
theorem core.tw995076186765950555 : True := trivial
theorem core.tw2728283070988912879 : True := trivial
theorem core.tw2997526208154173190 : True := trivial
theorem core.tw7716119522442446332 : True := trivial
theorem core.tw1297493186920796281 : True := trivial
theorem core.tw10175970051908141834 : True := trivial
theorem core.tw485582780219342460 : True := trivial
theorem core.tw9523138763102720093 : True := trivial
theorem core.tw17419331732961004824 : True := trivial
theorem core.tw10907196637579821701 : True := trivial
theorem core.tw11696760539077902754 : True := trivial
theorem core.tw7148753684210001314 : True := trivial
theorem core.tw9623687393019074733 : True := trivial
theorem core.tw6785901482512417737 : True := trivial
theorem core.tw10397455155506846332 : True := trivial
theorem core.tw16153032024966602299 : True := trivial
theorem core.tw7070333414407639711 : True := trivial
theorem core.tw15980663232282640791 : True := trivial
theorem core.tw12178884395173376655 : True := trivial
theorem core.tw630454287158182539 : True := trivial
theorem core.tw8099383183297749688 : True := trivial
theorem core.tw18298927598653720819 : True := trivial
theorem core.tw16421675773409190294 : True := trivial
theorem core.tw6666377689801911859 : True := trivial
theorem core.tw4436552993882733013 : True := trivial
theorem core.tw15051525263469611650 : True := trivial
theorem core.tw6382974290069604591 : True := trivial
theorem core.tw13411215928678359360 : True := trivial
theorem core.tw5744469310183993887 : True := trivial
theorem core.tw10505480928578426506 : True := trivial
theorem core.tw2960545854665738739 : True := trivial
theorem core.tw4186771481829417034 : True := trivial
theorem core.tw5366629977300468637 : True := trivial
theorem core.tw12956675051104318053 : True := trivial
theorem core.tw10485850919347738516 : True := trivial
theorem core.tw13031546488165125564 : True := trivial
theorem core.tw8591227218984361381 : True := trivial
theorem core.tw8326834093186765357 : True := trivial
theorem core.tw2178490623042727758 : True := trivial
theorem core.tw3467560701091682615 : True := trivial
theorem core.tw10030485546741390330 : True := trivial
theorem core.tw12572193041504719505 : True := trivial
theorem core.tw8436977187219628544 : True := trivial
theorem core.tw12354392978195619042 : True := trivial
theorem core.tw3612138436398573488 : True := trivial
theorem core.tw4380093651984819648 : True := trivial
theorem core.tw4320185488988645064 : True := trivial
theorem core.tw6235364944822067094 : True := trivial
theorem core.tw3754468272493324437 : True := trivial
theorem core.tw448328460992417285 : True := trivial
theorem core.tw10201218467047969570 : True := trivial
theorem core.tw6833822925393349968 : True := trivial
theorem core.tw12328414579543238399 : True := trivial
theorem core.tw1126203166729784115 : True := trivial
theorem core.tw7559680599930412813 : True := trivial
theorem core.tw390109051383789224 : True := trivial
theorem core.tw11094422055147788571 : True := trivial
theorem core.tw12331771823651400101 : True := trivial
theorem core.tw10408742023877352110 : True := trivial
theorem core.tw11001821755558727208 : True := trivial
theorem core.tw12562817948017797472 : True := trivial
theorem core.tw10832855206988478685 : True := trivial
theorem core.tw12673265617623630816 : True := trivial
theorem core.tw14141464697437818220 : True := trivial
theorem core.tw12436221875172606147 : True := trivial
theorem core.tw13431422994404355194 : True := trivial
theorem core.tw17816357177702107543 : True := trivial
theorem core.tw7202602263530410024 : True := trivial
theorem core.tw2557471455587331552 : True := trivial
theorem core.tw15090932151583912903 : True := trivial
theorem core.tw1715120621074758494 : True := trivial
theorem core.tw16857561991424219324 : True := trivial
theorem core.tw4292418875058829263 : True := trivial
theorem core.tw3800886536119132832 : True := trivial
theorem core.tw3807138663459014454 : True := trivial
theorem core.tw7889443620605832088 : True := trivial
theorem core.tw17724901512466836998 : True := trivial
theorem core.tw3745207088435596908 : True := trivial
theorem core.tw15845461206114239419 : True := trivial
theorem core.tw4888893004419970043 : True := trivial
theorem core.tw8253410540438778936 : True := trivial
theorem core.tw3778114662202243267 : True := trivial
theorem core.tw3773062243637250256 : True := trivial
theorem core.tw13521049110338725063 : True := trivial
theorem core.tw8969211121766268975 : True := trivial
theorem core.tw4116315196097077894 : True := trivial
theorem core.tw14940559973545525715 : True := trivial
theorem core.tw4485548699963709933 : True := trivial
theorem core.tw6978502022216026142 : True := trivial
theorem core.tw16560618642301711389 : True := trivial
theorem core.tw1245866617750138138 : True := trivial
theorem core.tw8029754478653825643 : True := trivial
theorem core.tw13390771818870003143 : True := trivial
theorem core.tw17654298966829987580 : True := trivial
theorem core.tw14512864191628734702 : True := trivial
theorem core.tw14696581190100408406 : True := trivial
theorem core.tw15813436841455442737 : True := trivial
theorem core.tw1929119352677986469 : True := trivial
theorem core.tw12353966273571063267 : True := trivial
theorem core.tw12625210443543323388 : True := trivial
theorem core.tw16917696998093359844 : True := trivial
theorem core.tw406911491535804402 : True := trivial
theorem core.tw6883172026422498642 : True := trivial
theorem core.tw15982850896900782585 : True := trivial
theorem core.tw8112532448759363250 : True := trivial
theorem core.tw14672356178199874359 : True := trivial
theorem core.tw6420267462447596636 : True := trivial
theorem core.tw2366640885290698202 : True := trivial
theorem core.tw9950794835795269805 : True := trivial
theorem core.tw13039184855655932537 : True := trivial
theorem core.tw4696244719595283745 : True := trivial
theorem core.tw9937949892439328845 : True := trivial
theorem core.tw7777390765828612910 : True := trivial
theorem core.tw4861306028931953426 : True := trivial
theorem core.tw13975250361709321769 : True := trivial
theorem core.tw12408052428462726801 : True := trivial
theorem core.tw13581453287181444317 : True := trivial
theorem core.tw8532462768615049594 : True := trivial
theorem core.tw13581765178996920390 : True := trivial
theorem core.tw2042407360006193010 : True := trivial
theorem core.tw8357439486422711353 : True := trivial
theorem core.tw5013455297547043729 : True := trivial
theorem core.tw15246683144423788103 : True := trivial
theorem core.tw5581351262841704490 : True := trivial
theorem core.tw13442261530614629333 : True := trivial
theorem core.tw13189999525151778066 : True := trivial
theorem core.tw1851800415524310980 : True := trivial
theorem core.tw7929184410609066846 : True := trivial
theorem core.tw15709616354661213212 : True := trivial
theorem core.tw615210359074534995 : True := trivial
theorem core.tw13349248146218370631 : True := trivial
theorem core.tw14579253973469386999 : True := trivial
theorem core.tw15814506053767498660 : True := trivial
theorem core.tw16044553811959181604 : True := trivial
theorem core.tw7121465853740291596 : True := trivial
theorem core.tw17042073198570751437 : True := trivial
theorem core.tw1597314445240431372 : True := trivial
theorem core.tw15554762202569029735 : True := trivial
theorem core.tw17073905245412124249 : True := trivial
theorem core.tw14249744995706676187 : True := trivial
theorem core.tw2190808893408053169 : True := trivial
theorem core.tw5283698212147653181 : True := trivial
theorem core.tw6704655166844901934 : True := trivial
theorem core.tw11948423751785476794 : True := trivial
theorem core.tw9338119841911598945 : True := trivial
theorem core.tw9934969832803021401 : True := trivial
theorem core.tw4293808674149031418 : True := trivial
theorem core.tw16181033850861110094 : True := trivial
theorem core.tw312439609609226801 : True := trivial
theorem core.tw11653875398670753599 : True := trivial
theorem core.tw4896216083188007745 : True := trivial
theorem core.tw14031036989899294655 : True := trivial
theorem core.tw12979533409856881352 : True := trivial
theorem core.tw10250243574837402119 : True := trivial
theorem core.tw15100010667688412833 : True := trivial
theorem core.tw5581438371381295071 : True := trivial
theorem core.tw17178445293192168889 : True := trivial
theorem core.tw8052598985826576409 : True := trivial
theorem core.tw3636841906709373326 : True := trivial
theorem core.tw9831994555365553168 : True := trivial
theorem core.tw15724609970804234283 : True := trivial
theorem core.tw17297290530186416629 : True := trivial
theorem core.tw2668305980650784246 : True := trivial
theorem core.tw9356723022372406267 : True := trivial
theorem core.tw2697553110355981231 : True := trivial
theorem core.tw11959036761198827011 : True := trivial
theorem core.tw1391676955430596606 : True := trivial
theorem core.tw11308664016627037606 : True := trivial
theorem core.tw5968873951887037581 : True := trivial
theorem core.tw13366446735791610533 : True := trivial
theorem core.tw17471161885288624231 : True := trivial
theorem core.tw8354903395999533114 : True := trivial
theorem core.tw5695665528679703840 : True := trivial
theorem core.tw988614714859186805 : True := trivial
theorem core.tw5266626129804181847 : True := trivial
theorem core.tw1423352743939721322 : True := trivial
theorem core.tw9943558693848600846 : True := trivial
theorem core.tw1960490664183942896 : True := trivial
theorem core.tw18364055537215301999 : True := trivial
theorem core.tw15556271289118386400 : True := trivial
theorem core.tw1664499552328569465 : True := trivial
theorem core.tw516473960116707322 : True := trivial
theorem core.tw13079165601089991145 : True := trivial
theorem core.tw5407800120867778201 : True := trivial
theorem core.tw17987948001181990155 : True := trivial
theorem core.tw17499119844805605157 : True := trivial
theorem core.tw934418276037045670 : True := trivial
theorem core.tw15249136554760158173 : True := trivial
theorem core.tw13954484217424562233 : True := trivial
theorem core.tw1001314737704672516 : True := trivial
theorem core.tw6949930804887481743 : True := trivial
theorem core.tw16618056261966044177 : True := trivial
theorem core.tw12437796446053056174 : True := trivial
theorem core.tw3403509011611972384 : True := trivial
theorem core.tw7426069123236101429 : True := trivial
theorem core.tw7349095971381713859 : True := trivial
theorem core.tw14286388975577998956 : True := trivial
theorem core.tw882459707334766481 : True := trivial
theorem core.tw5726788692678788155 : True := trivial
theorem core.tw10590826110376558221 : True := trivial
theorem core.tw2746952451013255021 : True := trivial
theorem core.tw4325802877426868874 : True := trivial
theorem core.tw12216584117365316947 : True := trivial
theorem core.tw7455910556196606924 : True := trivial
theorem core.tw17955612237551764678 : True := trivial
theorem core.tw15564951173302800583 : True := trivial
theorem core.tw3371772206217449925 : True := trivial
theorem core.tw16156043075502504288 : True := trivial
theorem core.tw16741044766758025543 : True := trivial
theorem core.tw2293577379363152482 : True := trivial
theorem core.tw9893604156096175397 : True := trivial
theorem core.tw2349622172027048987 : True := trivial
theorem core.tw10926840761011213656 : True := trivial
theorem core.tw2296562322948076438 : True := trivial
theorem core.tw8476936763244980155 : True := trivial
theorem core.tw13376933687257965177 : True := trivial
theorem core.tw3978737944458054899 : True := trivial
theorem core.tw2750398400300954084 : True := trivial
theorem core.tw9517251308994657680 : True := trivial
theorem core.tw8977201211629446247 : True := trivial
theorem core.tw17013873413458881705 : True := trivial
theorem core.tw18414833190526435769 : True := trivial
theorem core.tw6253219309921038788 : True := trivial
theorem core.tw10350948585338964772 : True := trivial
theorem core.tw4453827265030727412 : True := trivial
theorem core.tw9153750505098732663 : True := trivial
theorem core.tw5069337332586770314 : True := trivial
theorem core.tw16740161236888682987 : True := trivial
theorem core.tw79755211275943884 : True := trivial
theorem core.tw14657062988370665836 : True := trivial
theorem core.tw4804828131488812414 : True := trivial
theorem core.tw3154949237999148030 : True := trivial
theorem core.tw13175872780525125117 : True := trivial
theorem core.tw3126888366309358336 : True := trivial
theorem core.tw9256883127406605399 : True := trivial
theorem core.tw9039080967293120373 : True := trivial
theorem core.tw17804262774145994546 : True := trivial
theorem core.tw3128785641197392764 : True := trivial
theorem core.tw12552617709194662050 : True := trivial
theorem core.tw12185595275070480650 : True := trivial
theorem core.tw16201420796954765137 : True := trivial
theorem core.tw9598132135454005793 : True := trivial
theorem core.tw13770420594716932015 : True := trivial
theorem core.tw409236283250248264 : True := trivial
theorem core.tw14492313662746952526 : True := trivial
theorem core.tw9750303076175033916 : True := trivial
theorem core.tw14108755291351199500 : True := trivial
theorem core.tw5237922589088570466 : True := trivial
theorem core.tw8271924541899445345 : True := trivial
theorem core.tw14336842263733728638 : True := trivial
theorem core.tw17296447015127743236 : True := trivial
theorem core.tw10105331840512236150 : True := trivial
theorem core.tw16076805698151344603 : True := trivial
theorem core.tw6414047622760552453 : True := trivial
theorem core.tw11600153691702533450 : True := trivial
theorem core.tw8115720825216506617 : True := trivial
theorem core.tw12872166730024441132 : True := trivial
theorem core.tw9243313241901520291 : True := trivial
theorem core.tw3365470364856083 : True := trivial
theorem core.tw10728098800194325509 : True := trivial
theorem core.tw17708825651225098094 : True := trivial
theorem core.tw2258813827238065968 : True := trivial
theorem core.tw10814842440421656510 : True := trivial
theorem core.tw10126565076549792957 : True := trivial
theorem core.tw1494232437088284410 : True := trivial
theorem core.tw15176163899378700781 : True := trivial
theorem core.tw16938243693283031564 : True := trivial
theorem core.tw7003244477686297938 : True := trivial
theorem core.tw10839262418973228653 : True := trivial
theorem core.tw7493907524615760172 : True := trivial
theorem core.tw8932480348935425245 : True := trivial
theorem core.tw4882882999757841406 : True := trivial
theorem core.tw6889679517984774780 : True := trivial
theorem core.tw528789658872599769 : True := trivial
theorem core.tw14951126294409032885 : True := trivial
theorem core.tw7397529450619673968 : True := trivial
theorem core.tw13062943506510232114 : True := trivial
theorem core.tw7864776129589648884 : True := trivial
theorem core.tw5122507853490870717 : True := trivial
theorem core.tw11648646793172179150 : True := trivial
theorem core.tw9885950933567786412 : True := trivial
theorem core.tw1774244419165827251 : True := trivial
theorem core.tw16505374256258664120 : True := trivial
theorem core.tw11064205975188441499 : True := trivial
theorem core.tw13940366307028063053 : True := trivial
theorem core.tw11185773433664943518 : True := trivial
theorem core.tw3749740263821355127 : True := trivial
theorem core.tw15713649808055288441 : True := trivial
theorem core.tw11546271655276960300 : True := trivial
theorem core.tw1438902305671929549 : True := trivial
theorem core.tw6235878187877619202 : True := trivial
theorem core.tw10522635910029060726 : True := trivial
theorem core.tw8898547159927996107 : True := trivial
theorem core.tw17930984408324741447 : True := trivial
theorem core.tw13320745197284909384 : True := trivial
theorem core.tw5601959022000251980 : True := trivial
theorem core.tw12286985445539786693 : True := trivial
theorem core.tw18189682818668125048 : True := trivial
theorem core.tw10432186863895948352 : True := trivial
theorem core.tw5598673254159640082 : True := trivial
theorem core.tw13225313010500096423 : True := trivial
theorem core.tw17460765947119747358 : True := trivial
theorem core.tw467954607375857528 : True := trivial
theorem core.tw12221691931291631861 : True := trivial
theorem core.tw14299112703501043442 : True := trivial
theorem core.tw15369948850867656773 : True := trivial
theorem core.tw17451615106734353825 : True := trivial
theorem core.tw15954739954467062681 : True := trivial
theorem core.tw2803823097721284530 : True := trivial
theorem core.tw9700563706679462776 : True := trivial
theorem core.tw12463840159552893999 : True := trivial
theorem core.tw16601141138848454712 : True := trivial
theorem core.tw10962546554073250618 : True := trivial
theorem core.tw13494584828871717037 : True := trivial
theorem core.tw5295195194182101133 : True := trivial
theorem core.tw17038963920743711 : True := trivial
theorem core.tw12765742553303697803 : True := trivial
theorem core.tw5814258289760096821 : True := trivial
theorem core.tw13618496793599889170 : True := trivial
theorem core.tw2759504971983194805 : True := trivial
theorem core.tw1406474896833805129 : True := trivial
theorem core.tw1658763753667219227 : True := trivial
theorem core.tw14771695627090257610 : True := trivial
theorem core.tw18194604670086427595 : True := trivial
theorem core.tw17795650212960545024 : True := trivial
theorem core.tw6271165651661556191 : True := trivial
theorem core.tw7200188123082975785 : True := trivial
theorem core.tw18172270098105876836 : True := trivial
theorem core.tw12993126547341964675 : True := trivial
theorem core.tw4580808128477280688 : True := trivial
theorem core.tw14962574642538402884 : True := trivial
theorem core.tw11947821353710894613 : True := trivial
theorem core.tw16001422053992072391 : True := trivial
theorem core.tw4863724763826213026 : True := trivial
theorem core.tw11236718195498338662 : True := trivial
theorem core.tw12344907648987061451 : True := trivial
theorem core.tw1092886963205585138 : True := trivial
theorem core.tw9034329042982839595 : True := trivial
theorem core.tw9499614727587361540 : True := trivial
theorem core.tw5869716092737268234 : True := trivial
theorem core.tw3298494760603464229 : True := trivial
theorem core.tw9661314182478620924 : True := trivial
theorem core.tw8137671525267326624 : True := trivial
theorem core.tw9802156627561337678 : True := trivial
theorem core.tw501589011279893421 : True := trivial
theorem core.tw11800485916980150076 : True := trivial
theorem core.tw2317709570152818848 : True := trivial
theorem core.tw4370090977446393938 : True := trivial
theorem core.tw7840646446245896859 : True := trivial
theorem core.tw11230598290742756078 : True := trivial
theorem core.tw2944338271935241963 : True := trivial
theorem core.tw5559888143361005637 : True := trivial
theorem core.tw107975329549618557 : True := trivial
theorem core.tw9553117602067099369 : True := trivial
theorem core.tw9764506252457522239 : True := trivial
theorem core.tw9918025065361725460 : True := trivial
theorem core.tw10068012699085667363 : True := trivial
theorem core.tw8797601645669649352 : True := trivial
theorem core.tw7196852222562845639 : True := trivial
theorem core.tw5660503186603125438 : True := trivial
theorem core.tw2511593471558087496 : True := trivial
theorem core.tw15643885021691240135 : True := trivial
theorem core.tw12638776444577327753 : True := trivial
theorem core.tw17169519973797494005 : True := trivial
theorem core.tw17025207560263283286 : True := trivial
theorem core.tw9121585861695074383 : True := trivial
theorem core.tw14428691235821024587 : True := trivial
theorem core.tw4485022039111969397 : True := trivial
theorem core.tw14048099977057029889 : True := trivial
theorem core.tw18079629233193922663 : True := trivial
theorem core.tw6140936480386414194 : True := trivial
theorem core.tw4276094029796868298 : True := trivial
theorem core.tw2513063454185211469 : True := trivial
theorem core.tw11811166943235495387 : True := trivial
theorem core.tw2859987481777232131 : True := trivial
theorem core.tw9314813724662430564 : True := trivial
theorem core.tw2417496456932279839 : True := trivial
theorem core.tw13463378528428374296 : True := trivial
theorem core.tw12475104490804782842 : True := trivial
theorem core.tw5087657777799058182 : True := trivial
theorem core.tw5868321702782115382 : True := trivial
theorem core.tw1727413653635489793 : True := trivial
theorem core.tw18089905470679109341 : True := trivial
theorem core.tw18025391861898747958 : True := trivial
theorem core.tw17176572032549897143 : True := trivial
theorem core.tw2776703965227597332 : True := trivial
theorem core.tw5438161988572827779 : True := trivial
theorem core.tw16838730558978258681 : True := trivial
theorem core.tw6125381280993145147 : True := trivial
theorem core.tw13084569061786935755 : True := trivial
theorem core.tw11110910538816518656 : True := trivial
theorem core.tw3217091848924956472 : True := trivial
theorem core.tw18134250197308182601 : True := trivial
theorem core.tw6849567583383716490 : True := trivial
theorem core.tw3823926064208903593 : True := trivial
theorem core.tw7460670606516161343 : True := trivial
theorem core.tw8846212670788188089 : True := trivial
theorem core.tw9721970532951917270 : True := trivial
theorem core.tw9252249291643375152 : True := trivial
theorem core.tw8523230477626577883 : True := trivial
theorem core.tw10279596875343955518 : True := trivial
theorem core.tw1825878151489274109 : True := trivial
theorem core.tw3201333668363576092 : True := trivial
theorem core.tw2320211892985354278 : True := trivial
theorem core.tw15073893713941940442 : True := trivial
theorem core.tw4926810228228223782 : True := trivial
theorem core.tw17424371769038588696 : True := trivial
theorem core.tw13731535190608118541 : True := trivial
theorem core.tw14451083620178888052 : True := trivial
theorem core.tw13408371643064863787 : True := trivial
theorem core.tw7387861950588799440 : True := trivial
theorem core.tw13663152826320991049 : True := trivial
theorem core.tw17640991986112996614 : True := trivial
theorem core.tw10749494573174784109 : True := trivial
theorem core.tw4211767652421404813 : True := trivial
theorem core.tw13397537022858020059 : True := trivial
theorem core.tw10010576308760362702 : True := trivial
theorem core.tw2030142042851580608 : True := trivial
theorem core.tw11748260925825110277 : True := trivial
theorem core.tw9373520276094528622 : True := trivial
theorem core.tw2879353412685994943 : True := trivial
theorem core.tw10172231780152660740 : True := trivial
theorem core.tw10223966823530429612 : True := trivial
theorem core.tw13936921525997922403 : True := trivial
theorem core.tw17104192626609270109 : True := trivial
theorem core.tw12411350829191178615 : True := trivial
theorem core.tw14797490430794446709 : True := trivial
theorem core.tw4053053016298820478 : True := trivial
theorem core.tw10924605925383923355 : True := trivial
theorem core.tw1842757969147096148 : True := trivial
theorem core.tw8030384289762146214 : True := trivial
theorem core.tw1336845859102052743 : True := trivial
theorem core.tw4108476465098350474 : True := trivial
theorem core.tw8577950134585686014 : True := trivial
theorem core.tw16896483199750255240 : True := trivial
theorem core.tw8584981463796677261 : True := trivial
theorem core.tw6383375164507381490 : True := trivial
theorem core.tw13559356686349908589 : True := trivial
theorem core.tw11590581128955637359 : True := trivial
theorem core.tw17757160366845522056 : True := trivial
theorem core.tw17529907994281951035 : True := trivial
theorem core.tw431456208704707506 : True := trivial
theorem core.tw15820701176919418248 : True := trivial
theorem core.tw9266265766168352226 : True := trivial
theorem core.tw13605441937035756793 : True := trivial
theorem core.tw7699942821072770526 : True := trivial
theorem core.tw5931897878469198687 : True := trivial
theorem core.tw7219762104022458577 : True := trivial
theorem core.tw3739456170299441488 : True := trivial
theorem core.tw9228101334068024056 : True := trivial
theorem core.tw18305029768359283906 : True := trivial
theorem core.tw15026121715458298825 : True := trivial
theorem core.tw11241559532859301905 : True := trivial
theorem core.tw14429122548934221675 : True := trivial
theorem core.tw14512479384137198752 : True := trivial
theorem core.tw11168862802898300099 : True := trivial
theorem core.tw2941374897104820956 : True := trivial
theorem core.tw1668904592400004409 : True := trivial
theorem core.tw4573705810038038297 : True := trivial
theorem core.tw4880574799468877057 : True := trivial
theorem core.tw5962612514052092131 : True := trivial
theorem core.tw830544999736100001 : True := trivial
theorem core.tw13124048598603015657 : True := trivial
theorem core.tw16612460695947198338 : True := trivial
theorem core.tw10014907431839052804 : True := trivial
theorem core.tw16959816794161539805 : True := trivial
theorem core.tw6523869948332696930 : True := trivial
theorem core.tw4450708944508384908 : True := trivial
theorem core.tw10321352040475035051 : True := trivial
theorem core.tw15145453253620986796 : True := trivial
theorem core.tw10276595788582700710 : True := trivial
theorem core.tw16803907116511031453 : True := trivial
theorem core.tw1315601210600415020 : True := trivial
theorem core.tw171339439301718710 : True := trivial
theorem core.tw4838954565185682215 : True := trivial
theorem core.tw6931008673903283433 : True := trivial
theorem core.tw16441097232390397543 : True := trivial
theorem core.tw641301341139781766 : True := trivial
theorem core.tw11228937174198535687 : True := trivial
theorem core.tw14353133425800849456 : True := trivial
theorem core.tw14368974975486180012 : True := trivial
theorem core.tw9255955378926025185 : True := trivial
theorem core.tw5103886208044089490 : True := trivial
theorem core.tw14455257302720484512 : True := trivial
theorem core.tw9427396336398719085 : True := trivial
theorem core.tw4839005433044762061 : True := trivial
theorem core.tw2002158821687042809 : True := trivial
theorem core.tw7238190776949381731 : True := trivial
theorem core.tw5517074232607778692 : True := trivial
theorem core.tw1406561125117056931 : True := trivial
theorem core.tw15861286779123788098 : True := trivial
theorem core.tw3596595792719971834 : True := trivial
theorem core.tw2689668224481945453 : True := trivial
theorem core.tw4846209944884003490 : True := trivial
theorem core.tw9978199369083289891 : True := trivial
theorem core.tw2222279599560768842 : True := trivial
theorem core.tw15408779510469686683 : True := trivial
theorem core.tw9601275768978485849 : True := trivial
theorem core.tw14157215466277512645 : True := trivial
theorem core.tw6923506910082080672 : True := trivial
theorem core.tw5778863892858367221 : True := trivial
theorem core.tw11130926085833491265 : True := trivial
theorem core.tw12826016601571081555 : True := trivial
theorem core.tw5238515446435176073 : True := trivial
theorem core.tw5921627711771168108 : True := trivial
theorem core.tw17085077135810653575 : True := trivial
theorem core.tw778635416970063971 : True := trivial
theorem core.tw16200591252830301895 : True := trivial
theorem core.tw18009541549765710873 : True := trivial
theorem core.tw8423200635313212913 : True := trivial
theorem core.tw6826251861177657672 : True := trivial
theorem core.tw3485397868335597943 : True := trivial
theorem core.tw7121135792357664387 : True := trivial
theorem core.tw9691701080336731039 : True := trivial
theorem core.tw17561956730340232445 : True := trivial
theorem core.tw2600327817702167379 : True := trivial
theorem core.tw9366213205392445141 : True := trivial
theorem core.tw3426937575484390407 : True := trivial
theorem core.tw2805071949741228707 : True := trivial
theorem core.tw7053643768550303578 : True := trivial
theorem core.tw16809700839120320634 : True := trivial
theorem core.tw4064220845598443051 : True := trivial
theorem core.tw7944136947410533017 : True := trivial
theorem core.tw17292326770397501020 : True := trivial
theorem core.tw8882693070947009524 : True := trivial
theorem core.tw10203562259740843032 : True := trivial
theorem core.tw10218384672813087576 : True := trivial
theorem core.tw10253174241230309411 : True := trivial
theorem core.tw10269360312754618063 : True := trivial
theorem core.tw10270881024777652650 : True := trivial
theorem core.tw10295977580670813497 : True := trivial
theorem core.tw10319883449182591649 : True := trivial
theorem core.tw10328562449831935506 : True := trivial
theorem core.tw10396355813624319322 : True := trivial
theorem core.tw10480804958178285256 : True := trivial
theorem core.tw10528280830224091134 : True := trivial
theorem core.tw1059012027641667266 : True := trivial
theorem core.tw10612263923099690901 : True := trivial
theorem core.tw10683918044678234921 : True := trivial
theorem core.tw10802410168330842194 : True := trivial
theorem core.tw1086704339888744462 : True := trivial
theorem core.tw11129188006129150457 : True := trivial
theorem core.tw11194117425216691239 : True := trivial
theorem core.tw11314765569715709385 : True := trivial
theorem core.tw11340521050805096157 : True := trivial
theorem core.tw11381552524242551801 : True := trivial
theorem core.tw11398391134986493474 : True := trivial
theorem core.tw11406512879140919772 : True := trivial
theorem core.tw11466965029575776522 : True := trivial
theorem core.tw11497414968034163097 : True := trivial
theorem core.tw11674094598872987320 : True := trivial
theorem core.tw1195145708612286847 : True := trivial
theorem core.tw11972292962233712593 : True := trivial
theorem core.tw12072131213557825037 : True := trivial
theorem core.tw12105719784757267768 : True := trivial
theorem core.tw12141816854138164921 : True := trivial
theorem core.tw12149979693935337514 : True := trivial
theorem core.tw12178932990719254192 : True := trivial
theorem core.tw12222178095857804670 : True := trivial
theorem core.tw12422049791218058265 : True := trivial
theorem core.tw12437819114219789848 : True := trivial
theorem core.tw12548352467279397454 : True := trivial
theorem core.tw12632125336544236837 : True := trivial
theorem core.tw12650180246380872979 : True := trivial
theorem core.tw12692018730568535817 : True := trivial
theorem core.tw12806613544477790775 : True := trivial
theorem core.tw12823546668598566896 : True := trivial
theorem core.tw12929420105501152307 : True := trivial
theorem core.tw12932483616612227626 : True := trivial
theorem core.tw13105214657188149878 : True := trivial
theorem core.tw13197826250924239345 : True := trivial
theorem core.tw1324958076361071996 : True := trivial
theorem core.tw13250002808293248452 : True := trivial
theorem core.tw13275404853045062853 : True := trivial
theorem core.tw13402374868529173004 : True := trivial
theorem core.tw13457065331938843792 : True := trivial
theorem core.tw13474635244797402320 : True := trivial
theorem core.tw13512741528749922214 : True := trivial
theorem core.tw13519379080083723220 : True := trivial
theorem core.tw13628919024238364216 : True := trivial
theorem core.tw13636681795595123787 : True := trivial
theorem core.tw13641099444765133777 : True := trivial
theorem core.tw13893921608887550155 : True := trivial
theorem core.tw13920117513276027607 : True := trivial
theorem core.tw13991891625241663145 : True := trivial
theorem core.tw14019586101862644888 : True := trivial
theorem core.tw14093421580404347583 : True := trivial
theorem core.tw14149992876968461959 : True := trivial
theorem core.tw14181173758056517927 : True := trivial
theorem core.tw14217071436369821320 : True := trivial
theorem core.tw14294297318892219171 : True := trivial
theorem core.tw14311656045753035253 : True := trivial
theorem core.tw14347665462257631430 : True := trivial
theorem core.tw14363020285209227164 : True := trivial
theorem core.tw14434767510283119616 : True := trivial
theorem core.tw14480270981100807352 : True := trivial
theorem core.tw14538676953143739471 : True := trivial
theorem core.tw14624680203227651916 : True := trivial
theorem core.tw14757325644728838041 : True := trivial
theorem core.tw14870225510841795557 : True := trivial
theorem core.tw14919142573263432724 : True := trivial
theorem core.tw15012514762200060420 : True := trivial
theorem core.tw15039557724709541718 : True := trivial
theorem core.tw15090795965583379551 : True := trivial
theorem core.tw15107043497051558740 : True := trivial
theorem core.tw15208102375579669679 : True := trivial
theorem core.tw15326793831702987718 : True := trivial
theorem core.tw1532736334880770599 : True := trivial
theorem core.tw1540020116406784489 : True := trivial
theorem core.tw15508467788656102041 : True := trivial
theorem core.tw15510126120195902156 : True := trivial
theorem core.tw15685686906807594103 : True := trivial
theorem core.tw15719733683977802846 : True := trivial
theorem core.tw1580465296955331984 : True := trivial
theorem core.tw15847677259708188303 : True := trivial
theorem core.tw15887234457235950573 : True := trivial
theorem core.tw15898233706906412975 : True := trivial
theorem core.tw15912109898948842746 : True := trivial
theorem core.tw15928472663927327953 : True := trivial
theorem core.tw15944648138778943573 : True := trivial
theorem core.tw1609537142430149762 : True := trivial
theorem core.tw16152800838155256452 : True := trivial
theorem core.tw16178862057236319713 : True := trivial
theorem core.tw16337570279826892944 : True := trivial
theorem core.tw16341549011529511351 : True := trivial
theorem core.tw16383566067157995593 : True := trivial
theorem core.tw16490591994689043290 : True := trivial
theorem core.tw16504013069112085776 : True := trivial
theorem core.tw16730201512688389173 : True := trivial
theorem core.tw16745005354979320155 : True := trivial
theorem core.tw16801506685975538081 : True := trivial
theorem core.tw16911931920128033016 : True := trivial
theorem core.tw16930932723392560245 : True := trivial
theorem core.tw17010633858192525251 : True := trivial
theorem core.tw17015374008056369966 : True := trivial
theorem core.tw17015512793329811784 : True := trivial
theorem core.tw17053135639492733990 : True := trivial
theorem core.tw17065663588635831017 : True := trivial
theorem core.tw17067235520684157123 : True := trivial
theorem core.tw17287592703298225396 : True := trivial
theorem core.tw172922814333853955 : True := trivial
theorem core.tw17302202698404412318 : True := trivial
theorem core.tw17318392920616092440 : True := trivial
theorem core.tw17356184204327947431 : True := trivial
theorem core.tw17367342924065914408 : True := trivial
theorem core.tw1747913185666681273 : True := trivial
theorem core.tw17540222112808603581 : True := trivial
theorem core.tw17694411875771638348 : True := trivial
theorem core.tw17715661701361335268 : True := trivial
theorem core.tw17766167047155113466 : True := trivial
theorem core.tw17796487657929828476 : True := trivial
theorem core.tw17797738437797387326 : True := trivial
theorem core.tw17823086622818157298 : True := trivial
theorem core.tw17935086781250105304 : True := trivial
theorem core.tw18001314506248795898 : True := trivial
theorem core.tw18027513686491730008 : True := trivial
theorem core.tw18043738822498053854 : True := trivial
theorem core.tw18212026961508167269 : True := trivial
theorem core.tw18297830454164989224 : True := trivial
theorem core.tw18330729268139123331 : True := trivial
theorem core.tw18425936712586150236 : True := trivial
theorem core.tw1844474327330748261 : True := trivial
theorem core.tw1919402620208018654 : True := trivial
theorem core.tw1933542474503611236 : True := trivial
theorem core.tw1958932248722514279 : True := trivial
theorem core.tw2024106691890336306 : True := trivial
theorem core.tw205149529332031834 : True := trivial
theorem core.tw2074419818184078016 : True := trivial
theorem core.tw2185022709100841009 : True := trivial
theorem core.tw2278549490339147110 : True := trivial
theorem core.tw2288109012853343952 : True := trivial
theorem core.tw2340088247748653163 : True := trivial
theorem core.tw2470027081819304043 : True := trivial
theorem core.tw2483718554892771451 : True := trivial
theorem core.tw2486595098840961978 : True := trivial
theorem core.tw2536507351867468411 : True := trivial
theorem core.tw2593833188633028600 : True := trivial
theorem core.tw2602120611272285641 : True := trivial
theorem core.tw2816824496925770431 : True := trivial
theorem core.tw2825888767301726649 : True := trivial
theorem core.tw2854187690869644325 : True := trivial
theorem core.tw2872600355022421855 : True := trivial
theorem core.tw2873142268491385120 : True := trivial
theorem core.tw2904740909127587579 : True := trivial
theorem core.tw2965206736841520530 : True := trivial
theorem core.tw2982923987848387382 : True := trivial
theorem core.tw3068750422950601914 : True := trivial
theorem core.tw3167712777875150398 : True := trivial
theorem core.tw3190871574401199923 : True := trivial
theorem core.tw330536078097861689 : True := trivial
theorem core.tw3315319447170176560 : True := trivial
theorem core.tw3515173485849484528 : True := trivial
theorem core.tw3521259039413206451 : True := trivial
theorem core.tw3522756761965939328 : True := trivial
theorem core.tw35261513641979368 : True := trivial
theorem core.tw3556714516053748061 : True := trivial
theorem core.tw3567914295910033578 : True := trivial
theorem core.tw3671778366721988043 : True := trivial
theorem core.tw3828608598213649363 : True := trivial
theorem core.tw3919276354499703703 : True := trivial
theorem core.tw4029251812247713219 : True := trivial
theorem core.tw4050064161851357497 : True := trivial
theorem core.tw4058408772585709203 : True := trivial
theorem core.tw4116144239375402824 : True := trivial
theorem core.tw4161919718733622391 : True := trivial
theorem core.tw4169464456554048669 : True := trivial
theorem core.tw4265112981174679466 : True := trivial
theorem core.tw428396643924166343 : True := trivial
theorem core.tw4287143022304675484 : True := trivial
theorem core.tw4384022951254771063 : True := trivial
theorem core.tw476369080485779527 : True := trivial
theorem core.tw5039528398929703180 : True := trivial
theorem core.tw5055002663986078894 : True := trivial
theorem core.tw5070523255727358727 : True := trivial
theorem core.tw5198850046828968127 : True := trivial
theorem core.tw5257344119250942308 : True := trivial
theorem core.tw5484527021927528741 : True := trivial
theorem core.tw5495961338480873399 : True := trivial
theorem core.tw5774929888667780395 : True := trivial
theorem core.tw5792916518566916808 : True := trivial
theorem core.tw583488077738077589 : True := trivial
theorem core.tw58422393052940895 : True := trivial
theorem core.tw5858897704262412523 : True := trivial
theorem core.tw5877124229325582342 : True := trivial
theorem core.tw6049808185654490512 : True := trivial
theorem core.tw609830767220715683 : True := trivial
theorem core.tw6219088055520675047 : True := trivial
theorem core.tw6253862299036613800 : True := trivial
theorem core.tw6399243657992336647 : True := trivial
theorem core.tw643808327567024475 : True := trivial
theorem core.tw6466259178718792629 : True := trivial
theorem core.tw657621620741497754 : True := trivial
theorem core.tw6707245781671162647 : True := trivial
theorem core.tw6804018168805222909 : True := trivial
theorem core.tw6829827193711243395 : True := trivial
theorem core.tw6968565760081305272 : True := trivial
theorem core.tw700278743685479457 : True := trivial
theorem core.tw7096702136354433109 : True := trivial
theorem core.tw7151368679242854930 : True := trivial
theorem core.tw7224292349704013088 : True := trivial
theorem core.tw7233190166592861813 : True := trivial
theorem core.tw7293805719423175434 : True := trivial
theorem core.tw730872978938658096 : True := trivial
theorem core.tw7323923900444668147 : True := trivial
theorem core.tw7455670972390649212 : True := trivial
theorem core.tw7465951122777913185 : True := trivial
theorem core.tw7628883731180764039 : True := trivial
theorem core.tw7707550001214590416 : True := trivial
theorem core.tw7797186259802476604 : True := trivial
theorem core.tw782532098731096290 : True := trivial
theorem core.tw7895807271961750835 : True := trivial
theorem core.tw794249663676334684 : True := trivial
theorem core.tw796093912792592314 : True := trivial
theorem core.tw8038854252477332222 : True := trivial
theorem core.tw8062394204763558770 : True := trivial
theorem core.tw8145731885183113255 : True := trivial
theorem core.tw8148245534711079566 : True := trivial
theorem core.tw8155111308245451417 : True := trivial
theorem core.tw8246724570495463609 : True := trivial
theorem core.tw8271984243947486458 : True := trivial
theorem core.tw8331767906989197620 : True := trivial
theorem core.tw8367881269685140731 : True := trivial
theorem core.tw8563441179714189375 : True := trivial
theorem core.tw861680322516108910 : True := trivial
theorem core.tw8660934668506259744 : True := trivial
theorem core.tw8715262062521030825 : True := trivial
theorem core.tw8950972736073674718 : True := trivial
theorem core.tw8982190329212845522 : True := trivial
theorem core.tw9014070035267366369 : True := trivial
theorem core.tw9028024491890652574 : True := trivial
theorem core.tw90480651995543097 : True := trivial
theorem core.tw9226202115736992671 : True := trivial
theorem core.tw9318469275057696651 : True := trivial
theorem core.tw9369880478483156655 : True := trivial
theorem core.tw94022855833053474 : True := trivial
theorem core.tw9587459483965409259 : True := trivial
theorem core.tw9587914679879882174 : True := trivial
theorem core.tw9656491872937939892 : True := trivial
theorem core.tw9810533817466551644 : True := trivial
theorem core.tw9819977566773477096 : True := trivial
theorem core.tw9841978448038320345 : True := trivial
theorem core.tw9842922597330293870 : True := trivial
theorem core.tw9845970182009375013 : True := trivial
theorem core.tw9887834140669837724 : True := trivial
theorem core.tw996479256103900263 : True := trivial
theorem core.tw998668648051542526 : True := trivial
theorem core.tw9986828827868270333 : True := trivial
section
open PySem PySem.W PyProof.Rows PySem.Calls
set_option maxRecDepth 100000
set_option maxHeartbeats 8000000
local macro_rules | `(tactic| walk_at "eval Name") => `(tactic| (k_here; name_kind "local"; k_dflt (refine' ldVarK ?F ?hv ?_; (case F => assumption); (case hv => assumption))))
local macro_rules | `(tactic| walk_at "call builtin:chr") => `(tactic| (k_here; simp only [fm128]; refine chr_of_range (by omega) (by omega) ?_; simp only [Int.toNat_natCast]))
set_option Elab.async true in
set_option maxHeartbeats 0 in
theorem core : (PySem.Challenge.rw_il0039_01).Holds := by
  w_on
  o_law
  o_head pHook
  (case hw => w_witness2)
  w_strict (
    intro w s₀ s₁ mg mb G Y fa o pm cd doc dV kV ho hd hcd hD hmg hg args vals as hpre hlay hrd hwl hlo
    obtain ⟨KX, h746⟩ := Y
    lge_behind G ho hd hcd hD hmg hpre hlay hrd hwl hlo cd
    all_goals (rename LGe.Mark => lgeM; clear lgeM)
    all_goals try k_fold
    rename Fr _ _ _ _ => F0
    rename News _ _ _ [] => N0
    rename Frag.In _ _ => X0
    rename Top _ _ _ _ _ _ => T0
    rename Below callerA _ [] _ => B0
    rename IntsAre _ _ => hI
    rename BMod _ _ _ _ _ => M0
    rename PySem.Shared.gens _ = #[] => hg0
    rename ¬ _ < _ => hlen
    rename PySem.Heap.IsList _ _ _ => hL0
    repeat ((fail_if_success (with_reducible show wpAny _ _ (call (Value.ref 794) _) _ _ _)); first | (k_unfold; (try dsimp only)) | walk1 | (dsimp only; walk1))
    try (k_unfold; dsimp only)
    have hlen' := Int.not_lt.mp hlen
    refine words_spec (X0.keeps F0.keep) ((topRead_of T0).keeps F0.keep) rfl (by k_room) (F0.lst hL0) hI (by omega) fun aw us ow h1 tk1 k1 hn1 hg1 hlo1 hus1 => ?_
    have F1 := Fr.keeps F0 k1
    have N1 := news_add F0 (News.grown N0 k1) hn1 hg1
    obtain ⟨ws, hus1, hg, hwt, hlw⟩ := words_good hus1
    clear F0 N0 k1 hn1 hg1
    repeat ((fail_if_success (with_reducible show wpAny _ _ (exec (Stmt.Assign _ (PySem.Expr.ListComp _ _ _ _) _) _) _ _ _)); first | (k_unfold; (try dsimp only)) | walk1 | (dsimp only; walk1))
    try (k_unfold; dsimp only)
    rename Fr _ _ _ _ => F2
    rename News _ _ _ [_] => N2
    k_dflt (refine' LCg.Assign_ListComp_U F2 ?a1 ?a2 ?a3 ?a4 ?a5 ?a6 ?a7 ?a8 ?a9 ?_ ?b1)
    case a1 => exact rfl
    case a2 => with_unfolding_all rfl
    case a3 => exact rfl
    case a4 => decide
    case a5 => exact rfl
    case a6 => decide
    case a7 => exact rfl
    case a8 => exact rfl
    case a9 => exact rfl
    case b1 => intro _; exact rfl
    try k_fold
    repeat ((fail_if_success (with_reducible show LCg.CompSrc _ _ _ _ _ _ _ _ _ _ _ _ _ _)); first | (k_unfold; (try dsimp only)) | walk1 | (dsimp only; walk1))
    try (k_unfold; dsimp only)
    rename Fr _ _ _ _ => F2
    have husl : us.length ≤ 14 := by have := hus1.length; rw [List.length_map] at this; omega
    refine srcL_of rfl F2 N2 List.mem_cons_self hlo1 (by omega) fun g => ?_
    refine rest_words low (srcAt_of List.mem_cons_self hlo1) hus1 ?_ ?_ _ 0 [] (by omega) .nil
    · intro C m₂ wv t all s' Q' E' hwv hC hm2 F3 N3 hq
      have X3 := X0.keeps F3.keep
      have T3 := (topRead_of T0).keeps F3.keep
      repeat ((fail_if_success (with_reducible show wpAny _ _ (eval (PySem.Expr.ListComp _ _ _ _) _) _ _ _)); first | (k_unfold; (try dsimp only)) | walk1 | (dsimp only; walk1))
      try (k_unfold; dsimp only)
      k_dflt (refine' comp_strF (cl := []) all F3 ?k1 ?k2 ?k3 ?k4 ?k5 ?k6 ?_)
      case k1 => exact rfl
      case k2 => decide
      case k3 => exact rfl
      case k4 => decide
      case k5 => exact rfl
      case k6 => intro _; exact rfl
      try k_fold
      repeat ((fail_if_success (with_reducible show Exists _)); (fail_if_success k_unfold); first | walk1 | (dsimp only; walk1))
      k_unfold
      dsimp only
      have hwl := len_wt ws wv hwv
      refine ⟨S wv, t, rfl, rfl, F3, N3, by show wv.toArray.size ≤ 2 ^ 24; rw [List.size_toArray]; omega, ?_⟩
      rintro s₂ ⟨g2, rfl⟩
      refine rest_mapN (fun c => c % 128) ?_ ?_ _ 0 [] (by simp) trivial
      · intro C5 m5 c t5 s5 Q5 E5 hc hN5 hm5 F5 hq5
        have X5 := X0.keeps F5.keep
        have T5 := (topRead_of T0).keeps F5.keep
        repeat (first | walk1 | (dsimp only; walk1))
        exact hq5 _ _ _ fun _ _ e => e
      · intro D h tk ys F5 N5 hC5
        try k_fold
        repeat ((fail_if_success (with_reducible show wpAny _ _ (call (Value.builtin "str.join") _) _ _ _)); first | (k_unfold; (try dsimp only)) | walk1 | (dsimp only; walk1))
        try (k_unfold; dsimp only)
        refine join_list (ys := (wv.map (· % 128)).map fun c => (⟨#[c]⟩ : Str)) (News.isList N5 List.mem_cons_self) (chars_strs hC5) ?_ fun t' k => ?_
        · rw [sum_ones]; show _ + _ * 0 ≤ _; rw [List.length_map]; show _ ≤ 2 ^ 24; omega
        rw [join_ones]
        try k_fold
        repeat (first | (k_unfold; (try dsimp only)) | walk1 | (dsimp only; walk1))
        exact hq _ _ _ F5 fun p hp => N5 p (List.mem_cons_of_mem _ hp)
    · intro ys hys D h tk F3 N3 off3
      try k_fold
      repeat ((fail_if_success (with_reducible show wpAny _ _ (call (Value.ref 806) _) _ _ _)); first | (k_unfold; (try dsimp only)) | walk1 | (dsimp only; walk1))
      try (k_unfold; dsimp only)
      have hcs : ∀ z ∈ ws, ∀ c ∈ z, c < 1114112 := fun z hz => (hg.2 z hz).2
      have hwsum := wsum_wt ws
      have Naw := (N3 (aw, ow) (by k_mem)).1
      have Taw := (topRead_of T0).keeps F3.keep
      have Xaw := X0.keeps F3.keep
      refine turned_spec Xaw Taw rfl (by k_room) (hlo1.isList Naw) hus1 (by omega) hcs fun vt h4 tk4 k4 hvt => ?_
      obtain ⟨nt, N4, hturn⟩ := turn_news F3 (News.grown N3 k4) hvt
      have F4 := Fr.keeps F3 k4
      clear hvt F3 N3 Naw Taw Xaw k4
      repeat ((fail_if_success (with_reducible show wpAny _ _ (call (Value.ref 751) _) _ _ _)); first | (k_unfold; (try dsimp only)) | walk1 | (dsimp only; walk1))
      try (k_unfold; dsimp only)
      rename Fr _ _ _ _ => F5
      rename News _ _ _ (nt ++ _) => N5
      have Baw := (N5 (aw, ow) (by simp)).1
      refine join_spec (X0.keeps F5.keep) ((topRead_of T0).keeps F5.keep) (M0.keeps F5.keep) (F5.keep _ _ h746) rfl (by k_room) (AllBare.of_eq hg0) (hlo1.isList Baw) hus1.areOf (by rw [List.length_map]; omega) ?_ fun y t6 s6 ps6 hk6 hb6 hos6 hy6 => ?_
      · intro x hx
        obtain ⟨wv, hwv, rfl⟩ := List.mem_map.mp hx
        have := len_wt ws wv hwv
        show wv.toArray.size ≤ 100
        rw [List.size_toArray]; omega
      rw [join_line hg.1] at hy6
      subst hy6
      have hbase := based746 X0 h746
      have X6 := kb_in_regrown (ps' := ps6) hbase X0 T0.g (by kernel_rfl)
      have T6 := top_re (ps' := ps6) T0 hbase
      obtain ⟨F6, N6⟩ := fr_re F5 N5 h746 hk6
      clear hk6 F5 N5 hbase Baw
      have hold := fun h (hk : ∀ b o, (regrown _ 746 ps6).get? b = some o → PySem.Heap.get? h b = some o) => old746 X0 h746 hk
      clear B0 M0 X0 T0 h746 hg0
      repeat ((fail_if_success (with_reducible show wpAny _ _ (exec (Stmt.For _ _ _ _ _) _) _ _ _)); first | (k_unfold; (try dsimp only)) | walk1 | (dsimp only; walk1))
      try (k_unfold; dsimp only)
      rename Fr _ _ _ _ => F7
      k_dflt (refine' For_turns F7 ?_ ?hs ?hE)
      case hs => intro _; exact rfl
      case hE => passes_own
      try k_fold
      repeat ((fail_if_success (with_reducible show wpAny _ _ (pyIter _) _ _ _)); first | (k_unfold; (try dsimp only)) | walk1 | (dsimp only; walk1))
      try (k_unfold; dsimp only)
      rename IsRange _ _ _ _ _ _ _ _ => hR
      rename Fr _ _ _ _ => F8
      rename News _ _ _ (nt ++ _) => N8
      refine it_range (n := 4) rfl F8 N8 hR (by decide +kernel) (by decide +kernel) fun I hI => ?_
      k_dflt (refine' rest_ind (lawJ ws D vt (nt ++ [(D, LCg.lst ys), (aw, ow)])) ?done ?turn _ _ _ ?init)
      case init => exact ⟨0, by decide, rfl, ⟨_, by with_unfolding_all rfl⟩, by with_unfolding_all rfl, by with_unfolding_all rfl, rfl⟩
      case done =>
        intro m news h tk hJ F N
        obtain ⟨k, hk4, hit, ⟨tl, hm1⟩, hm2, hm3, rfl⟩ := hJ
        clear F8 N8
        dsimp only
        k_steps
        all_goals (try dsimp only)
        all_goals (try k_steps)
        rename Fr _ _ _ _ => F9
        refine goodWG_true (hold _ F9.keep) hb6 (raisesW_false ?_) ?_ hos6
        · wrow_none_raised
        · wrow_post
      case turn =>
        intro a r m news v h tk hJ hv F
        obtain ⟨k, hk4, hit, ⟨tl, hm1⟩, hm2, hm3, rfl⟩ := hJ
        obtain ⟨hk, rfl, rfl⟩ := drop_range hk4 hit
        obtain ⟨ti, rfl⟩ := hv
        have hF := fr_put3 F hm1 hm2 hm3
        clear F8 N8 F hR hit
        refine AllObj.cons fun oR hoR => AllObj.nil fun N => ?_
        have N : News _ _ h ((I, oR) :: (nt ++ [(D, LCg.lst ys), (aw, ow)])) := N
        repeat ((fail_if_success (with_reducible show wpAny _ _ (call (Value.ref 811) _) _ _ _)); first | (k_unfold; (try dsimp only)) | walk1 | (dsimp only; walk1))
        try (k_unfold; dsimp only)
        rename Fr _ _ _ _ => F9
        rename News _ _ _ ((I, oR) :: _) => N9
        have hf0 := sent_facts hg (by omega) k (by omega)
        have hf1 := sent_facts hg (by omega) (k + 1) (by omega)
        refine sent_spec (X6.keeps F9.keep) ((topRead_of T6).keeps F9.keep) rfl (by k_room) (by show (sentN k (lineL ws)).toArray.size ≤ 1000; rw [List.size_toArray]; exact hf0.1) (by simpa using hf0.2.1) fun y t10 h10 tk10 k10 hy => ?_
        have hy : y = S (sentN (k + 1) (lineL ws)) := hy
        subst hy
        have F10 := Fr.keeps F9 k10
        have N10 := News.grown N9 k10
        clear F9 N9 k10
        repeat ((fail_if_success (with_reducible show wpAny _ _ (call (Value.ref 818) _) _ _ _)); first | (k_unfold; (try dsimp only)) | walk1 | (dsimp only; walk1))
        try (k_unfold; dsimp only)
        rename Fr _ _ _ _ => F11
        rename News _ _ _ ((I, oR) :: _) => N11
        refine read_spec (below_caller _) F11 X6 N11 T6 X6 T6 rfl (by k_room) (by show (sentN (k + 1) (lineL ws)).toArray.size ≤ 1000; rw [List.size_toArray]; exact hf1.1) (by simpa using hf1.2.2 (Nat.succ_pos k)) fun v12 ns12 h12 tk12 hm12 F12 N12 => ?_
        clear F11 N11
        rw [show (S (sentN (k + 1) (lineL ws))).cps.toList = sentN (k + 1) (lineL ws) from List.toList_toArray, read_k hg (by omega) hk] at hm12
        repeat' ((fail_if_success (with_reducible show wpAny _ _ (compareOp _ _ _) _ _ _)); first | (k_unfold; (try dsimp only)) | walk1 | (dsimp only; walk1))
        all_goals (try (k_unfold; dsimp only))
        · rename Int.fmod _ 2 ≠ 0 => h2
          have hk2 : ¬ k % 2 = 0 := by
            rw [Int.fmod_eq_emod_of_nonneg _ (by decide)] at h2; omega
          rw [if_neg hk2] at hm12
          obtain ⟨li, acc, c, rfl, rfl, hs12, hnew12⟩ := hm12
          have zl := (N12 (li, liObj acc c) List.mem_cons_self).1
          have zD := (N12 (D, LCg.lst ys) (by simp)).1
          refine ne_strs (vs := acc.toList) (us := ys) ⟨_, zl, rfl, c, by simp [liObj]⟩ (strs_of hs12) ⟨_, zD, rfl, _, rfl⟩ hys (bounded_low ws) (by units_room) ?_
          k_steps
          all_goals (try dsimp only)
          all_goals (try k_steps)
          rename Fr _ _ _ _ => F13
          rename News _ _ _ _ => N13
          exact law_end F13 N13 (fun p hp => by first | exact List.mem_append_right _ hp | exact List.mem_cons_of_mem _ hp | exact hp) hI hk ⟨_, by with_unfolding_all rfl⟩ (by with_unfolding_all rfl) (by with_unfolding_all rfl)
        · rename Int.fmod _ 2 = 0 => h2
          have hk2 : k % 2 = 0 := by
            rw [Int.fmod_eq_emod_of_nonneg _ (by decide)] at h2; omega
          rw [if_pos hk2] at hm12
          rcases hturn with ⟨hq, rfl⟩ | ⟨toks, at', ut, ot, hq, rfl, hmt, hlt, hst⟩
          · rw [hq] at hm12
            obtain ⟨rfl, rfl⟩ := hm12
            k_steps
            all_goals (try dsimp only)
            all_goals (try k_steps)
            rename Fr _ _ _ _ => F13
            rename News _ _ _ _ => N13
            exact law_end F13 N13 (fun p hp => by first | exact List.mem_append_right _ hp | exact List.mem_cons_of_mem _ hp | exact hp) hI hk ⟨_, by with_unfolding_all rfl⟩ (by with_unfolding_all rfl) (by with_unfolding_all rfl)
          · rw [hq] at hm12
            obtain ⟨li, acc, c, rfl, rfl, hs12, hnew12⟩ := hm12
            have zl := (N12 (li, liObj acc c) List.mem_cons_self).1
            have zt := (N12 (at', ot) (List.mem_append_right _ (List.mem_cons_of_mem _ (List.mem_append_left _ hmt)))).1
            refine ne_strs (vs := acc.toList) (us := ut) ⟨_, zl, rfl, c, by simp [liObj]⟩ (strs_of hs12) (hlt.isList zt) hst (bounded_turned hq fun w hw => (hg.2 w hw).2) (by units_room) ?_
            k_steps
            all_goals (try dsimp only)
            all_goals (try k_steps)
            rename Fr _ _ _ _ => F13
            rename News _ _ _ _ => N13
            exact law_end F13 N13 (fun p hp => by first | exact List.mem_append_right _ hp | exact List.mem_cons_of_mem _ hp | exact hp) hI hk ⟨_, by with_unfolding_all rfl⟩ (by with_unfolding_all rfl) (by with_unfolding_all rfl)
    )
end
end Mine
theorem PySem.Challenge.cw_il0039_01_holds : PySem.Challenge.rw_il0039_01.Holds := by
  exact Mine.core
