import PyProof.Rows.All
import Wide.All
import OpenK.AllK
import Wide.FinOn
import PySem.Challenge.RW_xc0015_01
/-! The law of the two medians: the plain law first, then the defs by contracts, then the walk of the law. -/
set_option Elab.async false
namespace Mine
/-! ### The plain law -/
def brN (ns : List Int) (x : Int) : Nat := ns.countP (fun n => decide (n ≤ x))
def blN (ns : List Int) (x : Int) : Nat := ns.countP (fun n => decide (n < x))
def Srt (ns : List Int) : Prop := ns.Pairwise (· ≤ ·)

/-- in a sorted list the items that a downward closed test takes stand in front -/
theorem cnt_at (p : Int → Bool) (hp : ∀ a b, a ≤ b → p b = true → p a = true) : ∀ (ns : List Int), Srt ns → ∀ (k : Nat), k < ns.length → (p (ns.getD k 0) = true ↔ k < ns.countP p) := by
  intro ns
  induction ns with
  | nil => intro _ k hk; simp at hk
  | cons a r ih =>
    intro hs k hk
    have hs' := List.pairwise_cons.mp hs
    cases k with
    | zero =>
      simp only [List.getD_cons_zero]
      constructor
      · intro h; rw [List.countP_cons_of_pos h]; omega
      · intro h
        cases hpa : p a with
        | true => rfl
        | false =>
          exfalso
          have hz : r.countP p = 0 := by
            rw [List.countP_eq_zero]
            intro b hb hpb
            have := hp a b (hs'.1 b hb) hpb
            rw [this] at hpa; cases hpa
          rw [List.countP_cons_of_neg (by simp [hpa]), hz] at h
          omega
    | succ k =>
      simp only [List.getD_cons_succ]
      have hk' : k < r.length := by simpa using hk
      rw [ih hs'.2 k hk']
      cases hpa : p a with
      | true => rw [List.countP_cons_of_pos hpa]; omega
      | false =>
        rw [List.countP_cons_of_neg (by simp [hpa])]
        have hz : r.countP p = 0 := by
          rw [List.countP_eq_zero]
          intro b hb hpb
          have := hp a b (hs'.1 b hb) hpb
          rw [this] at hpa; cases hpa
        omega
theorem br_at {ns : List Int} {x : Int} (hs : Srt ns) {k : Nat} (hk : k < ns.length) : (ns.getD k 0 ≤ x ↔ k < brN ns x) := by
  have := cnt_at (fun n => decide (n ≤ x)) (by intro a b hab h; simp only [decide_eq_true_eq] at h ⊢; omega) ns hs k hk
  simpa [brN] using this
theorem bl_at {ns : List Int} {x : Int} (hs : Srt ns) {k : Nat} (hk : k < ns.length) : (ns.getD k 0 < x ↔ k < blN ns x) := by
  have := cnt_at (fun n => decide (n < x)) (by intro a b hab h; simp only [decide_eq_true_eq] at h ⊢; omega) ns hs k hk
  simpa [blN] using this
theorem brN_le (ns : List Int) (x : Int) : brN ns x ≤ ns.length := List.countP_le_length
theorem blN_le (ns : List Int) (x : Int) : blN ns x ≤ ns.length := List.countP_le_length
theorem mid_is (lo hi : Int) (h0 : 0 ≤ lo) (h : lo < hi) : lo ≤ (lo + hi).fdiv 2 ∧ (lo + hi).fdiv 2 < hi := by
  rw [Int.fdiv_eq_ediv_of_nonneg _ (by decide)]; omega
theorem mid_m1 {lo hi : Int} (h0 : 0 ≤ lo) (h : lo < hi) : ((lo + hi).fdiv 2 - lo).toNat < (hi - lo).toNat := by
  have := mid_is lo hi h0 h; omega
theorem mid_m2 {lo hi : Int} (h0 : 0 ≤ lo) (h : lo < hi) : (hi - ((lo + hi).fdiv 2 + 1)).toNat < (hi - lo).toNat := by
  have := mid_is lo hi h0 h; omega
theorem br_start (ns : List Int) (x : Int) : (0 : Int) ≤ 0 ∧ (0 : Int) ≤ (brN ns x : Int) ∧ (brN ns x : Int) ≤ (ns.length : Int) ∧ (ns.length : Int) ≤ (ns.length : Int) := by
  have := brN_le ns x; omega
theorem br_up {ns : List Int} {x lo hi : Int} (hs : Srt ns) (h0 : 0 ≤ lo) (h1 : lo ≤ (brN ns x : Int)) (h3 : hi ≤ (ns.length : Int)) (h4 : lo < hi) (h5 : x < ns.getD ((lo + hi).fdiv 2).toNat 0) :
    0 ≤ lo ∧ lo ≤ (brN ns x : Int) ∧ (brN ns x : Int) ≤ (lo + hi).fdiv 2 ∧ (lo + hi).fdiv 2 ≤ (ns.length : Int) := by
  have hm := mid_is lo hi h0 h4
  have := (br_at (x := x) hs (k := ((lo + hi).fdiv 2).toNat) (by omega))
  omega
theorem br_down {ns : List Int} {x lo hi : Int} (hs : Srt ns) (h0 : 0 ≤ lo) (h2 : (brN ns x : Int) ≤ hi) (h3 : hi ≤ (ns.length : Int)) (h4 : lo < hi) (h5 : ¬ x < ns.getD ((lo + hi).fdiv 2).toNat 0) :
    0 ≤ (lo + hi).fdiv 2 + 1 ∧ (lo + hi).fdiv 2 + 1 ≤ (brN ns x : Int) ∧ (brN ns x : Int) ≤ hi ∧ hi ≤ (ns.length : Int) := by
  have hm := mid_is lo hi h0 h4
  have := (br_at (x := x) hs (k := ((lo + hi).fdiv 2).toNat) (by omega))
  omega
theorem bl_start (ns : List Int) (x : Int) : (0 : Int) ≤ 0 ∧ (0 : Int) ≤ (blN ns x : Int) ∧ (blN ns x : Int) ≤ (ns.length : Int) ∧ (ns.length : Int) ≤ (ns.length : Int) := by
  have := blN_le ns x; omega
theorem bl_up {ns : List Int} {x lo hi : Int} (hs : Srt ns) (h0 : 0 ≤ lo) (h1 : lo ≤ (blN ns x : Int)) (h3 : hi ≤ (ns.length : Int)) (h4 : lo < hi) (h5 : ¬ ns.getD ((lo + hi).fdiv 2).toNat 0 < x) :
    0 ≤ lo ∧ lo ≤ (blN ns x : Int) ∧ (blN ns x : Int) ≤ (lo + hi).fdiv 2 ∧ (lo + hi).fdiv 2 ≤ (ns.length : Int) := by
  have hm := mid_is lo hi h0 h4
  have := (bl_at (x := x) hs (k := ((lo + hi).fdiv 2).toNat) (by omega))
  omega
theorem bl_down {ns : List Int} {x lo hi : Int} (hs : Srt ns) (h0 : 0 ≤ lo) (h2 : (blN ns x : Int) ≤ hi) (h3 : hi ≤ (ns.length : Int)) (h4 : lo < hi) (h5 : ns.getD ((lo + hi).fdiv 2).toNat 0 < x) :
    0 ≤ (lo + hi).fdiv 2 + 1 ∧ (lo + hi).fdiv 2 + 1 ≤ (blN ns x : Int) ∧ (blN ns x : Int) ≤ hi ∧ hi ≤ (ns.length : Int) := by
  have hm := mid_is lo hi h0 h4
  have := (bl_at (x := x) hs (k := ((lo + hi).fdiv 2).toNat) (by omega))
  omega

def insN (ns : List Int) (x : Int) : List Int := ns.take (brN ns x) ++ x :: ns.drop (brN ns x)
theorem insN_length (ns : List Int) (x : Int) : (insN ns x).length = ns.length + 1 := by
  have := brN_le ns x
  unfold insN
  rw [List.length_append, List.length_cons, List.length_take, List.length_drop]
  omega
theorem insN_perm (ns : List Int) (x : Int) : (insN ns x).Perm (x :: ns) := by
  unfold insN
  refine List.perm_middle.trans (List.Perm.cons _ ?_)
  rw [List.take_append_drop]
/-- all before the place are at most x, all from it on above -/
theorem take_le {ns : List Int} {x : Int} (hs : Srt ns) : ∀ a ∈ ns.take (brN ns x), a ≤ x := by
  intro a ha
  obtain ⟨i, hi, rfl⟩ := List.mem_iff_getElem.mp ha
  rw [List.length_take] at hi
  have hl : i < ns.length := by omega
  have := (br_at (x := x) hs hl).mpr (by omega)
  rw [List.getElem_take]
  rwa [List.getD_eq_getElem?_getD, List.getElem?_eq_getElem hl] at this
theorem drop_gt {ns : List Int} {x : Int} (hs : Srt ns) : ∀ a ∈ ns.drop (brN ns x), x < a := by
  intro a ha
  obtain ⟨i, hi, rfl⟩ := List.mem_iff_getElem.mp ha
  rw [List.length_drop] at hi
  have hl : brN ns x + i < ns.length := by omega
  have := (br_at (x := x) hs hl)
  rw [List.getElem_drop]
  rw [List.getD_eq_getElem?_getD, List.getElem?_eq_getElem hl] at this
  simp only [Option.getD_some] at this
  omega
theorem insN_srt {ns : List Int} (hs : Srt ns) (x : Int) : Srt (insN ns x) := by
  unfold Srt insN
  rw [List.pairwise_append, List.pairwise_cons]
  refine ⟨hs.sublist (List.take_sublist _ _), ⟨fun a ha => Int.le_of_lt (drop_gt hs a ha), hs.sublist (List.drop_sublist _ _)⟩, ?_⟩
  intro a ha b hb
  have h1 := take_le hs a ha
  rcases List.mem_cons.mp hb with rfl | hb
  · exact h1
  · have h2 := drop_gt hs b hb
    omega

theorem med_low1 {ms : List Int} (h : (ms.length : Int).fmod 2 = 1) : ms.getD ((ms.length : Int).fdiv 2).toNat 0 = ms.getD ((ms.length - 1) / 2) 0 := by
  have e : ((ms.length : Int).fdiv 2).toNat = (ms.length - 1) / 2 := by
    rw [Int.fdiv_eq_ediv_of_nonneg _ (by decide)]
    rw [Int.fmod_eq_emod_of_nonneg _ (by decide)] at h
    omega
  rw [e]
theorem med_low2 {ms : List Int} (h0 : 0 < ms.length) (h : (ms.length : Int).fmod 2 ≠ 1) : ms.getD ((ms.length : Int).fdiv 2 - 1).toNat 0 = ms.getD ((ms.length - 1) / 2) 0 := by
  have e : ((ms.length : Int).fdiv 2 - 1).toNat = (ms.length - 1) / 2 := by
    rw [Int.fdiv_eq_ediv_of_nonneg _ (by decide)]
    rw [Int.fmod_eq_emod_of_nonneg _ (by decide)] at h
    omega
  rw [e]
theorem med_high (ms : List Int) : ms.getD ((ms.length : Int).fdiv 2).toNat 0 = ms.getD (ms.length / 2) 0 := by
  have e : ((ms.length : Int).fdiv 2).toNat = ms.length / 2 := by
    rw [Int.fdiv_eq_ediv_of_nonneg _ (by decide)]
    omega
  rw [e]

/-- the ways to all places added up -/
def waysN (ns : List Int) (p : Int) : Int := (ns.map fun k => if k - p < 0 then -(k - p) else k - p).sum
theorem ways_step (ns : List Int) (p : Int) : waysN ns (p + 1) = waysN ns p + 2 * (brN ns p : Int) - (ns.length : Int) := by
  induction ns with
  | nil => simp [waysN, brN]
  | cons k r ih =>
    unfold waysN brN at ih ⊢
    rw [List.map_cons, List.sum_cons, List.map_cons, List.sum_cons, ih, List.length_cons, List.countP_cons]
    by_cases h : k ≤ p
    · rw [if_pos (show k - (p + 1) < 0 by omega)]
      by_cases h2 : k - p < 0
      · rw [if_pos h2]; simp only [h, decide_true, if_true]; omega
      · rw [if_neg h2]; simp only [h, decide_true, if_true]; omega
    · rw [if_neg (show ¬ k - (p + 1) < 0 by omega), if_neg (show ¬ k - p < 0 by omega)]
      simp only [h, decide_false, Bool.false_eq_true, if_false]; omega
theorem bl_br (ns : List Int) (p : Int) : blN ns (p + 1) = brN ns p := by
  unfold blN brN
  congr 1
  funext k
  simp only [decide_eq_decide]
  omega
/-- what is known of the two middle places -/
structure Mid (ns : List Int) (lo hi : Int) : Prop where
  pos : 0 < ns.length
  srt : Srt ns
  isLo : lo = ns.getD ((ns.length - 1) / 2) 0
  isHi : hi = ns.getD (ns.length / 2) 0
section
variable {ns : List Int} {lo hi : Int} (M : Mid ns lo hi)
include M
theorem Mid.ge_hi {p : Int} (h : hi ≤ p) : ns.length / 2 < brN ns p := by
  have := M.pos
  have h1 := (br_at (x := p) M.srt (k := ns.length / 2) (by omega))
  have h2 := M.isHi
  omega
theorem Mid.lt_hi {p : Int} (h : p < hi) : brN ns p ≤ ns.length / 2 := by
  have := M.pos
  have h1 := (br_at (x := p) M.srt (k := ns.length / 2) (by omega))
  have h2 := M.isHi
  omega
theorem Mid.ge_lo {p : Int} (h : lo ≤ p) : (ns.length - 1) / 2 < brN ns p := by
  have := M.pos
  have h1 := (br_at (x := p) M.srt (k := (ns.length - 1) / 2) (by omega))
  have h2 := M.isLo
  omega
theorem Mid.lt_lo {p : Int} (h : p < lo) : brN ns p ≤ (ns.length - 1) / 2 := by
  have := M.pos
  have h1 := (br_at (x := p) M.srt (k := (ns.length - 1) / 2) (by omega))
  have h2 := M.isLo
  omega
theorem Mid.le : lo ≤ hi := by
  by_cases h : lo ≤ hi
  · exact h
  · have h1 := M.ge_hi (p := hi) (Int.le_refl _)
    have h2 := M.lt_lo (p := hi) (by omega)
    omega
theorem Mid.flat : ∀ (d : Nat), lo + (d : Int) ≤ hi → waysN ns (lo + (d : Int)) = waysN ns lo
  | 0, _ => by simp
  | d + 1, h => by
    have ih := Mid.flat d (by omega)
    have h1 := ways_step ns (lo + (d : Int))
    have h2 := M.ge_lo (p := lo + (d : Int)) (by omega)
    have h3 := M.lt_hi (p := lo + (d : Int)) (by omega)
    have e : lo + ((d + 1 : Nat) : Int) = lo + (d : Int) + 1 := by omega
    rw [e, h1, ih]
    omega
theorem Mid.between {p : Int} (h1 : lo ≤ p) (h2 : p ≤ hi) : waysN ns p = waysN ns lo := by
  have h := M.flat (p - lo).toNat (by omega)
  have e : lo + ((p - lo).toNat : Int) = p := by omega
  rwa [e] at h
theorem Mid.above : ∀ (d : Nat), waysN ns lo < waysN ns (hi + (d : Int) + 1)
  | 0 => by
    have h1 := ways_step ns (hi + ((0 : Nat) : Int))
    have h2 := M.ge_hi (p := hi + ((0 : Nat) : Int)) (by omega)
    have h3 := M.between (p := hi + ((0 : Nat) : Int)) (by have := M.le; omega) (by omega)
    rw [h1, h3]; omega
  | d + 1 => by
    have ih := Mid.above d
    have h1 := ways_step ns (hi + ((d + 1 : Nat) : Int))
    have h2 := M.ge_hi (p := hi + ((d + 1 : Nat) : Int)) (by omega)
    have e : hi + ((d + 1 : Nat) : Int) = hi + (d : Int) + 1 := by omega
    rw [h1]
    rw [e] at h2 ⊢
    omega
theorem Mid.under : ∀ (d : Nat), waysN ns lo < waysN ns (lo - (d : Int) - 1)
  | 0 => by
    have h1 := ways_step ns (lo - ((0 : Nat) : Int) - 1)
    have h2 := M.lt_lo (p := lo - ((0 : Nat) : Int) - 1) (by omega)
    have e : lo - ((0 : Nat) : Int) - 1 + 1 = lo := by omega
    have := M.pos
    rw [e] at h1
    omega
  | d + 1 => by
    have ih := Mid.under d
    have h1 := ways_step ns (lo - ((d + 1 : Nat) : Int) - 1)
    have h2 := M.lt_lo (p := lo - ((d + 1 : Nat) : Int) - 1) (by omega)
    have e : lo - ((d + 1 : Nat) : Int) - 1 + 1 = lo - (d : Int) - 1 := by omega
    have := M.pos
    rw [e] at h1
    omega
theorem Mid.more (k : Int) : waysN ns lo < waysN ns k ↔ k < lo ∨ hi < k := by
  have hle := M.le
  constructor
  · intro h
    by_cases h1 : k < lo
    · exact .inl h1
    by_cases h2 : hi < k
    · exact .inr h2
    have := M.between (p := k) (by omega) (by omega)
    omega
  · rintro (h | h)
    · have h1 := M.under (lo - k - 1).toNat
      have e : lo - ((lo - k - 1).toNat : Int) - 1 = k := by omega
      rwa [e] at h1
    · have h1 := M.above (k - hi - 1).toNat
      have e : hi + ((k - hi - 1).toNat : Int) + 1 = k := by omega
      rwa [e] at h1
theorem Mid.f1 : waysN ns hi = waysN ns lo := M.between M.le (Int.le_refl _)
theorem Mid.f2 : waysN ns ((lo + hi).fdiv 2) = waysN ns lo := by
  have := M.le
  rw [Int.fdiv_eq_ediv_of_nonneg _ (by decide)]
  exact M.between (by omega) (by omega)
theorem Mid.f3 : waysN ns (hi + 1) - waysN ns lo = 2 * (brN ns hi : Int) - (ns.length : Int) := by
  have h1 := ways_step ns hi
  have h2 := M.f1
  omega
theorem Mid.f4 : waysN ns (lo - 1) - waysN ns lo = (ns.length : Int) - 2 * (blN ns lo : Int) := by
  have h1 := ways_step ns (lo - 1)
  have h2 := bl_br ns (lo - 1)
  have e : lo - 1 + 1 = lo := by omega
  rw [e] at h1 h2
  omega
theorem Mid.f6 : (blN ns lo : Int) ≤ (ns.length : Int).fdiv 2 ∧ (ns.length : Int).fdiv 2 ≤ (brN ns hi : Int) := by
  rw [Int.fdiv_eq_ediv_of_nonneg _ (by decide)]
  have h2 := bl_br ns (lo - 1)
  have e : lo - 1 + 1 = lo := by omega
  rw [e] at h2
  have h3 := M.lt_lo (p := lo - 1) (by omega)
  have h4 := M.ge_hi (p := hi) (Int.le_refl _)
  omega
omit M in
theorem Mid.f7 (_ : Mid ns lo hi) : brN ns hi ≤ ns.length ∧ blN ns lo ≤ ns.length := ⟨brN_le _ _, blN_le _ _⟩
end
end Mine
open PySem PySem.W PyProof.Rows
namespace Mine
/-! ### The head -/
set_option maxRecDepth 100000 in
set_option maxHeartbeats 8000000 in
open_top hd for PySem.Challenge.rw_xc0015_01
/-! ### bisect_right, bisect_left -/
section SXC1
abbrev Claim (k : Nat) (w : World) (mean : ExcName → Option Value) (mg mb : Str → Option Value) (f : Addr) (news news' : List (Addr × Obj)) (vs : List Value) (R : Tok → Value) : Prop :=
  ∀ (dp un : Nat) (gd : Option (List PySem.Code)) (cn : Str) (cs : Scope) (a : Addr) (ccd : Value) (cl : List (Str × Addr)) (outer : List Env) (A₀ : Around) (base h₀ : Heap) (L : Addr) (m : Str → Option Value) (s : Shared) (Q E : Value → Shared → Prop),
    Below A₀ base outer h₀ → Fr h₀ L s.heap m → (hd.heap_39 w.params).In h₀ → News h₀ L s.heap news →
    Top hd.view_39 (looseW hd.view_39 [Str.ofString "insort_right", Str.ofString "bisect_right", Str.ofString "bisect_left"]) mean mg mb h₀ → cs.kind = .function →
    dp + k < recursionLimit → un + 8 * k < cLine →
    (∀ (t : Tok) (h' : Heap) (tk' : Nat), Fr h₀ L h' m → News h₀ L h' news' → Q (R t) { s with heap := h', toks := tk' }) →
    wpAny (model Challenge.rw_xc0015_01.row.prog w) (ktrTop dp un gd cn cs L a ccd cl outer) (call (.ref f) vs) Q E s

/-- the way in, whoever calls -/
local macro_rules | `(tactic| k_enter) => `(tactic| ((fail_if_success k_inElt); refine' code_def ?k1 ?k2 ?k3 ?k4 ?k5 ?kA ?kF ?kK ?k6 ?k7 ?k8 ?k9 ?kB ?_ ?c2 ?c3 ?c4 ?c5; (case kA => exact rfl); (case kF => exact rfl); (case kK => first | assumption | exact rfl); (case k1 => k_asm); (case k2 => k_asm); (case k3 => k_asm); (case k4 => k_asm); (case k5 => k_asm); (case k6 => k_is); (case k7 => k_is); (case k8 => ktr_room); (case k9 => first | exact BindsTo.of_eq rfl | exact binds_K (by k_in) rfl (by k_is) rfl rfl rfl | (refine' kp_binds ?kx ?ke; (case kx => k_in); (case ke => exact fun _ => rfl))); (case c5 => decide); (case kB => exact locs rfl); (case c2 => exact rfl); (case c3 => exact rfl); (case c4 => exact rfl); k_whole; intro g' L' h' FG' F' N' B' X' T'; (try dsimp only); (try k_lift B'); (try k_fold)))

section
variable (w : World) (mean : ExcName → Option Value) (mg mb : Str → Option Value) (l : Addr) (vs : List Value) (ns : List Int) (nn : Nat) (rest : List (Addr × Obj)) (x : Int) (tx t0 : Tok)
   (hi : IntsAre vs ns) (hlen : ns.length ≤ 62) (hsrt : Srt ns)
include hi hlen hsrt
set_option maxRecDepth 100000 in
set_option maxHeartbeats 8000000 in
theorem br4 : Claim 1 w mean mg mb 59 ((l, listOf vs.toArray nn) :: rest) ((l, listOf vs.toArray nn) :: rest) [.ref l, .int x tx, .int 0 t0, .none] (fun t => .int (brN ns x : Int) t) := by
  k_with_none
  k_with "exec While Compare cons nil" => k_while_given ["a", "x"] (fun a x _ lo hi => 0 ≤ lo ∧ lo ≤ (brN a x : Int) ∧ (brN a x : Int) ≤ hi ∧ hi ≤ (a.length:Int)) (fun _ _ _ lo hi => (hi - lo).toNat) "lo" "hi"
  k_with "state" => first | exact br_start _ _ | exact br_up (by assumption) (by assumption) (by assumption) (by assumption) (by assumption) (by assumption) | exact br_down (by assumption) (by assumption) (by assumption) (by assumption) (by assumption) (by assumption)
  k_with "measure" => first | exact mid_m1 (by assumption) (by assumption) | exact mid_m2 (by assumption) (by assumption)
  unfold Claim
  k_fill
  intro dp un gd cn cs a ccd cl outer A₀ base h₀ L m s Q E hB hF hX hN hT hk hdp hun hret
  refine wpAny_call ?_
  k_dflt k_enter
  k_steps
  all_goals exact cb_retI (Q := Q) (fun t h' tk' f n => hret t h' tk' f n) (by omega) (by assumption) (by assumption)
set_option maxRecDepth 100000 in
set_option maxHeartbeats 8000000 in
theorem br2 : Claim 1 w mean mg mb 59 ((l, listOf vs.toArray nn) :: rest) ((l, listOf vs.toArray nn) :: rest) [.ref l, .int x tx] (fun t => .int (brN ns x : Int) t) := by
  k_with_none
  k_with "exec While Compare cons nil" => k_while_given ["a", "x"] (fun a x _ lo hi => 0 ≤ lo ∧ lo ≤ (brN a x : Int) ∧ (brN a x : Int) ≤ hi ∧ hi ≤ (a.length:Int)) (fun _ _ _ lo hi => (hi - lo).toNat) "lo" "hi"
  k_with "state" => first | exact br_start _ _ | exact br_up (by assumption) (by assumption) (by assumption) (by assumption) (by assumption) (by assumption) | exact br_down (by assumption) (by assumption) (by assumption) (by assumption) (by assumption) (by assumption)
  k_with "measure" => first | exact mid_m1 (by assumption) (by assumption) | exact mid_m2 (by assumption) (by assumption)
  unfold Claim
  k_fill
  intro dp un gd cn cs a ccd cl outer A₀ base h₀ L m s Q E hB hF hX hN hT hk hdp hun hret
  refine wpAny_call ?_
  k_dflt k_enter
  k_steps
  all_goals exact cb_retI (Q := Q) (fun t h' tk' f n => hret t h' tk' f n) (by omega) (by assumption) (by assumption)
set_option maxRecDepth 100000 in
set_option maxHeartbeats 8000000 in
theorem bl2 : Claim 1 w mean mg mb 68 ((l, listOf vs.toArray nn) :: rest) ((l, listOf vs.toArray nn) :: rest) [.ref l, .int x tx] (fun t => .int (blN ns x : Int) t) := by
  k_with_none
  k_with "exec While Compare cons nil" => k_while_given ["a", "x"] (fun a x _ lo hi => 0 ≤ lo ∧ lo ≤ (blN a x : Int) ∧ (blN a x : Int) ≤ hi ∧ hi ≤ (a.length:Int)) (fun _ _ _ lo hi => (hi - lo).toNat) "lo" "hi"
  k_with "state" => first | exact bl_start _ _ | exact bl_up (by assumption) (by assumption) (by assumption) (by assumption) (by assumption) (by assumption) | exact bl_down (by assumption) (by assumption) (by assumption) (by assumption) (by assumption) (by assumption)
  k_with "measure" => first | exact mid_m1 (by assumption) (by assumption) | exact mid_m2 (by assumption) (by assumption)
  unfold Claim
  k_fill
  intro dp un gd cn cs a ccd cl outer A₀ base h₀ L m s Q E hB hF hX hN hT hk hdp hun hret
  refine wpAny_call ?_
  k_dflt k_enter
  k_steps
  all_goals exact cb_retI (Q := Q) (fun t h' tk' f n => hret t h' tk' f n) (by omega) (by assumption) (by assumption)
end
section
variable {w : World} {mean : ExcName → Option Value} {mg mb : Str → Option Value} {l : Addr} {vs : List Value} {ns : List Int} {nn : Nat} {news : List (Addr × Obj)} {x : Int} {tx t0 : Tok}
  {dp un : Nat} {gd : Option (List PySem.Code)} {cn : Str} {cs : Scope} {a : Addr} {ccd : Value} {cl : List (Str × Addr)} {outer : List Env} {A₀ : Around} {base h₀ : Heap} {L : Addr} {m : Str → Option Value} {s : Shared} {Q E : Value → Shared → Prop}
theorem news_more {p : Addr × Obj} {h : Heap} (N : News h₀ L h news) (hm : p ∈ news) : News h₀ L h (p :: news) := fun q hq => by
  rcases List.mem_cons.mp hq with rfl | hq
  · exact N _ hm
  · exact N _ hq
theorem news_less {p : Addr × Obj} {h : Heap} (N : News h₀ L h (p :: news)) : News h₀ L h news := fun q hq => N _ (.tail _ hq)
theorem br4_use (B : Below A₀ base outer h₀) (F : Fr h₀ L s.heap m) (X : (hd.heap_39 w.params).In h₀) (N : News h₀ L s.heap news)
    (T : Top hd.view_39 (looseW hd.view_39 [Str.ofString "insort_right", Str.ofString "bisect_right", Str.ofString "bisect_left"]) mean mg mb h₀) (hk : cs.kind = .function)
    (hm : (l, listOf vs.toArray nn) ∈ news) (hi : IntsAre vs ns) (hlen : ns.length ≤ 62) (hsrt : Srt ns) (hd : dp + 1 < recursionLimit) (hu : un + 8 * 1 < cLine)
    (ret : ∀ (t : Tok) (h' : Heap) (tk' : Nat), Fr h₀ L h' m → News h₀ L h' news → Q (.int (brN ns x : Int) t) { s with heap := h', toks := tk' }) :
    wpAny (model Challenge.rw_xc0015_01.row.prog w) (ktrTop dp un gd cn cs L a ccd cl outer) (call (.ref 59) [.ref l, .int x tx, .int 0 t0, .none]) Q E s :=
  br4 w mean mg mb l vs ns nn news x tx t0 hi hlen hsrt dp un gd cn cs a ccd cl outer A₀ base h₀ L m s Q E B F X (news_more N hm) T hk hd hu (fun t h' tk' F' N' => ret t h' tk' F' (news_less N'))
theorem br2_use (B : Below A₀ base outer h₀) (F : Fr h₀ L s.heap m) (X : (hd.heap_39 w.params).In h₀) (N : News h₀ L s.heap news)
    (T : Top hd.view_39 (looseW hd.view_39 [Str.ofString "insort_right", Str.ofString "bisect_right", Str.ofString "bisect_left"]) mean mg mb h₀) (hk : cs.kind = .function)
    (hm : (l, listOf vs.toArray nn) ∈ news) (hi : IntsAre vs ns) (hlen : ns.length ≤ 62) (hsrt : Srt ns) (hd : dp + 1 < recursionLimit) (hu : un + 8 * 1 < cLine)
    (ret : ∀ (t : Tok) (h' : Heap) (tk' : Nat), Fr h₀ L h' m → News h₀ L h' news → Q (.int (brN ns x : Int) t) { s with heap := h', toks := tk' }) :
    wpAny (model Challenge.rw_xc0015_01.row.prog w) (ktrTop dp un gd cn cs L a ccd cl outer) (call (.ref 59) [.ref l, .int x tx]) Q E s :=
  br2 w mean mg mb l vs ns nn news x tx hi hlen hsrt dp un gd cn cs a ccd cl outer A₀ base h₀ L m s Q E B F X (news_more N hm) T hk hd hu (fun t h' tk' F' N' => ret t h' tk' F' (news_less N'))
theorem bl2_use (B : Below A₀ base outer h₀) (F : Fr h₀ L s.heap m) (X : (hd.heap_39 w.params).In h₀) (N : News h₀ L s.heap news)
    (T : Top hd.view_39 (looseW hd.view_39 [Str.ofString "insort_right", Str.ofString "bisect_right", Str.ofString "bisect_left"]) mean mg mb h₀) (hk : cs.kind = .function)
    (hm : (l, listOf vs.toArray nn) ∈ news) (hi : IntsAre vs ns) (hlen : ns.length ≤ 62) (hsrt : Srt ns) (hd : dp + 1 < recursionLimit) (hu : un + 8 * 1 < cLine)
    (ret : ∀ (t : Tok) (h' : Heap) (tk' : Nat), Fr h₀ L h' m → News h₀ L h' news → Q (.int (blN ns x : Int) t) { s with heap := h', toks := tk' }) :
    wpAny (model Challenge.rw_xc0015_01.row.prog w) (ktrTop dp un gd cn cs L a ccd cl outer) (call (.ref 68) [.ref l, .int x tx]) Q E s :=
  bl2 w mean mg mb l vs ns nn news x tx hi hlen hsrt dp un gd cn cs a ccd cl outer A₀ base h₀ L m s Q E B F X (news_more N hm) T hk hd hu (fun t h' tk' F' N' => ret t h' tk' F' (news_less N'))
end
end SXC1
/-! ### insort_right -/
section SXC2
theorem ints_ins {vs : List Value} {ns : List Int} (hi : IntsAre vs ns) (x : Int) (t : Tok) : IntsAre (kl_ins vs (brN ns x : Int) (.int x t)) (insN ns x) := by
  have h := brN_le ns x
  have e : (if ((brN ns x : Nat) : Int) < 0 then (((brN ns x : Nat) : Int) + (vs.length : Int)).toNat else min ((brN ns x : Nat) : Int).toNat vs.length) = brN ns x := by
    rw [hi.length, if_neg (by omega), Int.toNat_natCast]
    omega
  unfold kl_ins insN
  rw [e]
  exact IntsAre.append (hi.take _) (.cons x t (hi.drop _))
theorem fits_br {ns : List Int} {x : Int} (hl : ns.length ≤ 62) : Builtin.List.listFitsIndex (brN ns x : Int) = true := by
  have h := brN_le ns x
  unfold Builtin.List.listFitsIndex
  simp only [Bool.and_eq_true, decide_eq_true_eq]
  omega

local macro_rules | `(tactic| k_enter) => `(tactic| ((fail_if_success k_inElt); refine' code_def ?k1 ?k2 ?k3 ?k4 ?k5 ?kA ?kF ?kK ?k6 ?k7 ?k8 ?k9 ?kB ?_ ?c2 ?c3 ?c4 ?c5; (case kA => exact rfl); (case kF => exact rfl); (case kK => first | assumption | exact rfl); (case k1 => k_asm); (case k2 => k_asm); (case k3 => k_asm); (case k4 => k_asm); (case k5 => k_asm); (case k6 => k_is); (case k7 => k_is); (case k8 => ktr_room); (case k9 => first | exact BindsTo.of_eq rfl | exact binds_K (by k_in) rfl (by k_is) rfl rfl rfl | (refine' kp_binds ?kx ?ke; (case kx => k_in); (case ke => exact fun _ => rfl))); (case c5 => decide); (case kB => exact locs rfl); (case c2 => exact rfl); (case c3 => exact rfl); (case c4 => exact rfl); k_whole; intro g' L' h' FG' F' N' B' X' T'; (try dsimp only); (try k_lift B'); (try k_fold)))
local macro_rules | `(tactic| walk_at "call ref") => `(tactic| (k_here; (with_reducible show wpAny _ _ (call (Value.ref _) [Value.ref _, Value.int _ _, Value.int 0 _, Value.none]) _ _ _); k_dflt (refine' br4_use ?k1 ?k2 ?k3 ?k4 ?k5 ?kK ?km ?ki ?kl ?ks ?kd ?ku ?_; (case k1 => k_asm); (case k2 => k_asm); (case k3 => k_asm); (case k4 => k_asm); (case k5 => k_asm); (case kK => first | exact rfl | assumption); (case km => k_mem); (case ki => assumption); (case kl => omega); (case ks => assumption); (case kd => ktr_room); (case ku => ktr_units); (intro t9 h9 tk9 F9 N9; (try dsimp only); (try k_fold)))))
local macro_rules | `(tactic| walk_at "call builtin:list.insert") => `(tactic| (k_here; (show wpAny _ _ (call (Value.builtin "list.insert") [Value.ref _, Value.int _ _, _]) _ _ _); k_dflt (refine' kl_insert ?F ?N ?f ?e ?U ?z ?_; (case F => k_asm); (case N => k_asm); (case e => rfl); (case U => exact Upd.head (by assumption)); (case f => exact fits_br (by assumption)); (case z => (rw [Array.length_toList, List.size_toArray, PySem.sizeLine_eq]; have h9 := IntsAre.length (by assumption); omega))); intro h9 F9 N9; (try dsimp only)))
section
variable (w : World) (mean : ExcName → Option Value) (mg mb : Str → Option Value) (l : Addr) (vs : List Value) (ns : List Int) (nn : Nat) (rest : List (Addr × Obj)) (x : Int) (tx t0 : Tok)
   (hi : IntsAre vs ns) (hlen : ns.length ≤ 62) (hsrt : Srt ns) (hoff : ∀ p ∈ rest, p.1 ≠ l)
include hi hlen hsrt hoff
set_option maxRecDepth 100000 in
set_option maxHeartbeats 8000000 in
theorem ins2 : ∀ (dp un : Nat) (gd : Option (List PySem.Code)) (cn : Str) (cs : Scope) (a : Addr) (ccd : Value) (cl : List (Str × Addr)) (outer : List Env) (A₀ : Around) (base h₀ : Heap) (L : Addr) (m : Str → Option Value) (s : Shared) (Q E : Value → Shared → Prop),
    Below A₀ base outer h₀ → Fr h₀ L s.heap m → (hd.heap_39 w.params).In h₀ → News h₀ L s.heap ((l, listOf vs.toArray nn) :: rest) →
    Top hd.view_39 (looseW hd.view_39 [Str.ofString "insort_right", Str.ofString "bisect_right", Str.ofString "bisect_left"]) mean mg mb h₀ → cs.kind = .function →
    dp + 2 < recursionLimit → un + 8 * 2 < cLine →
    (∀ (vs' : List Value) (h' : Heap) (tk' : Nat), IntsAre vs' (insN ns x) → Fr h₀ L h' m → News h₀ L h' ((l, listOf vs'.toArray (nn + 1)) :: rest) → Q .none { s with heap := h', toks := tk' }) →
    wpAny (model Challenge.rw_xc0015_01.row.prog w) (ktrTop dp un gd cn cs L a ccd cl outer) (call (.ref 50) [.ref l, .int x tx]) Q E s := by
  k_with_none
  k_fill
  intro dp un gd cn cs a ccd cl outer A₀ base h₀ L m s Q E hB hF hX hN hT hk hdp hun hret
  refine wpAny_call ?_
  k_dflt k_enter
  k_steps
  all_goals (refine hret _ _ _ ?_ (by assumption) (by assumption); exact ints_ins hi x tx)
end
end SXC2
/-! ### median_low, median_high -/
section SXC3
section
variable {prog : Program} {w : World} {A : Around} {E : Value → Shared → Prop} {s : Shared} {h₀ : Heap} {L l : Addr} {m : Str → Option Value} {news : List (Addr × Obj)} {vs : List Value} {ns ms : List Int} {nn : Nat} {Q : Value → Shared → Prop}
theorem sorted_is (F : Fr h₀ L s.heap m) (N : News h₀ L s.heap news) (hm : (l, listOf vs.toArray nn) ∈ news) (hi : IntsAre vs ns) (h64 : ns.length ≤ 62) (hms : Srt ms) (hp : ms.Perm ns)
    (h : ∀ D vs' c h', Fr h₀ L h' m → News h₀ L h' ((D, listOf vs'.toArray c) :: news) → (∀ q ∈ news, q.1 < D) → IntsAre vs' ms → ms.length = ns.length → Q (.ref D) { s with heap := h' }) :
    wpAny (model prog w) A (call (.builtin "sorted") [.ref l]) Q E s :=
  kso_sorted F N (kso_isList N hm rfl) hi (by omega) fun D vs' ns' c h' F' N' l1 i' _ p' o' _ => by
    have e := ksm_same (p'.trans hp.symm) o' hms
    subst e
    exact h D vs' c h' F' N' l1 i' p'.length_eq
end
local macro_rules | `(tactic| k_enter) => `(tactic| ((fail_if_success k_inElt); refine' code_def ?k1 ?k2 ?k3 ?k4 ?k5 ?kA ?kF ?kK ?k6 ?k7 ?k8 ?k9 ?kB ?_ ?c2 ?c3 ?c4 ?c5; (case kA => exact rfl); (case kF => exact rfl); (case kK => first | assumption | exact rfl); (case k1 => k_asm); (case k2 => k_asm); (case k3 => k_asm); (case k4 => k_asm); (case k5 => k_asm); (case k6 => k_is); (case k7 => k_is); (case k8 => ktr_room); (case k9 => first | exact BindsTo.of_eq rfl | exact binds_K (by k_in) rfl (by k_is) rfl rfl rfl | (refine' kp_binds ?kx ?ke; (case kx => k_in); (case ke => exact fun _ => rfl))); (case c5 => decide); (case kB => exact locs rfl); (case c2 => exact rfl); (case c3 => exact rfl); (case c4 => exact rfl); k_whole; intro g' L' h' FG' F' N' B' X' T'; (try dsimp only); (try k_lift B'); (try k_fold)))
local macro_rules | `(tactic| walk_at "call builtin:sorted") => `(tactic| (k_here; (with_reducible show wpAny _ _ (call (Value.builtin _) [Value.ref _]) _ _ _); (with_unfolding_all refine' sorted_is ?k1 ?k2 ?k3 ?k4 ?k5 ?k6 ?k7 ?_; (case k1 => k_asm); (case k2 => k_asm); (case k3 => k_mem); (case k4 => l_ints); (case k5 => assumption); (case k6 => assumption); (case k7 => assumption); k_whole); intro D' v' c' h' F' N' l1 i' e'; (try k_lt l1); (try k_sweep)))
section
variable (w : World) (mean : ExcName → Option Value) (mg mb : Str → Option Value) (l : Addr) (vs : List Value) (ns : List Int) (nn : Nat) (rest : List (Addr × Obj)) (x : Int) (tx t0 : Tok)
   (hi : IntsAre vs ns) (hlen : ns.length ≤ 62) (ms : List Int) (hms : Srt ms) (hp : ms.Perm ns) (hne : 0 < ms.length)
include hi hlen hms hp hne
set_option maxRecDepth 100000 in
set_option maxHeartbeats 8000000 in
theorem medl : Claim 1 w mean mg mb 34 ((l, listOf vs.toArray nn) :: rest) ((l, listOf vs.toArray nn) :: rest) [.ref l] (fun t => .int (ms.getD ((ms.length - 1) / 2) 0) t) := by
  k_with_none
  unfold Claim
  k_fill
  intro dp un gd cn cs a ccd cl outer A₀ base h₀ L m s Q E hB hF hX hN hT hk hdp hun hret
  refine wpAny_call ?_
  k_dflt k_enter
  k_steps
  all_goals first | (exfalso; omega) | exact cb_retI (Q := Q) (fun t h' tk' f n => hret t h' tk' f n) (med_low1 (by assumption)) (by assumption) (news_less (by assumption)) | exact cb_retI (Q := Q) (fun t h' tk' f n => hret t h' tk' f n) (med_low2 (by assumption) (by assumption)) (by assumption) (news_less (by assumption))
set_option maxRecDepth 100000 in
set_option maxHeartbeats 8000000 in
theorem medh : Claim 1 w mean mg mb 41 ((l, listOf vs.toArray nn) :: rest) ((l, listOf vs.toArray nn) :: rest) [.ref l] (fun t => .int (ms.getD (ms.length / 2) 0) t) := by
  k_with_none
  unfold Claim
  k_fill
  intro dp un gd cn cs a ccd cl outer A₀ base h₀ L m s Q E hB hF hX hN hT hk hdp hun hret
  refine wpAny_call ?_
  k_dflt k_enter
  k_steps
  all_goals first | (exfalso; omega) | exact cb_retI (Q := Q) (fun t h' tk' f n => hret t h' tk' f n) (med_high _) (by assumption) (news_less (by assumption))
end
end SXC3
/-! ### _law_ways -/
section SXC4
local macro_rules | `(tactic| k_enter) => `(tactic| ((fail_if_success k_inElt); refine' code_defC ?k1 ?k2 ?k3 ?k4 ?k5 ?kA ?kF ?kK ?k6 ?k7 ?k8 ?k9 ?kB ?kD ?_ ?c2 ?c3 ?c4; (case kA => exact rfl); (case kF => exact rfl); (case kK => first | assumption | exact rfl); (case k1 => k_asm); (case k2 => k_asm); (case k3 => k_asm); (case k4 => k_asm); (case k5 => k_asm); (case k6 => k_is); (case k7 => k_is); (case k8 => ktr_room); (case k9 => first | exact BindsTo.of_eq rfl | exact binds_K (by k_in) rfl (by k_is) rfl rfl rfl); (case kB => exact rfl); (case kD => decide +kernel); (case c2 => exact rfl); (case c3 => exact rfl); (case c4 => exact rfl); k_whole; intro g' L' h' tk' cells' FG' F' N' Y' B' X' T' l1; (try k_lt l1); k_cells Y'; (try simp only [List.cons_append, List.nil_append] at N'); (try dsimp only); (try k_lift B'); (try k_fold)))
section
variable (w : World) (mean : ExcName → Option Value) (mg mb : Str → Option Value) (l : Addr) (vs : List Value) (ns : List Int) (nn : Nat) (rest : List (Addr × Obj)) (x : Int) (tx t0 : Tok)
   (hi : IntsAre vs ns) (hlen : ns.length ≤ 62)
include hi hlen
set_option maxRecDepth 100000 in
set_option maxHeartbeats 8000000 in
theorem ways : Claim 1 w mean mg mb 73 ((l, listOf vs.toArray nn) :: rest) ((l, listOf vs.toArray nn) :: rest) [.ref l, .int x tx] (fun t => .int (waysN ns x) t) := by
  k_with_none
  unfold Claim
  k_fill
  intro dp un gd cn cs a ccd cl outer A₀ base h₀ L m s Q E hB hF hX hN hT hk hdp hun hret
  refine wpAny_call ?_
  k_dflt k_enter
  k_steps
  all_goals exact cb_retI (Q := Q) (fun t h' tk' f n => hret t h' tk' f n) (Eq.refl (waysN ns x)) (by assumption) (news_less (news_less (by assumption)))
end
end SXC4
/-! ### the contracts in use; the loop; the comprehension -/
section SXUse
section
variable {w : World} {mean : ExcName → Option Value} {mg mb : Str → Option Value} {l : Addr} {vs : List Value} {ns ms : List Int} {nn : Nat} {news news' : List (Addr × Obj)} {x : Int} {tx t0 : Tok}
  {dp un : Nat} {gd : Option (List PySem.Code)} {cn : Str} {cs : Scope} {a : Addr} {ccd : Value} {cl : List (Str × Addr)} {outer : List Env} {A₀ : Around} {base h₀ : Heap} {L : Addr} {m : Str → Option Value} {s : Shared} {Q E : Value → Shared → Prop}
theorem ways_use (B : Below A₀ base outer h₀) (F : Fr h₀ L s.heap m) (X : (hd.heap_39 w.params).In h₀) (N : News h₀ L s.heap news)
    (T : Top hd.view_39 (looseW hd.view_39 [Str.ofString "insort_right", Str.ofString "bisect_right", Str.ofString "bisect_left"]) mean mg mb h₀) (hk : cs.kind = .function)
    (hm : (l, listOf vs.toArray nn) ∈ news) (hi : IntsAre vs ns) (hlen : ns.length ≤ 62) (hd : dp + 1 < recursionLimit) (hu : un + 8 * 1 < cLine)
    (ret : ∀ (t : Tok) (h' : Heap) (tk' : Nat), Fr h₀ L h' m → News h₀ L h' news → Q (.int (waysN ns x) t) { s with heap := h', toks := tk' }) :
    wpAny (model Challenge.rw_xc0015_01.row.prog w) (ktrTop dp un gd cn cs L a ccd cl outer) (call (.ref 73) [.ref l, .int x tx]) Q E s :=
  ways w mean mg mb l vs ns nn news x tx hi hlen dp un gd cn cs a ccd cl outer A₀ base h₀ L m s Q E B F X (news_more N hm) T hk hd hu (fun t h' tk' F' N' => ret t h' tk' F' (news_less N'))
theorem medl_use (B : Below A₀ base outer h₀) (F : Fr h₀ L s.heap m) (X : (hd.heap_39 w.params).In h₀) (N : News h₀ L s.heap news)
    (T : Top hd.view_39 (looseW hd.view_39 [Str.ofString "insort_right", Str.ofString "bisect_right", Str.ofString "bisect_left"]) mean mg mb h₀) (hk : cs.kind = .function)
    (hm : (l, listOf vs.toArray nn) ∈ news) (hi : IntsAre vs ns) (hlen : ns.length ≤ 62) (hms : Srt ms) (hp : ms.Perm ns) (hne : 0 < ms.length) (hd : dp + 1 < recursionLimit) (hu : un + 8 * 1 < cLine)
    (ret : ∀ (v : Int) (t : Tok) (h' : Heap) (tk' : Nat), v = ms.getD ((ms.length - 1) / 2) 0 → Fr h₀ L h' m → News h₀ L h' news → Q (.int v t) { s with heap := h', toks := tk' }) :
    wpAny (model Challenge.rw_xc0015_01.row.prog w) (ktrTop dp un gd cn cs L a ccd cl outer) (call (.ref 34) [.ref l]) Q E s :=
  medl w mean mg mb l vs ns nn news hi hlen ms hms hp hne dp un gd cn cs a ccd cl outer A₀ base h₀ L m s Q E B F X (news_more N hm) T hk hd hu (fun t h' tk' F' N' => ret _ t h' tk' rfl F' (news_less N'))
theorem medh_use (B : Below A₀ base outer h₀) (F : Fr h₀ L s.heap m) (X : (hd.heap_39 w.params).In h₀) (N : News h₀ L s.heap news)
    (T : Top hd.view_39 (looseW hd.view_39 [Str.ofString "insort_right", Str.ofString "bisect_right", Str.ofString "bisect_left"]) mean mg mb h₀) (hk : cs.kind = .function)
    (hm : (l, listOf vs.toArray nn) ∈ news) (hi : IntsAre vs ns) (hlen : ns.length ≤ 62) (hms : Srt ms) (hp : ms.Perm ns) (hne : 0 < ms.length) (hd : dp + 1 < recursionLimit) (hu : un + 8 * 1 < cLine)
    (ret : ∀ (v : Int) (t : Tok) (h' : Heap) (tk' : Nat), v = ms.getD (ms.length / 2) 0 → Fr h₀ L h' m → News h₀ L h' news → Q (.int v t) { s with heap := h', toks := tk' }) :
    wpAny (model Challenge.rw_xc0015_01.row.prog w) (ktrTop dp un gd cn cs L a ccd cl outer) (call (.ref 41) [.ref l]) Q E s :=
  medh w mean mg mb l vs ns nn news hi hlen ms hms hp hne dp un gd cn cs a ccd cl outer A₀ base h₀ L m s Q E B F X (news_more N hm) T hk hd hu (fun t h' tk' F' N' => ret _ t h' tk' rfl F' (news_less N'))
theorem ins_use (B : Below A₀ base outer h₀) (F : Fr h₀ L s.heap m) (X : (hd.heap_39 w.params).In h₀) (N : News h₀ L s.heap ((l, listOf vs.toArray nn) :: news))
    (T : Top hd.view_39 (looseW hd.view_39 [Str.ofString "insort_right", Str.ofString "bisect_right", Str.ofString "bisect_left"]) mean mg mb h₀) (hk : cs.kind = .function)
    (hi : IntsAre vs ns) (hlen : ns.length ≤ 62) (hsrt : Srt ns) (hoff : ∀ p ∈ news, p.1 ≠ l) (hd : dp + 2 < recursionLimit) (hu : un + 8 * 2 < cLine)
    (ret : ∀ (vs' : List Value) (h' : Heap) (tk' : Nat), IntsAre vs' (insN ns x) → Fr h₀ L h' m → News h₀ L h' ((l, listOf vs'.toArray (nn + 1)) :: news) → Q .none { s with heap := h', toks := tk' }) :
    wpAny (model Challenge.rw_xc0015_01.row.prog w) (ktrTop dp un gd cn cs L a ccd cl outer) (call (.ref 50) [.ref l, .int x tx]) Q E s :=
  ins2 w mean mg mb l vs ns nn news x tx hi hlen hsrt hoff dp un gd cn cs a ccd cl outer A₀ base h₀ L m s Q E B F X N T hk hd hu ret
theorem news_swap {p q : Addr × Obj} {h : Heap} (N : News h₀ L h (p :: q :: news)) : News h₀ L h (q :: p :: news) := fun z hz => by
  rcases List.mem_cons.mp hz with rfl | hz
  · exact N _ (.tail _ (.head _))
  rcases List.mem_cons.mp hz with rfl | hz
  · exact N _ (.head _)
  · exact N _ (.tail _ (.tail _ hz))
theorem ins_use2 {p : Addr × Obj} (B : Below A₀ base outer h₀) (F : Fr h₀ L s.heap m) (X : (hd.heap_39 w.params).In h₀) (N : News h₀ L s.heap (p :: (l, listOf vs.toArray nn) :: news))
    (T : Top hd.view_39 (looseW hd.view_39 [Str.ofString "insort_right", Str.ofString "bisect_right", Str.ofString "bisect_left"]) mean mg mb h₀) (hk : cs.kind = .function)
    (hi : IntsAre vs ns) (hlen : ns.length ≤ 62) (hsrt : Srt ns) (hp : p.1 ≠ l) (hoff : ∀ p ∈ news, p.1 ≠ l) (hd : dp + 2 < recursionLimit) (hu : un + 8 * 2 < cLine)
    (ret : ∀ (vs' : List Value) (h' : Heap) (tk' : Nat), IntsAre vs' (insN ns x) → Fr h₀ L h' m → News h₀ L h' (p :: (l, listOf vs'.toArray (nn + 1)) :: news) → Q .none { s with heap := h', toks := tk' }) :
    wpAny (model Challenge.rw_xc0015_01.row.prog w) (ktrTop dp un gd cn cs L a ccd cl outer) (call (.ref 50) [.ref l, .int x tx]) Q E s :=
  ins_use B F X (news_swap N) T hk hi hlen hsrt (fun q hq => by
    rcases List.mem_cons.mp hq with rfl | hq
    · exact hp
    · exact hoff q hq) hd hu (fun vs' h' tk' i' F' N' => ret vs' h' tk' i' F' (news_swap N'))
end

/-- the row behind so many turns -/
def rowN (ks : List Int) : List Int := ks.foldl insN []
theorem rowN_snoc (ks : List Int) (n : Int) : rowN (ks ++ [n]) = insN (rowN ks) n := by
  unfold rowN
  rw [List.foldl_append]
  rfl
theorem fold_ins : ∀ (ks : List Int) (r : List Int), Srt r → Srt (ks.foldl insN r) ∧ (ks.foldl insN r).Perm (r ++ ks)
  | [], r, h => ⟨h, by simp⟩
  | k :: t, r, h => by
    have ih := fold_ins t (insN r k) (insN_srt h k)
    refine ⟨ih.1, ih.2.trans ?_⟩
    have h1 : (insN r k ++ t).Perm (k :: r ++ t) := (insN_perm r k).append_right t
    refine h1.trans ?_
    rw [List.cons_append]
    exact (List.perm_middle (l₁ := r) (l₂ := t) (a := k)).symm
theorem rowN_srt (ks : List Int) : Srt (rowN ks) := (fold_ins ks [] List.Pairwise.nil).1
theorem rowN_perm (ks : List Int) : (rowN ks).Perm ks := (fold_ins ks [] List.Pairwise.nil).2
theorem rowN_length (ks : List Int) : (rowN ks).length = ks.length := (rowN_perm ks).length_eq

section
variable {prog : Program} {w : World} {A : Around} {E : Value → Shared → Prop} {s : Shared} {env : Env} {h₀ : Heap} {x : Str} {body : List Stmt} {Q : Flow → Shared → Prop}
/-- what a turn of law's loop hands on -/
def TurnEnd (h₀ : Heap) (L : Addr) (s : Shared) (m : Str → Option Value) (D l : Addr) (oD : Obj) (rest : List (Addr × Obj)) (rs : List Int) (f : Flow) (s₂ : Shared) : Prop :=
  f = .next ∧ ∃ vs' cc' h' tk', s₂ = { s with heap := h', toks := tk' } ∧ IntsAre vs' rs ∧ Fr h₀ L h' m ∧ News h₀ L h' ((D, oD) :: (l, listOf vs'.toArray cc') :: rest)
theorem law_loop {D l : Addr} {ws : List Value} {ks : List Int} {nn : Nat} {m₀ : Str → Option Value} {cells : List (Addr × Obj)}
    (hh : A.handled = none) (hi : IntsAre ws ks) (F : Fr h₀ env.locals s.heap m₀) (N : News h₀ env.locals s.heap ((D, listOf ws.toArray nn) :: (l, listOf #[] 0) :: cells))
    (hC : ∀ p ∈ cells, p.1 ≠ l) (hks : ks.length ≤ 60)
    (turn : ∀ vs rs cc n t h tk own, rs.length ≤ 60 → IntsAre vs rs → Srt rs → (∀ p ∈ cells ++ own, p.1 ≠ l) →
      Fr h₀ env.locals h (fun y => if y = x then some (.int n t) else m₀ y) → News h₀ env.locals h ((D, listOf ws.toArray nn) :: (l, listOf vs.toArray cc) :: (cells ++ own)) →
      wpAny (model prog w) A (execs body env) (TurnEnd h₀ env.locals s (fun y => if y = x then some (.int n t) else m₀ y) D l (listOf ws.toArray nn) (cells ++ own) (insN rs n)) E { s with heap := h, toks := tk })
    (done : ∀ vs rs cc (u : Str → Option Value) h tk, IntsAre vs rs → Srt rs → rs.Perm ks → rs.length ≤ 60 → Fr h₀ env.locals h (fun y => if y = x then u y else m₀ y) → News h₀ env.locals h ((D, listOf ws.toArray nn) :: (l, listOf vs.toArray cc) :: cells) → Q .next { s with heap := h, toks := tk }) :
    wpAny (model prog w) A (pyIter (.ref D)) (fun it s₂ => LoopAtV prog w A h₀ env x body Q E it s₂) E s := by
  refine kst_listL (σ := List Value × List Int × Nat) (fun c => (D, listOf ws.toArray nn) :: (l, listOf c.1.toArray c.2.2) :: cells) (fun _ => []) (fun c => IntsAre c.1 c.2.1) [] (fun pre c => c.2.1 = rowN pre) ([], [], 0)
    hh (fun _ => List.mem_cons_self) hi F N .nil (List.forall_mem_nil _) rfl ?_ ?_
  · rintro ⟨vs, rs, cc⟩ pre post n t u h tk own e _ off hf hp F₁ N₁
    have hp' : rs = rowN pre := hp
    refine wpAny_mono (turn vs rs cc n t h tk own ?_ hf ?_ ?_ ?_ N₁) (fun f s₂ p => ?_) fun _ _ e => e
    · rw [hp', rowN_length]
      have h9 := congrArg List.length e
      rw [List.length_append, List.length_cons] at h9
      omega
    · rw [hp']; exact rowN_srt _
    · intro p hp
      rcases List.mem_append.mp hp with hp | hp
      · exact hC p hp
      · exact off p hp l (by simp)
    · simpa [kstB] using F₁
    · obtain ⟨rfl, vs', cc', h', tk', rfl, hi', F', N'⟩ := p
      show InvEndN _ _ _ _ _ _ _
      refine InvEndN.intro F' N' ⟨(vs', insN rs n, cc'), rfl, hi', List.forall_mem_nil _, ?_, ?_⟩ rfl (fun p hp => ?_) (fun p hp => ?_)
      · intro z hz _ _
        show (if z = x then _ else _) = _
        rw [if_neg hz]
      · show insN rs n = rowN (pre ++ [n])
        rw [rowN_snoc, ← hp']
      · rcases List.mem_cons.mp hp with rfl | hp
        · exact List.mem_cons_self
        rcases List.mem_cons.mp hp with rfl | hp
        · exact List.mem_cons_of_mem _ List.mem_cons_self
        · exact List.mem_cons_of_mem _ (List.mem_cons_of_mem _ (List.mem_append.mpr (.inl hp)))
      · exact List.mem_cons_of_mem _ (List.mem_cons_of_mem _ (List.mem_append.mpr (.inr hp)))
  · rintro ⟨vs, rs, cc⟩ u h tk hf hp F₁ N₁
    have hp' : rs = rowN ks := hp
    subst hp'
    refine done vs _ cc u h tk hf (rowN_srt _) (rowN_perm _) (by rw [rowN_length]; exact hks) ?_ N₁
    simpa [kstB] using F₁
end

section
variable {prog : Program} {w : World} {A : Around} {E : Value → Shared → Prop} {s : Shared} {Q : Value → Shared → Prop} {l : Addr} {vs : List Value} {ns : List Int} {v : Int} {u : Tok} {value slice : PySem.Expr} {h₀ : Heap} {L : Addr} {news : List (Addr × Obj)} {nn : Nat}
theorem pos_of {rs : List Int} (h : decide (rs = []) = false) : 0 < rs.length := by
  cases rs with
  | nil => simp at h
  | cons _ _ => simp
theorem item_low (N : News h₀ L s.heap news) (hm : (l, listOf vs.toArray nn) ∈ news) (hi : IntsAre vs ns) (hv : v = ns.getD ((ns.length - 1) / 2) 0) (h0 : 0 < ns.length) (h60 : ns.length ≤ 60) (h : ∀ t, Q (.int v t) s)
    (hs : subscripted slice false (.ref l) (.int (((ns.length : Int) - 1).fdiv 2) u) = operate [.ref l, .int (((ns.length : Int) - 1).fdiv 2) u] (getItem (.ref l) (.int (((ns.length : Int) - 1).fdiv 2) u))) :
    wpAny (model prog w) A (subscriptTail value slice (.ref l) (.int (((ns.length : Int) - 1).fdiv 2) u)) Q E s := by
  have e : (((ns.length : Int) - 1).fdiv 2) = (((ns.length - 1) / 2 : Nat) : Int) := by
    rw [Int.fdiv_eq_ediv_of_nonneg _ (by decide)]
    omega
  refine item_anyK (kso_isList N hm rfl) hi (by omega) (by omega) (by omega) (fun t => ?_) hs
  rw [e, Int.toNat_natCast, ← hv]
  exact h t
theorem item_high (N : News h₀ L s.heap news) (hm : (l, listOf vs.toArray nn) ∈ news) (hi : IntsAre vs ns) (hv : v = ns.getD (ns.length / 2) 0) (h0 : 0 < ns.length) (h60 : ns.length ≤ 60) (h : ∀ t, Q (.int v t) s)
    (hs : subscripted slice false (.ref l) (.int ((ns.length : Int).fdiv 2) u) = operate [.ref l, .int ((ns.length : Int).fdiv 2) u] (getItem (.ref l) (.int ((ns.length : Int).fdiv 2) u))) :
    wpAny (model prog w) A (subscriptTail value slice (.ref l) (.int ((ns.length : Int).fdiv 2) u)) Q E s := by
  have e : ((ns.length : Int).fdiv 2) = ((ns.length / 2 : Nat) : Int) := by
    rw [Int.fdiv_eq_ediv_of_nonneg _ (by decide)]
    omega
  refine item_anyK (kso_isList N hm rfl) hi (by omega) (by omega) (by omega) (fun t => ?_) hs
  rw [e, Int.toNat_natCast, ← hv]
  exact h t
theorem len60 (N : News h₀ L s.heap news) (hm : (l, listOf vs.toArray nn) ∈ news) (hi : IntsAre vs ns) (h60 : ns.length ≤ 60) (h : Q (.int (ns.length : Int) (s.toks + 1)) { s with toks := s.toks + 1 + 1 }) :
    wpAny (model prog w) A (call (.builtin "len") [.ref l]) Q E s := kst_len N hm hi.length (by omega) h
theorem ne_no {a b : Int} {t u : Tok} (e : a = b) (h : Q (.bool false) s) : wpAny (model prog w) A (compareOp .NotEq (.int a t) (.int b u)) Q E s := by
  refine ne_int ?_
  subst e
  simpa using h
theorem le_yes {a b : Int} {t u : Tok} (e : a ≤ b) (h : Q (.bool true) s) : wpAny (model prog w) A (compareOp .LtE (.int a t) (.int b u)) Q E s := by
  refine le_int ?_
  simpa [e] using h
theorem size60 (hi : IntsAre vs ns) (h : ns.length ≤ 60) : vs.toArray.size ≤ sizeLine := by
  rw [List.size_toArray, PySem.sizeLine_eq, hi.length]
  omega
end

theorem test1 {A B C : Prop} [Decidable A] [Decidable B] (h : A ↔ B ∨ C) (hb : B) : (decide A != decide B) = false := by
  have ha : A := h.mpr (.inl hb)
  simp [ha, hb]
theorem test2 {A B C : Prop} [Decidable A] [Decidable C] (h : A ↔ B ∨ C) (nb : ¬ B) : (decide A != decide C) = false := by
  by_cases hc : C
  · have ha : A := h.mpr (.inr hc)
    simp [ha, hc]
  · have ha : ¬ A := fun a => (h.mp a).elim nb hc
    simp [ha, hc]
/-- the end of a turn of law's comprehension: the test is not met -/
def TestEnd (h₀ : Heap) (L : Addr) (m : Str → Option Value) (s₁ : Shared) (I : Addr) (oI : Obj) (C : Addr) (oC : Obj) (D : Addr) (ys : List Value) (news : List (Addr × Obj)) (b : Bool) (s₂ : Shared) : Prop :=
  b = false ∧ ∃ h' tk, s₂ = { s₁ with heap := h', toks := tk } ∧ Fr h₀ L h' m ∧ News h₀ L h' ((I, oI) :: (C, oC) :: (D, LCg.lst ys) :: news)
section
variable {prog : Program} {w : World} {A : Around} {h₀ : Heap} {L : Addr} {m : Str → Option Value} {env : Env} {ct elt : PySem.Expr} {x : Str} {scope : Scope} {cl : List (Str × Addr)} {s : Shared} {S : List (Addr × Obj) → Prop} {Fin : List Value → List (Addr × Obj) → Prop} {news : List (Addr × Obj)}
theorem comp_none {vs : List Value} {ns : List Int} (hi : IntsAre vs ns) (hS : S news)
    (turn : ∀ k t I oI C oC D m₂ ys h tk (E' : Value → Shared → Prop), k ∈ ns → LCg.NsObj oC m₂ → m₂ x = some (.int k t) → Fr h₀ L h m → News h₀ L h ((I, oI) :: (C, oC) :: (D, LCg.lst ys) :: news) → LCg.Off3 I C D news → ((@Ne Nat I C) ∧ (@Ne Nat I D) ∧ (@Ne Nat C D)) →
      wpAny (model prog w) A (isTrue ct (compEnvC scope cl C env) (eval ct (compEnvC scope cl C env))) (TestEnd h₀ L m { s with heap := h, toks := tk } I oI C oC D ys news) E' { s with heap := h, toks := tk })
    (fin : Fin [] news) : LCt.CompRestT prog w A h₀ L m env ct elt x scope cl s S (fun i v => vs.toArray[i]? = some v) Fin vs.toArray.size 0 [] news := by
  refine kci_list (fun l _ => l) hi (fun k t I oI C oC D m₂ ys l h tk E' hk hy hC hx F N off ne _ => ?_) (fun ys hy _ => ?_) (fun l k => Nat.le_succ _)
  · refine wpAny_mono (turn k t I oI C oC D m₂ ys h tk E' hk hC hx F N off ne) (fun b s₂ hq => ?_) fun _ _ e => e
    obtain ⟨rfl, h', tk', rfl, F', N'⟩ := hq
    simp only [Bool.false_eq_true, if_false]
    exact LCg.CompEnd.intro F' N' news (fun _ hp => hp) off hS (kci_no rfl rfl)
  · have e : ∀ (ks : List Int), ks.foldl (fun (l : List Int) (_ : Int) => l) [] = [] := fun ks => by induction ks with
      | nil => rfl
      | cons _ _ ih => exact ih
    rw [e] at hy
    cases hy
    exact fin
end
end SXUse
/-! ### the way into a def that catches -/
section SXS0
open PySem.Calls
section
variable {prog : Program} {w : World} {A₀ A : Around} {s : Shared} {base h₀ : Heap} {L : Addr} {m : Str → Option Value} {env : Env} {news : List (Addr × Obj)} {K : Frag} {p : Program} {loose : List Str} {mean : ExcName → Option Value} {mg mb : Str → Option Value}
    {R : Result → Shared → Prop} {name qual : Str} {params : Arguments} {body : List Stmt} {scope : Scope} {dV kV doc pm cdv ct oc : Value} {an od : Option Addr} {osl : Array (Option Value)} {f : Addr} {args : Args} {binds : List (Str × Value)}
/-- the way into a def that catches, out of a frame that may have cells -/
theorem code_S0X (B : Below A₀ base [] h₀) (F : Fr h₀ L s.heap m) (X₀ : K.In h₀) (N : News h₀ L s.heap news) (T : Top p loose mean mg mb h₀) (hA : A.frames = some [env]) (hf : env.frame = some L) (hke : env.scope.kind = .function)
    (ho : K.lookup f = some ⟨oc, od, .func (fnOf name qual params body scope dV kV doc pm an cdv ct), osl⟩) (hcd : codeIn K cdv qual = true) (hroom : A.depth < recursionLimit)
    (hbind : BindsTo s (fnOf name qual params body scope dV kV doc pm an cdv ct) args binds) (hloc : ∀ y ∈ binds, scope.names.lookup y.1 = some .local)
    (h : ∀ g L' h₁, Fr h₀ L g m → Fr g L' h₁ (fun y => binds.reverse.lookup y) → News g L' h₁ news → Below A base [env] g → K.In g → Top p loose mean mg mb g → KtsDicts ([env].filterMap (·.frame)) g →
      wpAny (model prog w) (A.deeper (envOf qual scope L' f cdv)) (execs body (envOf qual scope L' f cdv))
        (fun fl s' => LeaveS0 ([env].filterMap (·.frame)) h₀ L m g R (match fl with | .ret v => v | _ => .none) s')
        (fun e s' => wpAny (model prog w) (A.deeper (envOf qual scope L' f cdv)) (leaving (envOf qual scope L' f cdv) e) (fun _ s'' => R (.error e) s'') (fun e' s'' => R (.error e') s'') s')
        { s with heap := h₁, toks := s.toks + binds.length })
    (hco : scope.isCoroutine = false) (hgen : scope.isGenerator = false) (hk : scope.kind = .function)
    (hcell : ∀ x ∈ scope.names, x.2 ≠ .cell) : codeAny (model prog w) A (.call (.ref f) args) R s := by
  have X := X₀.keeps F.keep
  obtain ⟨FG, BG, st, _⟩ := groundX (R := R) B F N hA hf hke
  have fs : ([env].filterMap (·.frame)) = [L] := by simp [hf]
  obtain ⟨oL, es, ep, hLg, hLd, hLk, hLf⟩ := id FG.ns
  refine codeAny_call_def (fd := fnOf name qual params body scope dV kV doc pm an cdv ct) (body := body) (binds := binds) hroom (X _ _ ho) rfl (T.nolimit.keeps F.keep) (codeRec_of X hcd) rfl hbind hcell hloc (fun h₁ hns hk₁ => ?_) hco hgen hk
  refine wpAny_mono (h _ s.heap.objs.size h₁ FG ⟨hns, fun b o e => hk₁ b o (of_hideAll _ e), Nat.le_of_eq (hideAll_size _ _)⟩
    (fun q hq => ⟨hk₁ _ _ (N q hq).1, Nat.ne_of_lt (Heap.lt_size (N q hq).1), hideAll_none _ (List.mem_map_of_mem hq)⟩) BG (X₀.keeps st) (T.keeps st)
    (fun b hb => by
      rw [fs] at hb
      rw [List.mem_singleton.mp hb]
      exact ⟨oL, es, ep, hLg, hLd⟩)) (fun fl s' hl => ?_) fun _ _ y => y
  obtain ⟨g', L', m', news', T', F', N', k⟩ := hl
  rw [fs] at T'
  have old : ∀ b o, h₀.get? b = some o → s'.heap.get? b = some o := fun b o e => F'.keep b o (T'.other b o (st b o e) fun q => by
    rw [List.mem_singleton.mp q, kts_self F] at e
    cases e)
  obtain ⟨sl, hs⟩ := T'.up hLg
  refine k ⟨⟨_, es, ep, F'.keep _ _ hs, hLd, hLk, hLf⟩, old, F.above⟩ fun q hq => ⟨(N' q hq).1, fun z => ?_, ?_⟩
  · have y := (N' q hq).2.2
    rw [z, hs] at y
    cases y
  · cases z : h₀.get? q.1 with
    | none => rfl
    | some o =>
      obtain ⟨sl', hs'⟩ := T'.up (st _ _ z)
      have y := (N' q hq).2.2
      rw [hs'] at y
      cases y
end
end SXS0
/-! ### the walk -/
section SXL
theorem le62 {rs : List Int} (h : rs.length ≤ 60) : rs.length ≤ 62 := by omega
theorem take62 (ns : List Int) : (ns.take 60).length ≤ 62 := by rw [List.length_take]; omega
theorem take60 (ns : List Int) : (ns.take 60).length ≤ 60 := by rw [List.length_take]; omega
local macro_rules | `(tactic| walk_at "pyIter ref") => `(tactic| (k_here; (with_reducible show wpAny _ _ (pyIter (Value.ref _)) (fun it s₂ => LoopAtV _ _ _ _ _ _ _ _ _ it s₂) _ _); (rename Fr _ _ _ _ => lF'); (rename News _ _ _ _ => lN'); (rename IntsAre _ _ => lI'); k_dflt (refine' law_loop ?kh lI' lF' lN' ?kc (take60 _) (fun vs' rs' cc' n' t' h' tk' own' q' i' z' hof' F' N' => ?_) (fun vs' rs' cc' u' h' tk' i' z' p' q' F' N' => ?_); (case kh => rfl); (case kc => k_all)); (all_goals (try simp only [List.cons_append, List.nil_append] at N')); (all_goals (try simp only [List.cons_append, List.nil_append] at hof')); (all_goals (try clear lF' lN')); (all_goals (try k_fold))))
local macro_rules | `(tactic| walk_at "exec For") => `(tactic| (k_here; (rename Fr _ _ _ _ => lF'); (with_unfolding_all refine' For_invVF lF' ?k1 ?k2 ?_; (case k1 => exact rfl); (case k2 => exact rfl); k_whole)))
local macro_rules | `(tactic| walk_at "TurnEnd") => `(tactic| exact ⟨rfl, _, _, _, _, rfl, by assumption, by assumption, by assumption⟩)
local macro_rules | `(tactic| walk_at "call ref") => `(tactic| (k_here; (with_reducible show wpAny _ _ (call (Value.ref _) [Value.ref _, Value.int _ _]) _ _ _); k_dflt (first
  | (refine' ins_use2 ?k1 ?k2 ?k3 ?k4 ?k5 ?kK ?ki ?kl ?ks ?kp ?ko ?kd ?ku ?_; (case k1 => k_asm); (case k2 => k_asm); (case k3 => k_asm); (case k4 => k_asm); (case k5 => k_asm); (case kK => first | exact rfl | assumption); (case ki => assumption); (case kl => exact le62 (by assumption)); (case ks => assumption); (case kp => k_ne); (case ko => assumption); (case kd => ktr_room); (case ku => ktr_units); (intro v9 h9 tk9 I9 F9 N9; (try dsimp only); (try k_fold)))
  | (refine' ways_use ?k1 ?k2 ?k3 ?k4 ?k5 ?kK ?km ?ki ?kl ?kd ?ku ?_; (case k1 => k_asm); (case k2 => k_asm); (case k3 => k_asm); (case k4 => k_asm); (case k5 => k_asm); (case kK => first | exact rfl | assumption); (case km => k_mem); (case ki => assumption); (case kl => exact le62 (by assumption)); (case kd => ktr_room); (case ku => ktr_units); (intro t9 h9 tk9 F9 N9; (try dsimp only); (try k_fold)))
  | (refine' br2_use ?k1 ?k2 ?k3 ?k4 ?k5 ?kK ?km ?ki ?kl ?ks ?kd ?ku ?_; (case k1 => k_asm); (case k2 => k_asm); (case k3 => k_asm); (case k4 => k_asm); (case k5 => k_asm); (case kK => first | exact rfl | assumption); (case km => k_mem); (case ki => assumption); (case kl => exact le62 (by assumption)); (case ks => assumption); (case kd => ktr_room); (case ku => ktr_units); (intro t9 h9 tk9 F9 N9; (try dsimp only); (try k_fold)))
  | (refine' bl2_use ?k1 ?k2 ?k3 ?k4 ?k5 ?kK ?km ?ki ?kl ?ks ?kd ?ku ?_; (case k1 => k_asm); (case k2 => k_asm); (case k3 => k_asm); (case k4 => k_asm); (case k5 => k_asm); (case kK => first | exact rfl | assumption); (case km => k_mem); (case ki => assumption); (case kl => exact le62 (by assumption)); (case ks => assumption); (case kd => ktr_room); (case ku => ktr_units); (intro t9 h9 tk9 F9 N9; (try dsimp only); (try k_fold))))))
local macro_rules | `(tactic| walk_at "call ref") => `(tactic| (k_here; (with_reducible show wpAny _ _ (call (Value.ref _) [Value.ref _]) _ _ _); k_dflt (first
  | (refine' medl_use ?k1 ?k2 ?k3 ?k4 ?k5 ?kK ?km ?ki ?kl ?ks ?kp ?kn ?kd ?ku ?_; (case k1 => k_asm); (case k2 => k_asm); (case k3 => k_asm); (case k4 => k_asm); (case k5 => k_asm); (case kK => first | exact rfl | assumption); (case km => k_mem); (case ki => assumption); (case kl => exact take62 _); (case ks => assumption); (case kp => assumption); (case kn => exact pos_of (by assumption)); (case kd => ktr_room); (case ku => ktr_units); (intro v9 t9 h9 tk9 e9 F9 N9; (try dsimp only); (try k_fold)))
  | (refine' medh_use ?k1 ?k2 ?k3 ?k4 ?k5 ?kK ?km ?ki ?kl ?ks ?kp ?kn ?kd ?ku ?_; (case k1 => k_asm); (case k2 => k_asm); (case k3 => k_asm); (case k4 => k_asm); (case k5 => k_asm); (case kK => first | exact rfl | assumption); (case km => k_mem); (case ki => assumption); (case kl => exact take62 _); (case ks => assumption); (case kp => assumption); (case kn => exact pos_of (by assumption)); (case kd => ktr_room); (case ku => ktr_units); (intro v9 t9 h9 tk9 e9 F9 N9; (have pos9 := pos_of (by assumption)); (have M9 := Mid.mk pos9 (by assumption) (by assumption) e9); (try dsimp only); (try k_fold))))))
local macro_rules | `(tactic| walk_at "subscriptTail Name BinOp ref int") => `(tactic| (k_here; (with_reducible rename Mid _ _ _ => M9); first
  | ((with_reducible show wpAny _ _ (subscriptTail _ _ (Value.ref _) (Value.int (Int.fdiv (HSub.hSub _ _) _) _)) _ _ _); k_dflt (refine' item_low ?N ?m ?i (Mid.isLo M9) (Mid.pos M9) ?l ?_ ?s; (case N => k_asm); (case m => k_mem); (case i => assumption); (case l => assumption); (case s => with_unfolding_all rfl); (intro t9; (try dsimp only))))
  | ((with_reducible show wpAny _ _ (subscriptTail _ _ (Value.ref _) (Value.int (Int.fdiv (Nat.cast _) _) _)) _ _ _); k_dflt (refine' item_high ?N ?m ?i (Mid.isHi M9) (Mid.pos M9) ?l ?_ ?s; (case N => k_asm); (case m => k_mem); (case i => assumption); (case l => assumption); (case s => with_unfolding_all rfl); (intro t9; (try dsimp only))))))
local macro_rules | `(tactic| walk_at "CompSrcT") => `(tactic| (k_here; (with_reducible rename Mid _ _ _ => M9); k_dflt (refine' LCt.CompSrcT.ledger ?a ?b ?c ?d ?e ?_; (case a => rfl); (case b => k_asm); (case c => k_asm); (case d => k_mem); (case e => exact size60 (by assumption) (by assumption)); intro g'; (refine' comp_none ?i ?s (fun k' t' I' oI' C' oC' D' m' ys' h' tk' E' hk' hC' hx' F' N' off' ne' => ?_) ?_; (case i => assumption); (case s => lcg_src)); (all_goals (try (have m9 := Mid.more M9 k'))); (all_goals (try (simp only [LCg.Off3, and_true] at off'))); (all_goals (try k_fold)))))
local macro_rules | `(tactic| walk_at "call builtin:len") => `(tactic| (k_here; (with_reducible rename Mid _ _ _ => M9); (with_reducible show wpAny _ _ (call (Value.builtin "len") [Value.ref _]) _ _ _); k_dflt (refine' len60 ?N ?m ?i ?l ?_; (case N => k_asm); (case m => k_mem); (case i => assumption); (case l => assumption); k_whole)))
local macro_rules | `(tactic| walk_at "compareOp NotEq int int") => `(tactic| ((with_reducible rename Mid _ _ _ => M9); first | refine ne_no (Eq.refl _) ?_ | refine ne_no (Mid.f1 M9) ?_ | refine ne_no (Mid.f2 M9) ?_ | refine ne_no (Mid.f3 M9) ?_ | refine ne_no (Mid.f4 M9) ?_))
local macro_rules | `(tactic| walk_at "compareOp LtE int int") => `(tactic| ((with_reducible rename Mid _ _ _ => M9); first | refine le_yes (Mid.f6 M9).1 ?_ | refine le_yes (Mid.f6 M9).2 ?_))
local macro_rules | `(tactic| walk_at "TestEnd") => `(tactic| ((with_reducible rename (_ ↔ _ ∨ _) => m9); (refine ⟨?tb, _, _, rfl, ?tf, ?tn⟩; (case tb => first | exact test1 m9 (by assumption) | exact test2 m9 (by assumption)); (case tf => assumption); (case tn => assumption))))
local macro_rules | `(tactic| walk_at "call ref") => `(tactic| (k_here; (with_reducible rename KtsDicts _ _ => kdX); (with_reducible show wpAny _ _ (call (Value.ref _) [Value.ref _]) _ _ _); k_dflt (refine wpAny_call ?_; kts_go)))
local macro_rules | `(tactic| walk_at "call ref") => `(tactic| (k_here; (with_reducible show wpAny _ _ (call (Value.ref _) [Value.ref _]) _ _ _); k_dflt (refine wpAny_call ?_; (show codeAny _ _ (.call (.ref 80) _) _ _); refine' code_S0X ?k1 ?k2 ?k3 ?k4 ?k5 ?kA ?kF ?kE ?k6 ?k7 ?k8 ?k9 ?kB ?_ ?c2 ?c3 ?c4 ?c5; (case kA => exact rfl); (case kF => exact rfl); (case kE => exact rfl); (case k2 => k_asm); (case k1 => k_asm); (case k3 => k_asm); (case k4 => k_asm); (case k5 => k_asm); (case k6 => k_is); (case k7 => k_is); (case k8 => k_room); (case k9 => first | exact binds_K (by k_in) rfl (by k_is) rfl rfl rfl | exact BindsTo.of_eq rfl); (case kB => exact locs rfl); (case c2 => exact rfl); (case c3 => exact rfl); (case c4 => exact rfl); (case c5 => decide); k_whole; intro g' L' h' FG' F' N' B' X' T' D'; (try dsimp only); (try k_lift B'); (try k_fold))))
set_option maxRecDepth 100000 in
set_option maxHeartbeats 8000000 in
theorem law_holds : PySem.Challenge.rw_xc0015_01.Holds := hd (by (k_with_none; k_go0; (all_goals try k_fold); k_steps))
end SXL
end Mine

theorem PySem.Challenge.cw_xc0015_01_holds : PySem.Challenge.rw_xc0015_01.Holds :=
  Mine.law_holds
