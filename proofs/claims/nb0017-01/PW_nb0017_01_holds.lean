import PyProof.Rows.All
import Wide.All
import OpenK.AllK
import Wide.FinOn
import PySem.Challenge.RW_nb0017_01
open PySem PySem.W PyProof.Rows
set_option Elab.async false
set_option maxRecDepth 100000

namespace Mine
set_option maxRecDepth 100000 in
set_option maxHeartbeats 8000000 in
open_top hd for PySem.Challenge.rw_nb0017_01
end Mine

namespace Mine
abbrev Claim (w : World) (mean : ExcName → Option Value) (mg mb : Str → Option Value) (f : Addr) (news : List (Addr × Obj)) (pre : Prop) (vs : List Value) (R : Tok → Value) (dn : Nat) : Prop :=
  ∀ (dp un : Nat) (gd : Option (List Code)) (cn : Str) (cs : Scope) (a : Addr) (ccd : Value) (cl : List (Str × Addr)) (outer : List Env) (A₀ : Around) (base h₀ : Heap) (L : Addr) (m : Str → Option Value) (s : Shared) (Q E : Value → Shared → Prop),
    Below A₀ base outer h₀ → Fr h₀ L s.heap m → (hd.heap_39 w.params).In h₀ → News h₀ L s.heap news → Top hd.view_39 (looseW hd.view_39 []) mean mg mb h₀ → cs.kind = .function →
    pre → dp + dn < recursionLimit → un + 8 * dn < cLine → (∀ (t : Tok) (h' : Heap) (tk' : Nat), Fr h₀ L h' m → News h₀ L h' news → Q (R t) { s with heap := h', toks := tk' }) →
      wpAny (model PySem.Challenge.rw_nb0017_01.row.prog w) (ktrTop dp un gd cn cs L a ccd cl outer) (call (.ref f) vs) Q E s

theorem Claim.use {w : World} {mean : ExcName → Option Value} {mg mb : Str → Option Value} {f : Addr} {news : List (Addr × Obj)} {pre : Prop} {vs : List Value} {R : Tok → Value} {dn : Nat} (C : Claim w mean mg mb f news pre vs R dn)
    {dp un : Nat} {gd : Option (List Code)} {cn : Str} {cs : Scope} {a : Addr} {ccd : Value} {cl : List (Str × Addr)} {outer : List Env} {A₀ : Around} {base h₀ : Heap} {L : Addr} {m : Str → Option Value} {s : Shared} {Q E : Value → Shared → Prop}
    (k1 : Below A₀ base outer h₀) (k2 : Fr h₀ L s.heap m) (k3 : (hd.heap_39 w.params).In h₀) (k4 : News h₀ L s.heap news) (k5 : Top hd.view_39 (looseW hd.view_39 []) mean mg mb h₀) (kK : cs.kind = .function)
    (kp : pre) (kd : dp + dn < recursionLimit) (ku : un + 8 * dn < cLine) (kR : ∀ (t : Tok) (h' : Heap) (tk' : Nat), Fr h₀ L h' m → News h₀ L h' news → Q (R t) { s with heap := h', toks := tk' }) :
    wpAny (model PySem.Challenge.rw_nb0017_01.row.prog w) (ktrTop dp un gd cn cs L a ccd cl outer) (call (.ref f) vs) Q E s := C _ _ _ _ _ _ _ _ _ _ _ _ _ _ _ _ _ k1 k2 k3 k4 k5 kK kp kd ku kR

def sbOf (n : Int) : Bool := if n = 0 then false else Builtin.bitAnd n (n - 1) == 0
def lowOf (n : Int) : Int := Builtin.bitAnd n (-n)
def rightOf (left taken limit : Int) : Bool := decide (left > 0) && (sbOf taken && (decide (taken ≤ limit) && ((left - taken).fmod (2 * taken) == 0)))

set_option maxHeartbeats 8000000 in
theorem sb_claim (w : World) (mean mg mb) (news : List (Addr × Obj)) (n : Int) (t : Tok) : Claim w mean mg mb 21 news True [.int n t] (fun _ => .bool (sbOf n)) 2 := by
  dsimp only [Claim]
  k_fill
  w_top off
  intros; rename_i hret
  k_with_none
  k_with "tree" => simp_all [sbOf]
  refine wpAny_call ?_
  k_dflt cell_enter
  k_steps
  all_goals cb_end hret


local macro_rules | `(tactic| walk_at "call ref") => `(tactic| (k_here; k_dflt (refine wpAny_call ?_; refine' code_def ?k1 ?k2 ?k3 ?k4 ?k5 ?kA ?kF ?kK ?k6 ?k7 ?k8 ?k9 ?kB ?_ ?c2 ?c3 ?c4 ?c5; (case kA => exact rfl); (case kF => exact rfl); (case kK => first | exact rfl | assumption); (case k1 => k_asm); (case k2 => k_asm); (case k3 => k_asm); (case k4 => k_asm); (case k5 => k_asm); (case k6 => k_is); (case k7 => k_is); (case k8 => ktr_room); (case k9 => exact BindsTo.of_eq rfl); (case c5 => decide); (case kB => exact locs rfl); (case c2 => exact rfl); (case c3 => exact rfl); (case c4 => exact rfl); k_whole; intro g' L' h' FG' F' N' B' X' T'; (try dsimp only); (try k_lift B'); (try k_fold))))
local macro_rules | `(tactic| walk_at "call ref") => `(tactic| (k_here; k_dflt (refine' Claim.use (sb_claim _ _ _ _ _ _ _) ?k1 ?k2 ?k3 ?k4 ?k5 ?kK ?kp ?kd ?ku ?_; (case k1 => k_asm); (case k2 => k_asm); (case k3 => k_asm); (case k4 => k_asm); (case k5 => k_asm); (case kK => first | exact rfl | assumption); (case kp => trivial); (case kd => ktr_room); (case ku => ktr_units); intro t9 h9 tk9 F9 N9; (try dsimp only); (try k_fold))))

set_option maxHeartbeats 8000000 in
theorem low_claim (w : World) (mean mg mb) (news : List (Addr × Obj)) (n : Int) (t : Tok) : Claim w mean mg mb 77 news True [.int n t] (fun t => .int (lowOf n) t) 4 := by
  dsimp only [Claim]
  k_fill
  w_top off
  intros; rename_i hret
  k_with_none
  k_with "tree" => simp only [lowOf]
  refine wpAny_call ?_
  k_dflt cell_enter
  k_steps
  all_goals cb_end hret

local macro_rules | `(tactic| walk_at "call ref") => `(tactic| (k_here; k_dflt (refine' Claim.use (low_claim _ _ _ _ _ _ _) ?k1 ?k2 ?k3 ?k4 ?k5 ?kK ?kp ?kd ?ku ?_; (case k1 => k_asm); (case k2 => k_asm); (case k3 => k_asm); (case k4 => k_asm); (case k5 => k_asm); (case kK => first | exact rfl | assumption); (case kp => trivial); (case kd => ktr_room); (case ku => ktr_units); intro t9 h9 tk9 F9 N9; (try dsimp only); (try k_fold))))

theorem sbOf_zero : sbOf 0 = false := rfl
theorem pos_of_sb {n : Int} (h : sbOf n = true) : n ≠ 0 := by rintro rfl; exact absurd h (by decide)

set_option maxHeartbeats 8000000 in
theorem right_claim (w : World) (mean mg mb) (news : List (Addr × Obj)) (left taken limit : Int) (t1 t2 t3 : Tok) : Claim w mean mg mb 96 news (0 < taken) [.int left t1, .int taken t2, .int limit t3] (fun _ => .bool (rightOf left taken limit)) 4 := by
  dsimp only [Claim]
  k_fill
  w_top off
  intros; rename_i hret
  k_with_none
  k_with "tree" => simp_all [rightOf]
  refine wpAny_call ?_
  k_dflt cell_enter
  k_steps
  all_goals cb_end hret
end Mine

namespace Mine

theorem two_split : ∀ (n : Nat), 0 < n → ∃ (k a : Nat), (n : Int) = 2 ^ k * (2 * (a : Int) + 1) := by
  intro n
  induction n using Nat.strongRecOn with
  | _ n ih =>
    intro hn
    rcases Nat.mod_two_eq_zero_or_one n with h | h
    · obtain ⟨k, a, e⟩ := ih (n / 2) (by omega) (by omega)
      refine ⟨k + 1, a, ?_⟩
      have h2 : (n : Int) = 2 * ((n / 2 : Nat) : Int) := by omega
      rw [h2, e, Int.pow_succ, Int.mul_comm (2 ^ k) 2, Int.mul_assoc]
    · exact ⟨0, n / 2, by rw [Int.pow_zero]; omega⟩
theorem int_split {n : Int} (hn : 0 < n) : ∃ (k a : Nat), n = 2 ^ k * (2 * (a : Int) + 1) := by
  obtain ⟨k, a, e⟩ := two_split n.toNat (by omega)
  exact ⟨k, a, by rw [← e]; omega⟩

theorem low_of (k : Nat) (a : Int) : lowOf (2 ^ k * (2 * a + 1)) = 2 ^ k := kbt_low k a
theorem pow_pos' (k : Nat) : (0 : Int) < 2 ^ k := kbt_pos k
theorem sb_pow (k : Nat) : sbOf (2 ^ k) = true := by
  have h := pow_pos' k
  unfold sbOf
  rw [if_neg (by omega), kbt_mask, Int.emod_self]; rfl
theorem and_pred (k : Nat) (a : Int) : Builtin.bitAnd (2 ^ k * (2 * a + 1)) (2 ^ k * (2 * a + 1) - 1) = 2 ^ k * (2 * a) := by
  induction k with
  | zero =>
    rw [Int.pow_zero, Int.one_mul, kbt_halves]
    have h1 : (2 * a + 1) / 2 = a := by omega
    have h2 : (2 * a + 1 - 1) / 2 = a := by omega
    rw [h1, h2, bitAnd_self, if_neg (by omega)]; omega
  | succ k ih =>
    have e : (2 : Int) ^ (k + 1) * (2 * a + 1) = 2 * (2 ^ k * (2 * a + 1)) := by
      rw [Int.pow_succ, Int.mul_comm (2 ^ k) 2, Int.mul_assoc]
    rw [e, kbt_halves]
    have h1 : 2 * (2 ^ k * (2 * a + 1)) / 2 = 2 ^ k * (2 * a + 1) := by omega
    have h2 : (2 * (2 ^ k * (2 * a + 1)) - 1) / 2 = 2 ^ k * (2 * a + 1) - 1 := by omega
    rw [h1, h2, ih, if_neg (by omega), Int.pow_succ, Int.mul_comm (2 ^ k) 2, Int.mul_assoc]; omega
theorem sb_only {n : Int} (hn : 0 < n) (h : sbOf n = true) : ∃ k : Nat, n = 2 ^ k := by
  obtain ⟨k, a, e⟩ := int_split hn
  unfold sbOf at h
  rw [if_neg (by omega), e, and_pred] at h
  have h' := beq_iff_eq.mp h
  have hk := pow_pos' k
  rcases Int.mul_eq_zero.mp h' with h1 | h1
  · omega
  · have : (a : Int) = 0 := by omega
    exact ⟨k, by rw [e, this]; omega⟩

def Inv (left limit : Int) : Prop := 0 ≤ left ∧ 0 < limit ∧ ∃ (K : Nat) (c : Int), left = 2 ^ K * c ∧ limit < 2 ^ K

theorem right_ok {i : Nat} {d other : Int} (hd : 0 ≤ d) (ho : 2 ^ i ≤ other) : rightOf (2 ^ i * (2 * d + 1)) (2 ^ i) other = true := by
  have hp := pow_pos' i
  have e : (2 : Int) ^ i * (2 * d + 1) - 2 ^ i = (2 * 2 ^ i) * d := by
    rw [Int.mul_add, Int.mul_one, Int.mul_comm 2 (2 ^ i), Int.mul_assoc]; omega
  have hm : (0 : Int) ≤ 2 ^ i * (2 * d) := Int.mul_nonneg (by omega) (by omega)
  have h1 : (2 : Int) ^ i * (2 * d + 1) > 0 := by rw [Int.mul_add, Int.mul_one]; omega
  have h2 : Int.fmod ((2 * 2 ^ i) * d) (2 * 2 ^ i) = 0 := by
    rw [Int.fmod_eq_emod_of_nonneg _ (by omega)]; exact Int.mul_emod_right _ _
  unfold rightOf
  rw [sb_pow, e, h2, decide_eq_true h1, decide_eq_true ho]; rfl
theorem inv_next (i : Nat) {d : Int} (hd : 0 ≤ d) : Inv (2 ^ i * (2 * d + 1) - 2 ^ i) (2 ^ i) := by
  have hp := pow_pos' i
  have e : (2 : Int) ^ i * (2 * d + 1) - 2 ^ i = 2 ^ (i + 1) * d := by
    rw [Int.mul_add, Int.mul_one, Int.pow_succ, Int.mul_assoc]; omega
  refine ⟨?_, hp, i + 1, d, e, ?_⟩
  · rw [e]; exact Int.mul_nonneg (Int.le_of_lt (pow_pos' _)) hd
  · rw [Int.pow_succ]; omega

def Took (left limit : Int) : Prop := 0 < left ∧ 0 < lowOf left ∧ rightOf left (lowOf left) limit = true ∧ Inv (left - lowOf left) (lowOf left)
theorem Took.lp {left limit : Int} (h : Took left limit) : 0 < left := h.1
theorem Took.tp {left limit : Int} (h : Took left limit) : 0 < lowOf left := h.2.1
theorem Took.right {left limit : Int} (h : Took left limit) : rightOf left (lowOf left) limit = true := h.2.2.1
theorem Took.inv {left limit : Int} (h : Took left limit) : Inv (left - lowOf left) (lowOf left) := h.2.2.2

theorem took_of {left limit : Int} (i : Nat) (d : Int) (e : left = 2 ^ i * (2 * d + 1)) (hd : 0 ≤ d) (hl : 2 ^ i ≤ limit) : Took left limit := by
  have hp := pow_pos' i
  have hlow : lowOf left = 2 ^ i := by rw [e, low_of]
  have hm : (0 : Int) ≤ 2 ^ i * (2 * d) := Int.mul_nonneg (by omega) (by omega)
  refine ⟨?_, by omega, ?_, ?_⟩
  · rw [e, Int.mul_add, Int.mul_one]; omega
  · rw [hlow, e]; exact right_ok hd hl
  · rw [hlow, e]; exact inv_next i hd

theorem start_sb {heap : Int} (h2 : 2 ≤ heap) (h : sbOf heap = true) : Inv heap (heap - 1) := by
  obtain ⟨k, e⟩ := sb_only (by omega) h
  exact ⟨by omega, by omega, k, 1, by rw [Int.mul_one]; exact e, by omega⟩
theorem start_no {heap : Int} (h2 : 2 ≤ heap) (h : sbOf heap = false) : Took heap (heap - 1) := by
  obtain ⟨k, a, e⟩ := int_split (show 0 < heap by omega)
  have hp := pow_pos' k
  refine took_of k a e (by omega) ?_
  have ha : a ≠ 0 := by
    rintro rfl
    rw [e] at h
    have : (2 : Int) ^ k * (2 * ((0 : Nat) : Int) + 1) = 2 ^ k := by simp
    rw [this, sb_pow] at h; cases h
  have hm : (2 : Int) ^ k * 1 ≤ 2 ^ k * (a : Int) := Int.mul_le_mul_of_nonneg_left (by omega) (by omega)
  have e2 : heap = 2 * (2 ^ k * (a : Int)) + 2 ^ k := by
    rw [e, Int.mul_add, Int.mul_one, ← Int.mul_assoc, Int.mul_comm (2 ^ k) 2, Int.mul_assoc]
  omega

theorem turn_took {left limit wish : Int} (h : Inv left limit) (hp : 0 < left) : Took (left - (wish.fmod limit + 1)) (wish.fmod limit + 1) := by
  obtain ⟨_, hl, K, c, e, hK⟩ := h
  have hr0 : 0 ≤ wish.fmod limit := Int.fmod_nonneg_of_pos _ hl
  have hr1 : wish.fmod limit < limit := Int.fmod_lt_of_pos _ hl
  obtain ⟨i, b, eo⟩ := int_split (show 0 < wish.fmod limit + 1 by omega)
  have ho : wish.fmod limit + 1 < 2 ^ K := by omega
  generalize wish.fmod limit + 1 = other at *
  have hi := pow_pos' i
  have hb : (0 : Int) ≤ 2 ^ i * (2 * (b : Int)) := Int.mul_nonneg (by omega) (by omega)
  have hio : (2 : Int) ^ i ≤ other := by rw [eo, Int.mul_add, Int.mul_one]; omega
  have hiK : i < K := by
    rcases Nat.lt_or_ge i K with h | h
    · exact h
    · have : (2 : Nat) ^ K ≤ 2 ^ i := Nat.pow_le_pow_right (by decide) h
      have h' : (2 : Int) ^ K ≤ 2 ^ i := by rw [← kbt_cast, ← kbt_cast]; omega
      omega
  obtain ⟨j, rfl⟩ : ∃ j, K = i + (j + 1) := ⟨K - i - 1, by omega⟩
  have eK : left = 2 ^ i * (2 * (2 ^ j * c)) := by
    rw [e, Int.pow_add, Int.pow_succ, Int.mul_assoc, Int.mul_comm (2 ^ j) 2, Int.mul_assoc]
  have e1 : left - other = 2 ^ i * (2 * (2 ^ j * c - b - 1) + 1) := by
    rw [eK, eo, ← Int.mul_sub]; congr 1; omega
  refine took_of i _ e1 ?_ hio
  -- left - other > 0
  have hc : 0 < c := by
    rcases Int.lt_or_le 0 c with h | h
    · exact h
    · have : 2 ^ (i + (j + 1)) * c ≤ 0 := Int.mul_nonpos_of_nonneg_of_nonpos (Int.le_of_lt (pow_pos' _)) h
      omega
  have hge : (2 : Int) ^ (i + (j + 1)) * 1 ≤ 2 ^ (i + (j + 1)) * c := Int.mul_le_mul_of_nonneg_left (by omega) (Int.le_of_lt (pow_pos' _))
  have hpos : 0 < left - other := by omega
  rw [e1] at hpos
  rcases Int.lt_or_le (2 ^ j * c - b - 1) 0 with h | h
  · exfalso
    have : 2 ^ i * (2 * (2 ^ j * c - ↑b - 1) + 1) ≤ 0 := Int.mul_nonpos_of_nonneg_of_nonpos (by omega) (by omega)
    omega
  · exact h
end Mine

namespace Mine
local macro_rules | `(tactic| walk_at "call ref") => `(tactic| (k_here; k_dflt (refine wpAny_call ?_; refine' code_def ?k1 ?k2 ?k3 ?k4 ?k5 ?kA ?kF ?kK ?k6 ?k7 ?k8 ?k9 ?kB ?_ ?c2 ?c3 ?c4 ?c5; (case kA => exact rfl); (case kF => exact rfl); (case kK => first | exact rfl | assumption); (case k1 => k_asm); (case k2 => k_asm); (case k3 => k_asm); (case k4 => k_asm); (case k5 => k_asm); (case k6 => k_is); (case k7 => k_is); (case k8 => ktr_room); (case k9 => exact BindsTo.of_eq rfl); (case c5 => decide); (case kB => exact locs rfl); (case c2 => exact rfl); (case c3 => exact rfl); (case c4 => exact rfl); k_whole; intro g' L' h' FG' F' N' B' X' T'; (try dsimp only); (try k_lift B'); (try k_fold))))
local macro_rules | `(tactic| walk_at "call ref") => `(tactic| (k_here; k_dflt (refine' Claim.use (sb_claim _ _ _ _ _ _ _) ?k1 ?k2 ?k3 ?k4 ?k5 ?kK ?kp ?kd ?ku ?_; (case k1 => k_asm); (case k2 => k_asm); (case k3 => k_asm); (case k4 => k_asm); (case k5 => k_asm); (case kK => first | exact rfl | assumption); (case kp => trivial); (case kd => ktr_room); (case ku => ktr_units); intro t9 h9 tk9 F9 N9; (try dsimp only); (try k_fold))))
local macro_rules | `(tactic| walk_at "call ref") => `(tactic| (k_here; k_dflt (refine' Claim.use (low_claim _ _ _ _ _ _ _) ?k1 ?k2 ?k3 ?k4 ?k5 ?kK ?kp ?kd ?ku ?_; (case k1 => k_asm); (case k2 => k_asm); (case k3 => k_asm); (case k4 => k_asm); (case k5 => k_asm); (case kK => first | exact rfl | assumption); (case kp => trivial); (case kd => ktr_room); (case ku => ktr_units); intro t9 h9 tk9 F9 N9; (try dsimp only); (try k_fold))))
local macro_rules | `(tactic| walk_at "exec For Name Name cons nil") => `(tactic| (k_here; (rename Fr _ _ _ _ => lF'); (with_unfolding_all refine' For_invVF lF' ?k1 ?k2 ?_ ?k3 ?k4; (case k1 => exact rfl); (case k2 => exact rfl); (case k3 => (intro _; rfl)); (case k4 => first | passes_own | with_unfolding_all passes_own); k_whole)))

theorem took_claim (w : World) (mean mg mb) (news : List (Addr × Obj)) (left limit : Int) (t1 t2 t3 : Tok) : Claim w mean mg mb 96 news (Took left limit) [.int left t1, .int (lowOf left) t2, .int limit t3] (fun _ => .bool true) 4 := by
  intro dp un gd cn cs a ccd cl outer A₀ base h₀ L m s Q E B F X N T hk hp hd hu hret
  have h := right_claim w mean mg mb news left (lowOf left) limit t1 t2 t3
  rw [hp.right] at h
  exact h dp un gd cn cs a ccd cl outer A₀ base h₀ L m s Q E B F X N T hk hp.tp hd hu hret

theorem start_no' {heap : Int} (h2 : 2 ≤ heap) (h : ¬ (sbOf heap = true)) : Took heap (heap - 1) := start_no h2 (by simpa using h)

theorem sb_end {n : Int} (h0 : 0 ≤ n) (h : ¬ 0 < n) : (sbOf n == false) = true := by
  have e : n = 0 := by omega
  subst e; rfl

def PlayEnd (h₀ : Heap) (L : Addr) (led : List (Addr × Obj)) (y1 y2 : Str) (P : Int → Int → Prop) (s₁ : Shared) (Q : Flow → Shared → Prop) (f : Flow) (s₂ : Shared) : Prop :=
  match f with
  | .ret v => Q (.ret v) s₂
  | .brk => Q .next s₂
  | _ => ∃ h' tk m' a b ta tb, s₂ = { s₁ with heap := h', toks := tk } ∧ Fr h₀ L h' m' ∧ News h₀ L h' led ∧ m' y1 = some (Value.int a ta) ∧ m' y2 = some (Value.int b tb) ∧ P a b

theorem PlayEnd.mk {h₀ : Heap} {L : Addr} {led : List (Addr × Obj)} {y1 y2 : Str} {P : Int → Int → Prop} {s₁ : Shared} {Q : Flow → Shared → Prop} {h' : Heap} {tk : Nat} {m' : Str → Option Value} {a b : Int} {ta tb : Tok}
    (F : Fr h₀ L h' m') (N : News h₀ L h' led) (e1 : m' y1 = some (Value.int a ta)) (e2 : m' y2 = some (Value.int b tb)) (hp : P a b) : PlayEnd h₀ L led y1 y2 P s₁ Q .next { s₁ with heap := h', toks := tk } :=
  ⟨h', tk, m', a, b, ta, tb, rfl, F, N, e1, e2, hp⟩

section
variable {prog : Program} {w : World} {A : Around} {E : Value → Shared → Prop} {s : Shared} {env : Env} {h₀ : Heap} {x : Str} {body : List Stmt} {Q : Flow → Shared → Prop}
theorem map_two' {m₁ : Str → Option Value} {x y1 y2 : Str} {v u1 u2 : Value} (h1 : m₁ y1 = some u1) (h2 : m₁ y2 = some u2) :
    (fun y => if y = x then some v else m₁ y) = (fun y => if y = x then some v else if y = y1 then some u1 else if y = y2 then some u2 else m₁ y) := by
  funext y
  by_cases e0 : y = x
  · simp [e0]
  · by_cases e1 : y = y1
    · subst e1; simp [e0, h1]
    · by_cases e2 : y = y2
      · subst e2; simp [e0, e1, h2]
      · simp [e0, e1, e2]
theorem map_two'' {m₁ : Str → Option Value} {y1 y2 : Str} {u1 u2 : Value} (h1 : m₁ y1 = some u1) (h2 : m₁ y2 = some u2) :
    m₁ = (fun y => if y = y1 then some u1 else if y = y2 then some u2 else m₁ y) := by
  funext y
  by_cases e1 : y = y1
  · subst e1; simp [h1]
  · by_cases e2 : y = y2
    · subst e2; simp [e1, h2]
    · simp [e1, e2]
theorem loop2 {l : Addr} {vs : List Value} {ns : List Int} {nn : Nat} {m₀ : Str → Option Value} {news : List (Addr × Obj)} (y1 y2 : Str) (P : Int → Int → Prop) {a₀ b₀ : Int} {ta tb : Tok}
    (hh : A.handled = none) (hl : (l, listOf vs.toArray nn) ∈ news) (hi : IntsAre vs ns) (F : Fr h₀ env.locals s.heap m₀) (N : News h₀ env.locals s.heap news) (e1 : m₀ y1 = some (.int a₀ ta)) (e2 : m₀ y2 = some (.int b₀ tb)) (hp : P a₀ b₀)
    (turn : ∀ (a b : Int) (ta tb : Tok) (n : Int) (t : Tok) (u : Str → Option Value) (own : List (Addr × Obj)) (h : Heap) (tk : Nat), P a b →
      Fr h₀ env.locals h (fun y => if y = x then some (.int n t) else if y = y1 then some (.int a ta) else if y = y2 then some (.int b tb) else u y) → News h₀ env.locals h (news ++ own) →
      wpAny (model prog w) A (execs body env) (PlayEnd h₀ env.locals (news ++ own) y1 y2 P { s with heap := h, toks := tk } Q) E { s with heap := h, toks := tk })
    (done : ∀ (a b : Int) (ta tb : Tok) (u : Str → Option Value) (h : Heap) (tk : Nat), P a b → Fr h₀ env.locals h (fun y => if y = y1 then some (.int a ta) else if y = y2 then some (.int b tb) else u y) → News h₀ env.locals h news → Q .next { s with heap := h, toks := tk }) :
    wpAny (model prog w) A (pyIter (.ref l)) (fun it s₂ => LoopAtV prog w A h₀ env x body Q E it s₂) E s := by
  refine kdl_iter (fun _ m nx => nx = news ∧ ∃ a b ta tb, m y1 = some (.int a ta) ∧ m y2 = some (.int b tb) ∧ P a b) hh hl F N ⟨rfl, a₀, b₀, ta, tb, e1, e2, hp⟩ ?_ ?_
  · rintro i v m₁ news₁ h tk own hv hoff _ ⟨rfl, a, b, ta, tb, e1, e2, hp⟩ F₁ N₁
    have hi' : i < ns.length := by rw [← hi.length]; exact (List.getElem?_eq_some_iff.mp hv).1
    obtain ⟨t, hx⟩ := hi.get i (ns[i]'hi') (List.getElem?_eq_getElem hi')
    have ev : v = .int (ns[i]'hi') t := by rw [hx] at hv; exact (Option.some.inj hv).symm
    subst ev
    rw [map_two' e1 e2] at F₁
    refine wpAny_mono (turn a b ta tb _ t m₁ own h tk hp F₁ N₁) (fun f s₂ p => ?_) fun _ _ x => x
    have up : (∃ h' tk' m' a b ta tb, s₂ = { ({ s with heap := h, toks := tk } : Shared) with heap := h', toks := tk' } ∧ Fr h₀ env.locals h' m' ∧ News h₀ env.locals h' (news₁ ++ own) ∧ m' y1 = some (Value.int a ta) ∧ m' y2 = some (Value.int b tb) ∧ P a b) →
        InvEndG h₀ env.locals (fun m' nx => (l, listOf vs.toArray nn) ∈ nx ∧ nx = news₁ ∧ ∃ a b ta tb, m' y1 = some (.int a ta) ∧ m' y2 = some (.int b tb) ∧ P a b) own { s with heap := h, toks := tk } s₂ := by
      rintro ⟨h', tk', m', a, b, ta, tb, e, F', N', e1, e2, hp⟩
      exact ⟨h', tk', m', news₁ ++ own, news₁, e, F', N', fun p hp => List.mem_append_left _ hp, fun p hp => List.mem_append_right _ hp, hoff, hl, rfl, a, b, ta, tb, e1, e2, hp⟩
    cases f with
    | ret v => exact p
    | brk => exact p
    | next => exact up p
    | cont => exact up p
  · rintro m₁ news₁ h tk ⟨rfl, a, b, ta, tb, e1, e2, hp⟩ F₁ N₁
    rw [map_two'' e1 e2] at F₁
    exact done a b ta tb m₁ h tk hp F₁ N₁
end
local macro_rules | `(tactic| walk_at "call ref") => `(tactic| (k_here; k_dflt (refine' Claim.use (took_claim _ _ _ _ _ _ _ _ _ _) ?k1 ?k2 ?k3 ?k4 ?k5 ?kK ?kp ?kd ?ku ?_; (case k1 => k_asm); (case k2 => k_asm); (case k3 => k_asm); (case k4 => k_asm); (case k5 => k_asm); (case kK => first | exact rfl | assumption); (case kp => first | exact start_no' (by assumption) (by assumption) | exact start_no (by assumption) (by assumption) | exact turn_took (by assumption) (by assumption)); (case kd => ktr_room); (case ku => ktr_units); intro t9 h9 tk9 F9 N9; (try dsimp only); (try k_fold))))

set_option maxHeartbeats 8000000 in
theorem played_claim (w : World) (mean mg mb) (news : List (Addr × Obj)) (heap : Int) (t : Tok) (l : Addr) (vs : List Value) (n : Nat) (ns : List Int) :
    Claim w mean mg mb 103 news ((l, listOf vs.toArray n) ∈ news ∧ IntsAre vs ns ∧ 2 ≤ heap) [.int heap t, .ref l] (fun _ => .bool true) 10 := by
  dsimp only [Claim]
  k_fill
  w_top off
  intro dp un gd cn cs a ccd cl outer A₀ base h₀ L m s Q E B F X N T hk hp hd hu hret
  obtain ⟨hl, hi, h2⟩ := hp
  k_with_none
  k_with "tree" => exact sb_end (by assumption) (by assumption)
  refine wpAny_call ?_
  k_dflt cell_enter
  k_steps
  all_goals (
    (with_unfolding_all refine' loop2 (Str.ofString "left") (Str.ofString "limit") Inv ?q1 hl hi ?q2 ?q3 ?q4 ?q5 ?q6 ?q7 ?q8)
    (case q1 => exact rfl)
    (case q2 => k_asm)
    (case q3 => k_asm)
    (case q4 => rfl)
    (case q5 => rfl)
    (case q6 => first | exact start_sb h2 (by assumption) | exact (start_no h2 (by assumption)).inv)
    (case q7 =>
      intro la li tla tli wi twi u own hh htk hI FF NN
      have hI1 := hI.1
      have hI2 := hI.2.1
      k_steps
      all_goals (
        (with_unfolding_all refine' PlayEnd.mk ?z1 ?z2 ?z3 ?z4 ?z5)
        (case z1 => k_asm)
        (case z2 => k_asm)
        (case z3 => rfl)
        (case z4 => rfl)
        (case z5 => first | assumption | exact (turn_took (by assumption) (by assumption)).inv)))
    (case q8 =>
      intro la li tla tli u hh htk hI FF NN
      have hI1 := hI.1
      k_steps
      all_goals cb_end hret))
end Mine

namespace Mine

def ent (h l : Nat) : Bool := decide (h ≠ 0 ∧ lowOf (h : Int) ≤ (l : Int))
def rowOf (h : Nat) : List Bool := (List.range (h + 1)).map (ent h)
theorem rowOf_length (h : Nat) : (rowOf h).length = h + 1 := by simp [rowOf]
theorem rowOf_at {h l : Nat} (hl : l ≤ h) : (rowOf h)[l]? = some (ent h l) := by
  simp [rowOf, show l < h + 1 by omega]
theorem rowOf_getD {h l : Nat} (hl : l ≤ h) : (rowOf h).getD l false = ent h l := by
  rw [List.getD_eq_getElem?_getD, rowOf_at hl]; rfl
theorem rowOf_takeD {h l k : Nat} (hl : l ≤ h) (hk : l < k) : ((rowOf h).take k).getD l false = ent h l := by
  rw [List.getD_eq_getElem?_getD, List.getElem?_take, if_pos hk, rowOf_at hl]; rfl
theorem rowOf_snoc {h l : Nat} (hl : l ≤ h) : (rowOf h).take (l + 1) = (rowOf h).take l ++ [ent h l] := by
  rw [List.take_add_one, rowOf_at hl]; rfl
theorem rowOf_all (h : Nat) : (rowOf h).take (h + 1) = rowOf h := List.take_of_length_le (Nat.le_of_eq (rowOf_length h))
theorem ent_zero (h : Nat) (hh : h ≤ 16) : ent h 0 = false := by
  have : ∀ h : Nat, h < 17 → ent h 0 = false := by decide +kernel
  exact this h (by omega)
theorem row_start (h : Nat) (hh : h ≤ 16) : (rowOf h).take 1 = [false] := by
  rw [rowOf_snoc (Nat.zero_le h), ent_zero h hh]; rfl
theorem ent_step {h l : Nat} (hh : h ≤ 16) (hl : 1 ≤ l) (hlh : l ≤ h) : ent h l = (ent h (l - 1) || !(ent (h - l) (min l (h - l)))) := by
  have : ∀ h : Nat, h < 17 → ∀ l : Nat, l < 17 → 1 ≤ l → l ≤ h → ent h l = (ent h (l - 1) || !(ent (h - l) (min l (h - l)))) := by decide +kernel
  exact this h (by omega) l (by omega) hl hlh
theorem rowOf_zero : rowOf 0 = [false] := by decide +kernel
/-- what _law_told asks, for a heap from 1 to 16 -/
theorem told_row {h : Nat} (h1 : 1 ≤ h) (h2 : h ≤ 16) : (List.range (h + 1)).map (fun l : Nat => decide (lowOf (h : Int) ≤ (l : Int))) = rowOf h := by
  unfold rowOf
  apply List.map_congr_left
  intro l _
  unfold ent
  simp [show h ≠ 0 by omega]
theorem told_sb {h : Nat} (h1 : 1 ≤ h) (h2 : h ≤ 16) : sbOf (h : Int) = !(ent h (h - 1)) := by
  have : ∀ h : Nat, h < 17 → 1 ≤ h → sbOf (h : Int) = !(ent h (h - 1)) := by decide +kernel
  exact this h (by omega) h1

def RowsAt (led : List (Addr × Obj)) (vs : List Value) : Prop :=
  ∀ i, i < vs.length → ∃ a ws n, vs[i]? = some (.ref a) ∧ (a, listOf ws.toArray n) ∈ led ∧ LSm.BoolsAre ws (rowOf i)
theorem RowsAt.mono {led led' : List (Addr × Obj)} {vs : List Value} (h : RowsAt led vs) (hs : ∀ p ∈ led, p ∈ led') : RowsAt led' vs := by
  intro i hi
  obtain ⟨a, ws, n, e, hm, hb⟩ := h i hi
  exact ⟨a, ws, n, e, hs _ hm, hb⟩
theorem RowsAt.snoc {led : List (Addr × Obj)} {vs : List Value} {R : Addr} {ws : List Value} {n : Nat} (h : RowsAt led vs) (hb : LSm.BoolsAre ws (rowOf vs.length)) : RowsAt ((R, listOf ws.toArray n) :: led) (vs ++ [.ref R]) := by
  intro i hi
  rw [List.length_append, List.length_singleton] at hi
  rcases Nat.lt_or_ge i vs.length with h1 | h1
  · obtain ⟨a, ws, n, e, hm, hb⟩ := h i h1
    exact ⟨a, ws, n, by rw [List.getElem?_append_left h1]; exact e, List.mem_cons_of_mem _ hm, hb⟩
  · have e : i = vs.length := by omega
    subst e
    exact ⟨R, ws, n, by simp, List.mem_cons_self .., hb⟩

def TPost (h₀ : Heap) (L : Addr) (J : (Str → Option Value) → List (Addr × Obj) → Prop) (own : List (Addr × Obj)) (s₁ : Shared) (Q : Flow → Shared → Prop) (f : Flow) (s₂ : Shared) : Prop := InvPostG h₀ L J own s₁ Q f s₂
theorem TPost.next {h₀ : Heap} {L : Addr} {J : (Str → Option Value) → List (Addr × Obj) → Prop} {own : List (Addr × Obj)} {s₁ : Shared} {Q : Flow → Shared → Prop} {h' : Heap} {tk : Nat} {m' : Str → Option Value} {news' nx : List (Addr × Obj)}
    (F : Fr h₀ L h' m') (N : News h₀ L h' news') (hj : J m' nx) (ha : OwnOff own (nx.map (·.1))) (hn : ∀ p ∈ nx, p ∈ news') (ho : ∀ p ∈ own, p ∈ news') : TPost h₀ L J own s₁ Q .next { s₁ with heap := h', toks := tk } :=
  ⟨h', tk, m', news', nx, rfl, F, N, hn, ho, ha, hj⟩

section
variable {prog : Program} {w : World} {A : Around} {E : Value → Shared → Prop} {s : Shared} {env : Env} {h₀ : Heap} {x : Str} {body : List Stmt} {Q : Flow → Shared → Prop}
theorem loopG {r : Addr} {a₀ b₀ : Int} {t₀ u₀ v₀ : Tok} {m₀ : Str → Option Value} {news : List (Addr × Obj)} (n : Nat) (J : Nat → (Str → Option Value) → List (Addr × Obj) → Prop)
    (hh : A.handled = none) (hr : IsRange s.heap r a₀ b₀ 1 t₀ u₀ v₀) (hsmall : Builtin.Range.small a₀ b₀ 1 = true) (hsz : Builtin.Range.rangeSize a₀ b₀ 1 = (n : Int)) (F : Fr h₀ env.locals s.heap m₀) (N : News h₀ env.locals s.heap news) (hj : J 0 m₀ news)
    (turn : ∀ (i : Nat) (t : Tok) m₁ nx h tk own, i < n → OwnOff own (nx.map (·.1)) → J i m₁ nx → Fr h₀ env.locals h (fun y => if y = x then some (.int (a₀ + (i : Int)) t) else m₁ y) → News h₀ env.locals h (nx ++ own) →
      wpAny (model prog w) A (execs body env) (TPost h₀ env.locals (J (i + 1)) own { s with heap := h, toks := tk } Q) E { s with heap := h, toks := tk })
    (done : ∀ m₁ nx h tk, J n m₁ nx → Fr h₀ env.locals h m₁ → News h₀ env.locals h nx → Q .next { s with heap := h, toks := tk }) :
    wpAny (model prog w) A (pyIter (.ref r)) (fun it s₂ => LoopAtV prog w A h₀ env x body Q E it s₂) E s := by
  refine wpAny_pyIter_range hr hsmall ?_
  have W : Walks prog w A s.heap.objs.size [s.heap.objs.size] [s.heap.objs.size] n (fun i v => i < n ∧ ∃ t, v = .int (a₀ + i * 1) t)
      (fun i h => IsRangeIter h s.heap.objs.size (a₀ + (i : Nat) * 1) ((n : Int) - (i : Nat)) 1) := (Walks.range hh _ a₀ 1 n).bound
  refine kdr_loop J W (fun _ h => h) (fun _ h => h) ?_ ?_ ?_ ?_ (by show IsRangeIter _ _ _ _ _; rw [hsz]; simpa using Heap.get?_push_size _ rfl) (F.push _) (fun p hp => ⟨Heap.get?_push_of_some _ (N p hp).1, (N p hp).2⟩) hj ?_ ?_
  · intro i h hi b hb
    rw [List.mem_singleton.mp hb]
    exact ⟨_, hi⟩
  · intro hm
    exact absurd F.ns.lt ((List.mem_singleton.mp hm) ▸ Nat.lt_irrefl _)
  · intro b hb
    rw [List.mem_singleton.mp hb]
    exact next_is_new F
  · intro p hp hI
    exact absurd (Heap.lt_size (N p hp).1) ((List.mem_singleton.mp hI) ▸ Nat.lt_irrefl _)
  · rintro i v m₁ nx h tk own hi ⟨_, t, rfl⟩ hoff hJ F₁ N₁
    have e1 : a₀ + (i : Int) * 1 = a₀ + (i : Int) := by omega
    rw [e1] at F₁
    exact turn i t m₁ nx h tk own hi hoff hJ F₁ N₁
  · exact done
end
end Mine

namespace Mine
local macro_rules | `(tactic| walk_at "mine none") => `(tactic| skip)
def Hold (P : Prop) : Prop := P
theorem hold {P : Prop} (h : Hold P) : P := h
local macro_rules | `(tactic| walk_at "call ref") => `(tactic| (k_here; k_dflt (refine wpAny_call ?_; refine' code_def ?k1 ?k2 ?k3 ?k4 ?k5 ?kA ?kF ?kK ?k6 ?k7 ?k8 ?k9 ?kB ?_ ?c2 ?c3 ?c4 ?c5; (case kA => exact rfl); (case kF => exact rfl); (case kK => first | exact rfl | assumption); (case k1 => k_asm); (case k2 => k_asm); (case k3 => k_asm); (case k4 => k_asm); (case k5 => k_asm); (case k6 => k_is); (case k7 => k_is); (case k8 => ktr_room); (case k9 => exact BindsTo.of_eq rfl); (case c5 => decide); (case kB => exact locs rfl); (case c2 => exact rfl); (case c3 => exact rfl); (case c4 => exact rfl); k_whole; intro g' L' h' FG' F' N' B' X' T'; (try dsimp only); (try k_lift B'); (try k_fold))))
local macro_rules | `(tactic| walk_at "exec For Name Call cons nil") => `(tactic| (k_here; (rename Fr _ _ _ _ => lF'); (with_unfolding_all refine' For_invVF lF' ?k1 ?k2 ?_ ?k3 ?k4; (case k1 => exact rfl); (case k2 => exact rfl); (case k3 => (intro _; rfl)); (case k4 => first | passes_own | with_unfolding_all passes_own); k_whole)))
local macro_rules | `(tactic| walk_at "pyIter ref") => `(tactic| (k_here; refine hold ?_))

abbrev MClaim (w : World) (mean : ExcName → Option Value) (mg mb : Str → Option Value) (f : Addr) (news : List (Addr × Obj)) (pre : Prop) (vs : List Value) (R : Addr → List (Addr × Obj) → Prop) (dn : Nat) : Prop :=
  ∀ (dp un : Nat) (gd : Option (List Code)) (cn : Str) (cs : Scope) (a : Addr) (ccd : Value) (cl : List (Str × Addr)) (outer : List Env) (A₀ : Around) (base h₀ : Heap) (L : Addr) (m : Str → Option Value) (s : Shared) (Q E : Value → Shared → Prop),
    Below A₀ base outer h₀ → Fr h₀ L s.heap m → (hd.heap_39 w.params).In h₀ → News h₀ L s.heap news → Top hd.view_39 (looseW hd.view_39 []) mean mg mb h₀ → cs.kind = .function →
    pre → dp + dn < recursionLimit → un + 8 * dn < cLine → (∀ (T : Addr) (led : List (Addr × Obj)) (h' : Heap) (tk' : Nat), Fr h₀ L h' m → News h₀ L h' (led ++ news) → R T led → Q (.ref T) { s with heap := h', toks := tk' }) →
      wpAny (model PySem.Challenge.rw_nb0017_01.row.prog w) (ktrTop dp un gd cn cs L a ccd cl outer) (call (.ref f) vs) Q E s

def IsTable (n : Int) (T : Addr) (led : List (Addr × Obj)) : Prop := ∃ vs k tl, led = (T, listOf vs.toArray k) :: tl ∧ (vs.length : Int) = n + 1 ∧ RowsAt tl vs

def TabJ (T : Addr) (news : List (Addr × Obj)) (i : Nat) (m : Str → Option Value) (nx : List (Addr × Obj)) : Prop :=
  ∃ vs k tl, nx = (T, listOf vs.toArray k) :: (tl ++ news) ∧ (∀ p ∈ tl ++ news, p.1 ≠ T) ∧ vs.length = i + 1 ∧ RowsAt tl vs ∧ m (Str.ofString "table") = some (.ref T)

def RowJ (R T : Addr) (hp : Nat) (H : Int) (th : Tok) (rest : List (Addr × Obj)) (i : Nat) (m : Str → Option Value) (nx : List (Addr × Obj)) : Prop :=
  ∃ ws k, nx = (R, listOf ws.toArray k) :: rest ∧ LSm.BoolsAre ws ((rowOf hp).take (i + 1)) ∧ m (Str.ofString "row") = some (.ref R) ∧ m (Str.ofString "table") = some (.ref T) ∧ m (Str.ofString "heap") = some (.int H th)

section
variable {prog : Program} {w : World} {A : Around} {E : Value → Shared → Prop} {s : Shared} {env : Env} {h₀ : Heap} {body : List Stmt} {Q : Flow → Shared → Prop}
theorem map_one' {m₁ : Str → Option Value} {x y1 : Str} {v u1 : Value} (h1 : m₁ y1 = some u1) :
    (fun y => if y = x then some v else m₁ y) = (fun y => if y = x then some v else if y = y1 then some u1 else m₁ y) := by
  funext y
  by_cases e0 : y = x
  · simp [e0]
  · by_cases e1 : y = y1
    · subst e1; simp [e0, h1]
    · simp [e0, e1]
theorem map_three' {m₁ : Str → Option Value} {x y1 y2 y3 : Str} {v u1 u2 u3 : Value} (h1 : m₁ y1 = some u1) (h2 : m₁ y2 = some u2) (h3 : m₁ y3 = some u3) :
    (fun y => if y = x then some v else m₁ y) = (fun y => if y = x then some v else if y = y1 then some u1 else if y = y2 then some u2 else if y = y3 then some u3 else m₁ y) := by
  funext y
  by_cases e0 : y = x
  · simp [e0]
  · by_cases e1 : y = y1
    · subst e1; simp [e0, h1]
    · by_cases e2 : y = y2
      · subst e2; simp [e0, e1, h2]
      · by_cases e3 : y = y3
        · subst e3; simp [e0, e1, e2, h3]
        · simp [e0, e1, e2, e3]
theorem range_size (k : Nat) : Builtin.Range.rangeSize 1 ((k : Int) + 1) 1 = (k : Int) := by
  simp [Builtin.Range.rangeSize]; omega
theorem range_small (k : Nat) (h : k ≤ 16) : Builtin.Range.small 1 ((k : Int) + 1) 1 = true := by
  have : ∀ k : Nat, k < 17 → Builtin.Range.small 1 ((k : Int) + 1) 1 = true := by decide +kernel
  exact this k (by omega)

theorem tab_loop {r T r0 : Addr} {b₀ : Int} {t₀ u₀ v₀ : Tok} {m₀ : Str → Option Value} {news : List (Addr × Obj)} {n : Nat} (hn : n ≤ 16) (hb : b₀ = (n : Int) + 1)
    (hh : A.handled = none) (hr : IsRange s.heap r 1 b₀ 1 t₀ u₀ v₀) (F : Fr h₀ env.locals s.heap m₀) (N : News h₀ env.locals s.heap ((T, listOf #[.ref r0] 0) :: (r0, listOf #[.bool false] 0) :: news))
    (hr0 : ∀ p ∈ news, p.1 ≠ T) (hrT : r0 ≠ T) (e1 : m₀ (Str.ofString "table") = some (.ref T))
    (turn : ∀ (i : Nat) (t : Tok) (vs : List Value) (k : Nat) (tl own : List (Addr × Obj)) (u : Str → Option Value) (h : Heap) (tk : Nat), i < n → vs.length = i + 1 → RowsAt tl vs → (∀ p ∈ (tl ++ news) ++ own, p.1 ≠ T) → OwnOff own (((T, listOf vs.toArray k) :: (tl ++ news)).map (·.1)) →
      Fr h₀ env.locals h (fun y => if y = Str.ofString "heap" then some (.int (1 + (i : Int)) t) else if y = Str.ofString "table" then some (.ref T) else u y) → News h₀ env.locals h ((T, listOf vs.toArray k) :: ((tl ++ news) ++ own)) →
      wpAny (model prog w) A (execs body env) (TPost h₀ env.locals (TabJ T news (i + 1)) own { s with heap := h, toks := tk } Q) E { s with heap := h, toks := tk })
    (done : ∀ (vs : List Value) (k : Nat) (tl : List (Addr × Obj)) (u : Str → Option Value) h tk, vs.length = n + 1 → RowsAt tl vs → Fr h₀ env.locals h (fun y => if y = Str.ofString "table" then some (.ref T) else u y) → News h₀ env.locals h ((T, listOf vs.toArray k) :: (tl ++ news)) → Q .next { s with heap := h, toks := tk }) :
    wpAny (model prog w) A (pyIter (.ref r)) (fun it s₂ => LoopAtV prog w A h₀ env (Str.ofString "heap") body Q E it s₂) E s := by
  subst hb
  refine loopG n (TabJ T news) hh hr (range_small n hn) (range_size n) F N ?_ ?_ ?_
  · refine ⟨[.ref r0], 0, [(r0, listOf #[.bool false] 0)], rfl, ?_, rfl, ?_, e1⟩
    · intro p hp
      rcases List.mem_cons.mp hp with rfl | hp
      · exact hrT
      · exact hr0 p hp
    · intro i hi
      have : i = 0 := by simpa using hi
      subst this
      exact ⟨r0, [.bool false], 0, rfl, List.mem_cons_self .., by rw [rowOf_zero]; exact .cons _ .nil⟩
  · rintro i t m₁ nx h tk own hi hoff ⟨vs, k, tl, rfl, hT, hv, hR, e⟩ F₁ N₁
    rw [map_one' e] at F₁
    refine turn i t vs k tl own m₁ h tk hi hv hR ?_ hoff F₁ N₁
    intro p hp
    rcases List.mem_append.mp hp with hp | hp
    · exact hT p hp
    · exact hoff p hp T (List.mem_cons_self ..)
  · rintro m₁ nx h tk ⟨vs, k, tl, rfl, hT, hv, hR, e⟩ F₁ N₁
    have : m₁ = fun y => if y = Str.ofString "table" then some (.ref T) else m₁ y := by
      funext y
      by_cases e1 : y = Str.ofString "table"
      · subst e1; simp [e]
      · simp [e1]
    rw [this] at F₁
    exact done vs k tl m₁ h tk hv hR F₁ N₁

theorem row_loop {r R T : Addr} {b₀ H : Int} {th : Tok} {t₀ u₀ v₀ : Tok} {m₀ : Str → Option Value} {rest : List (Addr × Obj)} {hp : Nat} (hn : hp ≤ 16) (hH : H = (hp : Int)) (hb : b₀ = H + 1)
    (hh : A.handled = none) (hr : IsRange s.heap r 1 b₀ 1 t₀ u₀ v₀) (F : Fr h₀ env.locals s.heap m₀) (N : News h₀ env.locals s.heap ((R, listOf #[.bool false] 0) :: rest)) (hR : ∀ p ∈ rest, p.1 ≠ R)
    (e1 : m₀ (Str.ofString "row") = some (.ref R)) (e2 : m₀ (Str.ofString "table") = some (.ref T)) (e3 : m₀ (Str.ofString "heap") = some (.int H th))
    (turn : ∀ (i : Nat) (t : Tok) (ws : List Value) (k : Nat) (own : List (Addr × Obj)) (u : Str → Option Value) (h : Heap) (tk : Nat), i < hp → LSm.BoolsAre ws ((rowOf hp).take (i + 1)) → (∀ p ∈ rest ++ own, p.1 ≠ R) →
      Fr h₀ env.locals h (fun y => if y = Str.ofString "limit" then some (.int (1 + (i : Int)) t) else if y = Str.ofString "row" then some (.ref R) else if y = Str.ofString "table" then some (.ref T) else if y = Str.ofString "heap" then some (.int H th) else u y) → News h₀ env.locals h ((R, listOf ws.toArray k) :: (rest ++ own)) →
      OwnOff own (R :: rest.map (·.1)) →
      wpAny (model prog w) A (execs body env) (TPost h₀ env.locals (RowJ R T hp H th rest (i + 1)) own { s with heap := h, toks := tk } Q) E { s with heap := h, toks := tk })
    (done : ∀ (ws : List Value) (k : Nat) (u : Str → Option Value) h tk, LSm.BoolsAre ws (rowOf hp) → Fr h₀ env.locals h (fun y => if y = Str.ofString "row" then some (.ref R) else if y = Str.ofString "table" then some (.ref T) else if y = Str.ofString "heap" then some (.int H th) else u y) → News h₀ env.locals h ((R, listOf ws.toArray k) :: rest) → Q .next { s with heap := h, toks := tk }) :
    wpAny (model prog w) A (pyIter (.ref r)) (fun it s₂ => LoopAtV prog w A h₀ env (Str.ofString "limit") body Q E it s₂) E s := by
  subst hb hH
  refine loopG hp (RowJ R T hp (hp : Int) th rest) hh hr (range_small hp hn) (range_size hp) F N ?_ ?_ ?_
  · exact ⟨[.bool false], 0, rfl, by rw [row_start hp hn]; exact .cons _ .nil, e1, e2, e3⟩
  · rintro i t m₁ nx h tk own hi hoff ⟨ws, k, rfl, hb, e1, e2, e3⟩ F₁ N₁
    rw [map_three' e1 e2 e3] at F₁
    refine turn i t ws k own m₁ h tk hi hb ?_ F₁ N₁ hoff
    intro p hp
    rcases List.mem_append.mp hp with hp | hp
    · exact hR p hp
    · exact hoff p hp R (List.mem_cons_self ..)
  · rintro m₁ nx h tk ⟨ws, k, rfl, hb, e1, e2, e3⟩ F₁ N₁
    have : m₁ = fun y => if y = Str.ofString "row" then some (.ref R) else if y = Str.ofString "table" then some (.ref T) else if y = Str.ofString "heap" then some (.int (hp : Int) th) else m₁ y := by
      funext y
      by_cases a1 : y = Str.ofString "row"
      · subst a1; simp [e1]
      · by_cases a2 : y = Str.ofString "table"
        · subst a2; simp [e2, a1]
        · by_cases a3 : y = Str.ofString "heap"
          · subst a3; simp [e3, a1, a2]
          · simp [a1, a2, a3]
    rw [this] at F₁
    rw [rowOf_all] at hb
    exact done ws k m₁ h tk hb F₁ N₁
end

theorem ne_of_allLt {d : Nat} {l : List (Addr × Obj)} (h : AllLt d l) : ∀ p ∈ l, p.1 ≠ d := by
  induction l with
  | nil => intro p hp; cases hp
  | cons q r ih =>
    intro p hp
    rcases List.mem_cons.mp hp with rfl | hp
    · exact Nat.ne_of_lt h.1
    · exact ih h.2 p hp


theorem item_any {prog : Program} {w : World} {A : Around} {E : Value → Shared → Prop} {s : Shared} {h₀ : Heap} {L : Addr} {news : List (Addr × Obj)} {value slice : PySem.Expr} {l : Addr} {vs : List Value} {n : Nat} {k : Int} {u : Tok} {v : Value} {Q : Value → Shared → Prop}
    (N : News h₀ L s.heap news) (hm : (l, listOf vs.toArray n) ∈ news) (hx : vs[k.toNat]? = some v) (h0 : 0 ≤ k) (hhi : k < 2 ^ 63) (h : Q v s)
    (hs : subscripted slice false (.ref l) (.int k u) = operate [.ref l, .int k u] (getItem (.ref l) (.int k u)) := by with_unfolding_all rfl) :
    wpAny (model prog w) A (subscriptTail value slice (.ref l) (.int k u)) Q E s :=
  tail_any (PySem.IsL.isList (n := n) (N _ hm).1).typeIs slot_list_getitem.lookup (wpAny_getItem_list (PySem.IsL.isList (n := n) (N _ hm).1) h0 hhi (by simpa using hx) h) hs

section
variable {s₁ : Shared} {h₀ h' : Heap} {L : Addr} {Q : Flow → Shared → Prop} {tk : Nat} {m' : Str → Option Value}
theorem row_end {R T : Addr} {hp i : Nat} {H : Int} {th : Tok} {rest own : List (Addr × Obj)} {ws : List Value} {b : Bool} {k : Nat}
    (F : Fr h₀ L h' m') (N : News h₀ L h' ((R, listOf (ws.toArray.push (.bool b)) (k + 1)) :: (rest ++ own))) (hb : LSm.BoolsAre ws ((rowOf hp).take (i + 1))) (hi : i < hp) (hv : b = ent hp (i + 1))
    (hoff : OwnOff own (R :: rest.map (·.1))) (e1 : m' (Str.ofString "row") = some (.ref R)) (e2 : m' (Str.ofString "table") = some (.ref T)) (e3 : m' (Str.ofString "heap") = some (.int H th)) :
    TPost h₀ L (RowJ R T hp H th rest (i + 1)) own s₁ Q .next { s₁ with heap := h', toks := tk } := by
  subst hv
  have e : ws.toArray.push (Value.bool (ent hp (i + 1))) = (ws ++ [Value.bool (ent hp (i + 1))]).toArray := by simp
  rw [e] at N
  refine TPost.next (nx := (R, listOf (ws ++ [Value.bool (ent hp (i + 1))]).toArray (k + 1)) :: rest) F N ⟨_, k + 1, rfl, ?_, e1, e2, e3⟩ hoff ?_ ?_
  · rw [rowOf_snoc (show i + 1 ≤ hp by omega)]
    exact kbo_app hb (.cons _ .nil)
  · intro p hp
    rcases List.mem_cons.mp hp with rfl | hp
    · exact List.mem_cons_self ..
    · exact List.mem_cons_of_mem _ (List.mem_append_left _ hp)
  · exact fun p hp => List.mem_cons_of_mem _ (List.mem_append_right _ hp)
theorem tab_end {R T : Addr} {i : Nat} {tl news own : List (Addr × Obj)} {ws vs : List Value} {k kr : Nat}
    (F : Fr h₀ L h' m') (N : News h₀ L h' ((R, listOf ws.toArray kr) :: (T, listOf (vs.toArray.push (.ref R)) (k + 1)) :: ((tl ++ news) ++ own))) (hb : LSm.BoolsAre ws (rowOf (i + 1))) (hv : vs.length = i + 1) (hRows : RowsAt tl vs)
    (hT : ∀ p ∈ (tl ++ news) ++ own, p.1 ≠ T) (hRT : R ≠ T) (hR : ∀ p ∈ (tl ++ news) ++ own, p.1 ≠ R)
    (hoff : OwnOff own (((T, listOf vs.toArray k) :: (tl ++ news)).map (·.1))) (e1 : m' (Str.ofString "table") = some (.ref T)) :
    TPost h₀ L (TabJ T news (i + 1)) own s₁ Q .next { s₁ with heap := h', toks := tk } := by
  have e : vs.toArray.push (Value.ref R) = (vs ++ [Value.ref R]).toArray := by simp
  rw [e] at N
  refine TPost.next (nx := (T, listOf (vs ++ [Value.ref R]).toArray (k + 1)) :: (((R, listOf ws.toArray kr) :: tl) ++ news)) F N ⟨_, k + 1, (R, listOf ws.toArray kr) :: tl, rfl, ?_, by simp [hv], RowsAt.snoc hRows (by rw [hv]; exact hb), e1⟩ ?_ ?_ ?_
  · intro p hp
    rcases List.mem_cons.mp hp with rfl | hp
    · exact hRT
    · exact hT p (List.mem_append_left _ hp)
  · intro p hp b hb
    rcases List.mem_cons.mp hb with rfl | hb
    · exact hoff p hp _ (List.mem_cons_self ..)
    · rcases List.mem_cons.mp hb with rfl | hb
      · exact hR p (List.mem_append_right _ hp)
      · exact hoff p hp _ (List.mem_cons_of_mem _ hb)
  · intro p hp
    rcases List.mem_cons.mp hp with rfl | hp
    · exact List.mem_cons_of_mem _ (List.mem_cons_self ..)
    · rcases List.mem_cons.mp hp with rfl | hp
      · exact List.mem_cons_self ..
      · exact List.mem_cons_of_mem _ (List.mem_cons_of_mem _ (List.mem_append_left _ hp))
  · exact fun p hp => List.mem_cons_of_mem _ (List.mem_cons_of_mem _ (List.mem_append_right _ hp))
end
local macro_rules | `(tactic| walk_at "subscriptTail") => `(tactic| (k_here; (with_reducible show wpAny _ _ (subscriptTail _ _ (Value.ref _) (Value.int _ _)) _ _ _); k_dflt (refine' item_any ?k1 ?k2 ?k3 ?k4 ?k5 ?_ ?k7; (case k1 => k_asm); (case k2 => first | assumption | exact List.mem_cons_of_mem _ (List.mem_cons_of_mem _ (by assumption)) | k_mem); (case k3 => assumption); (case k4 => first | omega | (split <;> omega)); (case k5 => first | omega | (split <;> omega)); (case k7 => with_unfolding_all rfl); k_whole)))
local macro_rules | `(tactic| walk_at "call builtin:list.append") => `(tactic| (k_here; (with_reducible show wpAny _ _ (call (Value.builtin _) [Value.ref _, _]) _ _ _); k_dflt (refine' append_K ?k1 ?k2 ?k3 ?_ ?z; (case k1 => k_asm); (case k2 => k_asm); (case k3 => first | exact Upd.head (by assumption) | exact Upd.tail (by assumption) (Upd.head (by assumption))); (case z => (rw [List.size_toArray, sizeLine_eq]; omega)); k_whole); intro h' F' N'))

set_option maxHeartbeats 8000000 in
theorem table_claim (w : World) (mean mg mb) (news : List (Addr × Obj)) (n : Int) (t : Tok) :
    MClaim w mean mg mb 70 news (12 ≤ n ∧ n ≤ 16) [.int n t] (IsTable n) 10 := by
  dsimp only [MClaim]
  k_fill
  w_top off
  intro dp un gd cn cs a ccd cl outer A₀ base h₀ L m s Q E B F X N T hk hp hd hu hret
  obtain ⟨hn1, hn2⟩ := hp
  k_with_none
  refine wpAny_call ?_
  k_dflt cell_enter
  k_steps
  unfold Hold
  (rename (_ ∧ AllLt _ _) => hlt0)
  (with_unfolding_all refine' tab_loop (n := n.toNat) ?q1 ?q2 ?q3 ?q4 ?q5 ?q6 ?q7 ?q8 ?q9 ?q10 ?q11)
  (case q1 => omega)
  (case q3 => exact rfl)
  (case q4 => assumption)
  (case q2 => omega)
  (case q5 => k_asm)
  (case q6 => k_asm)
  (case q7 => exact ne_of_allLt hlt0.2)
  (case q8 => exact Nat.ne_of_lt hlt0.1)
  (case q9 => rfl)
  (case q10 =>
    intro i ti vs k tl own u hh htk hi hv hRows hT hoff FF NN
    k_steps
    unfold Hold
    (rename (_ ∧ AllLt _ _) => hlt1)
    have hRT := Nat.ne_of_gt hlt1.1
    have hRne := ne_of_allLt hlt1.2
    (with_unfolding_all refine' row_loop (hp := i + 1) ?r1 ?r2 ?r3 ?r4 ?r5 ?r6 ?r7 ?r8 ?r9 ?r10 ?r11 ?r12 ?r13)
    (case r1 => omega)
    (case r4 => exact rfl)
    (case r5 => assumption)
    (case r3 => rfl)
    (case r6 => k_asm)
    (case r7 => k_asm)
    (case r8 => exact List.forall_mem_cons.mpr ⟨Nat.ne_of_lt hlt1.1, hRne⟩)
    (case r9 => rfl)
    (case r10 => rfl)
    (case r11 => rfl)
    (case r2 => omega)
    (case r12 =>
      intro j tj ws kk own' u' hh' htk' hj hb hne FF' NN' hoff'
      obtain ⟨ra, ws', n', hva, hma, hba⟩ := hRows (i - j) (by omega)
      have hwl : ws.length = j + 1 := by rw [hb.length, List.length_take, rowOf_length]; omega
      have hrow : ws[((1 + (j : Int)) - 1).toNat]? = some (.bool (ent (i + 1) j)) := by
        rw [show ((1 + (j : Int)) - 1).toNat = j by omega, kbo_at hb j (by rw [List.length_take, rowOf_length]; omega), rowOf_takeD (by omega) (by omega)]
      have htab : vs[((1 + (i : Int)) - (1 + (j : Int))).toNat]? = some (.ref ra) := by
        rw [show ((1 + (i : Int)) - (1 + (j : Int))).toNat = i - j by omega]; exact hva
      have hmin : ws'[(if 1 + (i : Int) - (1 + (j : Int)) < 1 + (j : Int) then 1 + (i : Int) - (1 + (j : Int)) else 1 + (j : Int)).toNat]? = some (.bool (ent (i - j) (min (j + 1) (i - j)))) := by
        rw [show (if 1 + (i : Int) - (1 + (j : Int)) < 1 + (j : Int) then 1 + (i : Int) - (1 + (j : Int)) else 1 + (j : Int)).toNat = min (j + 1) (i - j) by split <;> omega,
          kbo_at hba _ (by rw [rowOf_length]; omega), rowOf_getD (by omega)]
      have hstep := ent_step (h := i + 1) (l := j + 1) (by omega) (by omega) (by omega)
      simp only [Nat.add_sub_cancel, Nat.add_sub_add_right] at hstep
      have hma' := List.mem_append_left own' (List.mem_append_left own (List.mem_append_left news hma))
      simp only [List.cons_append] at NN' hne
      k_steps
      all_goals (
        (rename (ent _ _ = _) => hE)
        (with_unfolding_all refine' row_end ?z1 ?z2 hb hj ?z3 hoff' ?z4 ?z5 ?z6)
        (case z1 => k_asm)
        (case z2 => k_asm)
        (case z3 => simp only [hstep, hE, Bool.true_or, Bool.false_or])
        (case z4 => rfl)
        (case z5 => rfl)
        (case z6 => rfl)))
    (case r13 =>
      intro ws kk u' hh' htk' hb FF' NN'
      k_steps
      (with_unfolding_all refine' tab_end ?y1 ?y2 hb hv hRows hT hRT hRne hoff ?y4)
      (case y1 => k_asm)
      (case y2 => k_asm)
      (case y4 => rfl)))
  (case q11 =>
    intro vs k tl u hh htk hv hRows FF NN
    k_steps
    exact hret _ (_ :: tl) hh htk (by k_asm) (by k_asm) ⟨vs, k, tl, rfl, by omega, hRows⟩)
end Mine

namespace Mine
local macro_rules | `(tactic| walk_at "call ref") => `(tactic| (k_here; k_dflt (refine wpAny_call ?_; refine' code_def ?k1 ?k2 ?k3 ?k4 ?k5 ?kA ?kF ?kK ?k6 ?k7 ?k8 ?k9 ?kB ?_ ?c2 ?c3 ?c4 ?c5; (case kA => exact rfl); (case kF => exact rfl); (case kK => first | exact rfl | assumption); (case k1 => k_asm); (case k2 => k_asm); (case k3 => k_asm); (case k4 => k_asm); (case k5 => k_asm); (case k6 => k_is); (case k7 => k_is); (case k8 => ktr_room); (case k9 => exact BindsTo.of_eq rfl); (case c5 => decide); (case kB => exact locs rfl); (case c2 => exact rfl); (case c3 => exact rfl); (case c4 => exact rfl); k_whole; intro g' L' h' FG' F' N' B' X' T'; (try dsimp only); (try k_lift B'); (try k_fold))))
local macro_rules | `(tactic| walk_at "call ref") => `(tactic| (k_here; k_dflt (refine' Claim.use (sb_claim _ _ _ _ _ _ _) ?k1 ?k2 ?k3 ?k4 ?k5 ?kK ?kp ?kd ?ku ?_; (case k1 => k_asm); (case k2 => k_asm); (case k3 => k_asm); (case k4 => k_asm); (case k5 => k_asm); (case kK => first | exact rfl | assumption); (case kp => trivial); (case kd => ktr_room); (case ku => ktr_units); intro t9 h9 tk9 F9 N9; (try dsimp only); (try k_fold))))
local macro_rules | `(tactic| walk_at "call ref") => `(tactic| (k_here; k_dflt (refine' Claim.use (low_claim _ _ _ _ _ _ _) ?k1 ?k2 ?k3 ?k4 ?k5 ?kK ?kp ?kd ?ku ?_; (case k1 => k_asm); (case k2 => k_asm); (case k3 => k_asm); (case k4 => k_asm); (case k5 => k_asm); (case kK => first | exact rfl | assumption); (case kp => trivial); (case kd => ktr_room); (case ku => ktr_units); intro t9 h9 tk9 F9 N9; (try dsimp only); (try k_fold))))
local macro_rules | `(tactic| walk_at "compareOp Eq ref ref") => `(tactic| (k_here; refine hold ?_))
local macro_rules | `(tactic| walk_at "CompSrc") => `(tactic| (refine hold ?_))
local macro_rules | `(tactic| walk_at "CompEnd") => `(tactic| (refine hold ?_))
local macro_rules | `(tactic| walk_at "storeName") => `(tactic| (k_here; k_dflt (refine' storeX_C ?F ?N ?c ?U ?d ?_ ?a ?b; (case a => rfl); (case b => rfl); (case F => k_asm); (case N => k_asm); (case c => rfl); (case U => exact UpdF.head (by assumption)); (case d => k_asm); k_whole; intro h' o' F' N' d'; (try dsimp only at N'))))
local macro_rules | `(tactic| walk_at "subscriptTail") => `(tactic| (k_here; (with_reducible show wpAny _ _ (subscriptTail _ _ (Value.ref _) (Value.int _ _)) _ _ _); k_dflt (refine' item_any ?k1 ?k2 ?k3 ?k4 ?k5 ?_ ?k7; (case k1 => k_asm); (case k2 => first | assumption | exact List.mem_cons_of_mem _ (List.mem_cons_of_mem _ (by assumption)) | k_mem); (case k3 => assumption); (case k4 => first | omega | (split <;> omega)); (case k5 => first | omega | (split <;> omega)); (case k7 => with_unfolding_all rfl); k_whole)))

section
variable {prog : Program} {w : World} {A : Around} {h₀ : Heap} {L : Addr} {m : Str → Option Value} {env : Env} {elt : Expr} {x : Str} {scope : Scope} {cl : List (Str × Addr)} {s : Shared} {S : List (Addr × Obj) → Prop} {Fin : List Value → List (Addr × Obj) → Prop} {news : List (Addr × Obj)}
/-- a list comprehension over a range whose element is a truth value -/
theorem comp_bools {n : Nat} {a : Int} (g : Int → Bool)
    (turn : ∀ k t I oI C oC D m₂ ys h tk (E' : Value → Shared → Prop), a ≤ k → k < a + (n : Int) → LCg.NsObj oC m₂ → m₂ x = some (.int k t) → Fr h₀ L h m → News h₀ L h ((I, oI) :: (C, oC) :: (D, LCg.lst ys) :: news) → LCg.Off3 I C D news → ((@Ne Nat I C) ∧ (@Ne Nat I D) ∧ (@Ne Nat C D)) →
      wpAny (model prog w) A (eval elt (compEnvC scope cl C env)) (LCg.CompEnd h₀ L m { s with heap := h, toks := tk } I oI C oC D (LCg.lst ys) S (fun y news' => news' = news ∧ y = .bool (g k))) E' { s with heap := h, toks := tk })
    (fin : ∀ ys, LSm.BoolsAre ys ((List.range n).map fun i : Nat => g (a + (i : Int))) → Fin ys news) : LCg.CompRest prog w A h₀ L m env elt x scope cl s S (fun i v => ∃ t, v = .int (a + (i : Int)) t) Fin n 0 [] news := by
  have key : ∀ (j i : Nat) (ys : List Value), i + j = n → LSm.BoolsAre ys ((List.range i).map fun i : Nat => g (a + (i : Int))) → LCg.CompRest prog w A h₀ L m env elt x scope cl s S (fun i v => ∃ t, v = .int (a + (i : Int)) t) Fin j i ys news := by
    intro j
    induction j with
    | zero =>
      intro i ys hi hy
      have e : i = n := by omega
      subst e
      exact LCg.CompRest.zero (fin ys hy)
    | succ j ih =>
      intro i ys hi hy
      refine LCg.CompRest.succ ?_
      intro v I oI C oC D m₂ h tk E' hv hC hx F N off ne
      obtain ⟨t, hv'⟩ := hv
      rw [hv'] at hx
      refine wpAny_mono (turn _ t I oI C oC D m₂ ys h tk E' (by omega) (by omega) hC hx F N off ne) (fun y s₂ hq => ?_) fun _ _ e => e
      obtain ⟨h', tk', nw, e, F', N', off', hS, hn, hy'⟩ := hq
      rw [hn] at N' off' hS
      refine ⟨h', tk', news, e, F', N', off', hS, ?_⟩
      rw [hy']
      refine ih (i + 1) _ (by omega) ?_
      rw [List.range_succ, List.map_append]
      exact kbo_app hy (.cons _ .nil)
  exact key n 0 [] (by omega) .nil
end

theorem reads_bools {h : Heap} : ∀ {vs : List Value} {bs : List Bool}, LSm.BoolsAre vs bs → ReadsAll h vs (bs.map PyData.bool) []
  | _, _, .nil => .nil
  | _, _, .cons b r => by
    have := ReadsAll.cons (Reads.bool (h := h) b) (reads_bools (h := h) r)
    simpa using this
theorem lay_bools : ∀ bs : List Bool, PyData.canLayAll0 (bs.map PyData.bool) = true
  | [] => by simp [PyData.canLayAll0]
  | b :: r => by simp [PyData.canLayAll0, PyData.canLay0, lay_bools r]
theorem depth_bools : ∀ bs : List Bool, PyData.depthAll (bs.map PyData.bool) ≤ 1
  | [] => by simp [PyData.depthAll]
  | b :: r => by
    have := depth_bools r
    simp only [List.map_cons, PyData.depthAll, PyData.depth]
    omega
theorem shaped_bools (bs : List Bool) : SeqAt.shaped (.list (bs.map PyData.bool)) = true := by
  have h1 := depth_bools bs
  have h2 : PyData.depth (.list (bs.map PyData.bool)) ≤ 64 := by simp only [PyData.depth]; omega
  show (PyData.canLay0 (.list (bs.map PyData.bool)) && decide (PyData.depth (.list (bs.map PyData.bool)) ≤ 64)) = true
  rw [Bool.and_eq_true]
  exact ⟨by simp only [PyData.canLay0]; exact lay_bools bs, decide_eq_true h2⟩
theorem eqv_bools : ∀ bs : List Bool, PyData.eqvAll (bs.map PyData.bool) (bs.map PyData.bool) = true
  | [] => by simp [PyData.eqvAll]
  | b :: r => by simp [PyData.eqvAll, PyData.eqv, eqv_bools r]
theorem eq_rows {prog : Program} {w : World} {A : Around} {E : Value → Shared → Prop} {s : Shared} {h₀ : Heap} {L a b : Addr} {news : List (Addr × Obj)} {xs ys : List Value} {ka kb : Nat} {bs : List Bool} {Q : Value → Shared → Prop}
    (N : News h₀ L s.heap news) (ma : (a, listOf xs.toArray ka) ∈ news) (mb : (b, listOf ys.toArray kb) ∈ news) (ha : LSm.BoolsAre xs bs) (hb : LSm.BoolsAre ys bs) (hu : A.units + 64 < cLine) (h : Q (.bool true) s) :
    wpAny (model prog w) A (compareOp .Eq (.ref a) (.ref b)) Q E s :=
  eq_dataH (reads_list_at (N.get ma) rfl rfl (by simpa using reads_bools ha)) (reads_list_at (N.get mb) rfl rfl (by simpa using reads_bools hb)) (shaped_bools bs) (shaped_bools bs) hu
    (by rw [show PyData.eqv (.list (bs.map PyData.bool)) (.list (bs.map PyData.bool)) = true by simp only [PyData.eqv]; exact eqv_bools bs]; exact h)

theorem range0_size (k : Nat) : Builtin.Range.rangeSize 0 ((k : Int) + 1) 1 = ((k + 1 : Nat) : Int) := by
  simp [Builtin.Range.rangeSize]
theorem range0_small (k : Nat) (h : k ≤ 16) : Builtin.Range.small 0 ((k : Int) + 1) 1 = true := by
  have : ∀ k : Nat, k < 17 → Builtin.Range.small 0 ((k : Int) + 1) 1 = true := by decide +kernel
  exact this k (by omega)
theorem told_bools {h : Nat} {ys : List Value} (h1 : 1 ≤ h) (h2 : h ≤ 16) (hb : LSm.BoolsAre ys ((List.range (h + 1)).map fun i : Nat => decide (lowOf (h : Int) ≤ 0 + (i : Int)))) : LSm.BoolsAre ys (rowOf h) := by
  rw [← told_row h1 h2]; simpa using hb

theorem told_end {h : Nat} (h1 : 1 ≤ h) (h2 : h ≤ 16) : (sbOf (h : Int) == !(ent h (h - 1))) = true := by rw [told_sb h1 h2]; exact beq_self_eq_true _

set_option maxHeartbeats 4000000 in
theorem told_claim (w : World) (mean mg mb) (news : List (Addr × Obj)) (h : Nat) (t : Tok) (l : Addr) (ws : List Value) (n : Nat) :
    Claim w mean mg mb 82 news ((l, listOf ws.toArray n) ∈ news ∧ LSm.BoolsAre ws (rowOf h) ∧ 1 ≤ h ∧ h ≤ 16) [.int (h : Int) t, .ref l] (fun _ => .bool true) 10 := by
  dsimp only [Claim]
  k_fill
  w_top off
  intro dp un gd cn cs a ccd cl outer A₀ base h₀ L m s Q E B F X N T hk hp hd hu hret
  obtain ⟨hl, hb, h1, h2⟩ := hp
  have hitem : ws[((h : Int) - 1).toNat]? = some (.bool (ent h (h - 1))) := by
    rw [show ((h : Int) - 1).toNat = h - 1 by omega, kbo_at hb (h - 1) (by rw [rowOf_length]; omega), rowOf_getD (by omega)]
  k_with_none
  k_with "tree" => exact told_end (by assumption) (by assumption)
  refine wpAny_call ?_
  k_dflt (refine' code_defC ?k1 ?k2 ?k3 ?k4 ?k5 ?kA ?kF ?kK ?k6 ?k7 ?k8 ?k9 ?kB ?kD ?_ ?c2 ?c3 ?c4; (case kA => exact rfl); (case kF => exact rfl); (case kK => first | exact rfl | assumption); (case k1 => k_asm); (case k2 => k_asm); (case k3 => k_asm); (case k4 => k_asm); (case k5 => k_asm); (case k6 => k_is); (case k7 => k_is); (case k8 => ktr_room); (case k9 => exact BindsTo.of_eq rfl); (case kB => exact rfl); (case kD => decide +kernel); (case c2 => exact rfl); (case c3 => exact rfl); (case c4 => exact rfl); k_whole; intro g' L' h' tk' cells' FG' F' N' Y' B' X' T' l1; (have hcell : ∀ p ∈ news, p.1 ≠ L' + 1 := fun p hp => Nat.ne_of_lt (Nat.lt_succ_of_lt (l1 p hp))); (try k_lt l1); k_cells Y'; (try simp only [List.cons_append, List.nil_append] at N'); (try dsimp only); (try k_lift B'); (try k_fold))
  k_steps
  unfold Hold
  (with_unfolding_all refine' LCg.CompSrc.range (n := h + 1) ?q1 ?q2 ?q3 ?q4 ?q5 ?q6 ?q7 ?q8)
  (case q1 => exact rfl)
  (case q4 => assumption)
  (case q2 => k_asm)
  (case q3 => k_asm)
  (case q5 => exact range0_small h h2)
  (case q6 => exact range0_size h)
  (case q7 => (rw [sizeLine_eq]; omega))
  (case q8 =>
    intro gg
    refine comp_bools (fun k => decide (lowOf (h : Int) ≤ k)) ?turn ?fin
    (case turn =>
      intro k t' I oI C oC D m₂ ys hh tk E' hlo hhi hC hx FF NN hoff hne
      k_steps
      unfold Hold
      (with_unfolding_all refine' LCg.CompEnd.intro ?z1 ?z2 _ ?z3 hoff trivial ⟨rfl, rfl⟩)
      (case z1 => k_asm)
      (case z2 => k_asm)
      (case z3 => exact fun _ hp => hp))
    (case fin =>
      intro ys hys
      have hys' := told_bools h1 h2 hys
      k_steps
      unfold Hold
      (with_unfolding_all refine' eq_rows ?y1 ?y2 ?y3 hys' hb ?y4 ?y5)
      (case y1 => k_asm)
      (case y2 => exact List.mem_cons_self ..)
      (case y3 => exact List.mem_cons_of_mem _ (List.mem_cons_of_mem _ hl))
      (case y4 => ktr_units)
      (case y5 =>
        k_steps
        all_goals cb_end hret)))
end Mine

namespace Mine

theorem len_any {prog : Program} {w : World} {A : Around} {E : Value → Shared → Prop} {s : Shared} {h₀ : Heap} {L D : Addr} {news : List (Addr × Obj)} {vs : List Value} {n : Nat} {Q : Value → Shared → Prop}
    (N : News h₀ L s.heap news) (hm : (D, listOf vs.toArray n) ∈ news) (hf : vs.length < 2 ^ 62) (h : Q (.int (vs.length : Nat) (s.toks + 1)) { s with toks := s.toks + 1 + 1 }) :
    wpAny (model prog w) A (call (.builtin "len") [.ref D]) Q E s := KM.len_K N hm (by rw [List.size_toArray]) hf h

theorem told_claim' (w : World) (mean mg mb) (news : List (Addr × Obj)) (h : Nat) (H : Int) (t : Tok) (l : Addr) (ws : List Value) (n : Nat) :
    Claim w mean mg mb 82 news ((l, listOf ws.toArray n) ∈ news ∧ LSm.BoolsAre ws (rowOf h) ∧ H = (h : Int) ∧ 1 ≤ h ∧ h ≤ 16) [.int H t, .ref l] (fun _ => .bool true) 10 := by
  intro dp un gd cn cs a ccd cl outer A₀ base h₀ L m s Q E B F X N T hk hp hd hu hret
  obtain ⟨p1, p2, rfl, p3, p4⟩ := hp
  exact told_claim w mean mg mb news h t l ws n dp un gd cn cs a ccd cl outer A₀ base h₀ L m s Q E B F X N T hk ⟨p1, p2, p3, p4⟩ hd hu hret
local macro_rules | `(tactic| walk_at "call ref") => `(tactic| (k_here; k_dflt (refine wpAny_call ?_; refine' code_def ?k1 ?k2 ?k3 ?k4 ?k5 ?kA ?kF ?kK ?k6 ?k7 ?k8 ?k9 ?kB ?_ ?c2 ?c3 ?c4 ?c5; (case kA => exact rfl); (case kF => exact rfl); (case kK => first | exact rfl | assumption); (case k1 => k_asm); (case k2 => k_asm); (case k3 => k_asm); (case k4 => k_asm); (case k5 => k_asm); (case k6 => k_is); (case k7 => k_is); (case k8 => ktr_room); (case k9 => exact BindsTo.of_eq rfl); (case c5 => decide); (case kB => exact locs rfl); (case c2 => exact rfl); (case c3 => exact rfl); (case c4 => exact rfl); k_whole; intro g' L' h' FG' F' N' B' X' T'; (try dsimp only); (try k_lift B'); (try k_fold))))
local macro_rules | `(tactic| walk_at "exec For Name Call cons nil") => `(tactic| (k_here; (rename Fr _ _ _ _ => lF'); (with_unfolding_all refine' For_invVF lF' ?k1 ?k2 ?_ ?k3 ?k4; (case k1 => exact rfl); (case k2 => exact rfl); (case k3 => (intro _; rfl)); (case k4 => first | passes_own | with_unfolding_all passes_own); k_whole)))
local macro_rules | `(tactic| walk_at "pyIter ref") => `(tactic| (k_here; refine hold ?_))
local macro_rules | `(tactic| walk_at "subscriptTail") => `(tactic| (k_here; (with_reducible show wpAny _ _ (subscriptTail _ _ (Value.ref _) (Value.int _ _)) _ _ _); k_dflt (refine' item_any ?k1 ?k2 ?k3 ?k4 ?k5 ?_ ?k7; (case k1 => k_asm); (case k2 => first | assumption | k_mem); (case k3 => assumption); (case k4 => omega); (case k5 => omega); (case k7 => with_unfolding_all rfl); k_whole)))
local macro_rules | `(tactic| walk_at "call builtin:len") => `(tactic| (k_here; (with_reducible show wpAny _ _ (call (Value.builtin _) [Value.ref _]) _ _ _); k_dflt (refine' len_any ?k1 ?k2 ?k4 ?_; (case k1 => k_asm); (case k2 => assumption); (case k4 => omega); k_whole)))
local macro_rules | `(tactic| walk_at "call ref") => `(tactic| (k_here; k_dflt (refine' Claim.use (told_claim' _ _ _ _ _ _ _ _ _ _ _) ?k1 ?k2 ?k3 ?k4 ?k5 ?kK ?kp ?kd ?ku ?_; (case k1 => k_asm); (case k2 => k_asm); (case k3 => k_asm); (case k4 => k_asm); (case k5 => k_asm); (case kK => first | exact rfl | assumption); (case kp => assumption); (case kd => ktr_room); (case ku => ktr_units); intro t9 h9 tk9 F9 N9; (try dsimp only); (try k_fold))))

def AllJ (T : Addr) (news : List (Addr × Obj)) (_ : Nat) (m : Str → Option Value) (nx : List (Addr × Obj)) : Prop := nx = news ∧ m (Str.ofString "table") = some (.ref T)

set_option maxHeartbeats 4000000 in
theorem all_told_claim (w : World) (mean mg mb) (news : List (Addr × Obj)) (T : Addr) (vs : List Value) (k : Nat) :
    Claim w mean mg mb 89 news ((T, listOf vs.toArray k) ∈ news ∧ RowsAt news vs ∧ 1 ≤ vs.length ∧ vs.length ≤ 17) [.ref T] (fun _ => .bool true) 14 := by
  dsimp only [Claim]
  k_fill
  w_top off
  intro dp un gd cn cs a ccd cl outer A₀ base h₀ L m s Q E B F X N Tp hk hp hd hu hret
  obtain ⟨hT, hRows, h1, h2⟩ := hp
  k_with_none
  refine wpAny_call ?_
  k_dflt cell_enter
  k_steps
  unfold Hold
  (with_unfolding_all refine' loopG (vs.length - 1) (AllJ T news) ?q1 ?q2 ?q3 ?q4 ?q5 ?q6 ?q7 ?q8 ?q9)
  (case q1 => exact rfl)
  (case q2 => assumption)
  (case q3 => (rw [show ((vs.length : Nat) : Int) = ((vs.length - 1 : Nat) : Int) + 1 by omega]; exact range_small _ (by omega)))
  (case q4 => (rw [show ((vs.length : Nat) : Int) = ((vs.length - 1 : Nat) : Int) + 1 by omega]; exact range_size _))
  (case q5 => k_asm)
  (case q6 => k_asm)
  (case q7 => exact ⟨rfl, rfl⟩)
  (case q8 =>
    rintro i ti m₁ nx hh htk own hi hoff ⟨rfl, e1⟩ FF NN
    obtain ⟨ra, ws, n', hva, hma, hba⟩ := hRows (i + 1) (by omega)
    rw [map_one' e1] at FF
    have hTm := List.mem_append_left own hT
    have hpre : (ra, listOf ws.toArray n') ∈ nx ++ own ∧ LSm.BoolsAre ws (rowOf (i + 1)) ∧ (1 + (i : Int)) = ((i + 1 : Nat) : Int) ∧ 1 ≤ i + 1 ∧ i + 1 ≤ 16 := ⟨List.mem_append_left own hma, hba, by omega, by omega, by omega⟩
    have htab : vs[(1 + (i : Int)).toNat]? = some (.ref ra) := by
      rw [show (1 + (i : Int)).toNat = i + 1 by omega]; exact hva
    k_steps
    (with_unfolding_all refine' TPost.next (nx := nx) ?z1 ?z2 ?z3 ?z4 ?z5 ?z6)
    (case z1 => k_asm)
    (case z2 => k_asm)
    (case z3 => exact ⟨rfl, rfl⟩)
    (case z4 => exact hoff)
    (case z5 => exact fun p hp => List.mem_append_left _ hp)
    (case z6 => exact fun p hp => List.mem_append_right _ hp))
  (case q9 =>
    rintro m₁ nx hh htk ⟨rfl, e1⟩ FF NN
    k_steps
    all_goals cb_end hret)
end Mine

namespace Mine
local macro_rules | `(tactic| walk_at "mine none") => `(tactic| skip)

theorem MClaim.use {w : World} {mean : ExcName → Option Value} {mg mb : Str → Option Value} {f : Addr} {news : List (Addr × Obj)} {pre : Prop} {vs : List Value} {R : Addr → List (Addr × Obj) → Prop} {dn : Nat} (C : MClaim w mean mg mb f news pre vs R dn)
    {dp un : Nat} {gd : Option (List Code)} {cn : Str} {cs : Scope} {a : Addr} {ccd : Value} {cl : List (Str × Addr)} {outer : List Env} {A₀ : Around} {base h₀ : Heap} {L : Addr} {m : Str → Option Value} {s : Shared} {Q E : Value → Shared → Prop}
    (k1 : Below A₀ base outer h₀) (k2 : Fr h₀ L s.heap m) (k3 : (hd.heap_39 w.params).In h₀) (k4 : News h₀ L s.heap news) (k5 : Top hd.view_39 (looseW hd.view_39 []) mean mg mb h₀) (kK : cs.kind = .function)
    (kp : pre) (kd : dp + dn < recursionLimit) (ku : un + 8 * dn < cLine) (kR : ∀ (T : Addr) (led : List (Addr × Obj)) (h' : Heap) (tk' : Nat), Fr h₀ L h' m → News h₀ L h' (led ++ news) → R T led → Q (.ref T) { s with heap := h', toks := tk' }) :
    wpAny (model PySem.Challenge.rw_nb0017_01.row.prog w) (ktrTop dp un gd cn cs L a ccd cl outer) (call (.ref f) vs) Q E s := C _ _ _ _ _ _ _ _ _ _ _ _ _ _ _ _ _ k1 k2 k3 k4 k5 kK kp kd ku kR

theorem most_ok (n : Nat) : 12 ≤ (n : Int).fmod 5 + 12 ∧ (n : Int).fmod 5 + 12 ≤ 16 := by
  have h1 := Int.fmod_nonneg_of_pos (n : Int) (show (0 : Int) < 5 by decide)
  have h2 := Int.fmod_lt_of_pos (n : Int) (show (0 : Int) < 5 by decide)
  omega
theorem told_pre {n : Int} {T : Addr} {led : List (Addr × Obj)} (h : IsTable n T led) (h1 : 12 ≤ n) (h2 : n ≤ 16) : ∃ vs k, (T, listOf vs.toArray k) ∈ led ++ [] ∧ RowsAt (led ++ []) vs ∧ 1 ≤ vs.length ∧ vs.length ≤ 17 := by
  obtain ⟨vs, k, tl, rfl, hv, hr⟩ := h
  refine ⟨vs, k, ?_, ?_, by omega, by omega⟩
  · exact List.mem_append_left _ (List.mem_cons_self ..)
  · exact hr.mono fun p hp => List.mem_append_left _ (List.mem_cons_of_mem _ hp)

local macro_rules | `(tactic| walk_at "call ref") => `(tactic| (k_here; k_dflt (refine' MClaim.use (table_claim _ _ _ _ _ _ _) ?k1 ?k2 ?k3 ?k4 ?k5 ?kK ?kp ?kd ?ku ?_; (case k1 => k_asm); (case k2 => k_asm); (case k3 => k_asm); (case k4 => k_asm); (case k5 => k_asm); (case kK => first | exact rfl | assumption); (case kp => exact most_ok _); (case kd => ktr_room); (case ku => ktr_units); (intro T9 led9 h9 tk9 F9 N9 hT9; (obtain ⟨vs9, k9, hTb9⟩ := told_pre hT9 (most_ok _).1 (most_ok _).2); clear hT9; (try dsimp only); (try k_fold)))))
local macro_rules | `(tactic| walk_at "call ref") => `(tactic| (k_here; k_dflt (refine' Claim.use (all_told_claim _ _ _ _ _ _ _ _) ?k1 ?k2 ?k3 ?k4 ?k5 ?kK ?kp ?kd ?ku ?_; (case k1 => k_asm); (case k2 => k_asm); (case k3 => k_asm); (case k4 => k_asm); (case k5 => k_asm); (case kK => first | exact rfl | assumption); (case kp => assumption); (case kd => ktr_room); (case ku => ktr_units); intro t9 h9 tk9 F9 N9; (replace N9 := cb_drop (news := []) N9 (fun _ hp => nomatch hp)); (try dsimp only); (try k_fold))))

theorem heap_ok (S : Int) {c : Int} (h : 2 ≤ c) : 2 ≤ (if S < 0 then -S else S) + c := by split <;> omega

section
variable {prog : Program} {w : World} {A : Around} {E : Value → Shared → Prop} {s : Shared} {h₀ : Heap} {L : Addr} {m : Str → Option Value} {news : List (Addr × Obj)}
theorem sum_pick {D : Addr} {vs : List Value} {ns : List Int} {lo hi st : Option Int} {n : Nat} {Q : Value → Shared → Prop} (hh : A.handled = none) (F : Fr h₀ L s.heap m) (N : News h₀ L s.heap news) (hm : (D, listOf (slicePick vs.toArray lo hi st) n) ∈ news) (hi' : IntsAre vs ns)
    (h : ∀ h' tk t', Fr h₀ L h' m → News h₀ L h' news → Q (.int (pickNums ns lo hi st).sum t') { s with heap := h', toks := tk }) :
    wpAny (model prog w) A (call (.builtin "sum") [.ref D]) Q E s :=
  sumK (vs := (slicePick vs.toArray lo hi st).toList) hh F N (PySem.IsL.isList (n := n) (by simpa using (N _ hm).1)) (hi'.pick lo hi st) h
end
section
variable {prog : Program} {w : World} {A : Around} {h₀ : Heap} {L : Addr} {m : Str → Option Value} {env : Env} {elt : Expr} {x : Str} {scope : Scope} {cl : List (Str × Addr)} {s : Shared} {S : List (Addr × Obj) → Prop} {Fin : List Value → List (Addr × Obj) → Prop} {news : List (Addr × Obj)}
/-- a list comprehension over a range whose element is some int -/
theorem comp_ints {n : Nat} {a : Int}
    (turn : ∀ k t I oI C oC D m₂ ys h tk (E' : Value → Shared → Prop), a ≤ k → k < a + (n : Int) → LCg.NsObj oC m₂ → m₂ x = some (.int k t) → Fr h₀ L h m → News h₀ L h ((I, oI) :: (C, oC) :: (D, LCg.lst ys) :: news) → LCg.Off3 I C D news → ((@Ne Nat I C) ∧ (@Ne Nat I D) ∧ (@Ne Nat C D)) →
      wpAny (model prog w) A (eval elt (compEnvC scope cl C env)) (LCg.CompEnd h₀ L m { s with heap := h, toks := tk } I oI C oC D (LCg.lst ys) S (fun y news' => news' = news ∧ ∃ v t, y = .int v t)) E' { s with heap := h, toks := tk })
    (fin : ∀ ys ns, IntsAre ys ns → Fin ys news) : LCg.CompRest prog w A h₀ L m env elt x scope cl s S (fun i v => ∃ t, v = .int (a + (i : Int)) t) Fin n 0 [] news := by
  have key : ∀ (j i : Nat) (ys : List Value) (ns : List Int), i + j = n → IntsAre ys ns → LCg.CompRest prog w A h₀ L m env elt x scope cl s S (fun i v => ∃ t, v = .int (a + (i : Int)) t) Fin j i ys news := by
    intro j
    induction j with
    | zero => exact fun i ys ns _ hy => LCg.CompRest.zero (fin ys ns hy)
    | succ j ih =>
      intro i ys ns hi hy
      refine LCg.CompRest.succ ?_
      intro v I oI C oC D m₂ h tk E' hv hC hx F N off ne
      obtain ⟨t, hv'⟩ := hv
      rw [hv'] at hx
      refine wpAny_mono (turn _ t I oI C oC D m₂ ys h tk E' (by omega) (by omega) hC hx F N off ne) (fun y s₂ hq => ?_) fun _ _ e => e
      obtain ⟨h', tk', nw, e, F', N', off', hS, hn, v', t', hy'⟩ := hq
      rw [hn] at N' off' hS
      refine ⟨h', tk', news, e, F', N', off', hS, ?_⟩
      rw [hy']
      exact ih (i + 1) _ (ns ++ [v']) (by omega) (IntsAre.append hy (.cons _ _ .nil))
  exact key n 0 [] [] (by omega) .nil
end
local macro_rules | `(tactic| walk_at "call builtin:sum") => `(tactic| (k_here; (with_reducible show wpAny _ _ (call (Value.builtin "sum") [Value.ref _]) _ _ _); (with_unfolding_all refine' sum_pick ?k0 ?k1 ?k2 ?k3 ?k4 ?_; (case k0 => with_unfolding_all rfl); (case k1 => k_asm); (case k2 => k_asm); (case k3 => k_mem); (case k4 => assumption); k_whole); intro h' tk' t' F' N'))
local macro_rules | `(tactic| walk_at "call ref") => `(tactic| (k_here; k_dflt (refine' Claim.use (played_claim _ _ _ _ _ _ _ _ _ _ _) ?k1 ?k2 ?k3 ?k4 ?k5 ?kK ?kp ?kd ?ku ?_; (case k1 => k_asm); (case k2 => k_asm); (case k3 => k_asm); (case k4 => k_asm); (case k5 => k_asm); (case kK => first | exact rfl | assumption); (case kp => (refine' ⟨?kpa, ?kpb, heap_ok _ (by decide)⟩; (case kpa => k_mem); (case kpb => assumption))); (case kd => ktr_room); (case ku => ktr_units); intro t9 h9 tk9 F9 N9; (try dsimp only); (try k_fold))))
local macro_rules | `(tactic| walk_at "CompSrc") => `(tactic| (refine hold ?_))
local macro_rules | `(tactic| walk_at "CompEnd") => `(tactic| (refine hold ?_))

set_option maxHeartbeats 4000000 in
theorem law_holds : PySem.Challenge.rw_nb0017_01.Holds := Mine.hd (by
  k_with_none
  k_go0; (all_goals try k_fold); k_steps
  unfold Hold
  (with_unfolding_all refine' LCg.CompSrc.range (n := 8) ?q1 ?q2 ?q3 ?q4 ?q5 ?q6 ?q7 ?q8)
  (case q1 => exact rfl)
  (case q4 => assumption)
  (case q2 => k_asm)
  (case q3 => k_asm)
  (case q5 => decide)
  (case q6 => decide)
  (case q7 => (rw [sizeLine_eq]; omega))
  (case q8 =>
    intro gg
    refine comp_ints ?turn ?fin
    (case turn =>
      intro k t' I oI C oC D m₂ ys hh tk E' hlo hhi hC hx FF NN hoff hne
      k_steps
      unfold Hold
      (with_unfolding_all refine' LCg.CompEnd.intro ?z1 ?z2 _ ?z3 hoff trivial ⟨rfl, _, _, rfl⟩)
      (case z1 => k_asm)
      (case z2 => k_asm)
      (case z3 => kcf_all))
    (case fin =>
      intro ys ns hys
      k_steps)))
end Mine

theorem PySem.Challenge.cw_nb0017_01_holds : PySem.Challenge.rw_nb0017_01.Holds :=
  Mine.law_holds
