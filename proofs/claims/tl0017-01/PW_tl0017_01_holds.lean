import PyProof.Rows.All
import Wide.All
import OpenK.AllK
import Wide.FinOn
import Lean
import PySem.Challenge.RW_tl0017_01
open PySem PySem.W PyProof.Rows Lean
set_option Elab.async false
set_option compiler.extract_closed false
namespace Mine
section
theorem lt6 {k : Nat} (h : k < 6) : k = 0 ∨ k = 1 ∨ k = 2 ∨ k = 3 ∨ k = 4 ∨ k = 5 := by
  revert k
  decide
/-- the k digits of x to the base 2^n, lowest first, the last one with all that is left -/
def digs (n : Nat) : Nat → Nat → List Int
  | _, 0 => []
  | x, 1 => [(x : Int)]
  | x, k + 2 => ((x % 2 ^ n : Nat) : Int) :: digs n (x / 2 ^ n) (k + 1)
theorem digs_length (n : Nat) : ∀ k x, (digs n x k).length = k
  | 0, _ => rfl
  | 1, _ => rfl
  | k + 2, x => by show (digs n (x / 2 ^ n) (k + 1)).length + 1 = k + 2; rw [digs_length n (k + 1)]
theorem digs_one (n x : Nat) : digs n x 1 = [(x : Int)] := rfl
theorem digs_split (n : Nat) : ∀ j k x, digs n x ((j + 1) + (k + 1)) = digs n (x % 2 ^ (n * (j + 1))) (j + 1) ++ digs n (x / 2 ^ (n * (j + 1))) (k + 1) := by
  intro j
  induction j with
  | zero =>
    intro k x
    have e : (0 + 1) + (k + 1) = k + 2 := by rw [Nat.zero_add, Nat.add_comm]
    rw [e]
    show ((x % 2 ^ n : Nat) : Int) :: digs n (x / 2 ^ n) (k + 1) = _
    simp [digs]
  | succ j ih =>
    intro k x
    have e : (j + 1 + 1) + (k + 1) = (j + k + 1) + 2 := (Nat.add_right_comm (j + 1) 1 (k + 1)).trans (congrArg (· + 1) (Nat.add_right_comm j 1 (k + 1)))
    have e2 : j + k + 1 + 1 = (j + 1) + (k + 1) := (Nat.add_right_comm j 1 (k + 1)).symm
    rw [e]
    show ((x % 2 ^ n : Nat) : Int) :: digs n (x / 2 ^ n) (j + k + 1 + 1) = (((x % 2 ^ (n * (j + 1 + 1))) % 2 ^ n : Nat) : Int) :: digs n (x % 2 ^ (n * (j + 1 + 1)) / 2 ^ n) (j + 1) ++ _
    rw [e2, ih]
    have p : 2 ^ (n * (j + 1 + 1)) = 2 ^ n * 2 ^ (n * (j + 1)) := by rw [← Nat.pow_add]; congr 1; rw [Nat.mul_add n (j+1) 1, Nat.mul_one, Nat.add_comm]
    have q1 : x % 2 ^ (n * (j + 1 + 1)) % 2 ^ n = x % 2 ^ n := by rw [p]; exact Nat.mod_mul_right_mod _ _ _
    have q2 : x % 2 ^ (n * (j + 1 + 1)) / 2 ^ n = x / 2 ^ n % 2 ^ (n * (j + 1)) := by rw [p]; exact Nat.mod_mul_right_div_self _ _ _
    have q3 : x / 2 ^ (n * (j + 1 + 1)) = x / 2 ^ n / 2 ^ (n * (j + 1)) := by rw [p, Nat.div_div_eq_div_mul]
    rw [q1, q2, q3]
    rfl
/-- what the digits say -/
def undig (n : Nat) : List Int → Int
  | [] => 0
  | d :: r => d + 2 ^ n * undig n r
theorem undig_digs (n : Nat) : ∀ k x, undig n (digs n x (k + 1)) = x := by
  intro k
  induction k with
  | zero => intro x; simp [digs, undig]
  | succ k ih =>
    intro x
    show ((x % 2 ^ n : Nat) : Int) + 2 ^ n * undig n (digs n (x / 2 ^ n) (k + 1)) = x
    rw [ih]
    have := Nat.mod_add_div x (2 ^ n)
    have h2 : (((2 : Nat) ^ n : Nat) : Int) = (2 : Int) ^ n := by simp
    rw [← h2]
    exact_mod_cast this
theorem undig_append (n : Nat) : ∀ xs ys : List Int, undig n (xs ++ ys) = undig n xs + 2 ^ (n * xs.length) * undig n ys := by
  intro xs
  induction xs with
  | nil => intro ys; simp [undig]
  | cons d r ih =>
    intro ys
    simp only [List.cons_append, undig, List.length_cons]
    rw [ih]
    have p : (2 : Int) ^ (n * (r.length + 1)) = 2 ^ n * 2 ^ (n * r.length) := by rw [← Int.pow_add]; congr 1; rw [Nat.mul_add, Nat.mul_one, Nat.add_comm]
    rw [p]
    grind
theorem digs_lt (n : Nat) : ∀ k x, x < 2 ^ (n * (k + 1)) → ∀ d ∈ digs n x (k + 1), 0 ≤ d ∧ d < 2 ^ n := by
  intro k
  induction k with
  | zero =>
    intro x h d hd
    simp [digs] at hd
    subst hd
    have : x < 2 ^ n := by simpa using h
    exact ⟨Int.natCast_nonneg _, by exact_mod_cast this⟩
  | succ k ih =>
    intro x h d hd
    rcases List.mem_cons.mp hd with rfl | hd
    · have : x % 2 ^ n < 2 ^ n := Nat.mod_lt _ (Nat.two_pow_pos n)
      exact ⟨Int.natCast_nonneg _, by exact_mod_cast this⟩
    · refine ih (x / 2 ^ n) ?_ d hd
      rw [Nat.div_lt_iff_lt_mul (Nat.two_pow_pos n), ← Nat.pow_add]
      have : n * (k + 1) + n = n * (k + 1 + 1) := by rw [Nat.mul_add n (k+1) 1, Nat.mul_one]
      rw [this]; exact h
/-- long division, the highest digit first: the quotient's digits (lowest first) and what is left -/
def ldiv (n : Nat) (b : Int) : List Int → List Int × Int
  | [] => ([], 0)
  | d :: r => (((ldiv n b r).2 * 2 ^ n + d).fdiv b :: (ldiv n b r).1, ((ldiv n b r).2 * 2 ^ n + d).fmod b)
theorem ldiv_spec (n : Nat) {b : Int} (hb : 0 < b) : ∀ ds : List Int, (∀ d ∈ ds, 0 ≤ d ∧ d < 2 ^ n) → undig n ds = b * undig n (ldiv n b ds).1 + (ldiv n b ds).2 ∧ 0 ≤ (ldiv n b ds).2 ∧ (ldiv n b ds).2 < b := by
  intro ds
  induction ds with
  | nil => intro _; simp [undig, ldiv]; exact hb
  | cons d r ih =>
    intro h
    obtain ⟨e, l, u⟩ := ih fun x hx => h x (.tail _ hx)
    refine ⟨?_, Int.fmod_nonneg_of_pos _ hb, Int.fmod_lt_of_pos _ hb⟩
    have q := Int.fmod_add_mul_fdiv ((ldiv n b r).2 * 2 ^ n + d) b
    simp only [undig, ldiv]
    rw [e]
    generalize ((ldiv n b r).2 * 2 ^ n + d).fmod b = M at *
    generalize ((ldiv n b r).2 * 2 ^ n + d).fdiv b = D at *
    generalize undig n (ldiv n b r).1 = U at *
    generalize (ldiv n b r).2 = R at *
    generalize (2 : Int) ^ n = P at *
    grind
theorem ldiv_length (n : Nat) (b : Int) : ∀ ds : List Int, (ldiv n b ds).1.length = ds.length
  | [] => rfl
  | _ :: r => by simp only [ldiv, List.length_cons]; rw [ldiv_length n b r]
theorem ldiv_nonneg (n : Nat) {b : Int} (hb : 0 < b) : ∀ ds : List Int, (∀ d ∈ ds, 0 ≤ d ∧ d < 2 ^ n) → ∀ q ∈ (ldiv n b ds).1, 0 ≤ q
  | [], _, q, hq => by cases hq
  | d :: r, h, q, hq => by
    have hr : ∀ x ∈ r, 0 ≤ x ∧ x < 2 ^ n := fun x hx => h x (.tail _ hx)
    simp only [ldiv] at hq
    rcases List.mem_cons.mp hq with rfl | hq
    · obtain ⟨_, l, _⟩ := ldiv_spec n hb r hr
      have h1 := (h d (.head _)).1
      have h2 : (0 : Int) ≤ 2 ^ n := Int.le_of_lt (Int.pow_pos (by decide))
      have h3 := Int.mul_nonneg l h2
      exact Int.fdiv_nonneg (Int.add_nonneg h3 h1) (Int.le_of_lt hb)
    · exact ldiv_nonneg n hb r hr q hq
theorem ldiv_val (n : Nat) {b x : Nat} (hb : 0 < b) {ds : List Int} (h : ∀ d ∈ ds, 0 ≤ d ∧ d < 2 ^ n) (hx : undig n ds = x) :
    undig n (ldiv n b ds).1 = ((x / b : Nat) : Int) ∧ (ldiv n b ds).2 = ((x % b : Nat) : Int) := by
  obtain ⟨e, l, u⟩ := ldiv_spec n (b := b) (Int.natCast_pos.mpr hb) ds h
  rw [hx] at e
  have h1 : (x : Int) = (ldiv n b ds).2 + b * undig n (ldiv n b ds).1 := by rw [e, Int.add_comm]
  have e1 : (x : Int) / b = undig n (ldiv n b ds).1 := by
    rw [h1, Int.add_mul_ediv_left _ _ (Int.natCast_ne_zero.mpr (Nat.ne_of_gt hb)), Int.ediv_eq_zero_of_lt l u, Int.zero_add]
  have e2 : (x : Int) % b = (ldiv n b ds).2 := by
    rw [h1, Int.add_mul_emod_self_left, Int.emod_eq_of_lt l u]
  constructor
  · rw [← e1]; rfl
  · rw [← e2]; rfl
theorem pow_mono {a b : Nat} (h : a ≤ b) : (2 : Int) ^ a ≤ 2 ^ b := by
  have := Nat.pow_le_pow_right (n := 2) (by decide) h
  exact_mod_cast this
end
section
/-- xs laid over ds from the place lo on -/
def spl (ds : List Int) (lo : Nat) (xs : List Int) : List Int := ds.take lo ++ xs ++ ds.drop (lo + xs.length)
theorem spl_length {ds : List Int} {lo : Nat} {xs : List Int} (h : lo + xs.length ≤ ds.length) : (spl ds lo xs).length = ds.length := by
  unfold spl; rw [List.length_append, List.length_append, List.length_take, List.length_drop, Nat.min_eq_left (Nat.le_trans (Nat.le_add_right _ _) h), Nat.add_sub_cancel' h]
theorem spl_one {ds : List Int} {lo : Nat} {x : Int} (h : lo < ds.length) : ds.set lo x = spl ds lo [x] := by
  unfold spl
  simp only [List.length_singleton]
  rw [List.set_eq_take_append_cons_drop, if_pos h]
  simp
theorem spl_spl {ds : List Int} {lo : Nat} {xs ys : List Int} (h : lo + xs.length + ys.length ≤ ds.length) :
    spl (spl ds lo xs) (lo + xs.length) ys = spl ds lo (xs ++ ys) := by
  unfold spl
  have h1 : (ds.take lo).length = lo := by rw [List.length_take, Nat.min_eq_left (Nat.le_trans (Nat.le_add_right _ _) (Nat.le_trans (Nat.le_add_right _ _) h))]
  have e1 : (ds.take lo ++ xs ++ ds.drop (lo + xs.length)).take (lo + xs.length) = ds.take lo ++ xs := by
    apply List.take_left'
    rw [List.length_append, h1]
  have e2 : (ds.take lo ++ xs ++ ds.drop (lo + xs.length)).drop (lo + xs.length + ys.length) = ds.drop (lo + (xs ++ ys).length) := by
    have e4 : (ds.take lo ++ xs).length = lo + xs.length := by rw [List.length_append, h1]
    rw [List.drop_append, List.drop_of_length_le (by rw [e4]; exact Nat.le_add_right _ _), List.nil_append, List.drop_drop]
    congr 1
    rw [e4, List.length_append, Nat.add_sub_cancel_left, Nat.add_assoc]
  rw [e1, e2]
  simp
theorem spl_all {ds xs : List Int} (h : xs.length = ds.length) : spl ds 0 xs = xs := by
  unfold spl
  simp [h]

theorem and_high (x k : Nat) : x &&& (x / 2 ^ k * 2 ^ k) = x / 2 ^ k * 2 ^ k := by
  apply Nat.eq_of_testBit_eq
  intro i
  rw [Nat.testBit_and, Nat.mul_comm, Nat.testBit_two_pow_mul, Nat.testBit_div_two_pow]
  by_cases h : k ≤ i
  · have e : k + (i - k) = i := Nat.add_sub_cancel' h
    have e' : i - k + k = i := Nat.sub_add_cancel h
    simp [h, e']
  · simp [h]
theorem xor_low (x k : Nat) : Builtin.bitXor (x : Int) (((x / 2 ^ k : Nat) : Int) * ((2 ^ k : Nat) : Int)) = ((x % 2 ^ k : Nat) : Int) := by
  have e : ((x / 2 ^ k : Nat) : Int) * ((2 ^ k : Nat) : Int) = ((x / 2 ^ k * 2 ^ k : Nat) : Int) := by rw [Int.natCast_mul]
  rw [e, PyProof.Rows.bitXor_and]
  have h : Builtin.bitAnd (x : Int) ((x / 2 ^ k * 2 ^ k : Nat) : Int) = ((x / 2 ^ k * 2 ^ k : Nat) : Int) := by
    unfold Builtin.bitAnd
    simp only [Int.natCast_nonneg, decide_true, Int.toNat_natCast]
    rw [and_high]
  rw [h]
  have := Nat.div_add_mod x (2 ^ k)
  rw [Nat.mul_comm] at this
  omega
theorem low_at {x n j : Nat} {sh : Int} (h : sh = ((n * j : Nat) : Int)) : Builtin.bitXor (x : Int) ((x : Int).fdiv (2 ^ sh.toNat) * 2 ^ sh.toNat) = ((x % 2 ^ (n * j) : Nat) : Int) := by
  subst h
  rw [Int.toNat_natCast]
  have e : (x : Int).fdiv (2 ^ (n * j)) = ((x / 2 ^ (n * j) : Nat) : Int) := by
    rw [Int.fdiv_eq_ediv_of_nonneg _ (by exact_mod_cast Nat.zero_le _)]
    exact_mod_cast rfl
  rw [e]
  have := xor_low x (n * j)
  exact_mod_cast this
theorem up_at {x n j : Nat} {sh : Int} (h : sh = ((n * j : Nat) : Int)) : (x : Int).fdiv (2 ^ sh.toNat) = ((x / 2 ^ (n * j) : Nat) : Int) := by
  subst h
  rw [Int.toNat_natCast, Int.fdiv_eq_ediv_of_nonneg _ (by exact_mod_cast Nat.zero_le _)]
  exact_mod_cast rfl
theorem mid_at (lo k : Nat) : ((lo : Int) + ((lo + k : Nat) : Int)).fdiv (2 ^ (1 : Int).toNat) = ((lo + k / 2 : Nat) : Int) := by
  rw [Int.fdiv_eq_ediv_of_nonneg _ (by decide)]
  have : (2 : Int) ^ (1 : Int).toNat = 2 := by decide
  rw [this, ← Int.natCast_add, ← Nat.add_assoc, ← Nat.two_mul]
  show (((2 * lo + k) / 2 : Nat) : Int) = _
  rw [Nat.mul_add_div (by decide)]
theorem digs_split' (n : Nat) {j i : Nat} (x : Nat) (hj : 0 < j) (hi : 0 < i) : digs n x (j + i) = digs n (x % 2 ^ (n * j)) j ++ digs n (x / 2 ^ (n * j)) i := by
  obtain ⟨j', rfl⟩ := Nat.exists_eq_add_of_lt hj
  obtain ⟨i', rfl⟩ := Nat.exists_eq_add_of_lt hi
  rw [Nat.zero_add, Nat.zero_add]
  exact digs_split n j' i' x
theorem halves (k : Nat) : ∃ p q, k / 2 = p ∧ k - p = q ∧ p ≤ q ∧ q ≤ p + 1 ∧ p + q = k := by
  have h := Nat.div_add_mod k 2
  have h2 := Nat.mod_lt k (show 0 < 2 by decide)
  generalize k / 2 = p at *
  generalize k % 2 = r at *
  subst h
  rw [Nat.two_mul, Nat.add_assoc] at *
  exact ⟨p, p + r, rfl, Nat.add_sub_cancel_left _ _, Nat.le_add_right _ _, Nat.add_le_add_left (Nat.le_of_lt_succ h2) p, rfl⟩
theorem pos_half {p q : Nat} (h1 : p ≤ q) (h2 : q ≤ p + 1) (h0 : 0 < p + q) (h : p + q ≠ 1) : 0 < p ∧ 0 < q := by
  cases p with
  | zero => rw [Nat.zero_add] at h h0 h2; exact absurd (Nat.le_antisymm h2 h0) h
  | succ p => exact ⟨Nat.succ_pos p, Nat.lt_of_lt_of_le (Nat.succ_pos p) h1⟩
theorem spl_two {ds : List Int} {lo n x k : Nat} (hk : 2 ≤ k) (hl : lo + k ≤ ds.length) :
    spl (spl ds lo (digs n (x % 2 ^ (n * (k / 2))) (k / 2))) (lo + k / 2) (digs n (x / 2 ^ (n * (k / 2))) (k - k / 2)) = spl ds lo (digs n x k) := by
  obtain ⟨p, q, ep, eq, h1, h2, h3⟩ := halves k
  rw [ep, eq]
  clear ep eq
  subst h3
  obtain ⟨hp, hq⟩ := pos_half h1 h2 (Nat.lt_of_lt_of_le (by decide) hk) (Nat.ne_of_gt hk)
  have e1 : (digs n (x % 2 ^ (n * p)) p).length = p := digs_length _ _ _
  have e := spl_spl (ds := ds) (lo := lo) (xs := digs n (x % 2 ^ (n * p)) p) (ys := digs n (x / 2 ^ (n * p)) q) (by rw [e1, digs_length, Nat.add_assoc]; exact hl)
  rw [e1] at e
  rw [e, ← digs_split' n x hp hq]
/-- what k digits from the place lo on say -/
def U (n : Nat) (ds : List Int) (lo k : Nat) : Int := undig n ((ds.drop lo).take k)
theorem U_one {n : Nat} {ds : List Int} {lo : Nat} (h : lo < ds.length) : U n ds lo 1 = ds.getD lo 0 := by
  unfold U
  rw [List.drop_eq_getElem_cons h, List.take_succ_cons, List.take_zero]
  simp only [undig, Int.mul_zero, Int.add_zero]
  simp [h]
theorem U_split {n : Nat} {ds : List Int} {lo j i : Nat} (h : lo + j ≤ ds.length) : U n ds lo (j + i) = U n ds (lo + j) i * 2 ^ (n * j) + U n ds lo j := by
  unfold U
  have e : (ds.drop lo).take (j + i) = (ds.drop lo).take j ++ (ds.drop (lo + j)).take i := by
    rw [List.take_add, List.drop_drop]
  have hl : ((ds.drop lo).take j).length = j := by rw [List.length_take, List.length_drop, Nat.min_eq_left (Nat.le_sub_of_add_le' h)]
  rw [e, undig_append, hl]
  grind
theorem U_all (n : Nat) (ds : List Int) : U n ds 0 ds.length = undig n ds := by unfold U; simp
theorem undig_nonneg (n : Nat) : ∀ ds : List Int, (∀ d ∈ ds, 0 ≤ d) → 0 ≤ undig n ds
  | [], _ => Int.le_refl _
  | d :: r, h => by
    have h1 := h d (.head _)
    have h2 := undig_nonneg n r fun x hx => h x (.tail _ hx)
    have h3 : (0 : Int) ≤ 2 ^ n := Int.le_of_lt (Int.pow_pos (by decide))
    have := Int.mul_nonneg h3 h2
    exact Int.add_nonneg h1 this
theorem undig_drop_le (n : Nat) : ∀ (ds : List Int) (lo : Nat), (∀ d ∈ ds, 0 ≤ d) → undig n (ds.drop lo) ≤ undig n ds
  | ds, 0, _ => by simp
  | [], lo + 1, _ => by simp
  | d :: r, lo + 1, h => by
    have h1 := h d (.head _)
    have h2 := undig_drop_le n r lo fun x hx => h x (.tail _ hx)
    have h3 := undig_nonneg n r fun x hx => h x (.tail _ hx)
    have h4 : (1 : Int) ≤ 2 ^ n := by exact Int.pow_pos (n := 2) (m := n) (by decide)
    have h5 := Int.mul_le_mul_of_nonneg_right h4 h3
    rw [Int.one_mul] at h5
    exact Int.le_trans h2 (Int.le_trans h5 (Int.le_add_of_nonneg_left h1))
theorem undig_take_le (n : Nat) : ∀ (ds : List Int) (k : Nat), (∀ d ∈ ds, 0 ≤ d) → undig n (ds.take k) ≤ undig n ds
  | ds, 0, h => by simpa [undig] using undig_nonneg n ds h
  | [], k + 1, _ => by simp
  | d :: r, k + 1, h => by
    have h2 := undig_take_le n r k fun x hx => h x (.tail _ hx)
    have h3 : (0 : Int) ≤ 2 ^ n := Int.le_of_lt (Int.pow_pos (by decide))
    have := Int.mul_le_mul_of_nonneg_left h2 h3
    exact Int.add_le_add_left this d
theorem U_bound {n : Nat} {ds : List Int} (h : ∀ d ∈ ds, 0 ≤ d) (hb : (undig n ds).natAbs < 2 ^ 128) (lo k : Nat) : (U n ds lo k).natAbs < 2 ^ 128 := by
  have h1 : ∀ d ∈ ds.drop lo, 0 ≤ d := fun d hd => h d (List.mem_of_mem_drop hd)
  have h2 : ∀ d ∈ (ds.drop lo).take k, 0 ≤ d := fun d hd => h1 d (List.mem_of_mem_take hd)
  have a1 := undig_take_le n (ds.drop lo) k h1
  have a2 := undig_drop_le n ds lo h
  have a3 := undig_nonneg n _ h2
  unfold U
  exact Int.ofNat_lt.mp (by rw [Int.natAbs_of_nonneg a3]; exact Int.lt_of_le_of_lt (Int.le_trans a1 (Int.le_trans a2 Int.le_natAbs)) (Int.ofNat_lt.mpr hb))
end
section
theorem said : PySem.Challenge.rw_tl0017_01.wellSaid = true := by
  rw [PySem.W.Fast.te9446332074065402090]
  kernel_rfl
noncomputable abbrev hd.prog : Program := view PySem.Challenge.pw_tl0017_01 [1,2,4,5,6,7,8,9,10,12,13,14,15,16,17,18,20,21,22,23,24,25,26]
section
local macro_rules | `(tactic| o_law) => `(tactic| refine holds_law said fun said => ?_)
local macro_rules | `(tactic| o_head $H:term) => `(tactic| (
  refine holds_open (q := hd.prog) (loose := []) (Xt := fun s => xlAt hd.prog [] s && recOk (RowW.records PySem.Challenge.rw_tl0017_01.row.toRowW) s) (XP := XL hd.prog []) (Yf := Hook.obs $H) (Ya := Hook.val $H) (YP := Hook.says $H) (N := 1676) ?hl (Hook.of $H) (Hook.keeps $H) (fun s e => xl_of s (Bool.and_eq_true_iff.mp e).1) XL.keeps (by rfl) (by rfl) (by rfl) (fun s e => recFacts_of (Bool.and_eq_true_iff.mp e).2) (by rfl) (by assumption) (by decide +kernel) ⟨rfl, rfl, rfl, rfl, rfl, by decide +kernel⟩ ?hw ?hc
  case hl =>
    intro w
    rw [PySem.W.Fast.te4187177175401517315, PySem.W.Fast.te14364793385576792824, PySem.W.Fast.te5923862056798008813]
    kernel_rfl))
set_option maxRecDepth 100000 in
set_option maxHeartbeats 8000000 in
open_top hd for PySem.Challenge.rw_tl0017_01
end
end
section
theorem fill_ : (fun (_ : OpenLaw) (_ : Params → Frag) => True) PySem.Challenge.rw_tl0017_01 Mine.hd.heap_1 := by
  w_top off
  k_fill
  trivial
theorem room {a c l b k : Nat} (h : a + c < l) (e : Nat.ble (b + k) c = true) : a + b + k < l := Nat.lt_of_le_of_lt (by rw [Nat.add_assoc]; exact Nat.add_le_add_left (Nat.le_of_ble_eq_true e) a) h
theorem room0 {a c l k : Nat} (h : a + c < l) (e : Nat.ble k c = true) : a + k < l := Nat.lt_of_le_of_lt (Nat.add_le_add_left (Nat.le_of_ble_eq_true e) a) h
theorem turn_dec {i n : Nat} (h : i < n) : n + 1 - (i + 1) < n + 1 - i := Nat.sub_lt_sub_left (Nat.lt_succ_of_lt h) (Nat.lt_succ_self i)
theorem nameE {M : Model} {A : Around} {E : Value → Shared → Prop} {s : Shared} {h₀ : Heap} {L a : Addr} {m : Str → Option Value} {cn : Str} {cs : Scope} {ccd : Value} {cl : List (Str × Addr)} {x : Str} {pos : Pos} {v : Value} {Q : Value → Shared → Prop} (F : Fr h₀ L s.heap m) (hm : some v = m x) (hq : Q v s)
    (hk : cs.kind = ScopeKind.function) (hx : (envX cn cs L a ccd cl).kindOf x = some NameKind.local) (hb : (x == Str.ofString "__debug__") = false := by rfl) : wpAny M A (eval (.Name x pos) (envX cn cs L a ccd cl)) Q E s := nameX_L F hm.symm hq hk hx hb
theorem letA {M : Model} {A : Around} {α : Type} {t : Sem α} {E : Value → Shared → Prop} {s : Shared} {Q : α → Shared → Prop} (h : let A' := A; wpAny M A' t Q E s) : wpAny M A t Q E s := h
theorem storeM {M : Model} {A : Around} {E : Value → Shared → Prop} {s : Shared} {h₀ : Heap} {L a : Addr} {m : Str → Option Value} {news : List (Addr × Obj)} {cn : Str} {cs : Scope} {ccd : Value} {cl : List (Str × Addr)} {x : Str} {v : Value} {Q : Unit → Shared → Prop} (F : Fr h₀ L s.heap m) (N : News h₀ L s.heap news)
    (h : let mk := fun y => if y = x then some v else m y; ∀ h', Fr h₀ L h' mk → News h₀ L h' news → Q () { s with heap := h', toks := s.toks + 1 })
    (hk : cs.kind = .function := by rfl) (hx : (envX cn cs L a ccd cl).kindOf x = some .local := by rfl) : wpAny M A (storeName (envX cn cs L a ccd cl) x v) Q E s := storeX_L F N h hk hx
section
variable {prog : Program} {w : World} {A : Around} {E : Value → Shared → Prop} {s : Shared} {h₀ : Heap} {L : Addr} {m : Str → Option Value} {news : List (Addr × Obj)}
theorem max3_K {a b c : Int} {t u x : Tok} {Q : Value → Shared → Prop} (hh : A.handled = none) (F : Fr h₀ L s.heap m) (N : News h₀ L s.heap news)
    (h : ∀ h' tk t', Fr h₀ L h' m → News h₀ L h' news → Q (.int (max (max a b) c) t') { s with heap := h', toks := tk }) :
    wpAny (model prog w) A (call (.builtin "max") [.int a t, .int b u, .int c x]) Q E s :=
  max_three_ints hh fun h' tk hk => by
    have key := fun t' => h h' tk t' (F.grownK hk) (N.grown hk)
    by_cases h1 : b > a
    · by_cases h2 : c > b
      · simp only [h1, h2, if_true]
        have e : max (max a b) c = c := by rw [Int.max_eq_right (Int.le_of_lt h1), Int.max_eq_right (Int.le_of_lt h2)]
        rw [e] at key; exact key _
      · simp only [h1, h2, if_true, if_false]
        have e : max (max a b) c = b := by rw [Int.max_eq_right (Int.le_of_lt h1), Int.max_eq_left (Int.not_lt.mp h2)]
        rw [e] at key; exact key _
    · by_cases h2 : c > a
      · simp only [h1, h2, if_true, if_false]
        have e : max (max a b) c = c := by rw [Int.max_eq_left (Int.not_lt.mp h1), Int.max_eq_right (Int.le_of_lt h2)]
        rw [e] at key; exact key _
      · simp only [h1, h2, if_false]
        have e : max (max a b) c = a := by rw [Int.max_eq_left (Int.not_lt.mp h1), Int.max_eq_left (Int.not_lt.mp h2)]
        rw [e] at key; exact key _
theorem min3_K {a b c : Int} {t u x : Tok} {Q : Value → Shared → Prop} (hh : A.handled = none) (F : Fr h₀ L s.heap m) (N : News h₀ L s.heap news)
    (h : ∀ h' tk t', Fr h₀ L h' m → News h₀ L h' news → Q (.int (min (min a b) c) t') { s with heap := h', toks := tk }) :
    wpAny (model prog w) A (call (.builtin "min") [.int a t, .int b u, .int c x]) Q E s :=
  min_three_ints hh fun h' tk hk => by
    have key := fun t' => h h' tk t' (F.grownK hk) (N.grown hk)
    by_cases h1 : b < a
    · by_cases h2 : c < b
      · simp only [h1, h2, if_true]
        have e : min (min a b) c = c := by rw [Int.min_eq_right (Int.le_of_lt h1), Int.min_eq_right (Int.le_of_lt h2)]
        rw [e] at key; exact key _
      · simp only [h1, h2, if_true, if_false]
        have e : min (min a b) c = b := by rw [Int.min_eq_right (Int.le_of_lt h1), Int.min_eq_left (Int.not_lt.mp h2)]
        rw [e] at key; exact key _
    · by_cases h2 : c < a
      · simp only [h1, h2, if_true, if_false]
        have e : min (min a b) c = c := by rw [Int.min_eq_left (Int.not_lt.mp h1), Int.min_eq_right (Int.le_of_lt h2)]
        rw [e] at key; exact key _
      · simp only [h1, h2, if_false]
        have e : min (min a b) c = a := by rw [Int.min_eq_left (Int.not_lt.mp h1), Int.min_eq_left (Int.not_lt.mp h2)]
        rw [e] at key; exact key _
/-- after a statement that stores one name and goes on -/
def MidA (h₀ : Heap) (L : Addr) (m : Str → Option Value) (led : List (Addr × Obj)) (x : Str) (val : Tok → Value) (s : Shared) (f : Flow) (s' : Shared) : Prop :=
  f = .next ∧ ∃ h' tk' t, s' = { s with heap := h', toks := tk' } ∧ Fr h₀ L h' (fun y => if y = x then some (val t) else m y) ∧ News h₀ L h' led
theorem mid_asg {M : Model} {T : Sem Flow} {Q : Flow → Shared → Prop} {led : List (Addr × Obj)} (x : Str) (val : Tok → Value) (_F : Fr h₀ L s.heap m) (_N : News h₀ L s.heap led) (h : wpAny M A T (MidA h₀ L m led x val s) E s)
    (k : ∀ h' tk' t, let mk := fun y => if y = x then some (val t) else m y; Fr h₀ L h' mk → News h₀ L h' led → Q .next { s with heap := h', toks := tk' }) : wpAny M A T Q E s := by
  refine wpAny_mono h (fun f s' hq => ?_) fun _ _ e => e
  obtain ⟨rfl, h', tk', t, rfl, F', N'⟩ := hq
  exact k h' tk' t F' N'
end
theorem ite_by {c : Prop} [Decidable c] {a b : Prop} (h1 : c → a) (h2 : ¬ c → b) : if c then a else b := by
  split
  · exact h1 (by assumption)
  · exact h2 (by assumption)
end
section
local macro_rules | `(tactic| walk_at "eval Name") => `(tactic| (k_here; k_dflt (refine' nameE ?F ?v ?_ ?a ?b; (case F => k_asm); (case a => rfl); (case b => rfl); (case v => exact rfl); k_whole)))
local macro_rules | `(tactic| walk_at "execs cons") => `(tactic| (k_here; first | k_gentoks | ((with_reducible refine wpAny_execs_cons ?_); (try dsimp only); (try k_fold))))
local macro_rules | `(tactic| walk_at "storeName") => `(tactic| (k_here; k_dflt (refine' storeM ?F ?N ?_ ?a ?b; (case F => k_asm); (case N => k_asm); (case a => rfl); (case b => rfl); k_whole; intro mk h' F' N'; (try k_sweep))))

local macro_rules | `(tactic| walk_at "call builtin:max") => `(tactic| (k_here; (with_reducible show wpAny _ _ (call (Value.builtin _) [Value.int _ _, Value.int _ _, Value.int _ _]) _ _ _); k_dflt (refine' max3_K ?k0 ?k1 ?k2 ?_; (case k0 => with_unfolding_all rfl); (case k1 => k_asm); (case k2 => k_asm); k_whole); intro h' tk' t' F' N'; (try k_sweep)))
local macro_rules | `(tactic| walk_at "call builtin:min") => `(tactic| (k_here; (with_reducible show wpAny _ _ (call (Value.builtin _) [Value.int _ _, Value.int _ _, Value.int _ _]) _ _ _); k_dflt (refine' min3_K ?k0 ?k1 ?k2 ?_; (case k0 => with_unfolding_all rfl); (case k1 => k_asm); (case k2 => k_asm); k_whole); intro h' tk' t' F' N'; (try k_sweep)))
section
variable {prog : Program} {w : World} {p : Program} {loose : List Str} {mean : ExcName → Option Value} {mg mb : Str → Option Value}
  {dp un : Nat} {gd : Option (List Code)} {cn : Str} {cs : Scope} {a : Addr} {ccd : Value} {cl : List (Str × Addr)} {outer : List Env} {A₀ : Around} {base h₀ : Heap} {L : Addr} {m : Str → Option Value} {news : List (Addr × Obj)} {s : Shared} {Q E : Value → Shared → Prop}
abbrev tup (vs : List Value) : Obj := { cls := .type "tuple", data := .seq vs.toArray }
/-- the quotient of two whole numbers, as a float -/
def qF (x y : Int) : UInt64 := Float64.ofFrac (decide (x < 0) != decide (y < 0)) x.natAbs y.natAbs
def hueH (r g b : Int) : UInt64 :=
    (if r = max (max r g) b then Float64.sub (qF (max (max r g) b - b) (max (max r g) b - min (min r g) b)) (qF (max (max r g) b - g) (max (max r g) b - min (min r g) b))
     else if g = max (max r g) b then Float64.sub (Float64.add 4611686018427387904 (qF (max (max r g) b - r) (max (max r g) b - min (min r g) b))) (qF (max (max r g) b - b) (max (max r g) b - min (min r g) b))
     else Float64.sub (Float64.add 4616189618054758400 (qF (max (max r g) b - g) (max (max r g) b - min (min r g) b))) (qF (max (max r g) b - r) (max (max r g) b - min (min r g) b)))
def hueF (r g b : Int) : UInt64 := (Float64.divmod (Float64.div (hueH r g b) 4618441417868443648) 4607182418800017408).2
def shareF (r g b : Int) : UInt64 := qF (max (max r g) b - min (min r g) b) (max (max r g) b)

theorem small_sub {x y : Int} (h0 : 0 ≤ y) (h1 : y ≤ x) (h2 : x < 2^40) : (x - y).natAbs < 2^1023 := by omega
theorem rgb_facts {r g b : Int} (h1 : 0 ≤ r) (h2 : 0 ≤ g) (h3 : 0 ≤ b) (h4 : r < 2^40) (h5 : g < 2^40) (h6 : b < 2^40) (hne : min (min r g) b ≠ max (max r g) b) :
    max (max r g) b ≠ 0 ∧ max (max r g) b - min (min r g) b ≠ 0 ∧ (max (max r g) b - min (min r g) b).natAbs < 2^1023 ∧ (max (max r g) b - r).natAbs < 2^1023 ∧ (max (max r g) b - g).natAbs < 2^1023 ∧ (max (max r g) b - b).natAbs < 2^1023 := by
  have hr : r ≤ max (max r g) b := Int.le_trans (Int.le_max_left r g) (Int.le_max_left _ b)
  have hg : g ≤ max (max r g) b := Int.le_trans (Int.le_max_right r g) (Int.le_max_left _ b)
  have hb : b ≤ max (max r g) b := Int.le_max_right _ b
  have hm : min (min r g) b ≤ b := Int.min_le_right _ b
  have h0 : 0 ≤ min (min r g) b := Int.le_min.mpr ⟨Int.le_min.mpr ⟨h1, h2⟩, h3⟩
  have hM : max (max r g) b < 2^40 := Int.max_lt.mpr ⟨Int.max_lt.mpr ⟨h4, h5⟩, h6⟩
  have hmM := Int.le_trans hm hb
  exact ⟨fun h => hne (Int.le_antisymm hmM (by rw [h]; exact h0)), fun h => hne (Int.sub_eq_zero.mp h).symm, small_sub h0 hmM hM, small_sub h1 hr hM, small_sub h2 hg hM, small_sub h3 hb hM⟩
set_option maxRecDepth 100000 in
set_option maxHeartbeats 8000000 in
theorem rgb_call {r g b : Int} {tr tg tb : Tok}
   (B : Below A₀ base outer h₀) (F : Fr h₀ L s.heap m) (X : (Mine.hd.heap_1 w.params).In h₀) (N : News h₀ L s.heap news) (T : Top p loose mean mg mb h₀) (hk : cs.kind = .function)
   (hd : dp + 1 < recursionLimit) (hu : un + 8 < cLine)
   (h1 : 0 ≤ r) (h2 : 0 ≤ g) (h3 : 0 ≤ b) (h4 : r < 2^40) (h5 : g < 2^40) (h6 : b < 2^40) (hne : min (min r g) b ≠ max (max r g) b)
   (hret : ∀ D h' tk' t1 t2 t3, Fr h₀ L h' m → News h₀ L h' ((D, tup [.float (hueF r g b) t1, .float (shareF r g b) t2, .int (max (max r g) b) t3]) :: news) → (∀ p ∈ news, p.1 < D) → Q (.ref D) { s with heap := h', toks := tk' }) :
    wpAny (model prog w) (ktrTop dp un gd cn cs L a ccd cl outer) (call (.ref 21) [.int r tr, .int g tg, .int b tb]) Q E s := by
  have ⟨_, _, _, _, _, _⟩ := rgb_facts h1 h2 h3 h4 h5 h6 hne
  refine wpAny_call ?_
  k_dflt ktr_enter
  refine letA ?_
  intro A9
  iterate 60 (first | (with_reducible show ite _ _ _) | walk1 | (k_unfold; try dsimp only))
  refine ite_by (fun hc => absurd (beq_iff_eq.mp hc) hne) (fun _ => ?_)
  iterate 90 (first | (with_reducible show wpAny _ _ (exec (Stmt.If _ _ [Stmt.If _ _ _ _] _) _) _ _ _) | walk1 | (k_unfold; try dsimp only))
  rename Fr _ _ _ _ => FM
  rename News _ _ _ _ => NM
  refine mid_asg (Str.ofString "h") (fun t => .float (hueH r g b) t) FM NM ?_ ?_
  · unfold hueH qF
    k_steps
    · simp only [if_pos (by assumption : r = max (max r g) b)]; exact ⟨rfl, _, _, _, rfl, by assumption, by assumption⟩
    · simp only [if_neg (by assumption : ¬ r = max (max r g) b), if_pos (by assumption : g = max (max r g) b)]; exact ⟨rfl, _, _, _, rfl, by assumption, by assumption⟩
    · simp only [if_neg (by assumption : ¬ r = max (max r g) b), if_neg (by assumption : ¬ g = max (max r g) b)]; exact ⟨rfl, _, _, _, rfl, by assumption, by assumption⟩
  · intro h1 tk1 t1 mk1 F1 N1
    k_steps
    unfold hueF shareF qF at hret
    exact hret _ _ _ _ _ _ (by assumption) (by assumption) (by assumption)
end
section
variable {prog : Program} {w : World} {p : Program} {loose : List Str} {mean : ExcName → Option Value} {mg mb : Str → Option Value}
  {dp un : Nat} {gd : Option (List Code)} {cn : Str} {cs : Scope} {a : Addr} {ccd : Value} {cl : List (Str × Addr)} {outer : List Env} {A₀ : Around} {base h₀ : Heap} {L : Addr} {m : Str → Option Value} {news : List (Addr × Obj)} {s : Shared} {Q E : Value → Shared → Prop}
section
variable {A : Around} {x : UInt64} {n : Int} {t u : Tok} {Q : Value → Shared → Prop} {s : Shared}
theorem lt_1023 {n : Int} (h : n.natAbs < 2 ^ 62) : n.natAbs < 2 ^ 1023 := Nat.lt_trans h (Nat.pow_lt_pow_right (by decide) (by decide))
theorem add_fi_s (h : n.natAbs < 2 ^ 62) (hq : Q (.float (Float64.add x (Float64.ofInt n)) s.toks) { s with toks := s.toks + 1 }) : wpAny (model prog w) A (binaryOp .Add (.float x t) (.int n u)) Q E s := add_fi_fits (lt_1023 h) hq
theorem add_if_s (h : n.natAbs < 2 ^ 62) (hq : Q (.float (Float64.add (Float64.ofInt n) x) s.toks) { s with toks := s.toks + 1 }) : wpAny (model prog w) A (binaryOp .Add (.int n u) (.float x t)) Q E s := add_if_fits (lt_1023 h) hq
theorem sub_fi_s (h : n.natAbs < 2 ^ 62) (hq : Q (.float (Float64.sub x (Float64.ofInt n)) s.toks) { s with toks := s.toks + 1 }) : wpAny (model prog w) A (binaryOp .Sub (.float x t) (.int n u)) Q E s := sub_fi_fits (lt_1023 h) hq
theorem mul_fi_s (h : n.natAbs < 2 ^ 62) (hq : Q (.float (Float64.mul x (Float64.ofInt n)) s.toks) { s with toks := s.toks + 1 }) : wpAny (model prog w) A (binaryOp .Mult (.float x t) (.int n u)) Q E s := mul_fi_fits (lt_1023 h) hq
theorem mul_if_s (h : n.natAbs < 2 ^ 62) (hq : Q (.float (Float64.mul (Float64.ofInt n) x) s.toks) { s with toks := s.toks + 1 }) : wpAny (model prog w) A (binaryOp .Mult (.int n u) (.float x t)) Q E s := mul_if_fits (lt_1023 h) hq
theorem int_f_s (hA : A.handled = none) (hf : Float64.isFinite x = true) (hq : Q (.int (Flt.toInt Float64.truncOf x) s.toks) { s with toks := s.toks + 1 }) : wpAny (model prog w) A (call (.type "int") [.float x t]) Q E s :=
  Flt.call_int_float3 hA (fun h => by rw [Flt.not_nan_of_finite hf] at h; cases h) (fun h => by rw [Flt.not_inf_of_finite hf] at h; cases h) (fun _ => hq)
end
end
local macro_rules | `(tactic| walk_at "binaryOp Add float int") => `(tactic| (k_here; (refine add_fi_s ?k1 ?_); (case k1 => omega); (try dsimp only)))
local macro_rules | `(tactic| walk_at "binaryOp Add int float") => `(tactic| (k_here; (refine add_if_s ?k1 ?_); (case k1 => omega); (try dsimp only)))
local macro_rules | `(tactic| walk_at "binaryOp Sub float int") => `(tactic| (k_here; (refine sub_fi_s ?k1 ?_); (case k1 => omega); (try dsimp only)))
local macro_rules | `(tactic| walk_at "binaryOp Mult float int") => `(tactic| (k_here; (refine mul_fi_s ?k1 ?_); (case k1 => omega); (try dsimp only)))
local macro_rules | `(tactic| walk_at "binaryOp Mult int float") => `(tactic| (k_here; (refine mul_if_s ?k1 ?_); (case k1 => omega); (try dsimp only)))
local macro_rules | `(tactic| walk_at "call type:int") => `(tactic| (k_here; k_dflt (refine' int_f_s ?k0 ?k1 ?_; (case k0 => with_unfolding_all rfl); (case k1 => assumption)); (try dsimp only)))
section
variable {prog : Program} {w : World} {p : Program} {loose : List Str} {mean : ExcName → Option Value} {mg mb : Str → Option Value}
  {dp un : Nat} {gd : Option (List Code)} {cn : Str} {cs : Scope} {a : Addr} {ccd : Value} {cl : List (Str × Addr)} {outer : List Env} {A₀ : Around} {base h₀ : Heap} {L : Addr} {m : Str → Option Value} {news : List (Addr × Obj)} {s : Shared} {Q E : Value → Shared → Prop}
/-- the whole part of six times the hue -/
def hsvI (h : UInt64) : Int := Flt.toInt Float64.truncOf (Float64.mul h 4618441417868443648)
def hsvFr (h : UInt64) : UInt64 := Float64.sub (Float64.mul h 4618441417868443648) (Float64.ofInt (hsvI h))
def hsvP (S : UInt64) (v : Int) : UInt64 := Float64.mul (Float64.ofInt v) (Float64.sub 4607182418800017408 S)
def hsvQ (h S : UInt64) (v : Int) : UInt64 := Float64.mul (Float64.ofInt v) (Float64.sub 4607182418800017408 (Float64.mul S (hsvFr h)))
def hsvT (h S : UInt64) (v : Int) : UInt64 := Float64.mul (Float64.ofInt v) (Float64.sub 4607182418800017408 (Float64.mul S (Float64.sub 4607182418800017408 (hsvFr h))))
def hsvL (k : Int) (V : Value) (P Q T : UInt64) (t1 t2 : Tok) : List Value :=
  if k = 0 then [V, .float T t1, .float P t2] else if k = 1 then [.float Q t1, V, .float P t2] else if k = 2 then [.float P t1, V, .float T t2]
  else if k = 3 then [.float P t1, .float Q t2, V] else if k = 4 then [.float T t1, .float P t2, V] else [V, .float P t1, .float Q t2]
set_option maxRecDepth 100000 in
set_option maxHeartbeats 8000000 in
theorem hsv_call {h S : UInt64} {v : Int} {th ts tv : Tok}
   (B : Below A₀ base outer h₀) (F : Fr h₀ L s.heap m) (X : (Mine.hd.heap_1 w.params).In h₀) (N : News h₀ L s.heap news) (T : Top p loose mean mg mb h₀) (hk : cs.kind = .function)
   (hd : dp + 1 < recursionLimit) (_hu : un + 8 < cLine)
   (h1 : (Float64.cmp S 0 == some .eq) = false) (h2 : Float64.isFinite (Float64.mul h 4618441417868443648) = true) (h3 : 0 ≤ hsvI h) (h4 : hsvI h < 1000)
   (h5 : 0 ≤ v) (h6 : v < 2^40)
   (hret : ∀ D h' tk' t1 t2, Fr h₀ L h' m → News h₀ L h' ((D, tup (hsvL ((hsvI h).fmod 6) (.int v tv) (hsvP S v) (hsvQ h S v) (hsvT h S v) t1 t2)) :: news) → (∀ p ∈ news, p.1 < D) → Q (.ref D) { s with heap := h', toks := tk' }) :
    wpAny (model prog w) (ktrTop dp un gd cn cs L a ccd cl outer) (call (.ref 28) [.float h th, .float S ts, .int v tv]) Q E s := by
  unfold hsvI at h3 h4
  have hm1 := Int.fmod_nonneg_of_pos (Flt.toInt Float64.truncOf (Float64.mul h 4618441417868443648)) (b := 6) (by decide)
  have hm2 := Int.fmod_lt_of_pos (Flt.toInt Float64.truncOf (Float64.mul h 4618441417868443648)) (b := 6) (by decide)
  refine wpAny_call ?_
  k_dflt ktr_enter
  refine letA ?_
  intro A9
  k_steps
  all_goals unfold hsvT hsvQ hsvP hsvFr hsvI at hret
  · unfold hsvL at hret
    simp only [if_pos (by assumption : (Flt.toInt Float64.truncOf (Float64.mul h 4618441417868443648)).fmod 6 = 0)] at hret
    exact hret _ _ _ _ _ (by assumption) (by assumption) (by assumption)
  · rw [(by assumption : (Flt.toInt Float64.truncOf (Float64.mul h 4618441417868443648)).fmod 6 = 1)] at hret
    exact hret _ _ _ _ _ (by assumption) (by assumption) (by assumption)
  · rw [(by assumption : (Flt.toInt Float64.truncOf (Float64.mul h 4618441417868443648)).fmod 6 = 2)] at hret
    exact hret _ _ _ _ _ (by assumption) (by assumption) (by assumption)
  · rw [(by assumption : (Flt.toInt Float64.truncOf (Float64.mul h 4618441417868443648)).fmod 6 = 3)] at hret
    exact hret _ _ _ _ _ (by assumption) (by assumption) (by assumption)
  · rw [(by assumption : (Flt.toInt Float64.truncOf (Float64.mul h 4618441417868443648)).fmod 6 = 4)] at hret
    exact hret _ _ _ _ _ (by assumption) (by assumption) (by assumption)
  · rw [(by assumption : (Flt.toInt Float64.truncOf (Float64.mul h 4618441417868443648)).fmod 6 = 5)] at hret
    exact hret _ _ _ _ _ (by assumption) (by assumption) (by assumption)
  · exfalso; omega
end
section
variable {prog : Program} {w : World} {p : Program} {loose : List Str} {mean : ExcName → Option Value} {mg mb : Str → Option Value}
  {dp un : Nat} {gd : Option (List Code)} {cn : Str} {cs : Scope} {a : Addr} {ccd : Value} {cl : List (Str × Addr)} {outer : List Env} {A₀ : Around} {base h₀ : Heap} {L : Addr} {m : Str → Option Value} {news : List (Addr × Obj)} {s : Shared} {Q E : Value → Shared → Prop}
section
variable {A : Around} {x y : Int} {t u : Tok} {Q : Value → Shared → Prop} {s : Shared}
theorem intBits_le {k : Int} (h : k.natAbs < 2 ^ 128) : Builtin.Int.intBits k ≤ 128 := by
  unfold Builtin.Int.intBits
  split
  · exact Nat.zero_le _
  · have : k.natAbs.log2 < 128 := by
      rcases Nat.eq_zero_or_pos k.natAbs with h0 | hp
      · rw [h0]; decide
      · exact (Nat.log2_lt (Nat.ne_of_gt hp)).mpr h
    omega
theorem intMulOk_s (h1 : x.natAbs < 2 ^ 128) (h2 : y.natAbs < 2 ^ 128) : IntMulOk x y := by
  have a1 := intBits_le h1
  have a2 := intBits_le h2
  unfold IntMulOk
  have h3 : Builtin.Int.intTooBig (Builtin.Int.intBits x + Builtin.Int.intBits y) = false := by
    unfold Builtin.Int.intTooBig
    unfold bitsLine
    first | (apply decide_eq_false; omega) | (simp; omega)
  rw [h3]; simp
theorem mul_ii_s (h1 : x.natAbs < 2 ^ 128) (h2 : y.natAbs < 2 ^ 128) (hq : Q (.int (x * y) s.toks) { s with toks := s.toks + 1 }) : wpAny (model prog w) A (binaryOp .Mult (.int x t) (.int y u)) Q E s := mul_int hq (intMulOk_s h1 h2)
end
theorem not_of_false {b : Bool} (h : b = false) : ¬ (b = true) := by rw [h]; decide
end
local macro_rules | `(tactic| walk_at "binaryOp Mult int int") => `(tactic| (k_here; (refine mul_ii_s ?k1 ?k2 ?_); (case k1 => first | assumption | omega); (case k2 => first | assumption | omega); (try dsimp only)))
local macro_rules | `(tactic| walk_at "ite") => `(tactic| (k_here; first | (with_reducible refine PySem.W.ite_pos (by with_reducible assumption) ?_) | (with_reducible refine PySem.W.ite_neg (by with_reducible assumption) ?_) | (with_reducible refine PySem.W.ite_neg (not_of_false (by with_reducible assumption)) ?_)))
section
variable {prog : Program} {w : World} {p : Program} {loose : List Str} {mean : ExcName → Option Value} {mg mb : Str → Option Value}
  {dp un : Nat} {gd : Option (List Code)} {cn : Str} {cs : Scope} {a : Addr} {ccd : Value} {cl : List (Str × Addr)} {outer : List Env} {A₀ : Around} {base h₀ : Heap} {L : Addr} {m : Str → Option Value} {news : List (Addr × Obj)} {s : Shared} {Q E : Value → Shared → Prop}
set_option maxRecDepth 100000 in
set_option maxHeartbeats 8000000 in
theorem add_call {x y : Int} {tx ty : Tok}
   (B : Below A₀ base outer h₀) (F : Fr h₀ L s.heap m) (X : (Mine.hd.heap_1 w.params).In h₀) (N : News h₀ L s.heap news) (T : Top p loose mean mg mb h₀) (hk : cs.kind = .function)
   (hd : dp + 1 < recursionLimit) (_hu : un + 8 < cLine)
   (hret : ∀ h' tk' t1, Fr h₀ L h' m → News h₀ L h' news → Q (.int (x + y) t1) { s with heap := h', toks := tk' }) :
    wpAny (model prog w) (ktrTop dp un gd cn cs L a ccd cl outer) (call (.ref 77) [.int x tx, .int y ty]) Q E s := by
  refine wpAny_call ?_
  k_dflt ktr_enter
  refine letA ?_
  intro A9
  k_steps
  all_goals exact hret _ _ _ (by assumption) (by assumption)
set_option maxRecDepth 100000 in
set_option maxHeartbeats 8000000 in
theorem sub_call {x y : Int} {tx ty : Tok}
   (B : Below A₀ base outer h₀) (F : Fr h₀ L s.heap m) (X : (Mine.hd.heap_1 w.params).In h₀) (N : News h₀ L s.heap news) (T : Top p loose mean mg mb h₀) (hk : cs.kind = .function)
   (hd : dp + 1 < recursionLimit) (_hu : un + 8 < cLine)
   (hret : ∀ h' tk' t1, Fr h₀ L h' m → News h₀ L h' news → Q (.int (x - y) t1) { s with heap := h', toks := tk' }) :
    wpAny (model prog w) (ktrTop dp un gd cn cs L a ccd cl outer) (call (.ref 98) [.int x tx, .int y ty]) Q E s := by
  refine wpAny_call ?_
  k_dflt ktr_enter
  refine letA ?_
  intro A9
  k_steps
  all_goals exact hret _ _ _ (by assumption) (by assumption)
set_option maxRecDepth 100000 in
set_option maxHeartbeats 8000000 in
theorem mul_call {x y : Int} {tx ty : Tok}
   (B : Below A₀ base outer h₀) (F : Fr h₀ L s.heap m) (X : (Mine.hd.heap_1 w.params).In h₀) (N : News h₀ L s.heap news) (T : Top p loose mean mg mb h₀) (hk : cs.kind = .function)
   (hd : dp + 1 < recursionLimit) (_hu : un + 8 < cLine)
   (h1 : x.natAbs < 2 ^ 128) (h2 : y.natAbs < 2 ^ 128)
   (hret : ∀ h' tk' t1, Fr h₀ L h' m → News h₀ L h' news → Q (.int (x * y) t1) { s with heap := h', toks := tk' }) :
    wpAny (model prog w) (ktrTop dp un gd cn cs L a ccd cl outer) (call (.ref 91) [.int x tx, .int y ty]) Q E s := by
  refine wpAny_call ?_
  k_dflt ktr_enter
  refine letA ?_
  intro A9
  k_steps
  all_goals exact hret _ _ _ (by assumption) (by assumption)
set_option maxRecDepth 100000 in
set_option maxHeartbeats 8000000 in
theorem mod_call {x y : Int} {tx ty : Tok}
   (B : Below A₀ base outer h₀) (F : Fr h₀ L s.heap m) (X : (Mine.hd.heap_1 w.params).In h₀) (N : News h₀ L s.heap news) (T : Top p loose mean mg mb h₀) (hk : cs.kind = .function)
   (hd : dp + 1 < recursionLimit) (_hu : un + 8 < cLine)
   (h1 : y ≠ 0)
   (hret : ∀ h' tk' t1, Fr h₀ L h' m → News h₀ L h' news → Q (.int (x.fmod y) t1) { s with heap := h', toks := tk' }) :
    wpAny (model prog w) (ktrTop dp un gd cn cs L a ccd cl outer) (call (.ref 84) [.int x tx, .int y ty]) Q E s := by
  refine wpAny_call ?_
  k_dflt ktr_enter
  refine letA ?_
  intro A9
  k_steps
  all_goals exact hret _ _ _ (by assumption) (by assumption)
/-- the nearest whole number, as the law takes it -/
def wholeF (x : UInt64) : Int := Flt.toInt Float64.truncOf (Float64.add x (qF 1 2))
set_option maxRecDepth 100000 in
set_option maxHeartbeats 8000000 in
theorem wholeF_call {x : UInt64} {tx : Tok}
   (B : Below A₀ base outer h₀) (F : Fr h₀ L s.heap m) (X : (Mine.hd.heap_1 w.params).In h₀) (N : News h₀ L s.heap news) (T : Top p loose mean mg mb h₀) (hk : cs.kind = .function)
   (hd : dp + 1 < recursionLimit) (_hu : un + 8 < cLine)
   (h1 : Float64.isFinite (Float64.add x (qF 1 2)) = true)
   (hret : ∀ h' tk' t1, Fr h₀ L h' m → News h₀ L h' news → Q (.int (wholeF x) t1) { s with heap := h', toks := tk' }) :
    wpAny (model prog w) (ktrTop dp un gd cn cs L a ccd cl outer) (call (.ref 133) [.float x tx]) Q E s := by
  unfold qF at h1
  refine wpAny_call ?_
  k_dflt ktr_enter
  refine letA ?_
  intro A9
  k_steps
  all_goals exact hret _ _ _ (by assumption) (by assumption)
set_option maxRecDepth 100000 in
set_option maxHeartbeats 8000000 in
theorem wholeI_call {x : Int} {tx : Tok}
   (B : Below A₀ base outer h₀) (F : Fr h₀ L s.heap m) (X : (Mine.hd.heap_1 w.params).In h₀) (N : News h₀ L s.heap news) (T : Top p loose mean mg mb h₀) (hk : cs.kind = .function)
   (hd : dp + 1 < recursionLimit) (_hu : un + 8 < cLine)
   (h0 : 0 ≤ x) (h00 : x < 2^40)
   (h1 : Float64.isFinite (Float64.add (Float64.ofInt x) (qF 1 2)) = true)
   (hret : ∀ h' tk' t1, Fr h₀ L h' m → News h₀ L h' news → Q (.int (wholeF (Float64.ofInt x)) t1) { s with heap := h', toks := tk' }) :
    wpAny (model prog w) (ktrTop dp un gd cn cs L a ccd cl outer) (call (.ref 133) [.int x tx]) Q E s := by
  unfold qF at h1
  refine wpAny_call ?_
  k_dflt ktr_enter
  refine letA ?_
  intro A9
  k_steps
  all_goals exact hret _ _ _ (by assumption) (by assumption)
set_option maxRecDepth 100000 in
set_option maxHeartbeats 8000000 in
theorem hsv0_call {v k : Int} {th ts tv : Tok}
   (B : Below A₀ base outer h₀) (F : Fr h₀ L s.heap m) (X : (Mine.hd.heap_1 w.params).In h₀) (N : News h₀ L s.heap news) (T : Top p loose mean mg mb h₀) (hk : cs.kind = .function)
   (hd : dp + 1 < recursionLimit) (_hu : un + 8 < cLine)
   (hret : ∀ D h' tk', Fr h₀ L h' m → News h₀ L h' ((D, tup [.int v tv, .int v tv, .int v tv]) :: news) → (∀ p ∈ news, p.1 < D) → Q (.ref D) { s with heap := h', toks := tk' }) :
    wpAny (model prog w) (ktrTop dp un gd cn cs L a ccd cl outer) (call (.ref 28) [.int k th, .float 0 ts, .int v tv]) Q E s := by
  have h1 : (Float64.cmp 0 0 == some .eq) = true := by decide +kernel
  refine wpAny_call ?_
  k_dflt ktr_enter
  refine letA ?_
  intro A9
  k_steps
  all_goals exact hret _ _ _ (by assumption) (by assumption) (by assumption)
set_option maxRecDepth 100000 in
set_option maxHeartbeats 8000000 in
theorem rgb0_call {r : Int} {tr tg tb : Tok}
   (B : Below A₀ base outer h₀) (F : Fr h₀ L s.heap m) (X : (Mine.hd.heap_1 w.params).In h₀) (N : News h₀ L s.heap news) (T : Top p loose mean mg mb h₀) (hk : cs.kind = .function)
   (hd : dp + 1 < recursionLimit) (_hu : un + 8 < cLine)
   (hret : ∀ D h' tk' t1 t2 t3, Fr h₀ L h' m → News h₀ L h' ((D, tup [.float 0 t1, .float 0 t2, .int r t3]) :: news) → (∀ p ∈ news, p.1 < D) → Q (.ref D) { s with heap := h', toks := tk' }) :
    wpAny (model prog w) (ktrTop dp un gd cn cs L a ccd cl outer) (call (.ref 21) [.int r tr, .int r tg, .int r tb]) Q E s := by
  have e1 : max (max r r) r = r := by rw [Int.max_self, Int.max_self]
  have e2 : min (min r r) r = max (max r r) r := by rw [e1, Int.min_self, Int.min_self]
  have e3 : (min (min r r) r == max (max r r) r) = true := beq_iff_eq.mpr e2
  have e4 : decide (min (min r r) r = max (max r r) r) = true := decide_eq_true e2
  refine wpAny_call ?_
  k_dflt ktr_enter
  refine letA ?_
  intro A9
  k_steps
  rw [← e1] at hret
  exact hret _ _ _ _ _ _ (by assumption) (by assumption) (by assumption)
end
section
variable {prog : Program} {w : World} {p : Program} {loose : List Str} {mean : ExcName → Option Value} {mg mb : Str → Option Value}
  {dp un : Nat} {gd : Option (List Code)} {cn : Str} {cs : Scope} {a : Addr} {ccd : Value} {cl : List (Str × Addr)} {outer : List Env} {A₀ : Around} {base h₀ : Heap} {L : Addr} {m : Str → Option Value} {news : List (Addr × Obj)} {s : Shared} {Q E : Value → Shared → Prop}
section
variable {A : Around} {x y : Int} {t u : Tok} {Q : Value → Shared → Prop} {s : Shared} {h₀ : Heap} {L l : Addr} {m : Str → Option Value} {news : List (Addr × Obj)} {v : Value}
theorem log2_lt_s {k : Nat} (h : k < 2 ^ 128) : k.log2 < 9000 := by
  rcases Nat.eq_zero_or_pos k with h0 | hp
  · rw [h0]; decide
  · exact Nat.lt_trans ((Nat.log2_lt (Nat.ne_of_gt hp)).mpr h) (by decide)
theorem floordiv_s (hb : y ≠ 0) (h2 : y.natAbs < 2 ^ 128) (hq : Q (.int (x.fdiv y) s.toks) { s with toks := s.toks + 1 }) : wpAny (model prog w) A (binaryOp .FloorDiv (.int x t) (.int y u)) Q E s :=
  floordiv_int hb hq (Or.inl (PyProof.noPylong_of_log2 (log2_lt_s h2)))
theorem lshift_s (h1 : 0 ≤ y) (h2 : x.natAbs < 2 ^ 128) (h3 : y ≤ 1000) (hq : Q (.int (x * 2 ^ y.toNat) s.toks) { s with toks := s.toks + 1 }) : wpAny (model prog w) A (binaryOp .LShift (.int x t) (.int y u)) Q E s :=
  lshift_int h1 (by have := Mine.intBits_le h2; omega) hq
theorem rshift_s (h1 : 0 ≤ y) (hq : Q (.int (x.fdiv (2 ^ y.toNat)) s.toks) { s with toks := s.toks + 1 }) : wpAny (model prog w) A (binaryOp .RShift (.int x t) (.int y u)) Q E s := rshift_int h1 hq
theorem flat_rep (v : Value) : ∀ k : Nat, (List.replicate k [v]).flatten = List.replicate k v
  | 0 => rfl
  | k + 1 => by rw [List.replicate_succ, List.flatten_cons, flat_rep v k, List.replicate_succ]; rfl
theorem rep_s {k : Nat} (F : Fr h₀ L s.heap m) (N : News h₀ L s.heap news) (hm : (l, W.listOf [v].toArray k) ∈ news) (h0 : 0 ≤ x) (h1 : x ≤ 256)
    (h : ∀ D h', Fr h₀ L h' m → News h₀ L h' ((D, W.listOf (List.replicate x.toNat v).toArray 0) :: news) → (∀ p ∈ news, p.1 < D) → Q (.ref D) { s with heap := h' }) : wpAny (model prog w) A (binaryOp .Mult (.ref l) (.int x u)) Q E s :=
  KMa.mul F N ⟨_, (N _ hm).1, rfl, k, rfl⟩ (by omega) (by omega) (by simp only [List.length_cons, List.length_nil]; omega) (flat_rep v _) h
end
theorem ne_allLt {d b : Addr} {l : List (Addr × Obj)} (h : AllLt d l) (hb : @LE.le Nat _ d b) : ∀ p ∈ l, p.1 ≠ b := by
  induction l with
  | nil => intro p hp; cases hp
  | cons q r ih =>
    intro p hp
    rcases List.mem_cons.mp hp with rfl | hp
    · exact Nat.ne_of_lt (Nat.lt_of_lt_of_le h.1 hb)
    · exact ih h.2 p hp
/-- the code table P holds nothing yet, or the one code object of the def at pos -/
def TabQ (pos : Pos) (qual : Str) (ps : Array Value) (news : List (Addr × Obj)) : Prop :=
  ps = #[] ∨ ∃ c' oc vs t, ps = #[rawInt pos.line, rawInt pos.col, .ref c'] ∧ (c', oc) ∈ news ∧ oc.data = .fields vs ∧ vs[1]? = some (.str qual t)
theorem TabQ.mono {pos : Pos} {qual : Str} {ps : Array Value} {l l' : List (Addr × Obj)} (h : TabQ pos qual ps l) (hs : ∀ p ∈ l, p ∈ l') : TabQ pos qual ps l' := by
  rcases h with h | ⟨c', oc, vs, t, a, b, c⟩
  · exact .inl h
  · exact .inr ⟨c', oc, vs, t, a, hs _ b, c⟩
theorem TabQ.at {pos : Pos} {qual : Str} {l : List (Addr × Obj)} {c' : Addr} {oc : Obj} {vs : Array Value} {t : Tok} (hm : (c', oc) ∈ l) (h1 : oc.data = .fields vs) (h2 : vs[1]? = some (.str qual t)) :
    TabQ pos qual #[rawInt pos.line, rawInt pos.col, .ref c'] l := .inr ⟨c', oc, vs, t, rfl, hm, h1, h2⟩
theorem lt_allLt {d : Addr} {l : List (Addr × Obj)} (h : AllLt d l) : ∀ p ∈ l, @LT.lt Nat _ p.1 d := by
  induction l with
  | nil => intro p hp; cases hp
  | cons q r ih =>
    intro p hp
    rcases List.mem_cons.mp hp with rfl | hp
    · exact h.1
    · exact ih h.2 p hp
/-- how the code object c' of the def at pos came into the ledger: it stood there, or it is new -/
def TabW (P : Addr) (pos : Pos) (ps : Array Value) (c' : Addr) (oc : Obj) (news : List (Addr × Obj)) : Prop :=
  (ps = #[rawInt pos.line, rawInt pos.col, .ref c'] ∧ (c', oc) ∈ news) ∨ (ps = #[] ∧ AllLt c' news ∧ @LT.lt Nat _ P c')
section
variable {M : Model} {A : Around} {E : Value → Shared → Prop} {s : Shared} {h₀ : Heap} {L a c P Lx : Addr} {m mg mb : Str → Option Value} {cn : Str} {cs : Scope} {ccd : Value} {cl : List (Str × Addr)} {cur tl : List (Addr × Obj)} {g : Obj → List (Addr × Obj)}
  {p : Program} {loose : List Str} {mean : ExcName → Option Value} {name qual : Str} {params : Arguments} {body : List Stmt} {scope : Scope} {ps : Array Value} {pos : Pos} {firstLine : Nat} {clos : List (Str × Addr)}
theorem nestAny {Q : Value → Shared → Prop} (F : Fr h₀ L s.heap m) (N : News h₀ L s.heap cur) (T : Top p loose mean mg mb h₀) (C : CodeHd h₀ c P) (hcd : ccd = .ref c) (U : UpdF P (tabObj ps) cur g)
    (TQ : TabQ pos qual ps tl) (hs : ∀ p ∈ tl, p ∈ cur) (hl : AllLt Lx tl)
    (hcl : closureFor scope (envX cn cs L a ccd cl) = pure clos)
    (h : ∀ f c' oc vs t ctv doc h' tk, Fr h₀ L h' m →
      News h₀ L h' ((f, fnMade name qual params body scope clos doc ((mg "__name__").getD .none) c' ctv) :: (c', oc) :: g (tabObj #[rawInt pos.line, rawInt pos.col, .ref c'])) →
      oc.data = .fields vs → vs[1]? = some (.str qual t) → (@LT.lt Nat _ c' Lx ∨ AllLt c' cur) → TabW P pos ps c' oc tl → AllLt f cur → @LT.lt Nat _ c' f → Q (.ref f) { s with heap := h', toks := tk }) :
    wpAny M A (makeFunction name qual params (.stmts body) scope (envX cn cs L a ccd cl) [] [] [] pos firstLine) Q E s := by
  rcases TQ with e | ⟨c', oc, vs, t, e, hm, h1, h2⟩
  · subst e
    refine nest_K F N T C hcd U True.intro rfl hcl fun f c' oc vs t ctv doc h' tk F' N' d1 d2 l1 l2 => ?_
    have hP : (P, tabObj #[]) ∈ cur := by
      obtain ⟨own, rest, e1, e2, _, _⟩ := U.split
      rw [e1]
      exact List.mem_append_right _ (.head _)
    exact h f c' oc vs t ctv doc h' tk F' N' d1 d2 (.inr (allLt_of l1)) (.inr ⟨rfl, allLt_of fun q hq => l1 q (hs q hq), l1 _ hP⟩) (allLt_of fun q hq => Nat.lt_trans (l1 q hq) l2) l2
  · subst e
    have hP : (P, tabObj #[rawInt pos.line, rawInt pos.col, .ref c']) ∈ cur ∧ g (tabObj #[rawInt pos.line, rawInt pos.col, .ref c']) = cur := by
      obtain ⟨own, rest, e1, e2, _, _⟩ := U.split
      rw [e2, e1]
      exact ⟨List.mem_append_right _ (.head _), rfl⟩
    refine nestHit_K F N T C hcd hP.1 (by simp [TriplesOk, rawInt]) (codeAmong_snoc (c := .ref c') [] True.intro rfl) hcl fun f ctv doc h' tk F' N' l1 => ?_
    refine h f c' oc vs t ctv doc h' tk F' (fun q hq => ?_) h1 h2 (.inl (lt_allLt hl _ hm)) (.inl ⟨rfl, hm⟩) (allLt_of l1) (l1 _ (hs _ hm))
    rcases List.mem_cons.mp hq with rfl | hq
    · exact N' _ (.head _)
    · rcases List.mem_cons.mp hq with rfl | hq
      · exact N' _ (.tail _ (hs _ hm))
      · exact N' _ (.tail _ (hP.2 ▸ hq))
end
section
variable {A : Around} {t u : Tok} {Q : Value → Shared → Prop} {s : Shared} {h₀ : Heap} {L l : Addr} {m : Str → Option Value} {news : List (Addr × Obj)}
theorem len_s {vs : List Value} {k : Nat} (N : News h₀ L s.heap news) (hm : (l, W.listOf vs.toArray k) ∈ news) (hz : vs.length < 2 ^ 60) (h : ∀ t tk', Q (.int vs.length t) { s with toks := tk' }) :
    wpAny (model prog w) A (call (.builtin "len") [.ref l]) Q E s := by
  have hl : s.heap.IsList l vs.toArray := ⟨_, (N _ hm).1, rfl, k, rfl⟩
  refine len_list hl (by rw [List.size_toArray]; omega) ?_
  rw [List.size_toArray]
  exact h _ _
end
theorem allLt_mono {d d' : Addr} {l : List (Addr × Obj)} (h : AllLt d l) (hb : @LE.le Nat _ d d') : AllLt d' l := by
  induction l with
  | nil => exact True.intro
  | cons q r ih => exact ⟨Nat.lt_of_lt_of_le h.1 hb, ih h.2⟩
theorem ints_rep (i : Int) (t : Tok) : ∀ k : Nat, IntsAre (List.replicate k (.int i t)) (List.replicate k i)
  | 0 => .nil
  | k + 1 => .cons _ _ (ints_rep i t k)
theorem news_swap3 {h₀ h : Heap} {L : Addr} {a b l : Addr × Obj} {r : List (Addr × Obj)} (N : News h₀ L h (a :: b :: l :: r)) : News h₀ L h (l :: a :: b :: r) :=
  kst_newsOf N (List.forall_mem_cons.mpr ⟨.tail _ (.tail _ (.head _)), List.forall_mem_cons.mpr ⟨.head _, List.forall_mem_cons.mpr ⟨.tail _ (.head _), fun _ h => .tail _ (.tail _ (.tail _ h))⟩⟩⟩)
theorem news_swap51 {h₀ h : Heap} {L : Addr} {a b c d l : Addr × Obj} {r : List (Addr × Obj)} (N : News h₀ L h (a :: b :: c :: d :: l :: r)) : News h₀ L h (l :: a :: b :: c :: d :: r) :=
  kst_newsOf N (List.forall_mem_cons.mpr ⟨.tail _ (.tail _ (.tail _ (.tail _ (.head _)))), List.forall_mem_cons.mpr ⟨.head _, List.forall_mem_cons.mpr ⟨.tail _ (.head _), List.forall_mem_cons.mpr ⟨.tail _ (.tail _ (.head _)), List.forall_mem_cons.mpr ⟨.tail _ (.tail _ (.tail _ (.head _))), fun _ h => .tail _ (.tail _ (.tail _ (.tail _ (.tail _ h))))⟩⟩⟩⟩⟩)
theorem half_room {a p q l : Nat} (h : a + (p + q) < l) (hp : 0 < p) (hq : 0 < q) : a < l ∧ a + 1 + p < l ∧ a + 1 + q < l := by omega
theorem half_units {a p q l : Nat} (h : a + 8 * (p + q) < l) (hp : 0 < p) (hq : 0 < q) : a + 3 + 8 * p < l ∧ a + 3 + 8 * q < l := by omega
theorem one_of {lo k : Nat} : ((lo : Int) + 1 == ((lo + k : Nat) : Int)) = true ↔ k = 1 := by rw [beq_iff_eq]; omega
theorem nat_I {a b : Nat} (h : a < b) : (a : Int).natAbs < b ∧ (0 : Int) ≤ a ∧ (a : Int) < b := ⟨h, Int.natCast_nonneg a, Int.ofNat_lt.mpr h⟩
/-- what the def within _int2digits does, on k places -/
def InnerS (prog : Program) (w : World) (p : Program) (loose : List Str) (mean : ExcName → Option Value) (mg mb : Str → Option Value) (f lst : Addr) (obj : Obj) (c' cA cI cN : Addr) (oc oA oI oN : Obj) (n k : Nat) : Prop :=
  ∀ (dp un : Nat) (gd : Option (List Code)) (cn : Str) (cs : Scope) (a : Addr) (ccd : Value) (cl : List (Str × Addr)) (outer : List Env) (A₀ : Around) (base h₀ : Heap) (L : Addr) (m : Str → Option Value) (news : List (Addr × Obj)) (s : Shared) (Q E : Value → Shared → Prop)
    (X Lo Hi : Int) (tx tl th : Tok) (x lo : Nat) (vs : List Value) (ds : List Int) (c : Nat),
    Below A₀ base outer h₀ → Fr h₀ L s.heap m → (Mine.hd.heap_1 w.params).In h₀ → News h₀ L s.heap ((lst, W.listOf vs.toArray c) :: news) → Top p loose mean mg mb h₀ → cs.kind = .function → CodeHd base 48 44 →
    (f, obj) ∈ news → (c', oc) ∈ news → (cA, oA) ∈ news → (cI, oI) ∈ news → (cN, oN) ∈ news → (∀ q ∈ news, q.1 ≠ lst) → IntsAre vs ds →
    X = (x : Nat) → Lo = (lo : Nat) → Hi = ((lo + k : Nat) : Int) → 0 < k → lo + k ≤ ds.length → ds.length ≤ 256 → n * k ≤ 1000 → x < 2 ^ 128 → dp + k < recursionLimit → un + 8 * k < cLine →
    (∀ vs' h' tk', Fr h₀ L h' m → News h₀ L h' ((lst, W.listOf vs'.toArray c) :: news) → IntsAre vs' (spl ds lo (digs n x k)) → Q .none { s with heap := h', toks := tk' }) →
    wpAny (model prog w) (ktrTop dp un gd cn cs L a ccd cl outer) (call (.ref f) [.int X tx, .int Lo tl, .int Hi th]) Q E s
theorem InnerS.use {f lst : Addr} {obj : Obj} {c' cA cI cN : Addr} {oc oA oI oN : Obj} {n k k' : Nat} {X Lo Hi : Int} {tx tl th : Tok} {x lo : Nat} {vs : List Value} {ds : List Int} {c : Nat}
    (IH : ∀ k', k' < k → InnerS prog w p loose mean mg mb f lst obj c' cA cI cN oc oA oI oN n k')
    (B : Below A₀ base outer h₀) (F : Fr h₀ L s.heap m) (X' : (Mine.hd.heap_1 w.params).In h₀) (N : News h₀ L s.heap ((lst, W.listOf vs.toArray c) :: news)) (T : Top p loose mean mg mb h₀) (hk : cs.kind = .function) (C : CodeHd base 48 44)
    (m1 : (f, obj) ∈ news) (m2 : (c', oc) ∈ news) (m3 : (cA, oA) ∈ news) (m4 : (cI, oI) ∈ news) (m5 : (cN, oN) ∈ news) (off : ∀ q ∈ news, q.1 ≠ lst) (I : IntsAre vs ds)
    (eX : X = (x : Nat)) (eL : Lo = (lo : Nat)) (eH : Hi = ((lo + k' : Nat) : Int)) (h0 : 0 < k') (hkk : k' < k) (hl : lo + k' ≤ ds.length) (h2 : ds.length ≤ 256) (hnk : n * k' ≤ 1000) (hx : x < 2 ^ 128) (hd : dp + k' < recursionLimit) (hu : un + 8 * k' < cLine)
    (h : ∀ vs' h' tk', Fr h₀ L h' m → News h₀ L h' ((lst, W.listOf vs'.toArray c) :: news) → IntsAre vs' (spl ds lo (digs n x k')) → Q .none { s with heap := h', toks := tk' }) :
    wpAny (model prog w) (ktrTop dp un gd cn cs L a ccd cl outer) (call (.ref f) [.int X tx, .int Lo tl, .int Hi th]) Q E s :=
  IH k' hkk _ _ _ _ _ _ _ _ _ _ _ _ _ _ _ _ _ _ _ _ _ _ _ _ _ _ _ _ _ B F X' N T hk C m1 m2 m3 m4 m5 off I eX eL eH h0 hl h2 hnk hx hd hu h
def pos1 : Pos := ⟨73, 4, 82, 28⟩
def qual1 : Str := Str.ofString "_int2digits.<locals>.inner"
theorem use_inner {G : Prop} {h : Heap} {cur : List (Addr × Obj)} {f lst : Addr} {obj : Obj} {c' cA cI cN : Addr} {oc oA oI oN : Obj} {n : Nat} {tn : Tok} {rj : Nat} {rv : Value} (_N : News h₀ L h cur) (_mL : (lst, W.listOf (List.replicate rj rv).toArray 0) ∈ cur)
    (_dA : oA.data = .cell (some (.ref lst))) (_dI : oI.data = .cell (some (.ref f))) (_dN : oN.data = .cell (some (.int n tn)))
    (_m1 : (f, obj) ∈ cur) (_m2 : (c', oc) ∈ cur) (_m3 : (cA, oA) ∈ cur) (_m4 : (cI, oI) ∈ cur) (_m5 : (cN, oN) ∈ cur)
    (step : ∀ k, (∀ k', k' < k → InnerS prog w p loose mean mg mb f lst obj c' cA cI cN oc oA oI oN n k') → InnerS prog w p loose mean mg mb f lst obj c' cA cI cN oc oA oI oN n k)
    (rest : (∀ k, InnerS prog w p loose mean mg mb f lst obj c' cA cI cN oc oA oI oN n k) → G) : G :=
  rest fun k => Nat.strongRecOn k step
end
local macro_rules | `(tactic| walk_at "binaryOp FloorDiv int int") => `(tactic| (k_here; (refine floordiv_s ?k1 ?k2 ?_); (case k1 => first | assumption | omega); (case k2 => first | assumption | omega); (try dsimp only)))
local macro_rules | `(tactic| walk_at "binaryOp RShift int int") => `(tactic| (k_here; (refine rshift_s ?k1 ?_); (case k1 => first | assumption | omega); (try dsimp only)))
local macro_rules | `(tactic| walk_at "binaryOp LShift int int") => `(tactic| (k_here; (refine lshift_s ?k1 ?k2 ?k3 ?_); (case k1 => first | assumption | omega); (case k2 => first | assumption | omega); (case k3 => first | assumption | omega); (try dsimp only)))
local macro_rules | `(tactic| walk_at "binaryOp Mult ref int") => `(tactic| (k_here; (with_reducible show wpAny _ _ (binaryOp Operator.Mult (Value.ref _) (Value.int _ _)) _ _ _); k_dflt (refine' rep_s ?k1 ?k2 ?k3 ?k4 ?k5 ?_; (case k1 => k_asm); (case k2 => k_asm); (case k3 => k_mem); (case k4 => first | assumption | omega); (case k5 => first | assumption | omega); k_whole); intro D' h' F' N' l1; (try k_lt l1); (try k_sweep)))
local macro_rules | `(tactic| k_all) => `(tactic| first | assumption | (refine' ne_allLt ?hA ?hB; (case hA => assumption); (case hB => omega)) | fail "k_all")
local macro_rules | `(tactic| k_mem) => `(tactic| first | (with_reducible assumption) | ((show @Membership.mem (Addr × Obj) (List (Addr × Obj)) List.instMembership _ _); (with_reducible assumption)) | fail "k_mem")
local macro_rules | `(tactic| walk_at "call builtin:len") => `(tactic| (k_here; (with_reducible show wpAny _ _ (call (Value.builtin "len") [Value.ref _]) _ _ _); k_dflt (refine' len_s ?k1 ?k2 ?k3 ?_; (case k1 => k_asm); (case k2 => k_mem); (case k3 => first | assumption | (simp only [List.length_replicate]; omega) | omega); k_whole); intro t' tk'))
section
variable {prog : Program} {w : World} {p : Program} {loose : List Str} {mean : ExcName → Option Value} {mg mb : Str → Option Value}
  {dp un : Nat} {gd : Option (List Code)} {cn : Str} {cs : Scope} {a : Addr} {ccd : Value} {cl : List (Str × Addr)} {outer : List Env} {A₀ : Around} {base h₀ : Heap} {L : Addr} {m : Str → Option Value} {news : List (Addr × Obj)} {s : Shared} {Q E : Value → Shared → Prop}
local macro_rules | `(tactic| walk_at "call ref") => `(tactic| (k_here; k_dflt (refine' InnerS.use ?IH ?B ?F ?X ?N ?T ?hk ?C ?m1 ?m2 ?m3 ?m4 ?m5 ?off ?I ?eX ?eL ?eH ?h0 ?hkk ?hl ?h2 ?hnk ?hx ?hd ?hu ?_; (case IH => assumption); (case B => k_asm); (case F => k_asm); (case X => k_asm); (case N => k_asm); (case T => k_asm); (case hk => first | assumption | exact rfl); (case C => k_asm); (case m1 => k_mem); (case m2 => k_mem); (case m3 => k_mem); (case m4 => k_mem); (case m5 => k_mem); (case off => k_all); (case I => assumption); (case eX => first | assumption | exact rfl); (case eL => first | assumption | exact rfl); (case eH => assumption); (case h0 => first | assumption | omega); (case hkk => first | assumption | omega); (case hl => (try simp only [List.length_replicate]); (try rw [spl_length (by (try rw [digs_length]); first | assumption | omega)]); first | assumption | omega); (case h2 => (try simp only [List.length_replicate]); (try rw [spl_length (by (try rw [digs_length]); first | assumption | omega)]); first | assumption | omega); (case hnk => assumption); (case hx => assumption); (case hd => first | assumption | ktr_room); (case hu => first | assumption | ktr_units); k_whole); intro vs' h' tk' F' N' I'; (try k_sweep)))
set_option maxRecDepth 100000 in
set_option maxHeartbeats 8000000 in
theorem i2d_any {x n D : Nat} {tx tn : Tok} {ps : Array Value} {tl : List (Addr × Obj)}
   (B : Below A₀ base outer h₀) (F : Fr h₀ L s.heap m) (X : (Mine.hd.heap_1 w.params).In h₀) (N : News h₀ L s.heap ((44, tabObj ps) :: news)) (T : Top p loose mean mg mb h₀) (hk : cs.kind = .function)
   (C1 : CodeHd base 48 44) (TQ : TabQ pos1 qual1 ps tl) (hs : ∀ p ∈ tl, p ∈ news) (hn1 : ∀ p ∈ news, p.1 ≠ 44)
   (hd : dp + 200 < recursionLimit) (_hu : un + 1000 < cLine)
   (h1 : x < 2^128) (h2 : 0 < n) (h4 : n ≤ 128)
   (h5 : (((Builtin.Int.intBits x : Nat) : Int) + n - 1).fdiv n = (D : Nat)) (h6 : D ≤ 100) (h7 : n * D ≤ 1000) (h8 : x ≠ 0 → 0 < D) (h9 : x = 0 → D = 0)
   (hret : ∀ r c' oc vs vsc tc h' tk', Fr h₀ L h' m → News h₀ L h' ((r, W.listOf vs.toArray 0) :: (44, tabObj #[rawInt pos1.line, rawInt pos1.col, .ref c']) :: (c', oc) :: news) → IntsAre vs (digs n x D) →
      oc.data = .fields vsc → vsc[1]? = some (.str qual1 tc) → TabW 44 pos1 ps c' oc tl → AllLt r news → @LT.lt Nat _ 44 r → Q (.ref r) { s with heap := h', toks := tk' }) :
    wpAny (model prog w) (ktrTop dp un gd cn cs L a ccd cl outer) (call (.ref 49) [.int x tx, .int n tn]) Q E s := by
  have h5a : 0 ≤ (((Builtin.Int.intBits x : Nat) : Int) + n - 1).fdiv n := by rw [h5]; exact Int.natCast_nonneg _
  have h5b : (((Builtin.Int.intBits x : Nat) : Int) + n - 1).fdiv n ≤ 256 := by rw [h5]; omega
  refine wpAny_call ?_
  k_dflt (refine' code_defC ?k1 ?k2 ?k3 ?k4 ?k5 ?kA ?kF ?kK ?k6 ?k7 ?k8 ?k9 ?kB ?kD ?_ ?c2 ?c3 ?c4; (case kA => exact rfl); (case kF => exact rfl); (case kK => first | assumption | exact rfl); (case k1 => k_asm); (case k2 => k_asm); (case k3 => k_asm); (case k4 => k_asm); (case k5 => k_asm); (case k6 => k_is); (case k7 => k_is); (case k8 => ktr_room); (case k9 => exact BindsTo.of_eq rfl); (case kB => exact rfl); (case kD => decide +kernel); (case c2 => exact rfl); (case c3 => exact rfl); (case c4 => exact rfl); k_whole; intro g' L' h' tk' cells' FG' F' N' Y' B' X' T' l1; (try k_lt l1); (repeat (obtain ⟨_, l1⟩ := l1)); k_cells Y'; (try simp only [List.cons_append, List.nil_append] at N'); (try dsimp only); (try k_fold))
  refine letA ?_
  intro A9
  k_steps
  refine nestDef_K rfl rfl rfl ?_
  k_dflt (refine' nestAny (pos := pos1) (qual := qual1) (tl := tl) (Lx := L') ?F ?N ?T ?C ?cd ?U ?TQ ?hs ?hl ?cl ?_; (case F => k_asm); (case N => k_asm); (case T => k_asm); (case cd => exact rfl); (case C => kn_code); (case U => k_updF); (case TQ => assumption); (case hl => exact allLt_of fun q hq => lt_allLt l1 q (hs q hq)); (case cl => exact rfl))
  · intro p hp; have hp := hs p hp; simp only [List.mem_cons]; exact .inr (.inr (.inr (.inr (.inr (.inr hp)))))
  intro f c' oc vsc tc ctv doc h2 tk2 F2 N2 d1 d2 hc hw hf hcf
  try dsimp only at N2
  simp only [AllLt, and_true] at hc hf
  try dsimp only
  walk1
  k_dflt (refine' use_inner (prog := prog) (w := w) (p := p) (loose := loose) (mean := mean) (mg := mg) (mb := mb) (n := n) (f := f) (by assumption) ?mL ?dA ?dI ?dN ?m1 ?m2 ?m3 ?m4 ?m5 ?step ?rest; (case mL => k_mem); (case dI => k_asm); (case m1 => k_mem); (case m2 => exact List.Mem.tail _ (List.Mem.head _)); (case dA => k_asm); (case m3 => k_mem); (case m4 => k_mem); (case dN => k_asm); (case m5 => k_mem))
  · intro k IH dp un gd cn cs a ccd cl outer A₀ base h₀ L m news s Q E X Lo Hi tx tl th x lo vs ds c B F X0 N T hk C m1 m2 m3 m4 m5 off I eX eL eH h0 hl h256 hnk hx hd hu hret
    subst eX eL eH
    have hmid := mid_at lo k
    have hs2 := fun h => spl_two (ds := ds) (lo := lo) (n := n) (x := x) (k := k) h hl
    obtain ⟨p, q, ep, eq, hpq1, hpq2, hpq⟩ := halves k
    rw [ep] at hmid
    rw [ep, eq] at hs2
    clear ep eq
    subst hpq
    have hp256 : p ≤ 256 := Nat.le_trans (Nat.le_trans (Nat.le_add_right p q) (Nat.le_add_left _ lo)) (Nat.le_trans hl h256)
    have hnk1 : n * p ≤ 1000 := Nat.le_trans (Nat.mul_le_mul_left n (Nat.le_add_right p q)) hnk
    have hnk2 : n * q ≤ 1000 := Nat.le_trans (Nat.mul_le_mul_left n (Nat.le_add_left q p)) hnk
    have e : ((lo + p : Nat) : Int) - lo = (p : Int) := by rw [Int.natCast_add, Int.add_comm, Int.add_sub_cancel]
    have hsh : (((lo : Int) + ((lo + (p + q) : Nat) : Int)).fdiv (2 ^ (1 : Int).toNat) - lo) * n = ((n * p : Nat) : Int) := by
      rw [hmid, e, Int.natCast_mul, Int.mul_comm]
    have hsa : (((lo : Int) + ((lo + (p + q) : Nat) : Int)).fdiv (2 ^ (1 : Int).toNat) - lo).natAbs < 2 ^ 128 := by rw [hmid, e]; exact Nat.lt_of_le_of_lt hp256 (by decide)
    clear e
    have hlow := low_at (x := x) hsh
    have hup := up_at (x := x) hsh
    have hsh0 : 0 ≤ (((lo : Int) + ((lo + (p + q) : Nat) : Int)).fdiv (2 ^ (1 : Int).toNat) - lo) * n := by rw [hsh]; exact Int.natCast_nonneg _
    have hsh1 : (((lo : Int) + ((lo + (p + q) : Nat) : Int)).fdiv (2 ^ (1 : Int).toNat) - lo) * n ≤ 1000 := by rw [hsh]; exact Int.ofNat_le.mpr hnk1
    have hx1 : x % 2 ^ (n * p) < 2 ^ 128 := Nat.lt_of_le_of_lt (Nat.mod_le _ _) hx
    have hx2 : x / 2 ^ (n * p) < 2 ^ 128 := Nat.lt_of_le_of_lt (Nat.div_le_self _ _) hx
    have hup1 : ((x : Int).fdiv (2 ^ ((((lo : Int) + ((lo + (p + q) : Nat) : Int)).fdiv (2 ^ (1 : Int).toNat) - lo) * n).toNat)).natAbs < 2 ^ 128 := by rw [hup]; exact hx2
    have heH2 : ((lo + (p + q) : Nat) : Int) = ((lo + p + q : Nat) : Int) := by rw [Nat.add_assoc]
    have hdp : dp < recursionLimit := Nat.lt_of_le_of_lt (Nat.le_add_right _ _) hd
    have ⟨_, hnI, _⟩ := nat_I (Nat.lt_of_le_of_lt (show n ≤ 128 from h4) (show 128 < 2 ^ 128 by decide))
    have hlo : lo < ds.length := Nat.lt_of_lt_of_le (Nat.lt_add_of_pos_right h0) hl
    have ⟨_, hl0, _⟩ := nat_I hlo
    have ⟨_, _, _⟩ := nat_I (Nat.lt_of_lt_of_le hlo (Nat.le_trans h256 (show 256 ≤ 2 ^ 63 by decide)))
    refine wpAny_call ?_
    k_dflt (refine' code_nest ?k1 ?k2 ?k3 ?k4 ?k5 ?kA ?kF ?kK ?k6 ?k7 ?k8 ?k9 ?kB ?_ ?c2 ?c3 ?c4 ?c5; (case kA => exact rfl); (case kF => exact rfl); (case kK => first | assumption | exact rfl); (case k1 => k_asm); (case k2 => k_asm); (case k3 => k_asm); (case k4 => k_asm); (case k5 => k_asm); (case k6 => k_mem); (case k7 => exact codeRec_news (by k_asm) (by k_mem) (by assumption) (by assumption)); (case k8 => first | assumption | ktr_room); (case k9 => exact BindsTo.of_eq rfl); (case c5 => decide); (case kB => exact locs rfl); (case c2 => exact rfl); (case c3 => exact rfl); (case c4 => exact rfl); k_whole; intro g' L' h' FG' F' N' B' X' T'; (try dsimp only); (try k_fold))
    refine letA ?_
    intro A9
    iterate 20 (first | (with_reducible show ite _ _ _) | walk1)
    refine ite_by (fun hc => ?_) (fun hc => ?_)
    · have hk1 : p + q = 1 := one_of.mp hc
      clear hmid hnk1 hnk2 hsh hsa hlow hup hsh0 hsh1 hx1 hx2 hup1 hpq1 hpq2 hp256
      k_steps
      rename_i kF kN _ _
      refine hret _ _ _ kF kN ?_
      rw [hk1, digs_one, ← spl_one hlo]
      assumption
    · have ⟨hp, hq⟩ := pos_half hpq1 hpq2 h0 (fun e => hc (one_of.mpr e))
      have hkk1 : p < p + q := Nat.lt_add_of_pos_right hq
      have hkk2 : q < p + q := Nat.lt_add_of_pos_left hp
      have ⟨hd0, hd1, hd2⟩ := half_room hd hp hq
      have ⟨hu1, hu2⟩ := half_units hu hp hq
      have hl1 : lo + p ≤ ds.length := Nat.le_trans (Nat.add_le_add_left (Nat.le_add_right p q) lo) hl
      have hl2 : lo + p + q ≤ ds.length := by rw [Nat.add_assoc]; exact hl
      k_steps
      rename_i kF kN _ _
      refine hret _ _ _ kF kN ?_
      rw [← hs2 (Nat.add_le_add hp hq)]
      assumption
  · intro key
    have key' : ∀ k', k' < D + 1 → _ := fun k' _ => key k'
    have hz : (0 : Int) = ((0 : Nat) : Int) := rfl
    have hI0 := ints_rep 0 tk' D
    have hr : List.replicate ((((Builtin.Int.intBits x : Nat) : Int) + n - 1).fdiv n).toNat (Value.int 0 tk') = List.replicate D (Value.int 0 tk') := by rw [h5, Int.toNat_natCast]
    have hlenH : (((List.replicate ((((Builtin.Int.intBits x : Nat) : Int) + n - 1).fdiv n).toNat (Value.int 0 tk')).length : Nat) : Int) = ((0 + D : Nat) : Int) := by rw [hr, List.length_replicate, Nat.zero_add]
    rw [← hr] at hI0
    have N9 := news_swap3 (by assumption)
    k_steps
    · rename_i kF kN _ _
      refine hret _ _ _ _ _ _ _ _ kF (kst_newsOf kN (by (repeat (refine List.forall_mem_cons.mpr ⟨by k_mem, ?_⟩)); (intro p hp; repeat (first | exact hp | refine List.Mem.tail _ ?_)))) ?_ d1 d2 hw (allLt_mono l1 (by omega)) (by omega)
      rw [← spl_all (ds := List.replicate D 0) (xs := digs n x D) (by rw [digs_length, List.length_replicate])]
      assumption
    · rename_i kF kN _ _
      refine hret _ _ _ _ _ _ _ _ kF (kst_newsOf kN (by (repeat (refine List.forall_mem_cons.mpr ⟨by k_mem, ?_⟩)); (intro p hp; repeat (first | exact hp | refine List.Mem.tail _ ?_)))) ?_ d1 d2 hw (allLt_mono l1 (by omega)) (by omega)
      have hD0 : D = 0 := h9 (by omega)
      rw [hr, hD0]
      exact IntsAre.nil
end
section
variable {prog : Program} {w : World} {p : Program} {loose : List Str} {mean : ExcName → Option Value} {mg mb : Str → Option Value}
  {dp un : Nat} {gd : Option (List Code)} {cn : Str} {cs : Scope} {a : Addr} {ccd : Value} {cl : List (Str × Addr)} {outer : List Env} {A₀ : Around} {base h₀ : Heap} {L : Addr} {m : Str → Option Value} {news : List (Addr × Obj)} {s : Shared} {Q E : Value → Shared → Prop}
/-- what the def within _digits2int does, on k places -/
def InnerD (prog : Program) (w : World) (p : Program) (loose : List Str) (mean : ExcName → Option Value) (mg mb : Str → Option Value) (f lst : Addr) (obj : Obj) (c' cA cI cN : Addr) (oc oA oI oN : Obj) (vs : List Value) (ds : List Int) (c n k : Nat) : Prop :=
  ∀ (dp un : Nat) (gd : Option (List Code)) (cn : Str) (cs : Scope) (a : Addr) (ccd : Value) (cl : List (Str × Addr)) (outer : List Env) (A₀ : Around) (base h₀ : Heap) (L : Addr) (m : Str → Option Value) (news : List (Addr × Obj)) (s : Shared) (Q E : Value → Shared → Prop)
    (Lo Hi : Int) (tl th : Tok) (lo : Nat),
    Below A₀ base outer h₀ → Fr h₀ L s.heap m → (Mine.hd.heap_1 w.params).In h₀ → News h₀ L s.heap news → Top p loose mean mg mb h₀ → cs.kind = .function → CodeHd base 55 51 →
    (f, obj) ∈ news → (c', oc) ∈ news → (cA, oA) ∈ news → (cI, oI) ∈ news → (cN, oN) ∈ news → (lst, W.listOf vs.toArray c) ∈ news →
    Lo = (lo : Nat) → Hi = ((lo + k : Nat) : Int) → 0 < k → lo + k ≤ ds.length → n * k ≤ 1000 → dp + k < recursionLimit → un + 8 * k < cLine →
    (∀ h' tk' t, Fr h₀ L h' m → News h₀ L h' news → Q (.int (U n ds lo k) t) { s with heap := h', toks := tk' }) →
    wpAny (model prog w) (ktrTop dp un gd cn cs L a ccd cl outer) (call (.ref f) [.int Lo tl, .int Hi th]) Q E s
theorem InnerD.use {f lst : Addr} {obj : Obj} {c' cA cI cN : Addr} {oc oA oI oN : Obj} {n k k' : Nat} {Lo Hi : Int} {tl th : Tok} {lo : Nat} {vs : List Value} {ds : List Int} {c : Nat}
    (IH : ∀ k', k' < k → InnerD prog w p loose mean mg mb f lst obj c' cA cI cN oc oA oI oN vs ds c n k')
    (B : Below A₀ base outer h₀) (F : Fr h₀ L s.heap m) (X' : (Mine.hd.heap_1 w.params).In h₀) (N : News h₀ L s.heap news) (T : Top p loose mean mg mb h₀) (hk : cs.kind = .function) (C : CodeHd base 55 51)
    (m1 : (f, obj) ∈ news) (m2 : (c', oc) ∈ news) (m3 : (cA, oA) ∈ news) (m4 : (cI, oI) ∈ news) (m5 : (cN, oN) ∈ news) (m6 : (lst, W.listOf vs.toArray c) ∈ news)
    (eL : Lo = (lo : Nat)) (eH : Hi = ((lo + k' : Nat) : Int)) (h0 : 0 < k') (hkk : k' < k) (hl : lo + k' ≤ ds.length) (hnk : n * k' ≤ 1000) (hd : dp + k' < recursionLimit) (hu : un + 8 * k' < cLine)
    (h : ∀ h' tk' t, Fr h₀ L h' m → News h₀ L h' news → Q (.int (U n ds lo k') t) { s with heap := h', toks := tk' }) :
    wpAny (model prog w) (ktrTop dp un gd cn cs L a ccd cl outer) (call (.ref f) [.int Lo tl, .int Hi th]) Q E s :=
  IH k' hkk _ _ _ _ _ _ _ _ _ _ _ _ _ _ _ _ _ _ _ _ _ _ _ B F X' N T hk C m1 m2 m3 m4 m5 m6 eL eH h0 hl hnk hd hu h
def pos2 : Pos := ⟨88, 4, 93, 55⟩
def qual2 : Str := Str.ofString "_digits2int.<locals>.inner"
theorem use_innerD {G : Prop} {h : Heap} {cur : List (Addr × Obj)} {f lst : Addr} {obj : Obj} {c' cA cI cN : Addr} {oc oA oI oN : Obj} {vs : List Value} {ds : List Int} {c n : Nat} {tn : Tok} (_N : News h₀ L h cur)
    (_mL : (lst, W.listOf vs.toArray c) ∈ cur) (_dI : oI.data = .cell (some (.ref f))) (_dA : oA.data = .cell (some (.ref lst))) (_dN : oN.data = .cell (some (.int n tn)))
    (_m1 : (f, obj) ∈ cur) (_m2 : (c', oc) ∈ cur) (_m3 : (cA, oA) ∈ cur) (_m4 : (cI, oI) ∈ cur) (_m5 : (cN, oN) ∈ cur)
    (step : ∀ k, (∀ k', k' < k → InnerD prog w p loose mean mg mb f lst obj c' cA cI cN oc oA oI oN vs ds c n k') → InnerD prog w p loose mean mg mb f lst obj c' cA cI cN oc oA oI oN vs ds c n k)
    (rest : (∀ k, InnerD prog w p loose mean mg mb f lst obj c' cA cI cN oc oA oI oN vs ds c n k) → G) : G :=
  rest fun k => Nat.strongRecOn k step
section
variable {A : Around} {Q : Bool → Shared → Prop} {s : Shared} {h₀ : Heap} {L l : Addr} {news : List (Addr × Obj)}
theorem truthy_s {vs : List Value} {k : Nat} (N : News h₀ L s.heap news) (hm : (l, W.listOf vs.toArray k) ∈ news) (hz : vs.length < 2 ^ 60) (h : ∀ tk', Q (decide (0 < vs.length)) { s with toks := tk' }) :
    wpAny (model prog w) A (truthy (.ref l)) Q E s := by
  have hl : s.heap.IsList l vs.toArray := ⟨_, (N _ hm).1, rfl, k, rfl⟩
  refine wpAny_truthy_list hl (by rw [List.size_toArray]; omega) ?_
  have e : (!vs.toArray.isEmpty) = decide (0 < vs.length) := by cases vs <;> simp
  rw [e]
  exact h _
end
local macro_rules | `(tactic| walk_at "call ref") => `(tactic| (k_here; k_dflt (refine' InnerD.use ?IH ?B ?F ?X ?N ?T ?hk ?C ?m1 ?m2 ?m3 ?m4 ?m5 ?m6 ?eL ?eH ?h0 ?hkk ?hl ?hnk ?hd ?hu ?_; (case IH => assumption); (case B => k_asm); (case F => k_asm); (case X => k_asm); (case N => k_asm); (case T => k_asm); (case hk => first | assumption | exact rfl); (case C => k_asm); (case m1 => k_mem); (case m2 => k_mem); (case m3 => k_mem); (case m4 => k_mem); (case m5 => k_mem); (case m6 => k_mem); (case eL => first | assumption | exact rfl); (case eH => assumption); (case h0 => first | assumption | omega); (case hkk => first | assumption | omega); (case hl => first | assumption | omega); (case hnk => assumption); (case hd => first | assumption | ktr_room); (case hu => first | assumption | ktr_units); k_whole); intro h' tk' t' F' N'; (try k_sweep)))
local macro_rules | `(tactic| walk_at "truthy ref") => `(tactic| (k_here; k_dflt (refine' truthy_s ?k1 ?k2 ?k3 ?_; (case k1 => k_asm); (case k2 => k_mem); (case k3 => omega); k_whole); intro tk'))
set_option maxRecDepth 100000 in
set_option maxHeartbeats 8000000 in
theorem d2i_any {n : Nat} {tn : Tok} {ps : Array Value} {tl : List (Addr × Obj)} {lst : Addr} {vs : List Value} {ds : List Int} {kc : Nat}
   (B : Below A₀ base outer h₀) (F : Fr h₀ L s.heap m) (X : (Mine.hd.heap_1 w.params).In h₀) (N : News h₀ L s.heap ((51, tabObj ps) :: news)) (T : Top p loose mean mg mb h₀) (hk : cs.kind = .function)
   (C1 : CodeHd base 55 51) (TQ : TabQ pos2 qual2 ps tl) (hs : ∀ p ∈ tl, p ∈ news) (hn1 : ∀ p ∈ news, p.1 ≠ 51)
   (hd : dp + 200 < recursionLimit) (_hu : un + 1000 < cLine)
   (mL : (lst, W.listOf vs.toArray kc) ∈ news) (I : IntsAre vs ds) (h4 : n ≤ 128) (h6 : ds.length ≤ 100) (h7 : n * ds.length ≤ 1000) (hU : ∀ lo k, (U n ds lo k).natAbs < 2 ^ 128)
   (hret : ∀ c' oc vsc tc h' tk' t, Fr h₀ L h' m → News h₀ L h' ((51, tabObj #[rawInt pos2.line, rawInt pos2.col, .ref c']) :: (c', oc) :: news) →
      oc.data = .fields vsc → vsc[1]? = some (.str qual2 tc) → TabW 51 pos2 ps c' oc tl → Q (.int (undig n ds) t) { s with heap := h', toks := tk' }) :
    wpAny (model prog w) (ktrTop dp un gd cn cs L a ccd cl outer) (call (.ref 56) [.ref lst, .int n tn]) Q E s := by
  have hlen : vs.length = ds.length := I.length
  refine wpAny_call ?_
  k_dflt (refine' code_defC ?k1 ?k2 ?k3 ?k4 ?k5 ?kA ?kF ?kK ?k6 ?k7 ?k8 ?k9 ?kB ?kD ?_ ?c2 ?c3 ?c4; (case kA => exact rfl); (case kF => exact rfl); (case kK => first | assumption | exact rfl); (case k1 => k_asm); (case k2 => k_asm); (case k3 => k_asm); (case k4 => k_asm); (case k5 => k_asm); (case k6 => k_is); (case k7 => k_is); (case k8 => ktr_room); (case k9 => exact BindsTo.of_eq rfl); (case kB => exact rfl); (case kD => decide +kernel); (case c2 => exact rfl); (case c3 => exact rfl); (case c4 => exact rfl); k_whole; intro g' L' h' tk' cells' FG' F' N' Y' B' X' T' l1; (try k_lt l1); (repeat (obtain ⟨_, l1⟩ := l1)); k_cells Y'; (try simp only [List.cons_append, List.nil_append] at N'); (try dsimp only); (try k_fold))
  refine letA ?_
  intro A9
  k_steps
  refine nestDef_K rfl rfl rfl ?_
  k_dflt (refine' nestAny (pos := pos2) (qual := qual2) (tl := tl) (Lx := L') ?F ?N ?T ?C ?cd ?U ?TQ ?hs ?hl ?cl ?_; (case F => k_asm); (case N => k_asm); (case T => k_asm); (case cd => exact rfl); (case C => kn_code); (case U => k_updF); (case TQ => assumption); (case hl => exact allLt_of fun q hq => lt_allLt l1 q (hs q hq)); (case cl => exact rfl))
  · intro p hp; have hp := hs p hp; simp only [List.mem_cons]; exact .inr (.inr (.inr (.inr hp)))
  intro f c' oc vsc tc ctv doc h2 tk2 F2 N2 d1 d2 hc hw hf hcf
  try dsimp only at N2
  simp only [AllLt] at hc hf
  try dsimp only
  walk1
  k_dflt (refine' use_innerD (prog := prog) (w := w) (p := p) (loose := loose) (mean := mean) (mg := mg) (mb := mb) (n := n) (lst := lst) (vs := vs) (ds := ds) (c := kc) (f := f) (by assumption) ?mL ?dI ?dA ?dN ?m1 ?m2 ?m3 ?m4 ?m5 ?step ?rest; (case mL => k_mem); (case dI => k_asm); (case m1 => k_mem); (case m2 => exact List.Mem.tail _ (List.Mem.head _)); (case dA => k_asm); (case m3 => k_mem); (case m4 => k_mem); (case dN => k_asm); (case m5 => k_mem))
  · intro k IH dp un gd cn cs a ccd cl outer A₀ base h₀ L m news s Q E Lo Hi tl th lo B F X0 N T hk C m1 m2 m3 m4 m5 m6 eL eH h0 hl hnk hd hu hret
    subst eL eH
    have hmid := mid_at lo k
    obtain ⟨p, q, ep, eq, hpq1, hpq2, hpq⟩ := halves k
    rw [ep] at hmid
    clear ep eq
    subst hpq
    have hp256 : p ≤ 100 := Nat.le_trans (Nat.le_trans (Nat.le_add_right p q) (Nat.le_add_left _ lo)) (Nat.le_trans hl h6)
    have hnk1 : n * p ≤ 1000 := Nat.le_trans (Nat.mul_le_mul_left n (Nat.le_add_right p q)) hnk
    have hnk2 : n * q ≤ 1000 := Nat.le_trans (Nat.mul_le_mul_left n (Nat.le_add_left q p)) hnk
    have e : ((lo + p : Nat) : Int) - lo = (p : Int) := by rw [Int.natCast_add, Int.add_comm, Int.add_sub_cancel]
    have hsh : (((lo : Int) + ((lo + (p + q) : Nat) : Int)).fdiv (2 ^ (1 : Int).toNat) - lo) * n = ((n * p : Nat) : Int) := by
      rw [hmid, e, Int.natCast_mul, Int.mul_comm]
    have hsa : (((lo : Int) + ((lo + (p + q) : Nat) : Int)).fdiv (2 ^ (1 : Int).toNat) - lo).natAbs < 2 ^ 128 := by rw [hmid, e]; exact Nat.lt_of_le_of_lt hp256 (by decide)
    clear e
    have hsh0 : 0 ≤ (((lo : Int) + ((lo + (p + q) : Nat) : Int)).fdiv (2 ^ (1 : Int).toNat) - lo) * n := by rw [hsh]; exact Int.natCast_nonneg _
    have hsh1 : (((lo : Int) + ((lo + (p + q) : Nat) : Int)).fdiv (2 ^ (1 : Int).toNat) - lo) * n ≤ 1000 := by rw [hsh]; exact Int.ofNat_le.mpr hnk1
    have hU1 := hU (lo + p) q
    have hU2 := U_split (n := n) (ds := ds) (lo := lo) (j := p) (i := q) (Nat.le_trans (Nat.add_le_add_left (Nat.le_add_right p q) lo) hl)
    have heH2 : ((lo + (p + q) : Nat) : Int) = ((lo + p + q : Nat) : Int) := by rw [Nat.add_assoc]
    have hdp : dp < recursionLimit := Nat.lt_of_le_of_lt (Nat.le_add_right _ _) hd
    have ⟨_, hnI, _⟩ := nat_I (Nat.lt_of_le_of_lt (show n ≤ 128 from h4) (show 128 < 2 ^ 128 by decide))
    have hlo : lo < ds.length := Nat.lt_of_lt_of_le (Nat.lt_add_of_pos_right h0) hl
    have hlv : lo < vs.length := by rw [hlen]; exact hlo
    have ⟨_, hl0, hl9⟩ := nat_I hlo
    have ⟨_, _, _⟩ := nat_I hlv
    have ⟨_, _, _⟩ := nat_I (Nat.lt_of_lt_of_le hlo (Nat.le_trans h6 (show 100 ≤ 2 ^ 63 by decide)))
    refine wpAny_call ?_
    k_dflt (refine' code_nest ?k1 ?k2 ?k3 ?k4 ?k5 ?kA ?kF ?kK ?k6 ?k7 ?k8 ?k9 ?kB ?_ ?c2 ?c3 ?c4 ?c5; (case kA => exact rfl); (case kF => exact rfl); (case kK => first | assumption | exact rfl); (case k1 => k_asm); (case k2 => k_asm); (case k3 => k_asm); (case k4 => k_asm); (case k5 => k_asm); (case k6 => k_mem); (case k7 => exact codeRec_news (by k_asm) (by k_mem) (by assumption) (by assumption)); (case k8 => first | assumption | ktr_room); (case k9 => exact BindsTo.of_eq rfl); (case c5 => decide); (case kB => exact locs rfl); (case c2 => exact rfl); (case c3 => exact rfl); (case c4 => exact rfl); k_whole; intro g' L' h' FG' F' N' B' X' T'; (try dsimp only); (try k_fold))
    refine letA ?_
    intro A9
    iterate 20 (first | (with_reducible show ite _ _ _) | walk1)
    refine ite_by (fun hc => ?_) (fun hc => ?_)
    · have hk1 : p + q = 1 := one_of.mp hc
      clear hmid hnk1 hnk2 hsh hsa hsh0 hsh1 hpq1 hpq2 hp256 hU1 hU2
      k_steps
      rename_i kF kN _ _
      rw [hk1] at hret
      have e : ds.getD (lo : Int).toNat 0 = U n ds lo 1 := (U_one hlo).symm
      rw [e]
      exact hret _ _ _ kF kN
    · have ⟨hp, hq⟩ := pos_half hpq1 hpq2 h0 (fun e => hc (one_of.mpr e))
      have hkk1 : p < p + q := Nat.lt_add_of_pos_right hq
      have hkk2 : q < p + q := Nat.lt_add_of_pos_left hp
      have ⟨hd0, hd1, hd2⟩ := half_room hd hp hq
      have ⟨hu1, hu2⟩ := half_units hu hp hq
      have hl1 : lo + p ≤ ds.length := Nat.le_trans (Nat.add_le_add_left (Nat.le_add_right p q) lo) hl
      have hl2 : lo + p + q ≤ ds.length := by rw [Nat.add_assoc]; exact hl
      k_steps
      rename_i kF kN _ _
      rw [hU2] at hret
      rw [hsh, Int.toNat_natCast]
      exact hret _ _ _ kF kN
  · intro key
    have key' : ∀ k', k' < ds.length + 1 → _ := fun k' _ => key k'
    have hz : (0 : Int) = ((0 : Nat) : Int) := rfl
    have hlenH : ((vs.length : Nat) : Int) = ((0 + ds.length : Nat) : Int) := by rw [hlen, Nat.zero_add]
    k_steps
    · rename_i kF kN _ _
      rw [U_all]
      exact hret _ _ _ _ _ _ _ kF (kst_newsOf kN (by (repeat (refine List.forall_mem_cons.mpr ⟨by k_mem, ?_⟩)); (intro p hp; repeat (first | exact hp | refine List.Mem.tail _ ?_)))) d1 d2 hw
    · rename_i kF kN _ _
      have e : ds = [] := List.eq_nil_of_length_eq_zero (by omega)
      subst e
      exact hret _ _ _ _ _ _ _ kF (kst_newsOf kN (by (repeat (refine List.forall_mem_cons.mpr ⟨by k_mem, ?_⟩)); (intro p hp; repeat (first | exact hp | refine List.Mem.tail _ ?_)))) d1 d2 hw
end
section
variable {prog : Program} {w : World} {p : Program} {loose : List Str} {mean : ExcName → Option Value} {mg mb : Str → Option Value}
  {dp un : Nat} {gd : Option (List Code)} {cn : Str} {cs : Scope} {a : Addr} {ccd : Value} {cl : List (Str × Addr)} {outer : List Env} {A₀ : Around} {base h₀ : Heap} {L : Addr} {m : Str → Option Value} {news : List (Addr × Obj)} {s : Shared} {Q E : Value → Shared → Prop}
section
variable {A : Around} {E : Value → Shared → Prop} {s : Shared} {env : Env} {h₀ : Heap} {x : Str} {body : List Stmt} {Q : Flow → Shared → Prop}
theorem unrPost_mono {L I : Addr} {s₁ : Shared} {it : Obj} {R R' : (Str → Option Value) → List (Addr × Obj) → Prop} (h : ∀ m n, R m n → R' m n) :
    ∀ f s₂, UnrPost h₀ L s₁ I it R Q f s₂ → UnrPost h₀ L s₁ I it R' Q f s₂ := by
  intro f s₂ hp
  have fin : UnrEnd h₀ L s₁ I it R s₂ → UnrEnd h₀ L s₁ I it R' s₂ := by
    rintro ⟨h', tk, m', n', e, F, N, o, r⟩
    exact ⟨h', tk, m', n', e, F, N, o, h _ _ r⟩
  cases f with
  | ret v => exact hp
  | brk => exact hp
  | next => exact fin hp
  | cont => exact fin hp
/-- what a loop's state says of the frame -/
abbrev StAt {σ : Type} (ps : σ → List (Str × Value)) (x : Str) (stored : List Str) (m₀ : Str → Option Value) (c : σ) (m : Str → Option Value) : Prop :=
  (∀ p ∈ ps c, m p.1 = some p.2) ∧ ∀ z, z ≠ x → (∀ p ∈ ps c, z ≠ p.1) → stored.contains z = false → m z = m₀ z
theorem listRest_ind {I : Addr} {lp : Addr × Obj} (J : List Value → (Str → Option Value) → List (Addr × Obj) → Prop)
    (h0 : ∀ m news, J [] m news → ∀ h tk, Fr h₀ env.locals h m → News h₀ env.locals h news → Q .next { s with heap := h, toks := tk })
    (h1 : ∀ v r m news, J (v :: r) m news → ∀ (it : Obj) h tk, it.cls = .type "list_iterator" → Fr h₀ env.locals h (fun y => if y = x then some v else m y) → News h₀ env.locals h ((I, it) :: news) →
      wpAny (model prog w) A (execs body env) (UnrPost h₀ env.locals { s with heap := h, toks := tk } I it (fun m' n' => lp ∈ n' ∧ J r m' n') Q) E { s with heap := h, toks := tk }) :
    ∀ vs m news, J vs m news → ListRest prog w A E h₀ env x body Q s I lp vs m news := by
  intro vs
  induction vs with
  | nil => intro m news hj; exact ListRest.zero (h0 m news hj)
  | cons v r ih =>
    intro m news hj
    exact ListRest.succ fun it h tk hc F N => wpAny_mono (h1 v r m news hj it h tk hc F N) (unrPost_mono fun m' n' hr => ⟨hr.1, ih m' n' hr.2⟩) fun _ _ e => e
theorem revRest_ind {I : Addr} {lp : Addr × Obj} (J : List Value → (Str → Option Value) → List (Addr × Obj) → Prop)
    (h0 : ∀ m news, J [] m news → ∀ h tk, Fr h₀ env.locals h m → News h₀ env.locals h news → Q .next { s with heap := h, toks := tk })
    (h1 : ∀ v r m news, J (v :: r) m news → ∀ (it : Obj) h tk, it.cls = .type "list_reverseiterator" → Fr h₀ env.locals h (fun y => if y = x then some v else m y) → News h₀ env.locals h ((I, it) :: news) →
      wpAny (model prog w) A (execs body env) (UnrPost h₀ env.locals { s with heap := h, toks := tk } I it (fun m' n' => lp ∈ n' ∧ J r m' n') Q) E { s with heap := h, toks := tk }) :
    ∀ vs m news, J vs m news → RevRest prog w A E h₀ env x body Q s I lp vs m news := by
  intro vs
  induction vs with
  | nil => intro m news hj; exact RevRest.zero (h0 m news hj)
  | cons v r ih =>
    intro m news hj
    exact RevRest.succ fun it h tk hc F N => wpAny_mono (h1 v r m news hj it h tk hc F N) (unrPost_mono fun m' n' hr => ⟨hr.1, ih m' n' hr.2⟩) fun _ _ e => e
theorem forL {σ : Type} {ax : Addr} {vs : List Value} {n : Nat} {m₀ : Str → Option Value} {news : List (Addr × Obj)} (ps : σ → List (Str × Value)) (stored : List Str) (J : List Value → σ → List (Addr × Obj) → Prop) (c₀ : σ)
    (hh : A.handled = none) (F : Fr h₀ env.locals s.heap m₀) (N : News h₀ env.locals s.heap news) (hm : (ax, W.listOf vs.toArray n) ∈ news) (hk : ∀ p ∈ ps c₀, m₀ p.1 = some p.2) (hj : J vs c₀ news)
    (turn : ∀ I v r c (u : Str → Option Value) it nx h tk, AllLt I news → it.cls = .type "list_iterator" → J (v :: r) c nx → (ax, W.listOf vs.toArray n) ∈ nx →
      Fr h₀ env.locals h (fun y => if y = x then some v else kstB (fun z => if stored.contains z then u z else m₀ z) (ps c) y) → News h₀ env.locals h ((I, it) :: nx) →
      wpAny (model prog w) A (execs body env) (UnrPost h₀ env.locals { s with heap := h, toks := tk } I it (fun m' n' => (ax, W.listOf vs.toArray n) ∈ n' ∧ ∃ c', J r c' n' ∧ StAt ps x stored m₀ c' m') Q) E { s with heap := h, toks := tk })
    (done : ∀ c (u : Str → Option Value) nx h tk, J [] c nx → (ax, W.listOf vs.toArray n) ∈ nx → Fr h₀ env.locals h (fun y => if y = x then u y else kstB (fun z => if stored.contains z then u z else m₀ z) (ps c) y) → News h₀ env.locals h nx → Q .next { s with heap := h, toks := tk }) :
    wpAny (model prog w) A (pyIter (.ref ax)) (fun it s₂ => LoopAtV prog w A h₀ env x body Q E it s₂) E s := by
  refine iter_listUnr (lo := W.listOf vs.toArray n) (vs := vs) (n := n) hh F N hm rfl rfl fun I hI => ?_
  refine listRest_ind (fun r m nx => (ax, W.listOf vs.toArray n) ∈ nx ∧ ∃ c, J r c nx ∧ StAt ps x stored m₀ c m) ?_ ?_ vs m₀ news ⟨hm, c₀, hj, hk, fun _ _ _ _ => rfl⟩
  · rintro m nx ⟨hm', c, hJ, h1, h2⟩ h tk F₁ N₁
    exact done c m nx h tk hJ hm' (kst_frOut h1 h2 F₁) N₁
  · rintro v r m nx ⟨hm', c, hJ, h1, h2⟩ it h tk hc F₁ N₁
    exact wpAny_mono (turn I v r c m it nx h tk (allLt_of hI) hc hJ hm' (kst_fr h1 h2 F₁) N₁) (unrPost_mono fun m' n' hr => ⟨hr.1, hr⟩) fun _ _ e => e
theorem forR {σ : Type} {ax I : Addr} {vs : List Value} {n : Nat} {m₀ : Str → Option Value} {news : List (Addr × Obj)} (ps : σ → List (Str × Value)) (stored : List Str) (J : List Value → σ → List (Addr × Obj) → Prop) (c₀ : σ)
    (hh : A.handled = none) (F : Fr h₀ env.locals s.heap m₀) (N : News h₀ env.locals s.heap ((I, revObj ax ((vs.length : Int) - 1)) :: news)) (hof : OffI I (revObj ax ((vs.length : Int) - 1)) news) (hm : (ax, W.listOf vs.toArray n) ∈ news) (hk : ∀ p ∈ ps c₀, m₀ p.1 = some p.2) (hj : J vs.reverse c₀ news)
    (turn : ∀ v r c (u : Str → Option Value) it nx h tk, it.cls = .type "list_reverseiterator" → J (v :: r) c nx → (ax, W.listOf vs.toArray n) ∈ nx →
      Fr h₀ env.locals h (fun y => if y = x then some v else kstB (fun z => if stored.contains z then u z else m₀ z) (ps c) y) → News h₀ env.locals h ((I, it) :: nx) →
      wpAny (model prog w) A (execs body env) (UnrPost h₀ env.locals { s with heap := h, toks := tk } I it (fun m' n' => (ax, W.listOf vs.toArray n) ∈ n' ∧ ∃ c', J r c' n' ∧ StAt ps x stored m₀ c' m') Q) E { s with heap := h, toks := tk })
    (done : ∀ c (u : Str → Option Value) nx h tk, J [] c nx → (ax, W.listOf vs.toArray n) ∈ nx → Fr h₀ env.locals h (fun y => if y = x then u y else kstB (fun z => if stored.contains z then u z else m₀ z) (ps c) y) → News h₀ env.locals h nx → Q .next { s with heap := h, toks := tk }) :
    wpAny (model prog w) A (pyIter (.ref I)) (fun it s₂ => LoopAtV prog w A h₀ env x body Q E it s₂) E s := by
  refine iter_revUnr (lo := W.listOf vs.toArray n) (vs := vs) (n := n) hh F N hof hm rfl rfl ?_
  refine revRest_ind (fun r m nx => (ax, W.listOf vs.toArray n) ∈ nx ∧ ∃ c, J r c nx ∧ StAt ps x stored m₀ c m) ?_ ?_ vs.reverse m₀ news ⟨hm, c₀, hj, hk, fun _ _ _ _ => rfl⟩
  · rintro m nx ⟨hm', c, hJ, h1, h2⟩ h tk F₁ N₁
    exact done c m nx h tk hJ hm' (kst_frOut h1 h2 F₁) N₁
  · rintro v r m nx ⟨hm', c, hJ, h1, h2⟩ it h tk hc F₁ N₁
    exact wpAny_mono (turn v r c m it nx h tk hc hJ hm' (kst_fr h1 h2 F₁) N₁) (unrPost_mono fun m' n' hr => ⟨hr.1, hr⟩) fun _ _ e => e
end
end
section
variable {prog : Program} {w : World} {p : Program} {loose : List Str} {mean : ExcName → Option Value} {mg mb : Str → Option Value}
  {dp un : Nat} {gd : Option (List Code)} {cn : Str} {cs : Scope} {a : Addr} {ccd : Value} {cl : List (Str × Addr)} {outer : List Env} {A₀ : Around} {base h₀ : Heap} {L : Addr} {m : Str → Option Value} {news : List (Addr × Obj)} {s : Shared} {Q E : Value → Shared → Prop}
theorem unrEnd0 {h₀ : Heap} {L I : Addr} {it : Obj} {rest : (Str → Option Value) → List (Addr × Obj) → Prop} {s₁ : Shared} {h' : Heap} {tk : Nat} {m' : Str → Option Value} {nx : List (Addr × Obj)} (F : Fr h₀ L h' m') (N : News h₀ L h' ((I, it) :: nx)) (off : AllLt I nx) (r : rest m' nx) :
    UnrEnd h₀ L s₁ I it rest { s₁ with heap := h', toks := tk } := UnrEnd.intro F N nx (fun _ h => h) (fun p hp => Nat.ne_of_lt (lt_allLt off p hp)) r
theorem unrEnd1 {h₀ : Heap} {L I : Addr} {it : Obj} {rest : (Str → Option Value) → List (Addr × Obj) → Prop} {s₁ : Shared} {h' : Heap} {tk : Nat} {m' : Str → Option Value} {a : Addr × Obj} {nx : List (Addr × Obj)} (F : Fr h₀ L h' m') (N : News h₀ L h' (a :: (I, it) :: nx)) (off : AllLt I nx) (r : rest m' nx) :
    UnrEnd h₀ L s₁ I it rest { s₁ with heap := h', toks := tk } := unrEnd0 F (kst_newsOf N fun _ h => .tail _ h) off r
section
variable {A : Around} {Q : Value → Shared → Prop} {s : Shared} {h₀ : Heap} {L D : Addr} {m : Str → Option Value} {news news' : List (Addr × Obj)} {vs : List Value} {v : Value} {n : Nat}
theorem append_s (F : Fr h₀ L s.heap m) (N : News h₀ L s.heap news) (U : Upd D (W.listOf vs.toArray n) (W.listOf (vs ++ [v]).toArray (n + 1)) news news') (hz : vs.length ≤ 1000)
    (h : ∀ h', Fr h₀ L h' m → News h₀ L h' news' → Q .none { s with heap := h' }) : wpAny (model prog w) A (call (.builtin "list.append") [.ref D, v]) Q E s := by
  have e : vs.toArray.push v = (vs ++ [v]).toArray := by simp
  rw [← e] at U
  exact append_K F N U h (by rw [List.size_toArray, sizeLine_eq]; omega)
theorem reverse_s (F : Fr h₀ L s.heap m) (N : News h₀ L s.heap news) (U : Upd D (W.listOf vs.toArray n) (W.listOf vs.reverse.toArray n) news news') (hz : vs.length ≤ 1000)
    (h : ∀ h', Fr h₀ L h' m → News h₀ L h' news' → Q .none { s with heap := h' }) : wpAny (model prog w) A (call (.builtin "list.reverse") [.ref D]) Q E s :=
  kl_reverse F N rfl U (by show vs.toArray.toList.length ≤ _; rw [sizeLine_eq]; simp; omega) h
end
section
variable {A : Around} {x y : Int} {t u : Tok} {Q : Value → Shared → Prop} {s : Shared} {h₀ : Heap} {L : Addr} {m : Str → Option Value} {news : List (Addr × Obj)}
theorem divmod_s (F : Fr h₀ L s.heap m) (N : News h₀ L s.heap news) (h2 : 0 < y) (h3 : y.natAbs < 2 ^ 128)
    (h : ∀ D h' tk' t1 t2, Fr h₀ L h' m → News h₀ L h' ((D, tup [.int (x.fdiv y) t1, .int (x.fmod y) t2]) :: news) → AllLt D news → Q (.ref D) { s with heap := h', toks := tk' }) :
    wpAny (model prog w) A (call (.builtin "divmod") [.int x t, .int y u]) Q E s :=
  divmod_N F N (by omega) (fun h' F' N' => h _ h' _ _ _ F' N' (allLt_of fun p hp => Heap.lt_size (N p hp).1)) (Or.inl (PyProof.noPylong_of_log2 (log2_lt_s h3)))
end
set_option maxRecDepth 100000 in
set_option maxHeartbeats 8000000 in
theorem div2n_call {x y n : Int} {tx ty tn : Tok}
   (B : Below A₀ base outer h₀) (F : Fr h₀ L s.heap m) (X : (Mine.hd.heap_1 w.params).In h₀) (N : News h₀ L s.heap news) (T : Top p loose mean mg mb h₀) (hk : cs.kind = .function)
   (hd : dp + 2 < recursionLimit) (_hu : un + 16 < cLine)
   (h1 : x.natAbs < 2 ^ 128) (h2 : 0 < y) (h3 : y.natAbs < 2 ^ 128) (h4 : 0 ≤ n)
   (hret : ∀ D h' tk' t1 t2, Fr h₀ L h' m → News h₀ L h' ((D, tup [.int (x.fdiv y) t1, .int (x.fmod y) t2]) :: news) → AllLt D news → Q (.ref D) { s with heap := h', toks := tk' }) :
    wpAny (model prog w) (ktrTop dp un gd cn cs L a ccd cl outer) (call (.ref 35) [.int x tx, .int y ty, .int n tn]) Q E s := by
  have hb := Mine.intBits_le h1
  refine wpAny_call ?_
  k_dflt ktr_enter
  refine letA ?_
  intro A9
  k_steps
  k_dflt (refine' divmod_s ?F ?N h2 h3 ?_; (case F => k_asm); (case N => k_asm))
  intro D h' tk' t1 t2 F' N' l1
  k_steps
  rename_i kF kN _ _
  exact hret _ _ _ _ _ kF kN l1
local macro_rules | `(tactic| walk_at "call builtin:list.append") => `(tactic| (k_here; k_dflt (refine' append_s ?k1 ?k2 ?k3 ?z ?_; (case k1 => k_asm); (case k2 => k_asm); (case k3 => k_upd); (case z => first | assumption | omega); k_whole); intro h' F' N'; (try k_sweep)))
local macro_rules | `(tactic| walk_at "call builtin:list.reverse") => `(tactic| (k_here; k_dflt (refine' reverse_s ?k1 ?k2 ?k3 ?z ?_; (case k1 => k_asm); (case k2 => k_asm); (case k3 => k_upd); (case z => first | assumption | omega); k_whole); intro h' F' N'; (try k_sweep)))
theorem ints_snoc {v : Value} : ∀ {vs : List Value} {ds : List Int}, IntsAre (vs ++ [v]) ds → ∃ ds' d t, ds = ds' ++ [d] ∧ v = .int d t ∧ IntsAre vs ds'
  | [], ds, h => by
    rw [List.nil_append] at h
    cases h with
    | cons i t h => cases h; exact ⟨[], i, t, rfl, rfl, .nil⟩
  | u :: vs, ds, h => by
    rw [List.cons_append] at h
    cases h with
    | cons i t h =>
      obtain ⟨ds', d, t', e1, e2, e3⟩ := ints_snoc (vs := vs) h
      exact ⟨i :: ds', d, t', by rw [e1]; rfl, e2, .cons i t e3⟩
theorem offI_lt {I : Addr} {it : Obj} : ∀ {l : List (Addr × Obj)}, AllLt I l → OffI I it l
  | [], _ => True.intro
  | _ :: _, h => ⟨.inl (Nat.ne_of_lt h.1), offI_lt h.2⟩
theorem ints_app {v : Int} {t : Tok} : ∀ {vs : List Value} {ds : List Int}, IntsAre vs ds → IntsAre (vs ++ [.int v t]) (ds ++ [v])
  | _, _, .nil => .cons v t .nil
  | _, _, .cons i u h => .cons i u (ints_app h)
theorem ints_rev : ∀ {vs : List Value} {ds : List Int}, IntsAre vs ds → IntsAre vs.reverse ds.reverse
  | _, _, .nil => .nil
  | _, _, .cons i u h => by simp only [List.reverse_cons]; exact ints_app (ints_rev h)
/-- the long division's loop: what stands at the turn with the values rem still to come -/
inductive DivJ (n : Nat) (b : Int) (ds : List Int) (Dq : Addr) (cur : List (Addr × Obj)) (rem : List Value) (c : Int × Tok) (nx : List (Addr × Obj)) : Prop
  | mk (vsq : List Value) (cq : Nat) (dsr tl : List Int) (c1 : nx = (Dq, W.listOf vsq.toArray cq) :: cur) (c2 : IntsAre rem.reverse dsr) (c3 : ds = dsr ++ tl) (c4 : IntsAre vsq (ldiv n b tl).1.reverse) (c5 : c.1 = (ldiv n b tl).2) : DivJ n b ds Dq cur rem c nx
section
variable {A : Around} {E : Value → Shared → Prop} {s : Shared} {env : Env} {h₀ : Heap} {x : Str} {body : List Stmt} {Q : Flow → Shared → Prop}
theorem div_loop {n : Nat} {b : Int} {ds : List Int} {ax I Dq : Addr} {vs : List Value} {kc : Nat} {m₀ : Str → Option Value} {cur : List (Addr × Obj)} {t0 : Tok}
    (hh : A.handled = none) (F : Fr h₀ env.locals s.heap m₀) (N : News h₀ env.locals s.heap ((I, revObj ax ((vs.length : Int) - 1)) :: (Dq, W.listOf #[] 0) :: cur)) (hof : OffI I (revObj ax ((vs.length : Int) - 1)) ((Dq, W.listOf #[] 0) :: cur))
    (hm : (ax, W.listOf vs.toArray kc) ∈ cur) (hr : m₀ (Str.ofString "r") = some (.int 0 t0)) (hI : IntsAre vs ds)
    (turn : ∀ (v : Value) (r : List Value) (R : Int) (t : Tok) (u : Str → Option Value) (it : Obj) (vsq : List Value) (cq : Nat) (dsr : List Int) (d : Int) (td : Tok) (tl : List Int) h tk, v = .int d td → ds = dsr ++ d :: tl → IntsAre vsq (ldiv n b tl).1.reverse → R = (ldiv n b tl).2 →
      Fr h₀ env.locals h (fun y => if y = x then some (.int d td) else kstB (fun z => if [Str.ofString "q_digit"].contains z then u z else m₀ z) [(Str.ofString "r", Value.int R t)] y) → News h₀ env.locals h ((I, it) :: (Dq, W.listOf vsq.toArray cq) :: cur) →
      wpAny (model prog w) A (execs body env) (UnrPost h₀ env.locals { s with heap := h, toks := tk } I it (fun m' n' => ∃ vsq' cq' R' t', n' = (Dq, W.listOf vsq'.toArray cq') :: cur ∧ IntsAre vsq' ((ldiv n b tl).1.reverse ++ [(R * 2 ^ n + d).fdiv b]) ∧ R' = (R * 2 ^ n + d).fmod b ∧
        StAt (fun c : Int × Tok => [(Str.ofString "r", Value.int c.1 c.2)]) x [Str.ofString "q_digit"] m₀ (R', t') m') Q) E { s with heap := h, toks := tk })
    (done : ∀ (R : Int) (t : Tok) (u : Str → Option Value) vsq cq h tk, IntsAre vsq (ldiv n b ds).1.reverse → R = (ldiv n b ds).2 →
      Fr h₀ env.locals h (fun y => if y = x then u y else kstB (fun z => if [Str.ofString "q_digit"].contains z then u z else m₀ z) [(Str.ofString "r", Value.int R t)] y) → News h₀ env.locals h ((Dq, W.listOf vsq.toArray cq) :: cur) → Q .next { s with heap := h, toks := tk }) :
    wpAny (model prog w) A (pyIter (.ref I)) (fun it s₂ => LoopAtV prog w A h₀ env x body Q E it s₂) E s := by
  refine forR (vs := vs) (n := kc) (ax := ax) (fun c : Int × Tok => [(Str.ofString "r", Value.int c.1 c.2)]) [Str.ofString "q_digit"] (DivJ n b ds Dq cur) (0, t0) hh F N hof (.tail _ hm) (fun p hp => ?_) ⟨[], 0, ds, [], rfl, by rw [List.reverse_reverse]; exact hI, (List.append_nil _).symm, .nil, rfl⟩ ?_ ?_
  · rcases List.mem_cons.mp hp with rfl | hp
    · exact hr
    · cases hp
  · rintro v r ⟨R, t⟩ u it nx h tk hc ⟨vsq, cq, dsr, tl, rfl, Ir, eds, Iq, ec⟩ hm' F₁ N₁
    rw [List.reverse_cons] at Ir
    obtain ⟨ds', d, td, rfl, rfl, Ir'⟩ := ints_snoc Ir
    have eds' : ds = ds' ++ d :: tl := by rw [eds, List.append_assoc]; rfl
    refine wpAny_mono (turn _ r R t u it vsq cq ds' d td tl h tk rfl eds' Iq ec F₁ N₁) (unrPost_mono ?_) fun _ _ e => e
    rintro m' n' ⟨vsq', cq', R', t', rfl, I', eR, st⟩
    have ec' : R = (ldiv n b tl).2 := ec
    refine ⟨.tail _ hm, (R', t'), ⟨vsq', cq', ds', d :: tl, rfl, Ir', eds', ?_, ?_⟩, st⟩
    · simp only [ldiv, List.reverse_cons, ← ec']; exact I'
    · simp only [ldiv, ← ec']; exact eR
  · rintro ⟨R, t⟩ u nx h tk ⟨vsq, cq, dsr, tl, rfl, Ir, eds, Iq, ec⟩ hm' F₁ N₁
    cases Ir
    simp only [List.nil_append] at eds
    subst eds
    exact done R t u vsq cq h tk Iq ec F₁ N₁
end
theorem code_ne {h₀ h : Heap} {L c P : Addr} {oc : Obj} {l l' : List (Addr × Obj)} {vs ps : Array Value} {qual qual' : Str} {t : Tok} {pos : Pos} (N : News h₀ L h l) (h1 : (c, oc) ∈ l) (h2 : (P, tabObj ps) ∈ l)
    (hd : oc.data = .fields vs) (hv : vs[1]? = some (.str qual t)) (TQ : TabQ pos qual' ps l') : c ≠ P := by
  rintro rfl
  have e : oc = tabObj ps := Option.some.inj ((N _ h1).1.symm.trans (N _ h2).1)
  rw [e] at hd
  have e2 : ps = vs := Data.fields.inj hd
  rw [← e2] at hv
  rcases TQ with e3 | ⟨c', oc', vs', t', e3, _⟩
  · rw [e3] at hv; cases hv
  · rw [e3] at hv; cases hv
set_option maxRecDepth 100000 in
set_option maxHeartbeats 8000000 in
theorem dpos_any {x y : Nat} {n D : Nat} {tx ty : Tok} {ps1 ps2 : Array Value}
   (B : Below A₀ base outer h₀) (F : Fr h₀ L s.heap m) (X : (Mine.hd.heap_1 w.params).In h₀) (N : News h₀ L s.heap ((44, tabObj ps1) :: (51, tabObj ps2) :: news)) (T : Top p loose mean mg mb h₀) (hk : cs.kind = .function)
   (C1 : CodeHd base 48 44) (C2 : CodeHd base 55 51) (TQ1 : TabQ pos1 qual1 ps1 news) (TQ2 : TabQ pos2 qual2 ps2 news) (hn1 : ∀ p ∈ news, p.1 ≠ 44) (hn2 : ∀ p ∈ news, p.1 ≠ 51)
   (hd : dp + 300 < recursionLimit) (_hu : un + 2000 < cLine)
   (h1 : x < 2^128) (h2 : 0 < y) (h3 : y < 2 ^ 60) (hn : n = Builtin.Int.intBits y) (h4 : n ≤ 60) (h4' : 0 < n) (hyn : y < 2 ^ n)
   (h5 : (((Builtin.Int.intBits x : Nat) : Int) + n - 1).fdiv n = (D : Nat)) (h6 : D ≤ 100) (h7 : n * D ≤ 1000) (h8 : x ≠ 0 → 0 < D) (h9 : x = 0 → D = 0) (h10 : x < 2 ^ (n * D))
   (hret : ∀ D' c1 oc1 vsc1 tc1 c2 oc2 vsc2 tc2 h' tk' t1 t2, Fr h₀ L h' m → News h₀ L h' ((D', tup [.int ((x / y : Nat) : Int) t1, .int ((x % y : Nat) : Int) t2]) :: (44, tabObj #[rawInt pos1.line, rawInt pos1.col, .ref c1]) :: (51, tabObj #[rawInt pos2.line, rawInt pos2.col, .ref c2]) :: (c1, oc1) :: (c2, oc2) :: news) →
      oc1.data = .fields vsc1 → vsc1[1]? = some (.str qual1 tc1) → TabW 44 pos1 ps1 c1 oc1 news → oc2.data = .fields vsc2 → vsc2[1]? = some (.str qual2 tc2) → TabW 51 pos2 ps2 c2 oc2 news →
      AllLt D' ((44, tabObj #[]) :: (51, tabObj #[]) :: (c1, oc1) :: (c2, oc2) :: news) → Q (.ref D') { s with heap := h', toks := tk' }) :
    wpAny (model prog w) (ktrTop dp un gd cn cs L a ccd cl outer) (call (.ref 63) [.int x tx, .int y ty]) Q E s := by
  have hsm : ∀ p ∈ news, p ∈ (51, tabObj ps2) :: news := fun p hp => List.Mem.tail _ hp
  have hdg : ∀ d ∈ digs n x D, 0 ≤ d ∧ d < 2 ^ n := by
    cases D with
    | zero => intro d hd; cases hd
    | succ D => exact digs_lt n D x h10
  have hy1 : ((y : Nat) : Int).natAbs < 2 ^ 128 := by omega
  refine wpAny_call ?_
  k_dflt ktr_enter
  refine letA ?_
  intro A9
  k_steps
  subst hn
  k_dflt (refine' i2d_any (D := D) (tl := news) ?B ?F ?X ?N ?T ?hk ?C TQ1 hsm ?hn ?hd ?hu h1 h4' ?h4 h5 h6 h7 h8 h9 ?_; (case B => k_asm); (case F => k_asm); (case X => k_asm); (case N => k_asm); (case T => k_asm); (case hk => exact rfl); (case C => k_asm); (case hn => k_all); (case hd => first | exact room hd rfl | ktr_room); (case hu => first | exact room hu rfl | ktr_units); (case h4 => omega))
  intro r1 c1 oc1 vs1 vsc1 tc1 h' tk' F' N' I1 d1 e1 w1 l1 g1
  simp only [AllLt] at l1
  k_steps
  obtain ⟨l1a, l1⟩ := l1
  k_dflt (refine' div_loop (n := Builtin.Int.intBits y) (b := y) (ds := digs (Builtin.Int.intBits y) x D) ?hh ?F ?N ?of ?hm ?hr I1 ?turn ?done; (case hh => exact rfl); (case F => k_asm); (case N => k_asm); (case hr => exact rfl); (case hm => k_mem))
  case of => exact offI_lt (by assumption)
  case turn =>
    intro v r R t u it vsq cq dsr d td tl h tk ev eds Iq eR F1 N1
    dsimp only [kstB] at F1
    have htl : ∀ e ∈ tl, 0 ≤ e ∧ e < 2 ^ (Builtin.Int.intBits y) := fun e he => hdg e (by rw [eds]; exact List.mem_append_right _ (.tail _ he))
    have hdd := hdg d (by rw [eds]; exact List.mem_append_right _ (.head _))
    obtain ⟨_, hR0, hR1⟩ := ldiv_spec (Builtin.Int.intBits y) (b := y) (by omega) tl htl
    rw [← eR] at hR0 hR1
    have hP : (2 : Int) ^ (((Builtin.Int.intBits y : Nat) : Int)).toNat = 2 ^ (Builtin.Int.intBits y) := by rw [Int.toNat_natCast]
    have hPb : (2 : Int) ^ (Builtin.Int.intBits y) ≤ 2 ^ 60 := pow_mono h4
    have hP0 : (0 : Int) ≤ 2 ^ (Builtin.Int.intBits y) := Int.le_of_lt (Int.pow_pos (by decide))
    have hm0 := Int.mul_nonneg hR0 hP0
    have hm1 := Int.mul_le_mul (Int.le_of_lt hR1) hPb hP0 (by omega : (0 : Int) ≤ (y : Int))
    have hX : (R * 2 ^ (((Builtin.Int.intBits y : Nat) : Int)).toNat + d).natAbs < 2 ^ 128 := by rw [hP]; omega
    have hlq : vsq.length ≤ 1000 := by
      have q1 := Iq.length
      rw [List.length_reverse, ldiv_length] at q1
      have q2 := congrArg List.length eds
      rw [digs_length, List.length_append, List.length_cons] at q2
      omega
    k_steps
    k_dflt (refine' div2n_call ?B ?F ?X ?N ?T ?hk ?hd ?hu hX ?g1 hy1 ?g2 ?_; (case B => k_asm); (case F => k_asm); (case X => k_asm); (case N => k_asm); (case T => k_asm); (case hk => exact rfl); (case hd => first | exact room hd rfl | ktr_room); (case hu => first | exact room hu rfl | ktr_units); (case g1 => omega); (case g2 => omega))
    intro D2 h2 tk2 t3 t4 F2 N2 l2
    simp only [AllLt] at l2
    k_steps
    refine unrEnd1 (by assumption) (by assumption) (by assumption) ?_
    refine ⟨_, _, (R * 2 ^ (((Builtin.Int.intBits y : Nat) : Int)).toNat + d).fmod (y : Int), t4, rfl, ?_, ?_, ?_, ?_⟩
    · rw [← hP]; exact ints_app Iq
    · rw [← hP]
    · kst_all
    · (try dsimp +zetaDelta only); kst_same
  case done =>
    intro R t u vsq cq h tk Iq eR F1 N1
    dsimp only [kstB] at F1
    have hlq : vsq.length ≤ 1000 := by
      have q1 := Iq.length
      rw [List.length_reverse, ldiv_length, digs_length] at q1
      omega
    k_steps
    have Iq2 : IntsAre vsq.reverse (ldiv (Builtin.Int.intBits y) y (digs (Builtin.Int.intBits y) x D)).1 := by
      have := ints_rev Iq
      rwa [List.reverse_reverse] at this
    have hux : undig (Builtin.Int.intBits y) (digs (Builtin.Int.intBits y) x D) = (x : Nat) := by
      cases D with
      | zero =>
        have hx0 : x = 0 := by
          rcases Nat.eq_zero_or_pos x with h | h
          · exact h
          · have := h8 (by omega); omega
        rw [hx0]; rfl
      | succ D => exact undig_digs _ D x
    have hval := ldiv_val (Builtin.Int.intBits y) h2 hdg hux
    have hll : (ldiv (Builtin.Int.intBits y) y (digs (Builtin.Int.intBits y) x D)).1.length = D := by rw [ldiv_length, digs_length]
    have hUb := U_bound (n := Builtin.Int.intBits y) (ldiv_nonneg (Builtin.Int.intBits y) (b := y) (by omega) _ hdg) (by rw [hval.1, Int.natAbs_natCast]; exact Nat.lt_of_le_of_lt (Nat.div_le_self x y) h1)
    have hc51 := code_ne (c := c1) (P := 51) (by assumption) (by k_mem) (by k_mem) d1 e1 TQ2
    k_dflt (refine' d2i_any (tl := news) (ds := (ldiv (Builtin.Int.intBits y) y (digs (Builtin.Int.intBits y) x D)).1) ?B ?F ?X ?N ?T ?hk ?C TQ2 ?hs ?hn ?hd ?hu ?mL Iq2 ?h4 ?h6 ?h7 hUb ?_; (case B => k_asm); (case F => k_asm); (case X => k_asm); (case N => exact news_swap51 (by k_asm)); (case T => k_asm); (case hk => exact rfl); (case C => k_asm); (case hd => first | exact room hd rfl | ktr_room); (case hu => first | exact room hu rfl | ktr_units); (case mL => exact List.Mem.head _); (case hs => exact fun p hp => .tail _ (.tail _ (.tail _ (.tail _ hp)))); (case hn => exact List.forall_mem_cons.mpr ⟨fun e => absurd (show @Eq Nat _ 51 from e) (by omega), List.forall_mem_cons.mpr ⟨fun e => Nat.ne_of_gt l1a e, List.forall_mem_cons.mpr ⟨fun e => absurd (show (44 : Nat) = 51 from e) (by decide), List.forall_mem_cons.mpr ⟨hc51, hn2⟩⟩⟩⟩); (case h4 => omega); (case h6 => omega); (case h7 => rw [hll]; assumption))
    intro c2 oc2 vsc2 tc2 h3 tk3 t3 F3 N3 d2 e2 w2
    rw [hval.1]
    have eR2 : R = ((x % y : Nat) : Int) := eR.trans hval.2
    subst eR2
    k_steps
    rename_i lD kF kN _ _
    obtain ⟨q1, q2, q3, q4, q5, q6, q7⟩ := lD
    exact hret _ _ _ _ _ _ _ _ _ _ _ _ _ kF (kst_newsOf kN (by (repeat (refine List.forall_mem_cons.mpr ⟨by k_mem, ?_⟩)); (intro p hp; repeat (first | exact hp | refine List.Mem.tail _ ?_)))) d1 e1 w1 d2 e2 w2 ⟨q5, q1, q6, q2, q7⟩
end
section
variable {prog : Program} {w : World} {p : Program} {loose : List Str} {mean : ExcName → Option Value} {mg mb : Str → Option Value}
  {dp un : Nat} {gd : Option (List Code)} {cn : Str} {cs : Scope} {a : Addr} {ccd : Value} {cl : List (Str × Addr)} {outer : List Env} {A₀ : Around} {base h₀ : Heap} {L : Addr} {m : Str → Option Value} {news : List (Addr × Obj)} {s : Shared} {Q E : Value → Shared → Prop}
theorem dm_le {k n : Nat} (h : k ≤ 100) (h0 : 0 < n) : k + n - 1 ≤ n * 100 := by omega
theorem abs100 {x : Int} (h : x.natAbs < 2 ^ 100) : x < 2 ^ 100 ∧ -x < 2 ^ 100 := by omega
theorem abs60 {x : Int} (h : x.natAbs < 2 ^ 60) : x < 2 ^ 60 ∧ -x < 2 ^ 60 := by omega
theorem bitNot_eq (k : Int) : Builtin.bitNot k = -k - 1 := by unfold Builtin.bitNot; omega
theorem dm_side {x y : Nat} (hx : x < 2 ^ 100) (hy : 0 < y) (hy2 : y < 2 ^ 60) :
    ∃ D : Nat, (((Builtin.Int.intBits x : Nat) : Int) + (Builtin.Int.intBits y : Nat) - 1).fdiv (Builtin.Int.intBits y : Nat) = (D : Nat) ∧ D ≤ 100 ∧ Builtin.Int.intBits y * D ≤ 1000 ∧ (x ≠ 0 → 0 < D) ∧ (x = 0 → D = 0) ∧
      x < 2 ^ (Builtin.Int.intBits y * D) ∧ Builtin.Int.intBits y ≤ 60 ∧ 0 < Builtin.Int.intBits y ∧ y < 2 ^ Builtin.Int.intBits y := by
  have bx : Builtin.Int.intBits x ≤ 100 := PySem.intBits_le_iff.mpr (by rw [Int.natAbs_natCast]; exact hx)
  have by1 : Builtin.Int.intBits y ≤ 60 := PySem.intBits_le_iff.mpr (by rw [Int.natAbs_natCast]; exact hy2)
  have by2 : y < 2 ^ Builtin.Int.intBits y := by
    have := PySem.intBits_le_iff.mp (Nat.le_refl (Builtin.Int.intBits (y : Int)))
    rwa [Int.natAbs_natCast] at this
  have bx2 : x < 2 ^ Builtin.Int.intBits x := by
    have := PySem.intBits_le_iff.mp (Nat.le_refl (Builtin.Int.intBits (x : Int)))
    rwa [Int.natAbs_natCast] at this
  have by0 : 0 < Builtin.Int.intBits y := by
    rcases Nat.eq_zero_or_pos (Builtin.Int.intBits (y : Int)) with h | h
    · rw [h] at by2; exact absurd (Nat.lt_one_iff.mp by2) (Nat.ne_of_gt hy)
    · exact h
  have bx0 : x ≠ 0 → 0 < Builtin.Int.intBits x := by
    intro hx0
    rcases Nat.eq_zero_or_pos (Builtin.Int.intBits (x : Int)) with h | h
    · rw [h] at bx2; exact absurd (Nat.lt_one_iff.mp bx2) hx0
    · exact h
  have bx00 : x = 0 → Builtin.Int.intBits x = 0 := by rintro rfl; rfl
  generalize Builtin.Int.intBits (x : Int) = k at *
  generalize Builtin.Int.intBits (y : Int) = n at *
  have e1 := Nat.div_add_mod (k + n - 1) n
  have e2 := Nat.mod_lt (k + n - 1) by0
  have l1 : 1 ≤ k + n := Nat.le_trans by0 (Nat.le_add_left n k)
  refine ⟨(k + n - 1) / n, ?_, Nat.div_le_of_le_mul (dm_le bx by0), ?_, fun h => Nat.div_pos (Nat.le_sub_one_of_lt (Nat.lt_add_of_pos_left (bx0 h))) by0, fun h => ?_, Nat.lt_of_lt_of_le bx2 (Nat.pow_le_pow_right (by decide) ?_), by1, by0, by2⟩
  · rw [show ((k : Int) + (n : Int) - 1) = ((k + n - 1 : Nat) : Int) by rw [Int.natCast_sub l1, Int.natCast_add]; rfl, Int.fdiv_eq_ediv_of_nonneg _ (Int.natCast_nonneg _), Int.natCast_ediv]
  · exact Nat.le_trans (Nat.mul_div_le _ _) (Nat.le_trans (Nat.sub_le _ _) (Nat.le_trans (Nat.add_le_add bx by1) (by decide)))
  · rw [bx00 h, Nat.zero_add]
    exact Nat.div_eq_of_lt (Nat.sub_lt by0 (by decide))
  · have e3 := Nat.succ_le_of_lt (Nat.add_lt_add_left e2 (n * ((k + n - 1) / n)))
    rw [e1, Nat.succ_eq_add_one, Nat.sub_add_cancel l1] at e3
    exact Nat.le_of_add_le_add_right e3
/-- the code table P holds the one code object of the def at pos -/
def TabF (pos : Pos) (qual : Str) (ps : Array Value) (news : List (Addr × Obj)) : Prop :=
  ∃ c' oc vs t, ps = #[rawInt pos.line, rawInt pos.col, .ref c'] ∧ (c', oc) ∈ news ∧ oc.data = .fields vs ∧ vs[1]? = some (.str qual t)
theorem TabF.mono {pos : Pos} {qual : Str} {ps : Array Value} {l l' : List (Addr × Obj)} (h : TabF pos qual ps l) (hs : ∀ p ∈ l, p ∈ l') : TabF pos qual ps l' := by
  obtain ⟨c', oc, vs, t, a, b, c⟩ := h
  exact ⟨c', oc, vs, t, a, hs _ b, c⟩
theorem TabF.q {pos : Pos} {qual : Str} {ps : Array Value} {l : List (Addr × Obj)} (h : TabF pos qual ps l) : TabQ pos qual ps l := .inr h
theorem tabW_eq {P : Addr} {pos : Pos} {qual : Str} {ps : Array Value} {c' : Addr} {oc : Obj} {l : List (Addr × Obj)} (W : TabW P pos ps c' oc l) (h : TabF pos qual ps l) : ps = #[rawInt pos.line, rawInt pos.col, .ref c'] := by
  rcases W with h1 | h1
  · exact h1.1
  · obtain ⟨c', oc, vs, t, a, b, c⟩ := h
    rw [h1.1] at a
    cases a
theorem tup_val (x y : Nat) (t1 t2 : Tok) : tup [.int ((x / y : Nat) : Int) t1, .int ((x % y : Nat) : Int) t2] = tup [.int ((x : Int).fdiv y) t1, .int ((x : Int).fmod y) t2] := by
  rw [Int.fdiv_eq_ediv_of_nonneg _ (Int.natCast_nonneg _), Int.fmod_eq_emod_of_nonneg _ (Int.natCast_nonneg _), Int.natCast_ediv, Int.natCast_emod]
section
variable {h₀ h : Heap} {L : Addr} {news : List (Addr × Obj)} {ps1 ps2 : Array Value}
/-- the ledger without the two code tables -/
def noTabs (news : List (Addr × Obj)) : List (Addr × Obj) := news.filter fun p => decide (p.1 ≠ 44 ∧ p.1 ≠ 51)
theorem noTabs_mem {p : Addr × Obj} : p ∈ noTabs news ↔ p ∈ news ∧ p.1 ≠ 44 ∧ p.1 ≠ 51 := by
  unfold noTabs
  rw [List.mem_filter, decide_eq_true_iff]
theorem noTabs_in (N : News h₀ L h news) (m1 : (44, tabObj ps1) ∈ news) (m2 : (51, tabObj ps2) ∈ news) : News h₀ L h ((44, tabObj ps1) :: (51, tabObj ps2) :: noTabs news) :=
  kst_newsOf N (List.forall_mem_cons.mpr ⟨m1, List.forall_mem_cons.mpr ⟨m2, fun _ hp => (noTabs_mem.mp hp).1⟩⟩)
theorem noTabs_out (N : News h₀ L h news) (m1 : (44, tabObj ps1) ∈ news) (m2 : (51, tabObj ps2) ∈ news) : ∀ p ∈ news, p ∈ (44, tabObj ps1) :: (51, tabObj ps2) :: noTabs news := by
  rintro ⟨a, o⟩ hp
  by_cases h1 : a = 44
  · subst h1
    have e : o = tabObj ps1 := Option.some.inj ((N _ hp).1.symm.trans (N _ m1).1)
    rw [e]; exact .head _
  · by_cases h2 : a = 51
    · subst h2
      have e : o = tabObj ps2 := Option.some.inj ((N _ hp).1.symm.trans (N _ m2).1)
      rw [e]; exact .tail _ (.head _)
    · exact .tail _ (.tail _ (noTabs_mem.mpr ⟨hp, h1, h2⟩))
theorem noTabs_F {pos : Pos} {qual : Str} {ps : Array Value} {pos1 pos2 : Pos} {q1 q2 : Str} {l1 l2 : List (Addr × Obj)} (N : News h₀ L h news) (m1 : (44, tabObj ps1) ∈ news) (m2 : (51, tabObj ps2) ∈ news) (T1 : TabQ pos1 q1 ps1 l1) (T2 : TabQ pos2 q2 ps2 l2) (T : TabF pos qual ps news) : TabF pos qual ps (noTabs news) := by
  obtain ⟨c', oc, vs, t, a, b, c, d⟩ := T
  exact ⟨c', oc, vs, t, a, noTabs_mem.mpr ⟨b, code_ne N b m1 c d T1, code_ne N b m2 c d T2⟩, c, d⟩
end
theorem allLt_sub {d : Addr} {l l' : List (Addr × Obj)} (h : AllLt d l) (hs : ∀ p ∈ l', p ∈ l) : AllLt d l' := allLt_of fun p hp => lt_allLt h p (hs p hp)
theorem dpos_A {x y : Int} {tx ty : Tok} {ps1 ps2 : Array Value}
   (B : Below A₀ base outer h₀) (F : Fr h₀ L s.heap m) (X : (Mine.hd.heap_1 w.params).In h₀) (N : News h₀ L s.heap news) (T : Top p loose mean mg mb h₀) (hk : cs.kind = .function)
   (C1 : CodeHd base 48 44) (C2 : CodeHd base 55 51) (mT1 : (44, tabObj ps1) ∈ news) (mT2 : (51, tabObj ps2) ∈ news) (TF1 : TabF pos1 qual1 ps1 news) (TF2 : TabF pos2 qual2 ps2 news)
   (hd : dp + 300 < recursionLimit) (hu : un + 2000 < cLine)
   (h0 : 0 ≤ x) (h1 : x < 2 ^ 100) (h2 : 0 < y) (h3 : y < 2 ^ 60)
   (hret : ∀ D' h' tk' t1 t2, Fr h₀ L h' m → News h₀ L h' ((D', tup [.int (x.fdiv y) t1, .int (x.fmod y) t2]) :: news) → AllLt D' news → Q (.ref D') { s with heap := h', toks := tk' }) :
    wpAny (model prog w) (ktrTop dp un gd cn cs L a ccd cl outer) (call (.ref 63) [.int x tx, .int y ty]) Q E s := by
  obtain ⟨x, rfl⟩ := Int.eq_ofNat_of_zero_le h0
  obtain ⟨y, rfl⟩ := Int.eq_ofNat_of_zero_le (Int.le_of_lt h2)
  have h1' : x < 2 ^ 100 := by omega
  have h2' : 0 < y := Int.natCast_pos.mp h2
  have h3' : y < 2 ^ 60 := by omega
  obtain ⟨D, e1, e2, e3, e4, e5, e6, e7, e8, e9⟩ := dm_side h1' h2' h3'
  have G1 := noTabs_F N mT1 mT2 TF1.q TF2.q TF1
  have G2 := noTabs_F N mT1 mT2 TF1.q TF2.q TF2
  refine dpos_any (n := Builtin.Int.intBits y) (D := D) B F X (noTabs_in N mT1 mT2) T hk C1 C2 G1.q G2.q (fun p hp => (noTabs_mem.mp hp).2.1) (fun p hp => (noTabs_mem.mp hp).2.2) hd hu (by omega) h2' h3' rfl e7 e8 e9 e1 e2 e3 e4 e5 e6 ?_
  intro D' c1 oc1 vsc1 tc1 c2 oc2 vsc2 tc2 h' tk' t1 t2 F' N' _ _ w1 _ _ w2 l
  rw [← tabW_eq w1 G1, ← tabW_eq w2 G2, tup_val] at N'
  refine hret D' h' tk' t1 t2 F' (kst_newsOf N' (List.forall_mem_cons.mpr ⟨.head _, fun p hp => ?_⟩)) (allLt_of fun p hp => ?_)
  · rcases List.mem_cons.mp (noTabs_out N mT1 mT2 p hp) with h | h
    · exact h ▸ .tail _ (.head _)
    · rcases List.mem_cons.mp h with h | h
      · exact h ▸ .tail _ (.tail _ (.head _))
      · exact .tail _ (.tail _ (.tail _ (.tail _ (.tail _ h))))
  · rcases List.mem_cons.mp (noTabs_out N mT1 mT2 p hp) with h | h
    · exact h ▸ l.1
    · rcases List.mem_cons.mp h with h | h
      · exact h ▸ l.2.1
      · exact lt_allLt l.2.2.2.2 p h
theorem neg_q {x y b : Int} (hb : b = -x - 1) (hy : 0 < y) : Builtin.bitNot (b.fdiv y) = x.fdiv y := by
  rw [Int.fdiv_eq_ediv_of_nonneg _ (Int.le_of_lt hy), Int.fdiv_eq_ediv_of_nonneg _ (Int.le_of_lt hy)]
  rw [bitNot_eq, hb]
  have h1 := Int.mul_ediv_add_emod (-x - 1) y
  have h2 := Int.emod_nonneg (-x - 1) (Int.ne_of_gt hy)
  have h3 := Int.emod_lt_of_pos (-x - 1) hy
  generalize (-x - 1) / y = q at *
  generalize (-x - 1) % y = r at *
  have h4 : x = (y - 1 - r) + y * (-q - 1) := by
    rw [Int.mul_sub, Int.mul_neg]; omega
  rw [h4, Int.add_mul_ediv_left _ _ (Int.ne_of_gt hy), Int.ediv_eq_zero_of_lt (by omega) (by omega)]
  omega
theorem neg_r {x y b : Int} (hb : b = -x - 1) (hy : 0 < y) : y + Builtin.bitNot (b.fmod y) = x.fmod y := by
  have hq := neg_q hb hy
  have h1 := Int.mul_fdiv_add_fmod x y
  have h2 := Int.mul_fdiv_add_fmod b y
  rw [← hq, bitNot_eq, Int.mul_sub, Int.mul_neg, Int.mul_one] at h1
  rw [bitNot_eq]
  clear hq
  omega
theorem neg_fmod_neg' (x y : Int) : -((-x).fmod (-y)) = x.fmod y := by
  have h1 := Int.mul_fdiv_add_fmod x y
  have h2 := Int.mul_fdiv_add_fmod (-x) (-y)
  rw [Int.neg_fdiv_neg, Int.neg_mul] at h2
  omega
set_option maxRecDepth 100000 in
set_option maxHeartbeats 8000000 in
theorem idm_pos {x y : Int} {tx ty : Tok} {ps1 ps2 : Array Value}
   (B : Below A₀ base outer h₀) (F : Fr h₀ L s.heap m) (X : (Mine.hd.heap_1 w.params).In h₀) (N : News h₀ L s.heap news) (T : Top p loose mean mg mb h₀) (hk : cs.kind = .function)
   (C1 : CodeHd base 48 44) (C2 : CodeHd base 55 51) (mT1 : (44, tabObj ps1) ∈ news) (mT2 : (51, tabObj ps2) ∈ news) (TF1 : TabF pos1 qual1 ps1 news) (TF2 : TabF pos2 qual2 ps2 news)
   (hd : dp + 301 < recursionLimit) (hu : un + 2010 < cLine)
   (h0 : 0 ≤ x) (h1 : x < 2 ^ 100) (h2 : 0 < y) (h3 : y < 2 ^ 60)
   (hret : ∀ D' h' tk' t1 t2, Fr h₀ L h' m → News h₀ L h' ((D', tup [.int (x.fdiv y) t1, .int (x.fmod y) t2]) :: news) → AllLt D' news → Q (.ref D') { s with heap := h', toks := tk' }) :
    wpAny (model prog w) (ktrTop dp un gd cn cs L a ccd cl outer) (call (.ref 70) [.int x tx, .int y ty]) Q E s := by
  refine wpAny_call ?_
  k_dflt ktr_enter
  refine letA ?_
  intro A9
  k_steps
  · exfalso; omega
  k_dflt (refine' dpos_A ?B ?F ?X ?N ?T ?hk ?C1 ?C2 ?mT1 ?mT2 ?TF1 ?TF2 ?hd ?hu h0 h1 h2 h3 ?_; (case B => k_asm); (case F => k_asm); (case X => k_asm); (case N => k_asm); (case T => k_asm); (case hk => exact rfl); (case hd => first | exact room hd rfl | ktr_room); (case hu => first | exact room hu rfl | ktr_units); (case C1 => k_asm); (case C2 => k_asm); (case mT1 => k_mem); (case mT2 => k_mem); (case TF1 => exact TabF.mono (by assumption) (by intro p hp; repeat (first | exact hp | refine List.Mem.tail _ ?_))); (case TF2 => exact TabF.mono (by assumption) (by intro p hp; repeat (first | exact hp | refine List.Mem.tail _ ?_))))
  intro D h' tk' t1 t2 F' N' l1
  k_steps
  rename_i kF kN _ _
  exact hret _ _ _ _ _ kF kN l1
set_option maxRecDepth 100000 in
set_option maxHeartbeats 8000000 in
theorem idm_neg {x y : Int} {tx ty : Tok} {ps1 ps2 : Array Value}
   (B : Below A₀ base outer h₀) (F : Fr h₀ L s.heap m) (X : (Mine.hd.heap_1 w.params).In h₀) (N : News h₀ L s.heap news) (T : Top p loose mean mg mb h₀) (hk : cs.kind = .function)
   (C1 : CodeHd base 48 44) (C2 : CodeHd base 55 51) (mT1 : (44, tabObj ps1) ∈ news) (mT2 : (51, tabObj ps2) ∈ news) (TF1 : TabF pos1 qual1 ps1 news) (TF2 : TabF pos2 qual2 ps2 news)
   (hd : dp + 302 < recursionLimit) (hu : un + 2020 < cLine)
   (h0 : x < 0) (h1 : -x < 2 ^ 100) (h2 : 0 < y) (h3 : y < 2 ^ 60)
   (hret : ∀ D' h' tk' t1 t2, Fr h₀ L h' m → News h₀ L h' ((D', tup [.int (x.fdiv y) t1, .int (x.fmod y) t2]) :: news) → AllLt D' news → Q (.ref D') { s with heap := h', toks := tk' }) :
    wpAny (model prog w) (ktrTop dp un gd cn cs L a ccd cl outer) (call (.ref 70) [.int x tx, .int y ty]) Q E s := by
  refine wpAny_call ?_
  k_dflt ktr_enter
  refine letA ?_
  intro A9
  k_steps
  · exfalso; omega
  have hb := bitNot_eq x
  k_dflt (refine' idm_pos ?B ?F ?X ?N ?T ?hk ?C1 ?C2 ?mT1 ?mT2 ?TF1 ?TF2 ?hd ?hu ?g0 ?g1 h2 h3 ?_; (case B => k_asm); (case F => k_asm); (case X => k_asm); (case N => k_asm); (case T => k_asm); (case hk => exact rfl); (case hd => first | exact room hd rfl | ktr_room); (case hu => first | exact room hu rfl | ktr_units); (case C1 => k_asm); (case C2 => k_asm); (case mT1 => k_mem); (case mT2 => k_mem); (case TF1 => exact TabF.mono (by assumption) (by intro p hp; repeat (first | exact hp | refine List.Mem.tail _ ?_))); (case TF2 => exact TabF.mono (by assumption) (by intro p hp; repeat (first | exact hp | refine List.Mem.tail _ ?_))); (case g0 => rw [hb]; exact Int.sub_nonneg_of_le (show 1 ≤ -x from Int.neg_pos_of_neg h0)); (case g1 => rw [hb]; exact Int.lt_trans (Int.sub_lt_self _ (by decide)) h1))
  intro D h' tk' t1 t2 F' N' l1
  k_steps
  rename_i kF kN _ _
  rw [neg_q hb h2, neg_r hb h2] at kN
  refine hret _ _ _ _ _ kF (kst_newsOf kN (by (repeat (refine List.forall_mem_cons.mpr ⟨by k_mem, ?_⟩)); (intro p hp; repeat (first | exact hp | refine List.Mem.tail _ ?_)))) ?_
  exact allLt_mono l1 (by omega)
set_option maxRecDepth 100000 in
set_option maxHeartbeats 8000000 in
theorem idm_flip {x y : Int} {tx ty : Tok} {ps1 ps2 : Array Value}
   (B : Below A₀ base outer h₀) (F : Fr h₀ L s.heap m) (X : (Mine.hd.heap_1 w.params).In h₀) (N : News h₀ L s.heap news) (T : Top p loose mean mg mb h₀) (hk : cs.kind = .function)
   (C1 : CodeHd base 48 44) (C2 : CodeHd base 55 51) (mT1 : (44, tabObj ps1) ∈ news) (mT2 : (51, tabObj ps2) ∈ news) (TF1 : TabF pos1 qual1 ps1 news) (TF2 : TabF pos2 qual2 ps2 news)
   (hd : dp + 303 < recursionLimit) (hu : un + 2030 < cLine)
   (h1 : x.natAbs < 2 ^ 100) (h2 : y < 0) (h3 : y.natAbs < 2 ^ 60)
   (hret : ∀ D' h' tk' t1 t2, Fr h₀ L h' m → News h₀ L h' ((D', tup [.int (x.fdiv y) t1, .int (x.fmod y) t2]) :: news) → AllLt D' news → Q (.ref D') { s with heap := h', toks := tk' }) :
    wpAny (model prog w) (ktrTop dp un gd cn cs L a ccd cl outer) (call (.ref 70) [.int x tx, .int y ty]) Q E s := by
  refine wpAny_call ?_
  k_dflt ktr_enter
  refine letA ?_
  intro A9
  k_steps
  · exfalso; omega
  rcases Int.lt_or_le (-x) 0 with hx | hx
  · k_dflt (refine' idm_neg ?B ?F ?X ?N ?T ?hk ?C1 ?C2 ?mT1 ?mT2 ?TF1 ?TF2 ?hd ?hu hx (by rw [Int.neg_neg]; exact (abs100 h1).1) (Int.neg_pos_of_neg h2) (abs60 h3).2 ?_; (case B => k_asm); (case F => k_asm); (case X => k_asm); (case N => k_asm); (case T => k_asm); (case hk => exact rfl); (case hd => first | exact room hd rfl | ktr_room); (case hu => first | exact room hu rfl | ktr_units); (case C1 => k_asm); (case C2 => k_asm); (case mT1 => k_mem); (case mT2 => k_mem); (case TF1 => exact TabF.mono (by assumption) (by intro p hp; repeat (first | exact hp | refine List.Mem.tail _ ?_))); (case TF2 => exact TabF.mono (by assumption) (by intro p hp; repeat (first | exact hp | refine List.Mem.tail _ ?_))))
    intro D h' tk' t1 t2 F' N' l1
    k_steps
    rename_i kF kN _ _
    rw [Int.neg_fdiv_neg, neg_fmod_neg'] at kN
    refine hret _ _ _ _ _ kF (kst_newsOf kN (by (repeat (refine List.forall_mem_cons.mpr ⟨by k_mem, ?_⟩)); (intro p hp; repeat (first | exact hp | refine List.Mem.tail _ ?_)))) ?_
    exact allLt_mono l1 (by omega)
  · k_dflt (refine' idm_pos ?B ?F ?X ?N ?T ?hk ?C1 ?C2 ?mT1 ?mT2 ?TF1 ?TF2 ?hd ?hu hx (abs100 h1).2 (Int.neg_pos_of_neg h2) (abs60 h3).2 ?_; (case B => k_asm); (case F => k_asm); (case X => k_asm); (case N => k_asm); (case T => k_asm); (case hk => exact rfl); (case hd => first | exact room hd rfl | ktr_room); (case hu => first | exact room hu rfl | ktr_units); (case C1 => k_asm); (case C2 => k_asm); (case mT1 => k_mem); (case mT2 => k_mem); (case TF1 => exact TabF.mono (by assumption) (by intro p hp; repeat (first | exact hp | refine List.Mem.tail _ ?_))); (case TF2 => exact TabF.mono (by assumption) (by intro p hp; repeat (first | exact hp | refine List.Mem.tail _ ?_))))
    intro D h' tk' t1 t2 F' N' l1
    k_steps
    rename_i kF kN _ _
    rw [Int.neg_fdiv_neg, neg_fmod_neg'] at kN
    refine hret _ _ _ _ _ kF (kst_newsOf kN (by (repeat (refine List.forall_mem_cons.mpr ⟨by k_mem, ?_⟩)); (intro p hp; repeat (first | exact hp | refine List.Mem.tail _ ?_)))) ?_
    exact allLt_mono l1 (by omega)
theorem idm_A {x y : Int} {tx ty : Tok} {ps1 ps2 : Array Value}
   (B : Below A₀ base outer h₀) (F : Fr h₀ L s.heap m) (X : (Mine.hd.heap_1 w.params).In h₀) (N : News h₀ L s.heap news) (T : Top p loose mean mg mb h₀) (hk : cs.kind = .function)
   (C1 : CodeHd base 48 44) (C2 : CodeHd base 55 51) (mT1 : (44, tabObj ps1) ∈ news) (mT2 : (51, tabObj ps2) ∈ news) (TF1 : TabF pos1 qual1 ps1 news) (TF2 : TabF pos2 qual2 ps2 news)
   (hd : dp + 303 < recursionLimit) (hu : un + 2030 < cLine)
   (h1 : x.natAbs < 2 ^ 100) (h2 : y ≠ 0) (h3 : y.natAbs < 2 ^ 60)
   (hret : ∀ D' h' tk' t1 t2, Fr h₀ L h' m → News h₀ L h' ((D', tup [.int (x.fdiv y) t1, .int (x.fmod y) t2]) :: news) → AllLt D' news → Q (.ref D') { s with heap := h', toks := tk' }) :
    wpAny (model prog w) (ktrTop dp un gd cn cs L a ccd cl outer) (call (.ref 70) [.int x tx, .int y ty]) Q E s := by
  rcases Int.lt_or_le y 0 with hy | hy
  · exact idm_flip B F X N T hk C1 C2 mT1 mT2 TF1 TF2 hd hu h1 hy h3 hret
  · rcases Int.lt_or_le x 0 with hx | hx
    · exact idm_neg B F X N T hk C1 C2 mT1 mT2 TF1 TF2 (Nat.lt_of_succ_lt hd) (Nat.lt_of_le_of_lt (Nat.add_le_add_left (by decide) un) hu) hx (abs100 h1).2 (Int.lt_iff_le_and_ne.mpr ⟨hy, h2.symm⟩) (abs60 h3).1 hret
    · exact idm_pos B F X N T hk C1 C2 mT1 mT2 TF1 TF2 (Nat.lt_of_le_of_lt (Nat.add_le_add_left (by decide) dp) hd) (Nat.lt_of_le_of_lt (Nat.add_le_add_left (by decide) un) hu) hx (abs100 h1).1 (Int.lt_iff_le_and_ne.mpr ⟨hy, h2.symm⟩) (abs60 h3).1 hret
end
section
variable {prog : Program} {w : World} {p : Program} {loose : List Str} {mean : ExcName → Option Value} {mg mb : Str → Option Value}
  {dp un : Nat} {gd : Option (List Code)} {cn : Str} {cs : Scope} {a : Addr} {ccd : Value} {cl : List (Str × Addr)} {outer : List Env} {A₀ : Around} {base h₀ : Heap} {L : Addr} {m : Str → Option Value} {news : List (Addr × Obj)} {s : Shared} {Q E : Value → Shared → Prop}
set_option maxRecDepth 100000 in
set_option maxHeartbeats 8000000 in
theorem idm_first {x y : Int} {tx ty : Tok} {ps1 ps2 : Array Value}
   (B : Below A₀ base outer h₀) (F : Fr h₀ L s.heap m) (X : (Mine.hd.heap_1 w.params).In h₀) (N : News h₀ L s.heap ((44, tabObj ps1) :: (51, tabObj ps2) :: news)) (T : Top p loose mean mg mb h₀) (hk : cs.kind = .function)
   (C1 : CodeHd base 48 44) (C2 : CodeHd base 55 51) (TQ1 : TabQ pos1 qual1 ps1 news) (TQ2 : TabQ pos2 qual2 ps2 news) (hn1 : ∀ p ∈ news, p.1 ≠ 44) (hn2 : ∀ p ∈ news, p.1 ≠ 51)
   (hd : dp + 301 < recursionLimit) (hu : un + 2010 < cLine)
   (h0 : 0 ≤ x) (h1 : x < 2 ^ 100) (h2 : 0 < y) (h3 : y < 2 ^ 60)
   (hret : ∀ D' ps1' ps2' c1 oc1 c2 oc2 h' tk' t1 t2, Fr h₀ L h' m → News h₀ L h' ((D', tup [.int (x.fdiv y) t1, .int (x.fmod y) t2]) :: (44, tabObj ps1') :: (51, tabObj ps2') :: (c1, oc1) :: (c2, oc2) :: news) →
      TabF pos1 qual1 ps1' [(c1, oc1), (c2, oc2)] → TabF pos2 qual2 ps2' [(c1, oc1), (c2, oc2)] → AllLt D' ((44, tabObj #[]) :: (51, tabObj #[]) :: (c1, oc1) :: (c2, oc2) :: news) → Q (.ref D') { s with heap := h', toks := tk' }) :
    wpAny (model prog w) (ktrTop dp un gd cn cs L a ccd cl outer) (call (.ref 70) [.int x tx, .int y ty]) Q E s := by
  obtain ⟨x, rfl⟩ := Int.eq_ofNat_of_zero_le h0
  obtain ⟨y, rfl⟩ := Int.eq_ofNat_of_zero_le (Int.le_of_lt h2)
  have h1' : x < 2 ^ 100 := by omega
  have h2' : 0 < y := by omega
  have h3' : y < 2 ^ 60 := by omega
  obtain ⟨D, e1, e2, e3, e4, e5, e6, e7, e8, e9⟩ := dm_side h1' h2' h3'
  refine wpAny_call ?_
  k_dflt ktr_enter
  refine letA ?_
  intro A9
  k_steps
  · exfalso; omega
  k_dflt (refine' dpos_any ?B ?F ?X ?N ?T ?hk ?C1 ?C2 TQ1 TQ2 hn1 hn2 ?hd ?hu ?h1 h2' h3' rfl e7 e8 e9 e1 e2 e3 e4 e5 e6 ?_; (case B => k_asm); (case F => k_asm); (case X => k_asm); (case N => k_asm); (case T => k_asm); (case hk => exact rfl); (case hd => first | exact room hd rfl | ktr_room); (case hu => first | exact room hu rfl | ktr_units); (case C1 => k_asm); (case C2 => k_asm); (case h1 => omega))
  intro D' c1 oc1 vsc1 tc1 c2 oc2 vsc2 tc2 h' tk' t1 t2 F' N' d1 q1 _ d2 q2 _ l
  rw [tup_val] at N'
  k_steps
  rename_i kF kN _ _
  exact hret _ _ _ _ _ _ _ _ _ _ _ kF kN ⟨_, _, _, _, rfl, .head _, d1, q1⟩ ⟨_, _, _, _, rfl, .tail _ (.head _), d2, q2⟩ l
/-- a light's figures -/
def lightR (u b : Int) : Int := u.fdiv (b * b)
def lightB (u b : Int) : Int := (u.fmod (b * b)).fdiv b
def lightG (u b : Int) : Int := (u.fmod (b * b)).fmod b
set_option maxRecDepth 100000 in
set_option maxHeartbeats 8000000 in
theorem light_A {x y : Int} {tx ty : Tok} {ps1 ps2 : Array Value}
   (B : Below A₀ base outer h₀) (F : Fr h₀ L s.heap m) (X : (Mine.hd.heap_1 w.params).In h₀) (N : News h₀ L s.heap news) (T : Top p loose mean mg mb h₀) (hk : cs.kind = .function)
   (C1 : CodeHd base 48 44) (C2 : CodeHd base 55 51) (mT1 : (44, tabObj ps1) ∈ news) (mT2 : (51, tabObj ps2) ∈ news) (TF1 : TabF pos1 qual1 ps1 news) (TF2 : TabF pos2 qual2 ps2 news)
   (hd : dp + 310 < recursionLimit) (hu : un + 2100 < cLine)
   (h0 : 0 ≤ x) (h1 : x < 2 ^ 100) (h2 : 0 < y) (h3 : y < 2 ^ 29)
   (hret : ∀ D' h' tk' t1 t2 t3, Fr h₀ L h' m → News h₀ L h' ((D', W.listOf #[.int (lightR x y) t1, .int (lightG x y) t2, .int (lightB x y) t3] 0) :: news) → AllLt D' news → Q (.ref D') { s with heap := h', toks := tk' }) :
    wpAny (model prog w) (ktrTop dp un gd cn cs L a ccd cl outer) (call (.ref 140) [.int x tx, .int y ty]) Q E s := by
  have hyy : y * y < 2 ^ 58 := Int.lt_of_le_of_lt (Int.mul_le_mul_of_nonneg_left (Int.le_of_lt h3) (Int.le_of_lt h2)) (by omega)
  have hyy0 : 0 < y * y := Int.mul_pos h2 h2
  have hf0 : 0 ≤ x.fmod (y * y) := by rw [Int.fmod_eq_emod_of_nonneg _ (Int.le_of_lt hyy0)]; exact Int.emod_nonneg _ (Int.ne_of_gt hyy0)
  have hf1 : x.fmod (y * y) < y * y := by rw [Int.fmod_eq_emod_of_nonneg _ (Int.le_of_lt hyy0)]; exact Int.emod_lt_of_pos _ hyy0
  refine wpAny_call ?_
  k_dflt ktr_enter
  refine letA ?_
  intro A9
  k_steps
  k_dflt (refine' mul_call ?B ?F ?X ?N ?T ?hk ?hd ?hu ?g1 ?g2 ?_; (case B => k_asm); (case F => k_asm); (case X => k_asm); (case N => k_asm); (case T => k_asm); (case hk => exact rfl); (case hd => first | exact room hd rfl | ktr_room); (case hu => first | exact room hu rfl | ktr_units); (case g1 => first | exact Nat.lt_of_le_of_lt (by assumption) (by decide) | omega); (case g2 => first | exact Nat.lt_of_le_of_lt (by assumption) (by decide) | omega))
  intro h1' tk1' t1 F1 N1
  k_steps
  k_dflt (refine' idm_A ?B ?F ?X ?N ?T ?hk ?C1 ?C2 ?mT1 ?mT2 ?TF1 ?TF2 ?hd ?hu ?g1 ?g2 ?g3 ?_; (case B => k_asm); (case F => k_asm); (case X => k_asm); (case N => k_asm); (case T => k_asm); (case hk => exact rfl); (case hd => first | exact room hd rfl | ktr_room); (case hu => first | exact room hu rfl | ktr_units); (case C1 => k_asm); (case C2 => k_asm); (case mT1 => k_mem); (case mT2 => k_mem); (case TF1 => exact TabF.mono (by assumption) (by intro p hp; repeat (first | exact hp | refine List.Mem.tail _ ?_))); (case TF2 => exact TabF.mono (by assumption) (by intro p hp; repeat (first | exact hp | refine List.Mem.tail _ ?_))); (case g1 => omega); (case g2 => omega); (case g3 => omega))
  intro D2 h2' tk2' t2 t3 F2 N2 l2
  k_steps
  k_dflt (refine' idm_A ?B ?F ?X ?N ?T ?hk ?C1 ?C2 ?mT1 ?mT2 ?TF1 ?TF2 ?hd ?hu ?g1 ?g2 ?g3 ?_; (case B => k_asm); (case F => k_asm); (case X => k_asm); (case N => k_asm); (case T => k_asm); (case hk => exact rfl); (case hd => first | exact room hd rfl | ktr_room); (case hu => first | exact room hu rfl | ktr_units); (case C1 => k_asm); (case C2 => k_asm); (case mT1 => k_mem); (case mT2 => k_mem); (case TF1 => exact TabF.mono (by assumption) (by intro p hp; repeat (first | exact hp | refine List.Mem.tail _ ?_))); (case TF2 => exact TabF.mono (by assumption) (by intro p hp; repeat (first | exact hp | refine List.Mem.tail _ ?_))); (case g1 => omega); (case g2 => omega); (case g3 => omega))
  intro D3 h3' tk3' t4 t5 F3 N3 l3
  simp only [AllLt] at l3
  k_steps
  rename_i lD kF kN _ _
  exact hret _ _ _ _ _ _ kF (kst_newsOf kN (by (repeat (refine List.forall_mem_cons.mpr ⟨by k_mem, ?_⟩)); (intro p hp; repeat (first | exact hp | refine List.Mem.tail _ ?_)))) lD.2.2
end
section
variable {prog : Program} {w : World} {p : Program} {loose : List Str} {mean : ExcName → Option Value} {mg mb : Str → Option Value}
  {dp un : Nat} {gd : Option (List Code)} {cn : Str} {cs : Scope} {a : Addr} {ccd : Value} {cl : List (Str × Addr)} {outer : List Env} {A₀ : Around} {base h₀ : Heap} {L : Addr} {m : Str → Option Value} {news : List (Addr × Obj)} {s : Shared} {Q E : Value → Shared → Prop}
local macro_rules | `(tactic| walk_at "call ref") => `(tactic| (k_here; (with_reducible show wpAny _ _ (call (Value.ref _) [Value.int _ _, Value.int _ _]) _ _ _); first
  | (k_dflt (refine' sub_call ?B ?F ?X ?N ?T ?hk ?hd ?hu ?_; (case B => k_asm); (case F => k_asm); (case X => k_asm); (case N => k_asm); (case T => k_asm); (case hk => exact rfl); (case hd => first | exact room hd rfl | ktr_room); (case hu => first | exact room hu rfl | ktr_units)); intro _ _ _ _ _; (try k_sweep))
  | (k_dflt (refine' mul_call ?B ?F ?X ?N ?T ?hk ?hd ?hu ?g1 ?g2 ?_; (case B => k_asm); (case F => k_asm); (case X => k_asm); (case N => k_asm); (case T => k_asm); (case hk => exact rfl); (case hd => first | exact room hd rfl | ktr_room); (case hu => first | exact room hu rfl | ktr_units); (case g1 => first | assumption | omega); (case g2 => first | assumption | omega)); intro _ _ _ _ _; (try k_sweep))
  | (k_dflt (refine' add_call ?B ?F ?X ?N ?T ?hk ?hd ?hu ?_; (case B => k_asm); (case F => k_asm); (case X => k_asm); (case N => k_asm); (case T => k_asm); (case hk => exact rfl); (case hd => first | exact room hd rfl | ktr_room); (case hu => first | exact room hu rfl | ktr_units)); intro _ _ _ _ _; (try k_sweep))
  | fail ""))
theorem min3_of {M r g b : Int} (h1 : M = r ∨ M = g ∨ M = b) (h2 : M ≤ r ∧ M ≤ g ∧ M ≤ b) : M = min (min r g) b := by
  rcases h1 with rfl | rfl | rfl
  · rw [Int.min_eq_left h2.2.1, Int.min_eq_left h2.2.2]
  · rw [Int.min_eq_right h2.1, Int.min_eq_left h2.2.2]
  · rw [Int.min_eq_right (Int.le_min.mpr ⟨h2.1, h2.2.1⟩)]
theorem max3_of {M r g b : Int} (h1 : M = r ∨ M = g ∨ M = b) (h2 : r ≤ M ∧ g ≤ M ∧ b ≤ M) : M = max (max r g) b := by
  rcases h1 with rfl | rfl | rfl
  · rw [Int.max_eq_left h2.2.1, Int.max_eq_left h2.2.2]
  · rw [Int.max_eq_right h2.1, Int.max_eq_left h2.2.2]
  · rw [Int.max_eq_right (Int.max_le.mpr ⟨h2.1, h2.2.1⟩)]
theorem max3_1 {r g b : Int} (h1 : g ≤ r) (h2 : b ≤ r) : max (max r g) b = r := by rw [Int.max_eq_left h1, Int.max_eq_left h2]
theorem ints3 {vs : List Value} {x y z : Int} (h : IntsAre vs [x, y, z]) : ∃ t1 t2 t3, vs = [.int x t1, .int y t2, .int z t3] := by
  rcases h with _ | ⟨_, ta, _ | ⟨_, tb, _ | ⟨_, tc, _ | _⟩⟩⟩
  exact ⟨ta, tb, tc, rfl⟩
theorem off1_ne {D : Addr} : ∀ {l : List (Addr × Obj)}, LCg.Off1 D l → ∀ p ∈ l, p.1 ≠ D
  | [], _, _, h => nomatch h
  | _ :: _, h, p, hp => by
    rcases List.mem_cons.mp hp with rfl | hp
    · exact h.1
    · exact off1_ne h.2 p hp
set_option maxRecDepth 100000 in
set_option maxHeartbeats 8000000 in
theorem pure_call {r g b : Int} {ta tb tc : Tok} {lst : Addr} {kc : Nat}
   (B : Below A₀ base outer h₀) (F : Fr h₀ L s.heap m) (X : (Mine.hd.heap_1 w.params).In h₀) (N : News h₀ L s.heap news) (T : Top p loose mean mg mb h₀) (hk : cs.kind = .function)
   (hd : dp + 10 < recursionLimit) (hu : un + 100 < cLine) (mL : (lst, W.listOf #[.int r ta, .int g tb, .int b tc] kc) ∈ news)
   (hret : ∀ D' h' tk' t1 t2 t3, Fr h₀ L h' m → News h₀ L h' ((D', W.listOf #[.int (r - min (min r g) b) t1, .int (g - min (min r g) b) t2, .int (b - min (min r g) b) t3] 3) :: news) → (∀ p ∈ news, p.1 ≠ D') → Q (.ref D') { s with heap := h', toks := tk' }) :
    wpAny (model prog w) (ktrTop dp un gd cn cs L a ccd cl outer) (call (.ref 145) [.ref lst]) Q E s := by
  refine wpAny_call ?_
  k_dflt (refine' code_defC ?k1 ?k2 ?k3 ?k4 ?k5 ?kA ?kF ?kK ?k6 ?k7 ?k8 ?k9 ?kB ?kD ?_ ?c2 ?c3 ?c4; (case kA => exact rfl); (case kF => exact rfl); (case kK => first | assumption | exact rfl); (case k1 => k_asm); (case k2 => k_asm); (case k3 => k_asm); (case k4 => k_asm); (case k5 => k_asm); (case k6 => k_is); (case k7 => k_is); (case k8 => ktr_room); (case k9 => exact BindsTo.of_eq rfl); (case kB => exact rfl); (case kD => decide +kernel); (case c2 => exact rfl); (case c3 => exact rfl); (case c4 => exact rfl); k_whole; intro g' L' h' tk' cells' FG' F' N' Y' B' X' T' l1; (try k_lt l1); (repeat (obtain ⟨_, l1⟩ := l1)); k_cells Y'; (try simp only [List.cons_append, List.nil_append] at N'); (try dsimp only); (try k_fold))
  refine letA ?_
  intro A9
  replace l1 := allLt_of l1
  k_steps
  rename_i D' h2 tk2 _ o1 kF kN _ _
  rename IntsAre _ _ => hI
  rename _ ∨ _ ∨ _ => aM
  rename _ ≤ r ∧ _ => bM
  have hM := min3_of aM bM
  subst hM
  obtain ⟨t1, t2, t3, rfl⟩ := ints3 hI
  exact hret _ _ _ _ _ _ kF (kst_newsOf kN (by (repeat (refine List.forall_mem_cons.mpr ⟨by k_mem, ?_⟩)); (intro p hp; repeat (first | exact hp | refine List.Mem.tail _ ?_)))) (off1_ne o1.2)
end
section
variable {prog : Program} {w : World} {p : Program} {loose : List Str} {mean : ExcName → Option Value} {mg mb : Str → Option Value}
  {dp un : Nat} {gd : Option (List Code)} {cn : Str} {cs : Scope} {a : Addr} {ccd : Value} {cl : List (Str × Addr)} {outer : List Env} {A₀ : Around} {base h₀ : Heap} {L : Addr} {m : Str → Option Value} {news : List (Addr × Obj)} {s : Shared} {Q E : Value → Shared → Prop}
open PySem.Builtin
theorem ha_lk : typeLookup (.type "list") "__getitem__" = pure (some (.builtin "list.__getitem__")) := by rw [typeLookup_type, builtinLookup_eq_fast]; kernel_rfl
theorem ha_ty : typeOf (.builtin "list.__getitem__") = pure (.type "method_descriptor") := by show builtinType _ = _; rw [builtinType_eq_fast]; kernel_rfl
theorem ha_get : Slot "method_descriptor" "__get__" "method_descriptor.__get__" :=
  .of (owner := "method_descriptor") (n := "__get__") (by rw [typeLookup_type, builtinLookup_eq_fast]; kernel_rfl) (by decide +kernel) (by decide +kernel) (by decide +kernel)
    (by first | exact .inl (by decide +kernel) | exact .inr (by decide +kernel)) (by rw [isSubtype_type]; kernel_rfl)
theorem ha_noset : typeLookup (.type "method_descriptor") "__set__" = pure none := by rw [typeLookup_type, builtinLookup_eq_fast]; kernel_rfl
theorem ha_nodel : typeLookup (.type "method_descriptor") "__delete__" = pure none := by rw [typeLookup_type, builtinLookup_eq_fast]; kernel_rfl
theorem ha_entry : entryFor table "method_descriptor.__get__" = some Builtin.«method_descriptor.__get__» := entryFor_of_tree (by kernel_rfl)
theorem ha_args (a b c : Value) : argsOk "method_descriptor.__get__" ⟨[a, b, c], []⟩ := by unfold argsOk; kernel_rfl
theorem ha_kind : builtinKind "hasattr" = none := by decide +kernel
theorem ha_plain : plainId "hasattr" = true := by decide +kernel
theorem ha_entry2 : entryFor table "hasattr" = some Builtin.«hasattr» := entryFor_of_tree (by kernel_rfl)
theorem ha_args2 (a b : Value) : argsOk "hasattr" ⟨[a, b], []⟩ := by unfold argsOk; kernel_rfl
theorem ha_sub : isSubtype (.type "list") (.type "list") = pure true := by rw [isSubtype_type]; kernel_rfl
theorem ha_owner : (".".intercalate ("list.__getitem__".cutAt '.').dropLast) = "list" := by
  have e0 : "list.__getitem__".cutAt '.' = ["list", "__getitem__"] := by first | rfl | decide +kernel
  rw [e0]; decide +kernel
theorem ha_subo : isSubtype (.type "list") (.type (".".intercalate ("list.__getitem__".cutAt '.').dropLast)) = pure true := by
  rw [ha_owner, isSubtype_type]; kernel_rfl
theorem ha_subm : isSubtype (.type "list") (.type "module") = pure false := by rw [isSubtype_type]; kernel_rfl
def haBound (a : Addr) : Obj := { cls := .type "builtin_function_or_method", data := .fields #[.builtin "list.__getitem__", .ref a] }
section
variable {A : Around} {E : Value → Shared → Prop} {h : Heap} {g : Array GenState} {d : Drawn} {t : Nat} {os : OsState} {a : Addr} {its : Array Value} {k : Nat}
theorem ha_run {P : Fin → Shared → Prop} (hx : h.get? a = some (W.listOf its k)) (hq : P (.done (.ret (.ref h.objs.size))) ⟨h.push (haBound a), g, d, t, os⟩) :
    wpAny (model prog w) A (Builtin.«method_descriptor.__get__» ⟨[.builtin "list.__getitem__", .ref a, .type "list"], []⟩) P E ⟨h, g, d, t, os⟩ := by
  have hT : (⟨h, g, d, t, os⟩ : Shared).TypeIs (.ref a) "list" := ⟨_, hx, rfl⟩
  have f8 := ha_subo
  unfold Builtin.«method_descriptor.__get__»
  repeat (any_goals (first | assumption | wp_step))
set_option maxHeartbeats 4000000 in
theorem ha_by {tk : Tok} {Q : Value → Shared → Prop} (hx : h.get? a = some (W.listOf its k)) (hq : Q (.ref h.objs.size) ⟨h.push (haBound a), g, d, t, os⟩) : wpAny (model prog w) A (getAttrBy (.ref a) (.str "__getitem__" tk) false) Q E ⟨h, g, d, t, os⟩ := by
  have hT : (⟨h, g, d, t, os⟩ : Shared).TypeIs (.ref a) "list" := ⟨_, hx, rfl⟩
  have f2 := F.slot_list_getattribute.lookup
  have f3 := F.slot_list_getattribute.bind (.ref a)
  repeat (any_goals (first | assumption | wp_step))
  refine codeAny_call_builtin F.slot_list_getattribute.plain F.entry_list_ga (F.slot_list_getattribute.check _ _ _ _ _ _ _ _ (show (⟨h, g, d, t, os⟩ : Shared).TypeIs (.ref a) "list" from ⟨_, hx, rfl⟩) (F.args_list_getattribute_2 _ _) ?_)
  have f4 := ha_lk
  have f5 := ha_ty
  have f6 := ha_get.lookup
  have f7 := ha_noset
  have f8 := ha_nodel
  repeat (any_goals (first | assumption | wp_step))
  refine codeAny_call_builtin ha_get.plain ha_entry (ha_get.check _ _ _ _ _ _ _ _ (show (⟨h, g, d, t, os⟩ : Shared).TypeIs (.builtin "list.__getitem__") "method_descriptor" from ha_ty) (ha_args _ _ _) (ha_run hx ?_))
  repeat (any_goals (first | assumption | wp_step))
theorem ha_call {t0 : Tok} {Q : Value → Shared → Prop} (hx : h.get? a = some (W.listOf its k)) (hq : Q (.bool true) ⟨h.push (haBound a), g, d, t, os⟩) : wpAny (model prog w) A (call (.builtin "hasattr") [.ref a, .str "__getitem__" t0]) Q E ⟨h, g, d, t, os⟩ := by
  have hT : (⟨h, g, d, t, os⟩ : Shared).TypeIs (.ref a) "list" := ⟨_, hx, rfl⟩
  have f2 := F.slot_list_getattribute.lookup
  have f4 := ha_lk
  have f5 := ha_subm
  refine Calls.call_function_entry ha_kind ha_plain ha_entry2 (ha_args2 _ _) ?_
  unfold Builtin.«hasattr»
  refine wpAny_bind (wpAny_of_eq (a := [.ref a, .str "__getitem__" t0]) (by first | rfl | kernel_rfl) ?_)
  dsimp only
  refine wpAny_bind (wpAny_of_eq (a := ()) (by first | rfl | kernel_rfl) ?_)
  repeat (any_goals (first | assumption | with_reducible apply ha_by hx | wp_step))
  exact ⟨_, rfl, hq⟩
end
section
variable {A : Around} {E : Value → Shared → Prop} {Q : Value → Shared → Prop} {s : Shared} {h₀ : Heap} {L a : Addr} {m : Str → Option Value} {news : List (Addr × Obj)} {its : Array Value} {k : Nat} {t : Tok}
theorem hasattr_s (F : Fr h₀ L s.heap m) (N : News h₀ L s.heap news) (hm : (a, W.listOf its k) ∈ news)
    (h : ∀ h', Fr h₀ L h' m → News h₀ L h' news → Q (.bool true) { s with heap := h' }) : wpAny (model prog w) A (call (.builtin "hasattr") [.ref a, .str "__getitem__" t]) Q E s := by
  obtain ⟨hh, g, d, tk, os⟩ := s
  exact ha_call (N _ hm).1 (h _ (F.push _) (kst_newsOf (News.push F N (haBound a)) fun p hp => List.Mem.tail _ hp))
theorem addlist_s {xs ys : List Value} {la lb : Addr} {ka kb : Nat} (F : Fr h₀ L s.heap m) (N : News h₀ L s.heap news) (mA : (la, W.listOf xs.toArray ka) ∈ news) (mB : (lb, W.listOf ys.toArray kb) ∈ news) (hx : xs.length ≤ 1000) (hy : ys.length ≤ 1000)
    (h : ∀ D h', Fr h₀ L h' m → News h₀ L h' ((D, W.listOf (xs ++ ys).toArray 0) :: news) → AllLt D news → Q (.ref D) { s with heap := h' }) : wpAny (model prog w) A (binaryOp .Add (.ref la) (.ref lb)) Q E s :=
  kmk_add_lit F N ⟨_, (N _ mA).1, rfl, ka, rfl⟩ ⟨_, (N _ mB).1, rfl, kb, rfl⟩ rfl (fun D h' F' N' l => h D h' F' N' (allLt_of l)) (by simp only [sizeLine_eq]; omega)
end
local macro_rules | `(tactic| walk_at "call builtin:hasattr") => `(tactic| (k_here; k_dflt (refine' hasattr_s ?F ?N ?m ?_; (case F => k_asm); (case N => k_asm); (case m => k_mem)); intro h' F' N'; (try k_sweep)))
local macro_rules | `(tactic| walk_at "binaryOp Add ref ref") => `(tactic| (k_here; k_dflt (refine' addlist_s ?F ?N ?m1 ?m2 ?z1 ?z2 ?_; (case F => k_asm); (case N => k_asm); (case m1 => k_mem); (case m2 => k_mem); (case z1 => first | assumption | omega); (case z2 => first | assumption | omega)); intro D' h' F' N' l1; (try simp only [AllLt] at l1); (try k_sweep)))
set_option maxRecDepth 100000 in
set_option maxHeartbeats 8000000 in
theorem concat_call {xs ys : List Value} {la lb : Addr} {ka kb : Nat}
   (B : Below A₀ base outer h₀) (F : Fr h₀ L s.heap m) (X : (Mine.hd.heap_1 w.params).In h₀) (N : News h₀ L s.heap news) (T : Top p loose mean mg mb h₀) (hk : cs.kind = .function)
   (hd : dp + 10 < recursionLimit) (hu : un + 100 < cLine) (mA : (la, W.listOf xs.toArray ka) ∈ news) (mB : (lb, W.listOf ys.toArray kb) ∈ news) (hx : xs.length ≤ 1000) (hy : ys.length ≤ 1000)
   (hret : ∀ D' h' tk', Fr h₀ L h' m → News h₀ L h' ((D', W.listOf (xs ++ ys).toArray 0) :: news) → AllLt D' news → Q (.ref D') { s with heap := h', toks := tk' }) :
    wpAny (model prog w) (ktrTop dp un gd cn cs L a ccd cl outer) (call (.ref 105) [.ref la, .ref lb]) Q E s := by
  refine wpAny_call ?_
  k_dflt ktr_enter
  refine letA ?_
  intro A9
  k_steps
  rename_i l1 kF kN _ _
  exact hret _ _ _ kF kN l1
end
section
variable {prog : Program} {w : World} {p : Program} {loose : List Str} {mean : ExcName → Option Value} {mg mb : Str → Option Value}
  {dp un : Nat} {gd : Option (List Code)} {cn : Str} {cs : Scope} {a : Addr} {ccd : Value} {cl : List (Str × Addr)} {outer : List Env} {A₀ : Around} {base h₀ : Heap} {L : Addr} {m : Str → Option Value} {news : List (Addr × Obj)} {s : Shared} {Q E : Value → Shared → Prop}
section
variable {A : Around} {E : Value → Shared → Prop} {s : Shared} {env : Env} {h₀ : Heap} {body orelse : List Stmt} {Q : Flow → Shared → Prop}
theorem new_of {L b : Addr} {h : Heap} {m : Str → Option Value} (F : Fr h₀ L h m) (hb : h.objs.size ≤ b) : h₀.get? b = none := by
  cases e : h₀.get? b with
  | none => rfl
  | some o => exact absurd (Heap.lt_size (F.keep _ _ e)) (Nat.not_lt.mpr hb)
/-- a turn's end -/
def EnumEnd (h₀ : Heap) (L : Addr) (s : Shared) (its : List (Addr × Obj)) (J : (Str → Option Value) → Prop) (s₃ : Shared) : Prop :=
  ∃ h' tk' m', s₃ = { s with heap := h', toks := tk' } ∧ Fr h₀ L h' m' ∧ News h₀ L h' its ∧ J m'
theorem EnumEnd.mk {L : Addr} {its : List (Addr × Obj)} {J : (Str → Option Value) → Prop} {h' : Heap} {tk' : Nat} {m' : Str → Option Value} (F : Fr h₀ L h' m') (N : News h₀ L h' its) (j : J m') : EnumEnd h₀ L s its J { s with heap := h', toks := tk' } :=
  ⟨h', tk', m', rfl, F, N, j⟩
/-- a loop over enumerate of a list, with an else, that no turn breaks -/
theorem for_enumE {elts : List PySem.Expr} {k : Nat} {pos : Pos} {l : Addr} {lo : Obj} {vs : List Value} {n : Nat} {m₀ : Str → Option Value} {news : List (Addr × Obj)} (J : Nat → (Str → Option Value) → Prop)
    (hh : A.handled = none) (F : Fr h₀ env.locals s.heap m₀) (N : News h₀ env.locals s.heap news) (hm : (l, lo) ∈ news) (hc : lo.cls = .type "list") (hd : lo.data = .seq vs.toArray n) (hJ : J 0 m₀)
    (turn : ∀ i v T t I oe oi m h tk, vs[i]? = some v → J i m → IsTup h T #[.int (i : Int) t, v] → AllLt I news → Fr h₀ env.locals h m → News h₀ env.locals h ((I + 1, oe) :: (I, oi) :: news) →
      wpAny (model prog w) A (assign (.Tuple elts k pos) env (.ref T)) (fun _ s₂ => wpAny (model prog w) A (execs body env) (fun f s₃ => match f with
        | .ret v => Q (.ret v) s₃
        | .brk => False
        | _ => EnumEnd h₀ env.locals s ((I + 1, oe) :: (I, oi) :: news) (J (i + 1)) s₃) E s₂) E { s with heap := h, toks := tk })
    (done : ∀ h tk m, J vs.length m → Fr h₀ env.locals h m → News h₀ env.locals h news → wpAny (model prog w) A (execs orelse env) Q E { s with heap := h, toks := tk })
    (hE : PassesOwn (model prog w) A env E := by passes_own) :
    wpAny (model prog w) A (call (.type "enumerate") [.ref l]) (fun xv s₁ => wpAny (model prog w) A (pyIter xv) (fun it s₂ =>
      codeAny (model prog w) A (.forLoop (.Tuple elts k pos) it body orelse env) (fun r s' => match r with | .ok f => Q f s' | .error e => cameBackBy (model prog w) A env E e s') s₂) E s₁) E s := by
  have hax := N _ hm
  have hl : s.heap.IsList l vs.toArray := ⟨lo, hax.1, hc, n, hd⟩
  have hlt : l < s.heap.objs.size := Heap.lt_size hax.1
  have hLs : env.locals < s.heap.objs.size := F.ns.lt
  have hnw : ∀ p ∈ news, @LT.lt Nat _ p.1 s.heap.objs.size := fun p hp => Heap.lt_size (N p hp).1
  refine call_enumerate_list hl fun h' hE' hI hsz hk => ?_
  refine wpAny_pyIter_enum hE' ?_
  have W := KTurns.ofWalksU (elts := elts) (k := k) (pos := pos) (WalksT.enumerate (prog := prog) (w := w) hh (s.heap.objs.size + 1) s.heap.objs.size l (Nat.succ_ne_self _) (ktu_ne 1 hlt) (Nat.ne_of_lt hlt) vs.toArray).toU
  have hsz2 : vs.toArray.size = vs.length := by simp
  have old : ∀ h₁ : Heap, ∀ h₂ : Heap, ∀ m', Fr h₀ env.locals h₁ m' → News h₀ env.locals h₁ news → (∀ b o, b ∉ [s.heap.objs.size + 1, s.heap.objs.size] → h₁.get? b = some o → h₂.get? b = some o) → Fr h₀ env.locals h₂ m' ∧ News h₀ env.locals h₂ news := by
    intro h₁ h₂ m' F₁ N₁ hk₁
    have far : ∀ b, @LT.lt Nat _ b s.heap.objs.size → b ∉ [s.heap.objs.size + 1, s.heap.objs.size] := by
      intro b hb hin
      have hin' : b = s.heap.objs.size + 1 ∨ b = s.heap.objs.size := by simpa using hin
      rcases hin' with e | e
      · exact ktu_ne 1 hb e
      · exact Nat.ne_of_lt hb e
    have far0 : ∀ b o, h₀.get? b = some o → b ∉ [s.heap.objs.size + 1, s.heap.objs.size] := fun b o e => far b (Heap.lt_size (F.keep _ _ e))
    exact ⟨⟨F₁.ns.at' fun o e => hk₁ _ o (far _ hLs) e, fun b o e => hk₁ b o (far0 b o e) (F₁.keep b o e), F₁.above⟩, fun p hp => ⟨hk₁ _ _ (far _ (hnw p hp)) (N₁ p hp).1, (N₁ p hp).2⟩⟩
  refine codeAny_forLoop_any
    (fun k s' => ∃ (h' : Heap) (tk : Nat) (m' : Str → Option Value) (i : Nat), s' = { s with heap := h', toks := tk } ∧ ((∃ o, IsEnum h' (s.heap.objs.size + 1) s.heap.objs.size i o) ∧ h'.IsListIter s.heap.objs.size l i ∧ h'.IsList l vs.toArray) ∧ Fr h₀ env.locals h' m' ∧ News h₀ env.locals h' news ∧ J i m' ∧ i ≤ vs.length ∧ k = vs.length + 1 - i) ?_ (vs.length + 1)
    ⟨h', s.toks, m₀, 0, rfl, ⟨⟨.none, hE'⟩, hI, hl.at fun o e => hk l o e⟩, F.keeps hk, N.grown hk, hJ, Nat.zero_le _, rfl⟩
  rintro k' s' ⟨h₁, tk, m', i, rfl, hst, F', N', hJ', hi, rfl⟩
  by_cases hlt' : i < vs.length
  · refine W.item i _ _ _ (by rw [hsz2]; exact hlt') hst fun v h₁ tk₁ hMd hk₁ => ?_
    refine W.go i v _ _ _ hMd fun h₂ hP hst₂ hk₂ => ?_
    obtain ⟨F₂, N₂⟩ := old _ h₂ m' F' N' fun b o hb x => hk₂ b o hb (hk₁ b o hb x)
    obtain ⟨T, vals, rfl, ⟨t, x, hx, rfl⟩, hT⟩ := hP
    have hst₃ := hst₂
    obtain ⟨⟨ol, he⟩, ⟨oi, hoi, hic, _⟩, _⟩ := hst₂
    have he' : ∃ oe : Obj, h₂.get? (s.heap.objs.size + 1) = some oe := ⟨_, he⟩
    obtain ⟨oe, hoe⟩ := he'
    have n1 : h₀.get? (s.heap.objs.size + 1) = none := new_of F (Nat.le_add_right _ _)
    have n2 : h₀.get? s.heap.objs.size = none := new_of F (Nat.le_refl _)
    have N₃ : News h₀ env.locals h₂ ((s.heap.objs.size + 1, oe) :: (s.heap.objs.size, oi) :: news) := by
      intro p hp
      rcases List.mem_cons.mp hp with rfl | hp
      · exact ⟨hoe, fun e => ktu_ne 1 hLs e.symm, n1⟩
      · rcases List.mem_cons.mp hp with rfl | hp
        · exact ⟨hoi, fun e => Nat.ne_of_lt hLs e.symm, n2⟩
        · exact N₂ p hp
    have fin : ∀ s₃, (∃ h' tk m', s₃ = { s with heap := h', toks := tk } ∧ Fr h₀ env.locals h' m' ∧ News h₀ env.locals h' ((s.heap.objs.size + 1, oe) :: (s.heap.objs.size, oi) :: news) ∧ J (i + 1) m') →
        ∃ m, m < vs.length + 1 - i ∧ ∃ (h' : Heap) (tk : Nat) (m' : Str → Option Value) (i : Nat), s₃ = { s with heap := h', toks := tk } ∧ ((∃ o, IsEnum h' (s.heap.objs.size + 1) s.heap.objs.size i o) ∧ h'.IsListIter s.heap.objs.size l i ∧ h'.IsList l vs.toArray) ∧ Fr h₀ env.locals h' m' ∧ News h₀ env.locals h' news ∧ J i m' ∧ i ≤ vs.length ∧ m = vs.length + 1 - i := by
      rintro s₃ ⟨h₃, tk₃, m₃, rfl, F₃, N₃', hJ₃⟩
      refine ⟨vs.length + 1 - (i + 1), turn_dec (by assumption), h₃, tk₃, m₃, i + 1, rfl, ?_, F₃, fun p hp => N₃' p (.tail _ (.tail _ hp)), hJ₃, hlt', rfl⟩
      refine W.frame _ _ _ hst₃ fun b hb o e => ?_
      have hb' : b = s.heap.objs.size + 1 ∨ b = s.heap.objs.size ∨ b = l := by simpa using hb
      rcases hb' with rfl | rfl | rfl
      · rw [(N₃' _ (.head _)).1, ← e, hoe]
      · rw [(N₃' _ (.tail _ (.head _))).1, ← e, hoi]
      · rw [(N₃' _ (.tail _ (.tail _ hm))).1, ← e, (N₂ _ hm).1]
    refine wpAny_mono (turn i x T t s.heap.objs.size oe oi m' h₂ tk₁ (by simpa using hx) hJ' hT (allLt_of hnw) F₂ N₃) (fun _ s₂ h₂' => wpAny_mono h₂' (fun f s₃ h₃ => ?_) hE) hE
    cases f with
    | ret v => exact h₃
    | brk => exact h₃.elim
    | next => exact fin _ h₃
    | cont => exact fin _ h₃
  · have hin : i = vs.length := by omega
    subst hin
    refine W.done _ _ _ (by rw [hsz2]; exact hst) fun h₂ tk₁ hk₁ => ?_
    obtain ⟨F₂, N₂⟩ := old _ h₂ m' F' N' hk₁
    refine wpAny_mono (done h₂ tk₁ m' hJ' F₂ N₂) (fun _ _ e => e) hE
end
/-- the counter of the tokens never falls -/
theorem runs_toks {M : Model} {Γ : Ctx} {p : Pos} {t : Sem Fin} {fs : List Frame} {s s' : Shared} {e : End} (h : Runs M Γ p t fs s e s') : s.toks ≤ s'.toks := by
  induction h with
  | done => exact Nat.le_refl _
  | raise => exact Nat.le_refl _
  | yield => exact Nat.le_refl _
  | fresh _ ih => exact Nat.le_trans (Nat.le_succ _) ih
  | call _ _ i1 i2 => exact Nat.le_trans i1 i2
  | resumeFresh _ _ _ _ i1 i2 => exact Nat.le_trans i1 i2
  | resumeSuspended _ _ _ _ i1 i2 => exact Nat.le_trans i1 i2
  | segRet _ _ i1 i2 => exact Nat.le_trans i1 i2
  | segGen _ _ i1 i2 => exact Nat.le_trans i1 i2
  | segSuspGen _ _ _ _ i1 i2 => exact Nat.le_trans i1 i2
  | _ => assumption
theorem wakes_toks {M : Model} {Γ : Ctx} {p : Pos} {g : Nat} {r : Resume} {s s' : Shared} {res : GenResult} (h : Wakes M Γ p g r s res s') : s.toks ≤ s'.toks := by
  unfold Wakes at h
  split at h
  · exact h.elim
  · split at h
    · obtain ⟨e₁, s₁, h1, _, _, rfl⟩ := h
      have h2 := runs_toks h1
      exact h2
    · obtain ⟨_, rfl⟩ := h; exact Nat.le_refl _
    · obtain ⟨_, rfl⟩ := h; exact Nat.le_refl _
  · obtain ⟨e₁, s₁, h1, _, _, rfl⟩ := h
    have h2 := runs_toks h1
    exact h2
  · obtain ⟨_, rfl⟩ := h; exact Nat.le_refl _
  · obtain ⟨_, rfl⟩ := h; exact Nat.le_refl _
theorem wp_toks {X : Type} {Q : X → Pos → Shared → Prop} {E : Value → Pos → Shared → Prop} (M : Model) (Γ : Ctx) (t : Sem X) : ∀ (p : Pos) (s : Shared) (n : Nat), n ≤ s.toks →
    Sem.wp M Γ t (fun a p' s' => n ≤ s'.toks → Q a p' s') (fun e p' s' => n ≤ s'.toks → E e p' s') p s → Sem.wp M Γ t Q E p s := by
  induction t with
  | pure x => intro p s n hn h; exact h hn
  | raise v => intro p s n hn h; exact h hn
  | unsupported | finish | yield | fork | await | register => intro p s n hn h; exact h.elim
  | rule _ k ih | «at» _ k ih | alloc _ k ih | loadIfAlive _ k ih | point _ k ih | ask k ih | os _ _ k ih | handled _ k ih | newGen _ k ih | stack k ih | thread k ih => intro p s n hn; exact ih _ _ _ _ hn
  | fresh k ih => intro p s n hn; exact ih _ _ _ _ (Nat.le_succ_of_le hn)
  | load a _ k ih | genState a k ih => rintro p s n hn ⟨o, ho, h⟩; exact ⟨o, ho, ih _ _ _ _ hn h⟩
  | update a _ f k ih | choose _ _ k ih => rintro p s n hn ⟨ha, h⟩; exact ⟨ha, ih _ _ _ _ hn h⟩
  | call c h g l k ih => rintro p s n hn ⟨r, s', hr, h⟩; exact ⟨r, s', hr, ih _ _ _ _ (Nat.le_trans hn (runs_toks hr)) h⟩
  | resume g r l k ih => rintro p s n hn ⟨res, s', hw, h⟩; exact ⟨res, s', hw, ih _ _ _ _ (Nat.le_trans hn (wakes_toks hw)) h⟩
theorem toks_in {X : Type} {M : Model} {A : Around} {t : Sem X} {Q : X → Shared → Prop} {E : Value → Shared → Prop} {s : Shared} (h : wpAny M A t (fun a s' => s.toks ≤ s'.toks → Q a s') (fun e s' => s.toks ≤ s'.toks → E e s') s) : wpAny M A t Q E s :=
  fun Γ p hΓ => wp_toks M Γ t p s s.toks (Nat.le_refl _) (h Γ p hΓ)
/-- one side alone -/
theorem toks_q {X : Type} {M : Model} {A : Around} {t : Sem X} {Q : X → Shared → Prop} {E : Value → Shared → Prop} {s : Shared} (h : wpAny M A t (fun a s' => s.toks ≤ s'.toks → Q a s') E s) : wpAny M A t Q E s :=
  toks_in (wpAny_mono h (fun _ _ e => e) fun _ _ e _ => e)
end
section
variable {prog : Program} {w : World} {p : Program} {loose : List Str} {mean : ExcName → Option Value} {mg mb : Str → Option Value}
  {dp un : Nat} {gd : Option (List Code)} {cn : Str} {cs : Scope} {a : Addr} {ccd : Value} {cl : List (Str × Addr)} {outer : List Env} {A₀ : Around} {base h₀ : Heap} {L : Addr} {m : Str → Option Value} {news : List (Addr × Obj)} {s : Shared} {Q E : Value → Shared → Prop}
section
variable {M : Model} {A : Around} {E : Value → Shared → Prop} {s : Shared} {Q : Value → Shared → Prop} {x y : Int} {t u : Tok}
theorem is_int_eq (hs : smallInt x = true) (ht : t ≠ 0) (hu : u ≠ 0) (h : Q (.bool true) s) : wpAny M A (compareOp .Is (.int x t) (.int x u)) Q E s := by
  show wpAny M A (do return .bool (← isSame (.int x t) (.int x u))) Q E s
  have e : isSame (.int x t) (.int x u) = (do rule "is.small-int-cache"; pure true) := by
    unfold isSame
    dsimp only
    rw [if_pos (by simp [hs])]
    unfold isSame.cachedInt
    rw [if_neg (by simp [ht, hu])]
  rw [e]
  exact wpAny_bind (wpAny_bind (wpAny_rule (wpAny_pure (wpAny_pure h))))
theorem is_int_ne (hs : x ≠ y) (ht : t ≠ 0) (hu : u ≠ 0) (htu : t ≠ u) (h : Q (.bool false) s) : wpAny M A (compareOp .Is (.int x t) (.int y u)) Q E s := by
  show wpAny M A (do return .bool (← isSame (.int x t) (.int y u))) Q E s
  have e : isSame (.int x t) (.int y u) = pure false := by
    unfold isSame
    simp [isSame.created, ht, hu, htu, hs]
  rw [e]
  exact wpAny_bind (wpAny_pure (wpAny_pure h))
end
theorem fr_with {h₀ h : Heap} {L : Addr} {m : Str → Option Value} {b : Str} {v : Value} (hb : m b = some v) (F : Fr h₀ L h m) : Fr h₀ L h (fun z => if z = b then some v else m z) := by
  have e : (fun z => if z = b then some v else m z) = m := by
    funext z
    split
    · rename_i e; rw [e, hb]
    · rfl
  rw [e]; exact F
theorem ints_take_all {vs : List Value} {ns : List Int} (h : IntsAre vs ns) : ns.take vs.length = ns := by
  rw [h.length, List.take_length]
theorem ints_get : ∀ {vs : List Value} {ns : List Int} {i : Nat} {x : Int} {t : Tok}, IntsAre vs ns → vs[i]? = some (.int x t) → ns[i]? = some x
  | _, _, 0, _, _, .cons _ _ _, h => by
    simp only [List.getElem?_cons_zero, Option.some.injEq, Value.int.injEq] at h ⊢
    exact h.1
  | _, _, i + 1, _, _, .cons _ _ r, h => by
    simp only [List.getElem?_cons_succ] at h ⊢
    exact ints_get r h
theorem idx_here {α : Type} [BEq α] [LawfulBEq α] : ∀ {ns : List α} {i : Nat} {x : α}, ns[i]? = some x → x ∉ ns.take i → ns.idxOf x = i
  | y :: r, 0, x, h, _ => by
    simp only [List.getElem?_cons_zero, Option.some.injEq] at h
    subst h
    simp [List.idxOf_cons]
  | y :: r, i + 1, x, h, hn => by
    simp only [List.getElem?_cons_succ] at h
    simp only [List.take_succ_cons, List.mem_cons, not_or] at hn
    have hb : (y == x) = false := beq_false_of_ne fun e => hn.1 e.symm
    rw [List.idxOf_cons, hb, cond_false, idx_here h hn.2]
theorem idx_at {vs : List Value} {ns : List Int} {i : Nat} {x : Int} {t : Tok} (hI : IntsAre vs ns) (hv : vs[i]? = some (.int x t)) (hn : x ∉ ns.take i) : ((ns.idxOf x : Nat) : Int) = (i : Nat) := by
  rw [idx_here (ints_get hI hv) hn]
theorem take_next {α : Type} {ns : List α} {i : Nat} {x y : α} (h : ns[i]? = some x) (hxy : x ≠ y) (hn : y ∉ ns.take i) : y ∉ ns.take (i + 1) := by
  rw [List.take_add_one, h]
  simp only [Option.toList_some, List.mem_append, List.mem_singleton, not_or]
  exact ⟨hn, fun e => hxy e.symm⟩
theorem idx_next {vs : List Value} {ns : List Int} {i : Nat} {x y : Int} {t : Tok} (hI : IntsAre vs ns) (hv : vs[i]? = some (.int x t)) (hxy : x ≠ y) (hn : y ∉ ns.take i) : y ∉ ns.take (i + 1) :=
  take_next (ints_get hI hv) hxy hn
/-- a small int whose token is told apart from u -/
def TokOff (u : Tok) (v : Value) : Prop := ∃ x t, v = .int x t ∧ t ≠ 0 ∧ t ≠ u ∧ smallInt x = true
set_option maxRecDepth 100000 in
set_option maxHeartbeats 8000000 in
theorem index_ints {vs : List Value} {ns : List Int} {y : Int} {u : Tok} {la : Addr} {ka : Nat}
   (B : Below A₀ base outer h₀) (F : Fr h₀ L s.heap m) (X : (Mine.hd.heap_1 w.params).In h₀) (N : News h₀ L s.heap news) (T : Top p loose mean mg mb h₀) (hk : cs.kind = .function)
   (hd : dp + 10 < recursionLimit) (hu : un + 100 < cLine) (mA : (la, W.listOf vs.toArray ka) ∈ news) (hI : IntsAre vs ns) (hT : ∀ v ∈ vs, TokOff u v) (hu0 : u ≠ 0) (hy : y ∈ ns)
   (hret : ∀ h' tk' t, Fr h₀ L h' m → News h₀ L h' news → Q (.int (ns.idxOf y) t) { s with heap := h', toks := tk' }) :
    wpAny (model prog w) (ktrTop dp un gd cn cs L a ccd cl outer) (call (.ref 119) [.ref la, .int y u]) Q E s := by
  refine wpAny_call ?_
  k_dflt ktr_enter
  refine letA ?_
  intro A9
  k_steps
  refine wpAny_For ?_
  k_steps
  k_dflt (refine' for_enumE (vs := vs) (lo := W.listOf vs.toArray ka) (fun i m => m (Str.ofString "b") = some (.int y u) ∧ y ∉ ns.take i) ?hh ?F ?N ?mA rfl rfl ?hJ ?turn ?done; (case hh => exact rfl); (case F => k_asm); (case N => k_asm); (case mA => k_mem))
  case hJ => exact ⟨rfl, by simp⟩
  case turn =>
    rintro i v T t I oe oi m h tk hv ⟨hb, hn⟩ hTup lI F1 N1
    have F2 := fr_with hb F1
    clear F1
    obtain ⟨x, t1, rfl, ht0, htu, hsm⟩ := hT v (List.mem_of_getElem? hv)
    k_steps
    by_cases hxy : x = y
    · subst hxy
      refine is_int_eq hsm ht0 hu0 ?_
      k_steps
      rename_i kF kN _ _
      have e := idx_at hI hv hn
      rw [← e]
      exact hret _ _ _ kF (kst_newsOf kN (by (repeat (refine List.forall_mem_cons.mpr ⟨by k_mem, ?_⟩)); (intro p hp; repeat (first | exact hp | refine List.Mem.tail _ ?_))))
    · refine is_int_ne hxy ht0 hu0 htu ?_
      k_steps
      · exact absurd (by assumption) hxy
      · exact EnumEnd.mk (by assumption) (by assumption) ⟨rfl, idx_next hI hv hxy hn⟩
  case done =>
    rintro h tk m ⟨hb, hn⟩ F1 N1
    have := ints_take_all hI
    exact absurd hy (by rwa [this] at hn)
end
section
variable {prog : Program} {w : World} {p : Program} {loose : List Str} {mean : ExcName → Option Value} {mg mb : Str → Option Value}
  {dp un : Nat} {gd : Option (List Code)} {cn : Str} {cs : Scope} {a : Addr} {ccd : Value} {cl : List (Str × Addr)} {outer : List Env} {A₀ : Around} {base h₀ : Heap} {L : Addr} {m : Str → Option Value} {news : List (Addr × Obj)} {s : Shared} {Q E : Value → Shared → Prop}
/-- a list of refs to lists of ints, as the ledger has them -/
inductive RefsAre (news : List (Addr × Obj)) : List Value → List (List Int) → Prop
  | nil : RefsAre news [] []
  | cons {a : Addr} {us : List Value} {k : Nat} {ns : List Int} {vs : List Value} {nss : List (List Int)} : (a, W.listOf us.toArray k) ∈ news → IntsAre us ns → RefsAre news vs nss → RefsAre news (.ref a :: vs) (ns :: nss)
theorem RefsAre.mono {news news' : List (Addr × Obj)} (hs : ∀ p ∈ news, p ∈ news') : ∀ {vs : List Value} {nss : List (List Int)}, RefsAre news vs nss → RefsAre news' vs nss
  | _, _, .nil => .nil
  | _, _, .cons m i r => .cons (hs _ m) i (r.mono hs)
theorem RefsAre.length {news : List (Addr × Obj)} : ∀ {vs : List Value} {nss : List (List Int)}, RefsAre news vs nss → vs.length = nss.length
  | _, _, .nil => rfl
  | _, _, .cons _ _ r => congrArg (· + 1) r.length
theorem RefsAre.append {news : List (Addr × Obj)} : ∀ {vs us : List Value} {nss mss : List (List Int)}, RefsAre news vs nss → RefsAre news us mss → RefsAre news (vs ++ us) (nss ++ mss)
  | _, _, _, _, .nil, h => h
  | _, _, _, _, .cons m i r, h => .cons m i (r.append h)
theorem RefsAre.at {news : List (Addr × Obj)} : ∀ {vs : List Value} {nss : List (List Int)} {i : Nat} {v : Value}, RefsAre news vs nss → vs[i]? = some v →
    ∃ a us k ns, v = .ref a ∧ (a, W.listOf us.toArray k) ∈ news ∧ IntsAre us ns ∧ nss[i]? = some ns
  | _, _, 0, v, .cons (a := a) (us := us) (k := k) (ns := ns) m i _, h => by
    simp only [List.getElem?_cons_zero, Option.some.injEq] at h
    exact ⟨a, us, k, ns, h.symm, m, i, rfl⟩
  | _, _, i + 1, v, .cons _ _ r, h => by
    simp only [List.getElem?_cons_succ] at h ⊢
    exact r.at h
theorem ints_fun {us : List Value} : ∀ {ns ms : List Int}, IntsAre us ns → IntsAre us ms → ns = ms := by
  induction us with
  | nil => intro ns ms h1 h2; cases h1; cases h2; rfl
  | cons v r ih => intro ns ms h1 h2; cases h1 with | cons i t h1 => cases h2 with | cons j u h2 => rw [ih h1 h2]
theorem listOf_inj {us vs : List Value} {k l : Nat} (e : W.listOf us.toArray k = W.listOf vs.toArray l) : us = vs := by
  have h := congrArg Obj.data e
  simp only [W.listOf, Data.seq.injEq] at h
  simpa using congrArg Array.toList h.1
section
variable {A : Around} {E : Value → Shared → Prop} {s : Shared} {h₀ : Heap} {L a b : Addr} {us vs : List Value} {k l : Nat} {ns ms : List Int} {news : List (Addr × Obj)} {Q : Value → Shared → Prop}
theorem eq_lists_s (N : News h₀ L s.heap news) (m1 : (a, W.listOf us.toArray k) ∈ news) (m2 : (b, W.listOf vs.toArray l) ∈ news) (i1 : IntsAre us ns) (i2 : IntsAre vs ms) (hu : A.units + 64 < cLine) (h : Q (.bool (decide (ns = ms))) s) : wpAny (model prog w) A (compareOp .Eq (.ref a) (.ref b)) Q E s :=
  eq_intsK ⟨_, (N _ m1).1, rfl, k, rfl⟩ i1 ⟨_, (N _ m2).1, rfl, l, rfl⟩ i2 hu h
theorem is_lists_s (N : News h₀ L s.heap news) (m1 : (a, W.listOf us.toArray k) ∈ news) (m2 : (b, W.listOf vs.toArray l) ∈ news) (h1 : a = b → Q (.bool true) s) (h2 : a ≠ b → Q (.bool false) s) : wpAny (model prog w) A (compareOp .Is (.ref a) (.ref b)) Q E s := by
  by_cases e : a = b
  · subst e
    exact wpAny_is_ref_self (h1 rfl)
  · exact wpAny_is_ref_other e (N _ m1).1 (N _ m2).1 (by show Value.type "list" ≠ Value.type "tuple"; decide) (h2 e)
end
set_option maxRecDepth 100000 in
set_option maxHeartbeats 8000000 in
theorem index_refs {vs ub : List Value} {nss : List (List Int)} {nb : List Int} {la lb : Addr} {ka kb : Nat}
   (B : Below A₀ base outer h₀) (F : Fr h₀ L s.heap m) (X : (Mine.hd.heap_1 w.params).In h₀) (N : News h₀ L s.heap news) (T : Top p loose mean mg mb h₀) (hk : cs.kind = .function)
   (hd : dp + 10 < recursionLimit) (hu : un + 200 < cLine) (mA : (la, W.listOf vs.toArray ka) ∈ news) (mB : (lb, W.listOf ub.toArray kb) ∈ news) (hI : RefsAre news vs nss) (hB : IntsAre ub nb) (hy : nb ∈ nss)
   (hret : ∀ h' tk' t, Fr h₀ L h' m → News h₀ L h' news → Q (.int (nss.idxOf nb) t) { s with heap := h', toks := tk' }) :
    wpAny (model prog w) (ktrTop dp un gd cn cs L a ccd cl outer) (call (.ref 119) [.ref la, .ref lb]) Q E s := by
  refine wpAny_call ?_
  k_dflt ktr_enter
  refine letA ?_
  intro A9
  k_steps
  refine wpAny_For ?_
  k_steps
  k_dflt (refine' for_enumE (vs := vs) (lo := W.listOf vs.toArray ka) (fun i m => m (Str.ofString "b") = some (.ref lb) ∧ nb ∉ nss.take i) ?hh ?F ?N ?mA rfl rfl ?hJ ?turn ?done; (case hh => exact rfl); (case F => k_asm); (case N => k_asm); (case mA => k_mem))
  case hJ => exact ⟨rfl, by simp⟩
  case turn =>
    rintro i v T t I oe oi m h tk hv ⟨hb, hn⟩ hTup lI F1 N1
    have F2 := fr_with hb F1
    clear F1
    obtain ⟨aj, us, kj, ns, rfl, hj, hj2, hj3⟩ := hI.at hv
    k_steps
    refine is_lists_s (by assumption) (List.Mem.tail _ (List.Mem.tail _ hj)) (List.Mem.tail _ (List.Mem.tail _ mB)) ?_ ?_
    · rintro rfl
      have e : us = ub := listOf_inj (Option.some.inj ((N _ hj).1.symm.trans (N _ mB).1))
      subst e
      have e2 := ints_fun hj2 hB
      subst e2
      k_steps
      rename_i kF kN _ _
      have e := idx_here hj3 hn
      rw [e] at hret
      exact hret _ _ _ kF (kst_newsOf kN (by (repeat (refine List.forall_mem_cons.mpr ⟨by k_mem, ?_⟩)); (intro p hp; repeat (first | exact hp | refine List.Mem.tail _ ?_))))
    · intro hne
      k_steps
      refine eq_lists_s (by assumption) (List.Mem.tail _ (List.Mem.tail _ hj)) (List.Mem.tail _ (List.Mem.tail _ mB)) hj2 hB (room hu rfl) ?_
      by_cases hxy : ns = nb
      · subst hxy
        rw [decide_eq_true rfl]
        k_steps
        rename_i kF kN _ _
        have e := idx_here hj3 hn
        rw [e] at hret
        exact hret _ _ _ kF (kst_newsOf kN (by (repeat (refine List.forall_mem_cons.mpr ⟨by k_mem, ?_⟩)); (intro p hp; repeat (first | exact hp | refine List.Mem.tail _ ?_))))
      · rw [decide_eq_false hxy]
        k_steps
        exact EnumEnd.mk (by assumption) (by assumption) ⟨rfl, take_next hj3 hxy hn⟩
  case done =>
    rintro h tk m ⟨hb, hn⟩ F1 N1
    rw [hI.length, List.take_length] at hn
    exact absurd hy hn
end
section
variable {prog : Program} {w : World} {p : Program} {loose : List Str} {mean : ExcName → Option Value} {mg mb : Str → Option Value}
  {dp un : Nat} {gd : Option (List Code)} {cn : Str} {cs : Scope} {a : Addr} {ccd : Value} {cl : List (Str × Addr)} {outer : List Env} {A₀ : Around} {base h₀ : Heap} {L : Addr} {m : Str → Option Value} {news : List (Addr × Obj)} {s : Shared} {Q E : Value → Shared → Prop}
theorem cnt_up {c : Int} {t : Tok} {k n : Nat} (h : (c, t).1 + ((k + 1 : Nat) : Int) = n) : c + 1 + (k : Nat) = n := by
  have h' : c + ((k + 1 : Nat) : Int) = n := h
  omega
set_option maxRecDepth 100000 in
set_option maxHeartbeats 8000000 in
theorem count_refs {vs ub : List Value} {nss : List (List Int)} {nb : List Int} {la lb : Addr} {ka kb : Nat}
   (B : Below A₀ base outer h₀) (F : Fr h₀ L s.heap m) (X : (Mine.hd.heap_1 w.params).In h₀) (N : News h₀ L s.heap news) (T : Top p loose mean mg mb h₀) (hk : cs.kind = .function)
   (hd : dp + 10 < recursionLimit) (hu : un + 200 < cLine) (mA : (la, W.listOf vs.toArray ka) ∈ news) (mB : (lb, W.listOf ub.toArray kb) ∈ news) (hI : RefsAre news vs nss) (hB : IntsAre ub nb)
   (hret : ∀ h' tk' t, Fr h₀ L h' m → News h₀ L h' news → Q (.int (nss.count nb) t) { s with heap := h', toks := tk' }) :
    wpAny (model prog w) (ktrTop dp un gd cn cs L a ccd cl outer) (call (.ref 112) [.ref la, .ref lb]) Q E s := by
  refine wpAny_call ?_
  k_dflt ktr_enter
  refine letA ?_
  intro A9
  k_steps
  ((rename Fr _ _ _ _ => lF'); (with_unfolding_all refine' For_invVF lF' ?k1 ?k2 ?_; (case k1 => exact rfl); (case k2 => exact rfl); k_whole))
  k_steps
  k_dflt (refine' forL (vs := vs) (ax := la) (n := ka) (fun c : Int × Tok => [(Str.ofString "count", Value.int c.1 c.2)]) [] (fun r c nx => nx = news ∧ ∃ rest, RefsAre news r rest ∧ c.1 + (rest.count nb : Nat) = (nss.count nb : Nat)) (0, _) ?hh ?F ?N ?hm ?hk ?hj ?turn ?done; (case hh => exact rfl); (case F => k_asm); (case N => k_asm); (case hm => k_mem))
  case hk => exact fun p hp => by rcases List.mem_cons.mp hp with rfl | hp; exact rfl; cases hp
  case hj => exact ⟨rfl, nss, hI, by simp⟩
  case turn =>
    rintro I v r ⟨c, tc⟩ u it nx h tk lI hc ⟨rfl, rest, hr, hcnt⟩ hm' F1 N1
    dsimp only [kstB] at F1
    cases hr with
    | cons mj ij hr =>
    rename_i aj us kj ns rest
    rw [List.count_cons] at hcnt
    k_steps
    refine is_lists_s (by assumption) (List.Mem.tail _ mj) (List.Mem.tail _ mB) ?_ ?_
    · rintro rfl
      have e : us = ub := listOf_inj (Option.some.inj ((N _ mj).1.symm.trans (N _ mB).1))
      subst e
      have e2 := ints_fun ij hB
      subst e2
      rw [if_pos (beq_self_eq_true ns)] at hcnt
      k_steps
      refine unrEnd0 (by assumption) (by assumption) lI ?_
      exact ⟨hm', (c + 1, _), ⟨rfl, rest, hr, cnt_up hcnt⟩, by kst_all, by (try dsimp +zetaDelta only); kst_same⟩
    · intro hne
      k_steps
      refine eq_lists_s (by assumption) (List.Mem.tail _ mj) (List.Mem.tail _ mB) ij hB (room hu rfl) ?_
      by_cases hxy : ns = nb
      · subst hxy
        rw [decide_eq_true rfl]
        rw [if_pos (beq_self_eq_true ns)] at hcnt
        k_steps
        refine unrEnd0 (by assumption) (by assumption) lI ?_
        exact ⟨hm', (c + 1, _), ⟨rfl, rest, hr, cnt_up hcnt⟩, by kst_all, by (try dsimp +zetaDelta only); kst_same⟩
      · rw [decide_eq_false hxy]
        rw [if_neg (by simpa using hxy)] at hcnt
        k_steps
        refine unrEnd0 (by assumption) (by assumption) lI ?_
        refine ⟨hm', (c, tc), ⟨rfl, rest, hr, hcnt⟩, ?_, ?_⟩
        · kst_all
        · (try dsimp +zetaDelta only); kst_same
  case done =>
    rintro ⟨c, tc⟩ u nx h tk ⟨rfl, rest, hr, hcnt⟩ hm' F1 N1
    cases hr
    dsimp only [kstB] at F1
    k_steps
    rename_i kF kN _ _
    have e : ((nss.count nb : Nat) : Int) = c := by have : c + ((0 : Nat) : Int) = _ := hcnt; omega
    rw [e] at hret
    exact hret _ _ _ kF kN
end
section
variable {prog : Program} {w : World} {p : Program} {loose : List Str} {mean : ExcName → Option Value} {mg mb : Str → Option Value}
  {dp un : Nat} {gd : Option (List Code)} {cn : Str} {cs : Scope} {a : Addr} {ccd : Value} {cl : List (Str × Addr)} {outer : List Env} {A₀ : Around} {base h₀ : Heap} {L : Addr} {m : Str → Option Value} {news : List (Addr × Obj)} {s : Shared} {Q E : Value → Shared → Prop}
set_option maxRecDepth 100000 in
set_option maxHeartbeats 8000000 in
theorem count_ints {vs : List Value} {ns : List Int} {y : Int} {tb : Tok} {la : Addr} {ka : Nat}
   (B : Below A₀ base outer h₀) (F : Fr h₀ L s.heap m) (X : (Mine.hd.heap_1 w.params).In h₀) (N : News h₀ L s.heap news) (T : Top p loose mean mg mb h₀) (hk : cs.kind = .function)
   (hd : dp + 10 < recursionLimit) (hu : un + 200 < cLine) (mA : (la, W.listOf vs.toArray ka) ∈ news) (hI : IntsAre vs ns) (hT : ∀ v ∈ vs, TokOff tb v) (hu0 : tb ≠ 0)
   (hret : ∀ h' tk' t, Fr h₀ L h' m → News h₀ L h' news → Q (.int (ns.count y) t) { s with heap := h', toks := tk' }) :
    wpAny (model prog w) (ktrTop dp un gd cn cs L a ccd cl outer) (call (.ref 112) [.ref la, .int y tb]) Q E s := by
  refine wpAny_call ?_
  k_dflt ktr_enter
  refine letA ?_
  intro A9
  k_steps
  ((rename Fr _ _ _ _ => lF'); (with_unfolding_all refine' For_invVF lF' ?k1 ?k2 ?_; (case k1 => exact rfl); (case k2 => exact rfl); k_whole))
  k_steps
  k_dflt (refine' forL (vs := vs) (ax := la) (n := ka) (fun c : Int × Tok => [(Str.ofString "count", Value.int c.1 c.2)]) [] (fun r c nx => nx = news ∧ (∀ v ∈ r, TokOff tb v) ∧ ∃ rest, IntsAre r rest ∧ c.1 + (rest.count y : Nat) = (ns.count y : Nat)) (0, _) ?hh ?F ?N ?hm ?hk ?hj ?turn ?done; (case hh => exact rfl); (case F => k_asm); (case N => k_asm); (case hm => k_mem))
  case hk => exact fun p hp => by rcases List.mem_cons.mp hp with rfl | hp; exact rfl; cases hp
  case hj => exact ⟨rfl, hT, ns, hI, by simp⟩
  case turn =>
    rintro I v r ⟨c, tc⟩ u it nx h tk lI hc ⟨rfl, hTr, rest, hr, hcnt⟩ hm' F1 N1
    dsimp only [kstB] at F1
    cases hr with
    | cons x tx hr =>
    rename_i rest
    rw [List.count_cons] at hcnt
    obtain ⟨x', t1, ev, ht0, htu, hsm⟩ := hTr _ (.head _)
    have hTr' : ∀ v ∈ r, TokOff tb v := fun v hv => hTr v (.tail _ hv)
    cases ev
    clear hI hTr hT
    k_steps
    by_cases hxy : x = y
    · subst hxy
      refine is_int_eq hsm ht0 hu0 ?_
      rw [if_pos (beq_self_eq_true x)] at hcnt
      k_steps
      refine unrEnd0 (by assumption) (by assumption) lI ?_
      exact ⟨hm', (c + 1, _), ⟨rfl, hTr', rest, hr, cnt_up hcnt⟩, by kst_all, by (try dsimp +zetaDelta only); kst_same⟩
    · refine is_int_ne hxy ht0 hu0 htu ?_
      rw [if_neg (by simpa using hxy)] at hcnt
      k_steps
      · exact absurd (by assumption) hxy
      · refine unrEnd0 (by assumption) (by assumption) lI ?_
        exact ⟨hm', (c, tc), ⟨rfl, hTr', rest, hr, hcnt⟩, by kst_all, by (try dsimp +zetaDelta only); kst_same⟩
  case done =>
    rintro ⟨c, tc⟩ u nx h tk ⟨rfl, hTr, rest, hr, hcnt⟩ hm' F1 N1
    cases hr
    dsimp only [kstB] at F1
    k_steps
    rename_i kF kN _ _
    have e : ((ns.count y : Nat) : Int) = c := by have : c + ((0 : Nat) : Int) = _ := hcnt; omega
    rw [e] at hret
    exact hret _ _ _ kF kN
end
section
variable {prog : Program} {w : World} {p : Program} {loose : List Str} {mean : ExcName → Option Value} {mg mb : Str → Option Value}
  {dp un : Nat} {gd : Option (List Code)} {cn : Str} {cs : Scope} {a : Addr} {ccd : Value} {cl : List (Str × Addr)} {outer : List Env} {A₀ : Around} {base h₀ : Heap} {L : Addr} {m : Str → Option Value} {news : List (Addr × Obj)} {s : Shared} {Q E : Value → Shared → Prop}
set_option maxRecDepth 100000 in
set_option maxHeartbeats 8000000 in
theorem index_none {vs ub : List Value} {nss : List (List Int)} {nb : List Int} {la lb : Addr} {ka kb : Nat}
   (B : Below A₀ base outer h₀) (F : Fr h₀ L s.heap m) (X : (Mine.hd.heap_1 w.params).In h₀) (N : News h₀ L s.heap news) (T : Top p loose mean mg mb h₀) (hk : cs.kind = .function)
   (hd : dp + 10 < recursionLimit) (hu : un + 200 < cLine) (mA : (la, W.listOf vs.toArray ka) ∈ news) (mB : (lb, W.listOf ub.toArray kb) ∈ news) (hI : RefsAre news vs nss) (hB : IntsAre ub nb) (hy : nb ∉ nss)
   (hexc : ∀ g' e h' tk', Fr h₀ L g' m → RaisedSN base g' (envX cn cs L a ccd cl :: outer) e (Value.type "ValueError") news h' → g'.UpToSlots h' → E (.ref e) { s with heap := h', toks := tk' }) :
    wpAny (model prog w) (ktrTop dp un gd cn cs L a ccd cl outer) (call (.ref 119) [.ref la, .ref lb]) Q E s := by
  refine wpAny_call ?_
  k_dflt ktr_enter
  refine letA ?_
  intro A9
  k_steps
  refine wpAny_For ?_
  k_steps
  k_dflt (refine' for_enumE (vs := vs) (lo := W.listOf vs.toArray ka) (fun i m => m (Str.ofString "b") = some (.ref lb) ∧ nb ∉ nss.take i) ?hh ?F ?N ?mA rfl rfl ?hJ ?turn ?done; (case hh => exact rfl); (case F => k_asm); (case N => k_asm); (case mA => k_mem))
  case hJ => exact ⟨rfl, by simp⟩
  case turn =>
    rintro i v T t I oe oi m h tk hv ⟨hb, hn⟩ hTup lI F1 N1
    have F2 := fr_with hb F1
    clear F1
    obtain ⟨aj, us, kj, ns, rfl, hj, hj2, hj3⟩ := hI.at hv
    k_steps
    refine is_lists_s (by assumption) (List.Mem.tail _ (List.Mem.tail _ hj)) (List.Mem.tail _ (List.Mem.tail _ mB)) ?_ ?_
    · rintro rfl
      have e : us = ub := listOf_inj (Option.some.inj ((N _ hj).1.symm.trans (N _ mB).1))
      subst e
      have e2 := ints_fun hj2 hB
      subst e2
      exact absurd (List.mem_of_getElem? hj3) hy
    · intro hne
      k_steps
      refine eq_lists_s (by assumption) (List.Mem.tail _ (List.Mem.tail _ hj)) (List.Mem.tail _ (List.Mem.tail _ mB)) hj2 hB (room hu rfl) ?_
      by_cases hxy : ns = nb
      · subst hxy
        exact absurd (List.mem_of_getElem? hj3) hy
      · rw [decide_eq_false hxy]
        k_steps
        exact EnumEnd.mk (by assumption) (by assumption) ⟨rfl, take_next hj3 hxy hn⟩
  case done =>
    rintro h tk m ⟨hb, hn⟩ F1 N1
    iterate 60 (first | (with_reducible show wpAny _ _ (leaving _ _) _ _ _) | walk1 | (k_unfold; try dsimp only))
    rename Heap.NewExc _ _ _ _ => hX
    k_dflt (refine' leave_newS ?K hX ?F ?N ?_; (case K => k_asm); (case F => k_asm); (case N => k_asm))
    intro h' R1 _ hU
    exact hexc _ _ _ _ (by assumption) R1 hU
end
section
variable {prog : Program} {w : World} {p : Program} {loose : List Str} {mean : ExcName → Option Value} {mg mb : Str → Option Value}
  {dp un : Nat} {gd : Option (List Code)} {cn : Str} {cs : Scope} {a : Addr} {ccd : Value} {cl : List (Str × Addr)} {outer : List Env} {A₀ : Around} {base h₀ : Heap} {L : Addr} {m : Str → Option Value} {news : List (Addr × Obj)} {s : Shared} {Q E : Value → Shared → Prop}
/-- a list of refs to pairs of ints -/
inductive TupsAre (news : List (Addr × Obj)) : List Value → List (Int × Int) → Prop
  | nil : TupsAre news [] []
  | cons {t : Addr} {a b : Int} {ta tb : Tok} {vs : List Value} {ps : List (Int × Int)} : (t, tup [.int a ta, .int b tb]) ∈ news → TupsAre news vs ps → TupsAre news (.ref t :: vs) ((a, b) :: ps)
theorem TupsAre.mono {news news' : List (Addr × Obj)} (hs : ∀ p ∈ news, p ∈ news') : ∀ {vs : List Value} {ps : List (Int × Int)}, TupsAre news vs ps → TupsAre news' vs ps
  | _, _, .nil => .nil
  | _, _, .cons m r => .cons (hs _ m) (r.mono hs)
theorem TupsAre.length {news : List (Addr × Obj)} : ∀ {vs : List Value} {ps : List (Int × Int)}, TupsAre news vs ps → vs.length = ps.length
  | _, _, .nil => rfl
  | _, _, .cons _ r => congrArg (· + 1) r.length
theorem TupsAre.at {news : List (Addr × Obj)} : ∀ {vs : List Value} {ps : List (Int × Int)} {i : Nat} {q : Int × Int}, TupsAre news vs ps → ps[i]? = some q →
    ∃ t ta tb, vs[i]? = some (.ref t) ∧ (t, tup [.int q.1 ta, .int q.2 tb]) ∈ news
  | _, _, 0, q, .cons (t := t) (ta := ta) (tb := tb) m _, h => by
    simp only [List.getElem?_cons_zero, Option.some.injEq] at h
    subst h
    exact ⟨t, ta, tb, rfl, m⟩
  | _, _, i + 1, q, .cons _ r, h => by
    simp only [List.getElem?_cons_succ] at h ⊢
    exact r.at h
/-- the fourteen numbers -/
def PRS : List (Int × Int) := [(1, 3), (2, 3), (-1, 3), (4, 3), (-2, 3), (5, 3), (1, 6), (5, 6), (-4, 3), (7, 3), (-1, 6), (7, 6), (-5, 3), (8, 3)]
/-- the primary one of the two -/
def primOf (q : Int × Int) : Int × Int :=
  if (if q.2.fmod 2 = 0 then (q.1 + q.2).fmod 4 = 1 else if q.1.fmod 2 = 0 then q.2.fmod 4 = 1 else q.1.fmod 4 = 3) then q else (-q.1, -q.2)
section
variable {a b : Int}
theorem pA (h1 : b.fmod 2 = 0) (h2 : (a + b).fmod 4 = 1) : primOf (a, b) = (a, b) := by unfold primOf; rw [if_pos (by rw [if_pos h1]; exact h2)]
theorem pA' (h1 : b.fmod 2 = 0) (h2 : (a + b).fmod 4 ≠ 1) : primOf (a, b) = (-a, -b) := by unfold primOf; rw [if_neg (by rw [if_pos h1]; exact h2)]
theorem pB (h1 : b.fmod 2 ≠ 0) (h3 : a.fmod 2 = 0) (h2 : b.fmod 4 = 1) : primOf (a, b) = (a, b) := by unfold primOf; rw [if_pos (by rw [if_neg h1, if_pos h3]; exact h2)]
theorem pB' (h1 : b.fmod 2 ≠ 0) (h3 : a.fmod 2 = 0) (h2 : b.fmod 4 ≠ 1) : primOf (a, b) = (-a, -b) := by unfold primOf; rw [if_neg (by rw [if_neg h1, if_pos h3]; exact h2)]
theorem pC (h1 : b.fmod 2 ≠ 0) (h3 : a.fmod 2 ≠ 0) (h2 : a.fmod 4 = 3) : primOf (a, b) = (a, b) := by unfold primOf; rw [if_pos (by rw [if_neg h1, if_neg h3]; exact h2)]
theorem pC' (h1 : b.fmod 2 ≠ 0) (h3 : a.fmod 2 ≠ 0) (h2 : a.fmod 4 ≠ 3) : primOf (a, b) = (-a, -b) := by unfold primOf; rw [if_neg (by rw [if_neg h1, if_neg h3]; exact h2)]
end
theorem prs_at {c : Int} : ∃ q, PRS[(c.fmod 14).toNat]? = some q ∧ 0 ≤ c.fmod 14 ∧ c.fmod 14 < 14 := by
  have h0 : 0 ≤ c.fmod 14 := by rw [Int.fmod_eq_emod_of_nonneg _ (by decide)]; exact Int.emod_nonneg _ (by decide)
  have h1 : c.fmod 14 < 14 := by rw [Int.fmod_eq_emod_of_nonneg _ (by decide)]; exact Int.emod_lt_of_pos _ (by decide)
  have hl : (c.fmod 14).toNat < PRS.length := by show _ < 14; omega
  exact ⟨PRS[(c.fmod 14).toNat], List.getElem?_eq_getElem hl, h0, h1⟩
section
variable {A : Around} {E : Value → Shared → Prop} {s : Shared} {h₀ : Heap} {L l : Addr} {m : Str → Option Value} {news : List (Addr × Obj)} {Q : Value → Shared → Prop}
theorem pick_pair {value slice : PySem.Expr} {vs : List Value} {ps : List (Int × Int)} {n : Nat} {k : Int} {u : Tok} {q : Int × Int} (N : News h₀ L s.heap news) (hm : (l, W.listOf vs.toArray n) ∈ news) (T : TupsAre news vs ps) (hq : ps[k.toNat]? = some q) (h0 : 0 ≤ k) (h1 : k < 2 ^ 63)
    (h : ∀ t ta tb, (t, tup [.int q.1 ta, .int q.2 tb]) ∈ news → Q (.ref t) s)
    (hs : subscripted slice false (.ref l) (.int k u) = operate [.ref l, .int k u] (getItem (.ref l) (.int k u))) :
    wpAny (model prog w) A (subscriptTail value slice (.ref l) (.int k u)) Q E s := by
  obtain ⟨t, ta, tb, h2, h3⟩ := T.at hq
  exact item_litK ⟨_, (N _ hm).1, rfl, n, rfl⟩ h0 h1 h2 (h t ta tb h3) hs
end
/-- a written int -/
inductive LitI : PySem.Expr → Int → Prop
  | pos (n : Int) (k : Nat) (p : Pos) : LitI (.Constant (.int n) k p) n
  | neg (n : Int) (k : Nat) (p q : Pos) : LitI (.UnaryOp .USub (.Constant (.int n) k p) q) (-n)
/-- written pairs of ints -/
inductive PairsE : List PySem.Expr → List (Int × Int) → Prop
  | nil : PairsE [] []
  | cons {a b : PySem.Expr} {x y : Int} {k : Nat} {p : Pos} {es : List PySem.Expr} {ps : List (Int × Int)} : LitI a x → LitI b y → PairsE es ps → PairsE (.Tuple [a, b] k p :: es) ((x, y) :: ps)
section
variable {A : Around} {E : Value → Shared → Prop} {s : Shared} {h₀ : Heap} {L : Addr} {m : Str → Option Value} {news : List (Addr × Obj)} {env : Env}
theorem LitI.star {e : PySem.Expr} {n : Int} {rest : List PySem.Expr} (h : LitI e n) : starEach (e :: rest) env = (false, eval e env) :: starEach rest env := by cases h <;> rfl
theorem LitI.ev {e : PySem.Expr} {n : Int} {Q : Value → Shared → Prop} (h : LitI e n) (hq : ∀ t tk, Q (.int n t) { s with toks := tk }) : wpAny (model prog w) A (eval e env) Q E s := by
  cases h with
  | pos => exact wpAny_Constant_int (hq _ _)
  | neg => exact wpAny_UnaryOp (wpAny_Constant_int (neg_int (hq _ _)))
theorem PairsE.ev {pos : Pos} : ∀ {es : List PySem.Expr} {ps : List (Int × Int)} {s : Shared} {news : List (Addr × Obj)} {Q : List Value → Shared → Prop}, PairsE es ps → Fr h₀ L s.heap m → News h₀ L s.heap news →
    (∀ vs news' h' tk, TupsAre news' vs ps → (∀ p ∈ news, p ∈ news') → Fr h₀ L h' m → News h₀ L h' news' → Q vs { s with heap := h', toks := tk }) → wpAny (model prog w) A (spliced (backTo pos (starEach es env))) Q E s
  | _, _, _, _, _, .nil, F, N, hq => args_nil (hq [] _ _ _ .nil (fun _ h => h) F N)
  | _, _, _, _, _, .cons ha hb r, F, N, hq => args_cons (Tuple_ (args_cons (ha.ev fun t _ => args_cons (hb.ev fun u _ => args_nil (newTuple_N F N (fun h' F' N' => r.ev F' N' fun vs news' h'' tk T hs F'' N'' =>
      hq _ _ h'' tk (.cons (hs _ (.head _)) T) (fun p hp => hs p (.tail _ hp)) F'' N'') (by show 2 ≤ sizeLine; rw [sizeLine_eq]; decide))) hb.star) ha.star))
end
set_option maxRecDepth 100000 in
set_option maxHeartbeats 8000000 in
theorem prim_call {c : Int} {tc : Tok}
   (B : Below A₀ base outer h₀) (F : Fr h₀ L s.heap m) (X : (Mine.hd.heap_1 w.params).In h₀) (N : News h₀ L s.heap news) (T : Top p loose mean mg mb h₀) (hk : cs.kind = .function)
   (hd : dp + 10 < recursionLimit) (hu : un + 100 < cLine)
   (hret : ∀ D' h' tk' q t1 t2, PRS[(c.fmod 14).toNat]? = some q → Fr h₀ L h' m → News h₀ L h' ((D', tup [.int (primOf q).1 t1, .int (primOf q).2 t2]) :: news) → AllLt D' news → Q (.ref D') { s with heap := h', toks := tk' }) :
    wpAny (model prog w) (ktrTop dp un gd cn cs L a ccd cl outer) (call (.ref 126) [.int c tc]) Q E s := by
  obtain ⟨q, hq, hq0, hq1⟩ := prs_at (c := c)
  refine wpAny_call ?_
  k_dflt ktr_enter
  refine letA ?_
  intro A9
  iterate 20 (first | (with_reducible show wpAny _ _ (spliced _) _ _ _) | walk1 | (k_unfold; try dsimp only))
  k_dflt (refine' PairsE.ev (ps := PRS) ?pe ?F ?N ?_; (case F => k_asm); (case N => k_asm); (case pe => (unfold PRS; repeat (first | exact .nil | refine .cons (by first | exact .pos _ _ _ | exact .neg _ _ _ _) (by exact .pos _ _ _) ?_))))
  intro vs nx hh tkk TP hs FP NP
  k_dflt (refine newList_K FP NP ?_ (by rw [TP.length]; show 14 ≤ sizeLine; rw [sizeLine_eq]; decide))
  intro lp h1 F1 N1 l1
  replace l1 := allLt_of l1
  k_steps
  k_dflt (refine' pick_pair (ps := PRS) ?N ?m ?TA hq hq0 ?h1 ?_ ?hs; (case N => k_asm); (case m => k_mem); (case h1 => omega); (case hs => with_unfolding_all rfl))
  case TA => exact TP.mono fun p hp => by repeat (first | exact hp | refine List.Mem.tail _ ?_)
  obtain ⟨qa, qb⟩ := q
  intro t ta tb hmt
  have hret2 : ∀ x y, primOf (qa, qb) = (x, y) → ∀ D' h' tk' t1 t2, Fr h₀ L h' m → News h₀ L h' ((D', tup [.int x t1, .int y t2]) :: news) → AllLt D' news → Q (.ref D') { s with heap := h', toks := tk' } := by
    intro x y e D' h' tk' t1 t2
    have h := hret D' h' tk' (qa, qb) t1 t2 hq
    rw [e] at h
    exact h
  clear hret
  k_steps
  all_goals
    rename_i lD kF kN _ _
    refine hret2 _ _ ?_ _ _ _ _ _ kF (kst_newsOf kN (List.forall_mem_cons.mpr ⟨.head _, fun p hp => .tail _ (.tail _ (hs p hp))⟩)) (allLt_sub lD.2 hs)
    first
    | exact pA (by assumption) (by assumption)
    | exact pA' (by assumption) (by assumption)
    | exact pB (by assumption) (by assumption) (by assumption)
    | exact pB' (by assumption) (by assumption) (by assumption)
    | exact pC (by assumption) (by assumption) (by assumption)
    | exact pC' (by assumption) (by assumption) (by assumption)
    | fail ""
end
section
variable {prog : Program} {w : World} {p : Program} {loose : List Str} {mean : ExcName → Option Value} {mg mb : Str → Option Value}
  {dp un : Nat} {gd : Option (List Code)} {cn : Str} {cs : Scope} {a : Addr} {ccd : Value} {cl : List (Str × Addr)} {outer : List Env} {A₀ : Around} {base h₀ : Heap} {L : Addr} {m : Str → Option Value} {news : List (Addr × Obj)} {s : Shared} {Q E : Value → Shared → Prop}
/-- a small int with a token older than n -/
def TokIn (n : Nat) (v : Value) : Prop := ∃ x t, v = .int x t ∧ 0 < t ∧ t < n ∧ smallInt x = true
theorem TokIn.mono {n n' : Nat} {v : Value} (h : TokIn n v) (hn : n ≤ n') : TokIn n' v := by
  obtain ⟨x, t, e, h0, h1, h2⟩ := h
  exact ⟨x, t, e, h0, Nat.lt_of_lt_of_le h1 hn, h2⟩
theorem TokIn.off {n u : Nat} {v : Value} (h : TokIn n v) (hn : n ≤ u) : TokOff u v := by
  obtain ⟨x, t, e, h0, h1, h2⟩ := h
  exact ⟨x, t, e, Nat.ne_of_gt h0, Nat.ne_of_lt (Nat.lt_of_lt_of_le h1 hn), h2⟩
theorem toks_and {X : Type} {M : Model} {A : Around} {t : Sem X} {Q : X → Shared → Prop} {E : Value → Shared → Prop} {s : Shared} (h : wpAny M A t Q E s) : wpAny M A t (fun a s' => s.toks ≤ s'.toks ∧ Q a s') E s :=
  toks_q (wpAny_mono h (fun _ _ q hle => ⟨hle, q⟩) fun _ _ e => e)
/-- an element's end, with its token -/
inductive EltT (h₀ : Heap) (L : Addr) (m : Str → Option Value) (s : Shared) (led : List (Addr × Obj)) (r : Int) (y : Value) (s₂ : Shared) : Prop
  | mk (t : _) (h' : _) (tk : _) (c1 : y = .int r t) (c2 : 0 < t) (c3 : t < tk) (c4 : s₂ = { s with heap := h', toks := tk }) (c5 : Fr h₀ L h' m) (c6 : News h₀ L h' led) : EltT h₀ L m s led r y s₂
section
variable {A : Around} {E : Value → Shared → Prop} {s : Shared} {h₀ : Heap} {L : Addr} {m : Str → Option Value} {env : Env}
theorem blockT {elt iter : PySem.Expr} {x : Str} {px : Pos} {scope : Scope} {cl : List (Str × Addr)} {pos : Pos} {s₂ : Shared} {I : Addr} {n : Nat} {news : List (Addr × Obj)} (g : Int → Int) {RR : Value → Addr → Result → Shared → Prop}
    (hh : A.handled = none) (hsz : n ≤ sizeLine) (hcell : ∀ y ∈ scope.names, y.2 ≠ .cell) (hkind : scope.kind = .function) (hx : scope.names.lookup x = some .local)
    (hst : IsRangeIter s₂.heap I 0 n 1) (hI : I < s₂.heap.objs.size) (hg : ∀ k : Int, 0 ≤ k → k < n → smallInt (g k) = true)
    (F : Fr h₀ L s₂.heap m) (N : News h₀ L s₂.heap news) (hIL : L ≠ I) (hI₀ : h₀.get? I = none) (off : ∀ p ∈ news, p.1 ≠ I)
    (turn : ∀ k t I oI C oC D m₂ ys h tk (E' : Value → Shared → Prop), (0 : Int) ≤ k → k < n → LCg.NsObj oC m₂ → m₂ x = some (.int k t) → Fr h₀ L h m → News h₀ L h ((I, oI) :: (C, oC) :: (D, LCg.lst ys) :: news) → LCg.Off3 I C D news → ((@Ne Nat I C) ∧ (@Ne Nat I D) ∧ (@Ne Nat C D)) →
      wpAny (model prog w) A (eval elt (compEnvC scope cl C env)) (EltT h₀ L m s₂ ((I, oI) :: (C, oC) :: (D, LCg.lst ys) :: news) (g k)) E' { s₂ with heap := h, toks := tk })
    (hRR : ∀ D C h tk m' ys, Fr h₀ L h m → News h₀ L h ((D, LCg.lst ys) :: news) → LCg.Off1 D news → h.Ns C m' → h₀.get? C = none → h₀.get? D = none → C ≠ L → D ≠ L → C ≠ D → (∀ p ∈ news, p.1 ≠ C) → IntsAre ys ((rangeKs 0 n).map g) → (∀ v ∈ ys, TokIn tk v) → RR (.ref D) C (.ok .next) { s₂ with heap := h, toks := tk }) :
    wpAny (model prog w) A (newList []) (fun acc s₃ => wpAny (model prog w) A (newFunctionEnv scope env.globals cl [] env.qual none .none (some env)) (fun cenv s₄ =>
      codeAny (model prog w) A (.compStart (.ListComp elt [⟨.Name x px, iter, [], 0⟩] scope pos) 0 (.ref I) acc { cenv with scope := relabel scope env }) (RR acc cenv.locals) s₄) E s₃) E s₂ := by
  refine wpAny_newObj_type (wpAny_newFunctionEnv hcell (by intro y hy; simp at hy) (fun h₁ hns₁ hsb₁ => ?_) hkind)
  dsimp only at hns₁ hsb₁ ⊢
  generalize hH2 : s₂.heap.push { cls := .type "list", dict := none, data := .seq ([] : List Value).toArray } = H2 at hns₁ hsb₁ ⊢
  have hC : H2.objs.size = s₂.heap.objs.size + 1 := by rw [← hH2, Heap.size_push]
  have hL : @LT.lt Nat _ L s₂.heap.objs.size := F.ns.lt
  have hN : ∀ p ∈ news, @LT.lt Nat _ p.1 s₂.heap.objs.size := fun p hp => Heap.lt_size (N p hp).1
  have new : ∀ b, @LE.le Nat _ s₂.heap.objs.size b → h₀.get? b = none := fun b hb => new_of F hb
  have old0 : ∀ b o, s₂.heap.get? b = some o → @LT.lt Nat _ b s₂.heap.objs.size := fun b o e => Heap.lt_size e
  have old : ∀ b o, s₂.heap.get? b = some o → h₁.get? b = some o := fun b o e => hsb₁.extBut b o (fun q => by have h1 := old0 b o e; rw [q, hC] at h1; omega) (Heap.get?_push_of_some _ (hH2 ▸ Heap.get?_push_of_some _ e))
  have hacc : h₁.get? s₂.heap.objs.size = some (LCg.lst []) := hsb₁.extBut _ _ (fun q => by rw [hC] at q; exact absurd q (Nat.ne_of_lt (Nat.lt_succ_self _))) (Heap.get?_push_of_some _ (hH2 ▸ Heap.get?_push_size _ rfl))
  have hI' : @LT.lt Nat _ I s₂.heap.objs.size := hI
  generalize s₂.heap.objs.size = D at hC hL hN new hI' hacc ⊢
  generalize hCe : H2.objs.size = C at hC hsb₁ hns₁ ⊢
  have W := LCg.range_walks (prog := prog) (w := w) (I := I) hh 0 n
  have hst₁ : IsRangeIter h₁ I (0 + ((0 : Nat) : Int) * 1) ((n : Int) - ((0 : Nat) : Int)) 1 := W.frame 0 _ _ (by simpa using hst) fun b _ o e => old b o e
  have eI : I ≠ C := fun q => by have h1 : @Eq Nat I C := q; omega
  have eID : I ≠ D := fun q => by have h1 : @Eq Nat I D := q; omega
  have eCD : C ≠ D := fun q => by have h1 : @Eq Nat C D := q; omega
  have eCL : C ≠ L := fun q => by have h1 : @Eq Nat C L := q; omega
  have eDL : D ≠ L := fun q => by have h1 : @Eq Nat D L := q; omega
  have hC₀ := new C (by omega)
  have hD₀ := new D (Nat.le_refl _)
  have off3 : LCg.Off3 I C D news := LCg.Off3.of fun p hp => ⟨off p hp, fun q => by have h1 := hN p hp; have h2 : @Eq Nat p.1 C := q; omega, fun q => by have h1 := hN p hp; have h2 : @Eq Nat p.1 D := q; omega⟩
  have loop : ∀ s₃ : Shared, s₃ = { s₂ with heap := h₁, toks := s₂.toks + ([] : List (Str × Value)).length } →
      codeAny (model prog w) A (.compLoop (.ListComp elt [⟨.Name x px, iter, [], 0⟩] scope pos) 0 (.ref I) (.ref D) (compEnvC scope cl C env)) (RR (.ref D) C) s₃ := by
    rintro s₃ rfl
    refine codeAny_compLoop_list (fun k s' => ∃ (h' : Heap) (tk i : Nat) (ys : List Value) (m' : Str → Option Value), s' = { s₂ with heap := h', toks := tk } ∧ i ≤ n ∧ k = n + 1 - i ∧ IsRangeIter h' I (0 + (i : Nat) * 1) ((n : Int) - (i : Nat)) 1 ∧
      Fr h₀ L h' m ∧ h'.Ns C m' ∧ News h₀ L h' ((D, LCg.lst ys) :: news) ∧ IntsAre ys (((rangeKs 0 n).take i).map g) ∧ (∀ v ∈ ys, TokIn tk v)) ?_ (n + 1)
      ⟨h₁, _, 0, [], _, rfl, Nat.zero_le _, rfl, hst₁, F.keeps old, hns₁, ?_, .nil, fun v hv => nomatch hv⟩ (by intro _; rfl)
    · rintro k s' ⟨h', tk, i, ys, m', rfl, hi, rfl, hst', F', hn', N', hIy, hTy⟩
      by_cases hlt : i < n
      · refine toks_q (W.item i _ _ _ hlt hst' fun v h₂ tk₂ hPv hst₂ hk₂ htk₂ => ?_)
        obtain ⟨t, rfl⟩ := hPv
        refine wpAny_assign_Name (wpAny_storeName_local (lookup_relabel_local hx) (hn'.at' fun o e => hk₂ _ o (by simpa using Ne.symm eI) e) (fun h₃ hn₃ hs₃ => ?_) (by simp [compEnvC, relabel, hkind]))
        have hst₃ := W.frame _ _ _ hst₂ fun b hb o e => hs₃.extBut b o (fun q => eI ((List.mem_singleton.mp hb).symm.trans q)) e
        obtain ⟨oI, heI⟩ : ∃ o, h₃.get? I = some o := ⟨_, hst₃⟩
        obtain ⟨oC, heC, hoC⟩ := LCg.ns_obj hn₃
        have F₃ : Fr h₀ L h₃ m := (LCg.fr_but F' hk₂ hIL hI₀).change hs₃ eCL hC₀
        have N₂ : News h₀ L h₂ ((D, LCg.lst ys) :: news) := LCg.news_but N' hk₂ fun p hp => by
          rcases List.mem_cons.mp hp with rfl | hp
          · exact Ne.symm eID
          · exact off p hp
        have N₃ : News h₀ L h₃ ((I, oI) :: (C, oC) :: (D, LCg.lst ys) :: news) := by
          intro p hp
          rcases List.mem_cons.mp hp with rfl | hp
          · exact ⟨heI, Ne.symm hIL, hI₀⟩
          · rcases List.mem_cons.mp hp with rfl | hp
            · exact ⟨heC, eCL, hC₀⟩
            · refine ⟨hs₃.extBut _ _ ?_ (N₂ p hp).1, (N₂ p hp).2⟩
              rcases List.mem_cons.mp hp with rfl | hp
              · exact Ne.symm eCD
              · exact (off3.mem p hp).2.1
        refine wpAny_mono (toks_and (turn (0 + (i : Int)) t I oI C oC D _ ys h₃ _ _ (by omega) (by omega) hoC (by simp) F₃ N₃ off3 ⟨eI, eID, eCD⟩)) (fun y s₄ h₄ => ?_) fun _ _ e => e
        obtain ⟨hle, t', h₄, tk₄, rfl, ht0, ht1, rfl, F₄, N₄⟩ := h₄
        have zI := (N₄ _ (.head _)).1
        have zC := (N₄ _ (.tail _ (.head _))).1
        have zD := (N₄ _ (.tail _ (.tail _ (.head _)))).1
        have hyl : ys.length = i := by rw [hIy.length, List.length_map, List.length_take, rangeKs_length]; omega
        refine append_at (hsz := by show ys.toArray.size ≤ sizeLine; rw [List.size_toArray, hyl]; omega) zD fun h₅ hs₅ hD₅ => ?_
        have hst₅ : IsRangeIter h₅ I (0 + ((i + 1 : Nat) : Int) * 1) ((n : Int) - ((i + 1 : Nat) : Int)) 1 := W.frame _ _ _ hst₃ fun b hb o e => by
          have hb' : b = I := List.mem_singleton.mp hb
          subst hb'
          exact hs₅.extBut b o eID (zI.trans (heI.symm.trans e))
        refine ⟨n + 1 - (i + 1), turn_dec (by assumption), h₅, tk₄, i + 1, ys ++ [.int (g (0 + (i : Int))) t'], _, rfl, hlt, rfl, hst₅, F₄.change hs₅ eDL hD₀, (hoC.ns zC).sameBut hs₅ eCD, ?_, ?_, ?_⟩
        · intro p hp
          rcases List.mem_cons.mp hp with rfl | hp
          · exact ⟨hD₅.trans (congrArg some (LCg.lst_snoc ys _)), eDL, hD₀⟩
          · have z := N₄ p (.tail _ (.tail _ (.tail _ hp)))
            exact ⟨hs₅.extBut _ _ (off3.mem p hp).2.2 z.1, z.2⟩
        · rw [List.take_add_one]
          have e : (rangeKs 0 n)[i]? = some (0 + (i : Int)) := by simp [rangeKs, hlt]
          rw [e]
          simpa using IntsAre.append hIy (.cons _ t' .nil)
        · intro v hv
          rcases List.mem_append.mp hv with hv | hv
          · exact (hTy v hv).mono (Nat.le_trans htk₂ (Nat.le_trans (Nat.le_succ _) hle))
          · rw [List.mem_singleton.mp hv]
            exact ⟨_, t', rfl, ht0, ht1, hg _ (by omega) (by omega)⟩
      · obtain rfl : i = n := by omega
        refine toks_q (W.done _ _ _ hst' fun h₂ tk₂ hk₂ htk₂ => ?_)
        have hall : (rangeKs 0 i).take i = rangeKs 0 i := List.take_of_length_le (by rw [rangeKs_length]; omega)
        rw [hall] at hIy
        exact hRR D C h₂ tk₂ m' ys (LCg.fr_but F' hk₂ hIL hI₀) (LCg.news_but N' hk₂ fun p hp => by
          rcases List.mem_cons.mp hp with rfl | hp
          · exact Ne.symm eID
          · exact off p hp) off3.one (hn'.at' fun o e => hk₂ _ o (by simpa using Ne.symm eI) e) hC₀ hD₀ eCL eDL eCD (fun p hp => (off3.mem p hp).2.1) hIy fun v hv => (hTy v hv).mono htk₂
    · intro p hp
      rcases List.mem_cons.mp hp with rfl | hp
      · exact ⟨hacc, eDL, hD₀⟩
      · exact ⟨old _ _ (N p hp).1, (N p hp).2⟩
  exact codeAny_compStart_list (loop _ rfl) (W.self 0 _ _ _ hst₁ (loop _ rfl))
end
section
variable {A : Around} {E : Value → Shared → Prop} {s : Shared} {h₀ : Heap} {L : Addr} {m : Str → Option Value} {env : Env}
/-- the source of a list comprehension over range(n) whose ints keep their tokens -/
inductive SrcT (prog : Program) (w : World) (A : Around) (h₀ : Heap) (L : Addr) (m : Str → Option Value) (env : Env) (elt : PySem.Expr) (x : Str) (scope : Scope) (cl : List (Str × Addr)) (g : Int → Int) (Q : Value → Shared → Prop) (xv : Value) (s₁ : Shared) : Prop
  | mk (r : Addr) (t u v : Tok) (n : Nat) (news : List (Addr × Obj)) (c1 : xv = .ref r) (c2 : A.handled = none) (c3 : Fr h₀ L s₁.heap m) (c4 : News h₀ L s₁.heap news) (c5 : IsRange s₁.heap r 0 n 1 t u v) (c6 : n ≤ 1000) (c7 : (∀ k : Int, 0 ≤ k → k < n → smallInt (g k) = true)) (c8 : (∀ s₂ : Shared, (∃ h, s₂ = { s₁ with heap := h }) → ∀ k t I oI C oC D m₂ ys h tk (E' : Value → Shared → Prop), (0 : Int) ≤ k → k < n → LCg.NsObj oC m₂ → m₂ x = some (.int k t) → Fr h₀ L h m → News h₀ L h ((I, oI) :: (C, oC) :: (D, LCg.lst ys) :: news) → LCg.Off3 I C D news → ((@Ne Nat I C) ∧ (@Ne Nat I D) ∧ (@Ne Nat C D)) →
      wpAny (model prog w) A (eval elt (compEnvC scope cl C env)) (EltT h₀ L m s₂ ((I, oI) :: (C, oC) :: (D, LCg.lst ys) :: news) (g k)) E' { s₂ with heap := h, toks := tk })) (c9 : (∀ D h tk ys, Fr h₀ L h m → News h₀ L h ((D, LCg.lst ys) :: news) → LCg.Off1 D news → IntsAre ys ((rangeKs 0 n).map g) → (∀ v ∈ ys, TokIn tk v) → Q (.ref D) { s₁ with heap := h, toks := tk })) : SrcT prog w A h₀ L m env elt x scope cl g Q xv s₁
theorem ListComp_T {elt iter : PySem.Expr} {x : Str} {px : Pos} {scope : Scope} {cl : List (Str × Addr)} {pos : Pos} {Q : Value → Shared → Prop} (g : Int → Int) (F₀ : Fr h₀ L s.heap m)
    (hclos : closureFor scope env = pure cl) (hcell : ∀ y ∈ scope.names, y.2 ≠ .cell) (hkind : scope.kind = .function)
    (hnames : ∀ y ∈ scope.names, y.2 = .local → scope.names.lookup y.1 = some .local) (hx : scope.names.lookup x = some .local)
    (h : wpAny (model prog w) A (eval iter env) (SrcT prog w A h₀ L m env elt x scope cl g Q) E s)
    (hs : ∀ x, foldedSetIterable iter env x = pure x := by intro _; rfl) :
    wpAny (model prog w) A (eval (.ListComp elt [⟨.Name x px, iter, [], 0⟩] scope pos) env) Q E s := by
  rw [eval_ListComp]
  refine wpAny_comprehension_free (use := none) rfl hs hclos hkind hnames (wpAny_mono h (fun xv s₁ h₁ => ?_) fun _ _ e => e)
  obtain ⟨r, t, u, v, n, news, rfl, hh, F, N, hr, hn, hg, turn, fin⟩ := h₁
  have hsz : Builtin.Range.rangeSize 0 n 1 = ((n : Nat) : Int) := by
    unfold Builtin.Range.rangeSize
    (repeat' split) <;> first | omega | (simp; omega) | (simp_all; done)
  have hsm : Builtin.Range.small 0 n 1 = true := by
    unfold Builtin.Range.small
    rw [hsz]
    simp [Builtin.Range.rangeFitsLong]
    omega
  refine wpAny_pyIter_range hr hsm ?_
  refine blockT g hh (by rw [sizeLine_eq]; omega) hcell hkind hx (by rw [hsz]; exact Heap.get?_push_size _ rfl) (by show @LT.lt Nat _ _ (s₁.heap.push _).objs.size; rw [Heap.size_push]; exact Nat.lt_succ_self _) hg
    (F.keeps fun _ _ e => Heap.get?_push_of_some _ e) (N.grown fun _ _ e => Heap.get?_push_of_some _ e) (Nat.ne_of_lt F.ns.lt) (next_is_new F) (fun p hp => Nat.ne_of_lt (Heap.lt_size (N p hp).1)) (turn _ ⟨_, rfl⟩) ?_
  intro D C h tk m' ys F' N' o1 hn hC₀ hD₀ hCL hDL hCD offC hI hT
  refine ⟨m', hn, fun h'' hs'' => fin D h'' tk ys (F'.change hs'' hCL hC₀) (fun p hp => ?_) o1 hI hT⟩
  refine ⟨hs''.extBut _ _ ?_ (N' p hp).1, (N' p hp).2⟩
  rcases List.mem_cons.mp hp with rfl | hp
  · exact Ne.symm hCD
  · exact offC p hp
end
end
section
open PySem.Float64
theorem V_surj : ∀ j q, q ≤ 2 ^ 53 → ∃ t, V t = q * 2 ^ j
  | 0, q, h => ⟨q, by have := V_at (k := 0) h (.inr rfl); simpa using this⟩
  | j + 1, q, h => by
    by_cases h2 : 2 ^ 52 ≤ q
    · exact ⟨_, V_at h (.inl h2)⟩
    · obtain ⟨t, ht⟩ := V_surj j (2 * q) (by omega)
      exact ⟨t, by rw [ht, Nat.pow_succ]; ac_rfl⟩
def Fin (x : UInt64) : Prop := ∃ a m e, decode x = .fin a m e
theorem near {r : UInt64} {neg : Bool} {W D : Nat} (h : Right r neg W D) (hD : 0 < D) {j : Nat} (hj : W ≤ D * (2 ^ 52 * 2 ^ (1022 + j))) (hj2 : j ≤ 100) :
    Fin r ∧ ∃ v : Nat, val r = sgn neg v ∧ D * v ≤ W + D * 2 ^ (1022 + j) ∧ W ≤ D * v + D * 2 ^ (1022 + j) := by
  obtain ⟨t, rfl, ht, hinf, hr⟩ := h
  have hlt : t < infMag := by
    rcases Nat.lt_or_ge t infMag with h | h
    · exact h
    · exfalso
      have h1 := hinf.mp (by omega)
      have h3 : 2 ^ (1022 + j) ≤ 2 ^ 1122 := Nat.pow_le_pow_right (by decide) (by omega)
      have h2 : D * ((2 ^ 54 - 1) * 2 ^ 2045) ≤ D * (2 * (2 ^ 52 * 2 ^ (1022 + j))) := by rw [Nat.mul_left_comm D 2]; omega
      have h4 := Nat.le_of_mul_le_mul_left h2 hD
      have h5 : 2 * (2 ^ 52 * 2 ^ (1022 + j)) ≤ 2 * (2 ^ 52 * 2 ^ 1122) := Nat.mul_le_mul_left _ (Nat.mul_le_mul_left _ h3)
      have h6 : 2 * (2 ^ 52 * 2 ^ 1122) < (2 ^ 54 - 1) * 2 ^ 2045 := by decide +kernel
      exact absurd (Nat.le_trans h4 h5) (Nat.not_le.mpr h6)
  obtain ⟨m, e, hd, _⟩ := decode_pack neg hlt
  refine ⟨⟨_, _, _, hd⟩, V t, val_pack neg hlt, ?_⟩
  have hP : 0 < D * 2 ^ (1022 + j) := Nat.mul_pos hD (Nat.two_pow_pos _)
  have hq : W / (D * 2 ^ (1022 + j)) ≤ 2 ^ 53 := by
    refine Nat.le_trans (Nat.div_le_of_le_mul ?_) (show 2 ^ 52 ≤ 2 ^ 53 by decide)
    rw [Nat.mul_assoc, Nat.mul_comm _ (2 ^ 52)]; exact hj
  obtain ⟨t', ht'⟩ := V_surj (1022 + j) _ hq
  have h1 := (hr hlt t').1
  have h2 := Nat.div_add_mod W (D * 2 ^ (1022 + j))
  have h3 := Nat.mod_lt W hP
  have h4 : D * V t' = D * 2 ^ (1022 + j) * (W / (D * 2 ^ (1022 + j))) := by rw [ht', Nat.mul_comm (W / _), Nat.mul_assoc]
  rw [h4] at h1
  generalize D * 2 ^ (1022 + j) * (W / (D * 2 ^ (1022 + j))) = u at *
  generalize D * 2 ^ (1022 + j) = c at *
  generalize D * V t = z at *
  unfold dist at h1
  generalize W % c = r at *
  subst h2
  rw [Nat.add_sub_cancel_left, Nat.sub_eq_zero_of_le (Nat.le_add_right u r)] at h1
  have k := Nat.le_trans h1 (Nat.le_of_lt h3)
  exact ⟨Nat.add_comm c _ ▸ Nat.le_add_of_sub_le (Nat.le_trans (Nat.le_add_left _ _) k), Nat.add_comm c _ ▸ Nat.le_add_of_sub_le (Nat.le_trans (Nat.le_add_right _ _) k)⟩
def EE : Nat := 2 ^ 1022
theorem EE_pos : 0 < EE := Nat.two_pow_pos _
theorem KE : 2 ^ 1074 = 2 ^ 52 * EE := by unfold EE; rw [← Nat.pow_add]
theorem EEj (j : Nat) : 2 ^ (1022 + j) = EE * 2 ^ j := by unfold EE; rw [← Nat.pow_add]
def R (x : UInt64) : Rat := (val x : Rat) / (2 ^ 52 * (EE : Rat))
/-- finite, and within e of q -/
def Ap (x : UInt64) (q e : Rat) : Prop := Fin x ∧ q - e ≤ R x ∧ R x ≤ q + e
theorem sgn_abs (z : Int) : sgn (decide (z < 0)) z.natAbs = z := by
  cases z with
  | ofNat n =>
    have e : decide (Int.ofNat n < 0) = false := decide_eq_false (Int.not_lt.mpr (Int.natCast_nonneg n))
    rw [e]; rfl
  | negSucc n =>
    have e : decide (Int.negSucc n < 0) = true := decide_eq_true (Int.negSucc_lt_zero n)
    rw [e]; rfl
theorem sgn_near {s : Bool} {v w c : Nat} (h1 : v ≤ w + c) (h2 : w ≤ v + c) : sgn s v - sgn s w ≤ (c : Int) ∧ sgn s w - sgn s v ≤ (c : Int) := by
  have a1 : (v : Int) - w ≤ c := by omega
  have a2 : (w : Int) - v ≤ c := by omega
  cases s with
  | false => exact ⟨a1, a2⟩
  | true =>
    have e : ∀ x y : Int, -x - -y = y - x := fun x y => by omega
    show -(v : Int) - -(w : Int) ≤ c ∧ -(w : Int) - -(v : Int) ≤ c
    rw [e, e]
    exact ⟨a2, a1⟩
theorem zero_fin (b : Bool) : Fin (zero b) ∧ val (zero b) = 0 := by
  have h : (0 : Nat) < infMag := by decide
  obtain ⟨m, e, hd, _⟩ := decode_pack b h
  refine ⟨⟨_, _, _, hd⟩, ?_⟩
  have := val_pack b h
  unfold zero
  rw [this]
  cases b <;> rfl
theorem addI {x y : UInt64} (hx : Fin x) (hy : Fin y) {j : Nat} (hj : (val x + val y).natAbs ≤ 2 ^ 52 * EE * 2 ^ j) (hj2 : j ≤ 100) :
    Fin (add x y) ∧ val (add x y) - (val x + val y) ≤ EE * 2 ^ j ∧ (val x + val y) - val (add x y) ≤ EE * 2 ^ j := by
  obtain ⟨a, m, e, hx⟩ := hx
  obtain ⟨b, k, f, hy⟩ := hy
  have h := add_right hx hy
  by_cases h0 : val x + val y = 0
  · rw [h.1 h0, h0]
    refine ⟨(zero_fin _).1, ?_⟩
    rw [(zero_fin _).2]
    have : 0 ≤ (EE * 2 ^ j : Int) := Int.mul_nonneg (Int.natCast_nonneg _) (Int.pow_nonneg (by decide))
    omega
  · obtain ⟨hf, v, hv, h1, h2⟩ := near (h.2 h0) (by decide) (j := j) (by rw [EEj, Nat.one_mul, ← Nat.mul_assoc]; exact hj) hj2
    refine ⟨hf, ?_⟩
    rw [EEj] at h1 h2
    have h3 := sgn_abs (val x + val y)
    generalize val x + val y = z at *
    rw [hv]
    have h5 : ((EE * 2 ^ j : Nat) : Int) = EE * 2 ^ j := by simp
    rw [← h5]
    generalize EE * 2 ^ j = c at *
    rw [Nat.one_mul, Nat.one_mul] at h1 h2
    have h6 := sgn_near (s := decide (z < 0)) h1 h2
    rw [h3] at h6
    exact h6

theorem subI {x y : UInt64} (hx : Fin x) (hy : Fin y) {j : Nat} (hj : (val x - val y).natAbs ≤ 2 ^ 52 * EE * 2 ^ j) (hj2 : j ≤ 100) :
    Fin (sub x y) ∧ val (sub x y) - (val x - val y) ≤ EE * 2 ^ j ∧ (val x - val y) - val (sub x y) ≤ EE * 2 ^ j := by
  obtain ⟨b, k, f, hy⟩ := hy
  have h := addI hx ⟨_, _, _, neg_decode hy⟩ (j := j)
  rw [neg_val hy, ← Int.sub_eq_add_neg] at h
  unfold Float64.sub
  exact h hj hj2
theorem mulI {x y : UInt64} (hx : Fin x) (hy : Fin y) {j : Nat} (hj : (val x * val y).natAbs ≤ 2 ^ 52 * EE * (2 ^ 52 * EE * 2 ^ j)) (hj2 : j ≤ 100) :
    Fin (mul x y) ∧ 2 ^ 52 * EE * val (mul x y) - (val x * val y) ≤ 2 ^ 52 * EE * (EE * 2 ^ j) ∧ (val x * val y) - 2 ^ 52 * EE * val (mul x y) ≤ 2 ^ 52 * EE * (EE * 2 ^ j) := by
  obtain ⟨a, m, e, hx⟩ := hx
  obtain ⟨b, k, f, hy⟩ := hy
  have h := mul_right hx hy
  rw [KE, ← Int.natAbs_mul] at h
  obtain ⟨hf, v, hv, h1, h2⟩ := near h (Nat.mul_pos (by decide) EE_pos) (j := j) (by rw [EEj, ← Nat.mul_assoc (2^52)]; exact hj) hj2
  refine ⟨hf, ?_⟩
  rw [EEj] at h1 h2
  have h3 : val x * val y = sgn (a != b) (val x * val y).natAbs := by
    rw [val_eq hx, val_eq hy]
    unfold sgn
    cases a <;> cases b <;> simp [Int.natAbs_mul, Int.neg_mul, Int.mul_neg]
  generalize val x * val y = z at *
  rw [hv]
  have h5 : ((2 ^ 52 * EE * (EE * 2 ^ j) : Nat) : Int) = 2 ^ 52 * EE * (EE * 2 ^ j) := by simp
  have h6 : 2 ^ 52 * EE * sgn (a != b) v = sgn (a != b) (2 ^ 52 * EE * v) := by rw [Nat.mul_comm _ v, sgn_mul, Int.mul_comm]; simp
  rw [← h5, h6, h3]
  generalize z.natAbs = z' at *
  generalize 2 ^ 52 * EE * (EE * 2 ^ j) = c at *
  generalize 2 ^ 52 * EE * v = c2 at *
  exact sgn_near h1 h2

theorem divI {x y : UInt64} (hx : Fin x) (hy : Fin y) (hy0 : 0 < val y) {j : Nat} (hj : (val x).natAbs ≤ (val y).natAbs * 2 ^ j) (hj2 : j ≤ 100) :
    Fin (div x y) ∧ val y * val (div x y) - val x * (2 ^ 52 * EE) ≤ val y * (EE * 2 ^ j) ∧ val x * (2 ^ 52 * EE) - val y * val (div x y) ≤ val y * (EE * 2 ^ j) := by
  obtain ⟨a, m, e, hx⟩ := hx
  obtain ⟨b, k, f, hy⟩ := hy
  have hk : k ≠ 0 := by
    rintro rfl
    rw [val_eq hy] at hy0
    unfold sgn at hy0
    split at hy0 <;> simp at hy0
  have h := div_right hx hy hk
  rw [KE] at h
  obtain ⟨hf, v, hv, h1, h2⟩ := near h (by omega) (j := j) (by
    have h9 := Nat.mul_le_mul_right (2 ^ 52 * EE) hj
    rw [EEj]
    clear h hx hy hy0 hj
    generalize (2 : Nat) ^ 52 = A, (val y).natAbs = b, EE = c, 2 ^ j = d at *
    rw [show b * (A * (c * d)) = b * d * (A * c) by ac_rfl]
    exact h9) hj2
  refine ⟨hf, ?_⟩
  rw [EEj] at h1 h2
  have hb : b = false := by
    cases b
    · rfl
    · exfalso
      rw [val_eq hy] at hy0
      unfold sgn at hy0
      rw [if_pos rfl] at hy0
      omega
  subst hb
  have h3 : val x = sgn a (val x).natAbs := by
    rw [val_eq hx, sgn_natAbs]
  rw [hv]
  clear h hj hy
  generalize val y = Y at *
  obtain ⟨d, rfl⟩ := Int.eq_ofNat_of_zero_le (Int.le_of_lt hy0)
  generalize val x = z at *
  rw [Int.natAbs_natCast] at h1 h2
  have h5 : (d : Int) * (EE * 2 ^ j) = ((d * (EE * 2 ^ j) : Nat) : Int) := by simp
  have h6 : (d : Int) * sgn (a != false) v = sgn a (d * v) := by rw [Nat.mul_comm, sgn_mul, Int.mul_comm]; simp
  have h7 : z * (2 ^ 52 * EE) = sgn a (z.natAbs * (2 ^ 52 * EE)) := by rw [sgn_mul, ← h3]; simp
  rw [h5, h6, h7]
  generalize z.natAbs * (2 ^ 52 * EE) = w at *
  generalize d * v = u at *
  generalize d * (EE * 2 ^ j) = c at *
  unfold sgn
  split <;> omega
end
section
open PySem.Float64
theorem EQ : (0 : Rat) < (EE : Rat) := by
  have := EE_pos
  exact_mod_cast this
/-- the unit, as a rational -/
def C0 : Rat := 2 ^ 52 * (EE : Rat)
theorem CQ : (0 : Rat) < C0 := Rat.mul_pos (by decide +kernel) EQ
theorem CE : ((2 ^ 52 * EE : Nat) : Rat) = C0 := by unfold C0; push_cast; rfl
theorem EC : (EE : Rat) = C0 * (1 / 4503599627370496) := by
  have : C0 = 4503599627370496 * (EE : Rat) := by unfold C0; rw [show (2 : Rat) ^ 52 = 4503599627370496 by decide +kernel]
  rw [this]; grind
theorem R_val (x : UInt64) : (val x : Rat) = R x * C0 := by
  have h := CQ
  have : R x = (val x : Rat) / C0 := rfl
  rw [this]
  grind
theorem abs_of {z : Int} {n : Nat} (h1 : (z : Rat) ≤ (n : Rat)) (h2 : -(n : Rat) ≤ (z : Rat)) : z.natAbs ≤ n := by
  have h1 : z ≤ (n : Int) := by exact_mod_cast h1
  have h2 : (0 : Rat) ≤ (z : Rat) + (n : Rat) := by grind
  have h2 : (0 : Int) ≤ z + (n : Int) := by exact_mod_cast h2
  omega
theorem up {a b c : Rat} (hc : 0 < c) (h : a ≤ b) : a * c ≤ b * c := Rat.mul_le_mul_of_nonneg_right h (Rat.le_of_lt hc)
theorem down {a b c : Rat} (hc : 0 < c) (h : a * c ≤ b * c) : a ≤ b := Rat.le_of_mul_le_mul_right h hc
abbrev UL : Rat := 1 / 4503599627370496
theorem addR {x y : UInt64} {q q' e e' : Rat} (hx : Ap x q e) (hy : Ap y q' e') (j : Nat) (hj : j ≤ 100) (h1 : q + q' + (e + e') ≤ (2 ^ j : Rat)) (h2 : -(2 ^ j : Rat) ≤ q + q' - (e + e')) :
    Ap (add x y) (q + q') (e + e' + 2 ^ j * UL) := by
  obtain ⟨f1, l1, u1⟩ := hx
  obtain ⟨f2, l2, u2⟩ := hy
  have hC := CQ
  obtain ⟨hf, a1, a2⟩ := addI f1 f2 (j := j) (abs_of (by
      push_cast
      show _ ≤ C0 * 2 ^ j
      rw [R_val, R_val]
      have := up hC (show R x + R y ≤ 2 ^ j by grind)
      grind) (by
      push_cast
      show -(C0 * 2 ^ j) ≤ _
      rw [R_val, R_val]
      have := up hC (show - 2 ^ j ≤ R x + R y by grind)
      grind)) hj
  have a1 : ((val (add x y) : Rat) - ((val x : Rat) + (val y : Rat))) ≤ (EE : Rat) * 2 ^ j := by exact_mod_cast a1
  have a2 : (((val x : Rat) + (val y : Rat)) - (val (add x y) : Rat)) ≤ (EE : Rat) * 2 ^ j := by exact_mod_cast a2
  rw [R_val, R_val, R_val, EC] at a1 a2
  have b1 := down hC (a := R (add x y) - (R x + R y)) (b := 2 ^ j * UL) (by grind)
  have b2 := down hC (a := R x + R y - R (add x y)) (b := 2 ^ j * UL) (by grind)
  exact ⟨hf, by grind, by grind⟩
theorem subR {x y : UInt64} {q q' e e' : Rat} (hx : Ap x q e) (hy : Ap y q' e') (j : Nat) (hj : j ≤ 100) (h1 : q - q' + (e + e') ≤ (2 ^ j : Rat)) (h2 : -(2 ^ j : Rat) ≤ q - q' - (e + e')) :
    Ap (sub x y) (q - q') (e + e' + 2 ^ j * UL) := by
  obtain ⟨⟨b, k, f, hy⟩, l2, u2⟩ := hy
  have h : R (neg y) = - R y := by
    unfold R
    rw [neg_val hy]
    push_cast
    grind
  have := addR hx (y := neg y) (q' := -q') (e' := e') ⟨⟨_, _, _, neg_decode hy⟩, by grind, by grind⟩ j hj (by grind) (by grind)
  rw [← Rat.sub_eq_add_neg] at this
  unfold Float64.sub
  exact this
/-- a product is near the product -/
theorem mul_near {a b q q' e e' M M' : Rat} (h1 : q - e ≤ a) (h2 : a ≤ q + e) (h3 : q' - e' ≤ b) (h4 : b ≤ q' + e') (m1 : -M ≤ b) (m2 : b ≤ M) (m3 : -M' ≤ q) (m4 : q ≤ M') :
    q * q' - (e * M + M' * e') ≤ a * b ∧ a * b ≤ q * q' + (e * M + M' * e') := by
  have i1 : 0 ≤ (e - (a - q)) * (M - b) := Rat.mul_nonneg (by grind) (by grind)
  have i2 : 0 ≤ (e + (a - q)) * (M - b) := Rat.mul_nonneg (by grind) (by grind)
  have i3 : 0 ≤ (e - (a - q)) * (M + b) := Rat.mul_nonneg (by grind) (by grind)
  have i4 : 0 ≤ (e + (a - q)) * (M + b) := Rat.mul_nonneg (by grind) (by grind)
  have i5 : 0 ≤ (M' - q) * (e' - (b - q')) := Rat.mul_nonneg (by grind) (by grind)
  have i6 : 0 ≤ (M' + q) * (e' - (b - q')) := Rat.mul_nonneg (by grind) (by grind)
  have i7 : 0 ≤ (M' - q) * (e' + (b - q')) := Rat.mul_nonneg (by grind) (by grind)
  have i8 : 0 ≤ (M' + q) * (e' + (b - q')) := Rat.mul_nonneg (by grind) (by grind)
  constructor <;> grind
set_option maxRecDepth 100000 in
theorem mulR {x y : UInt64} {q q' e e' M M' : Rat} (hx : Ap x q e) (hy : Ap y q' e') (m1 : -M ≤ q' - e') (m2 : q' + e' ≤ M) (m3 : -M' ≤ q) (m4 : q ≤ M') (j : Nat) (hj : j ≤ 100)
    (h1 : q * q' + (e * M + M' * e') ≤ (2 ^ j : Rat)) (h2 : -(2 ^ j : Rat) ≤ q * q' - (e * M + M' * e')) :
    Ap (mul x y) (q * q') (e * M + M' * e' + 2 ^ j * UL) := by
  obtain ⟨f1, l1, u1⟩ := hx
  obtain ⟨f2, l2, u2⟩ := hy
  have hC := CQ
  obtain ⟨n1, n2⟩ := mul_near l1 u1 l2 u2 (show -M ≤ R y by grind) (by grind) m3 m4
  obtain ⟨hf, a1, a2⟩ := mulI f1 f2 (j := j) (abs_of (by
      push_cast
      show _ ≤ C0 * (C0 * 2 ^ j)
      rw [R_val, R_val]
      have h3 := up hC (up hC (show R x * R y ≤ 2 ^ j by grind))
      grind) (by
      push_cast
      show -(C0 * (C0 * 2 ^ j)) ≤ _
      rw [R_val, R_val]
      have h3 := up hC (up hC (show - 2 ^ j ≤ R x * R y by grind))
      grind)) hj
  have a1 : 2 ^ 52 * (EE : Rat) * (val (mul x y) : Rat) - (val x : Rat) * (val y : Rat) ≤ 2 ^ 52 * (EE : Rat) * ((EE : Rat) * 2 ^ j) := by have h := Rat.intCast_le_intCast.mpr a1; push_cast at h; exact h
  have a2 : (val x : Rat) * (val y : Rat) - 2 ^ 52 * (EE : Rat) * (val (mul x y) : Rat) ≤ 2 ^ 52 * (EE : Rat) * ((EE : Rat) * 2 ^ j) := by have h := Rat.intCast_le_intCast.mpr a2; push_cast at h; exact h
  change C0 * _ - _ ≤ C0 * _ at a1
  change _ - C0 * _ ≤ C0 * _ at a2
  rw [R_val, R_val, R_val, EC] at a1 a2
  have b1 := down hC (down hC (a := (R (mul x y) - R x * R y) * C0) (b := 2 ^ j * UL * C0) (by grind))
  have b2 := down hC (down hC (a := (R x * R y - R (mul x y)) * C0) (b := 2 ^ j * UL * C0) (by grind))
  exact ⟨hf, by grind, by grind⟩
end
section
open PySem.Float64
theorem fracIj {x y : Int} (hx : 0 ≤ x) (hy : 0 < y) {j : Nat} (hxy : x ≤ y * 2 ^ j) (hj : j ≤ 100) : Fin (Float64.ofFrac (decide (x < 0) != decide (y < 0)) x.natAbs y.natAbs) ∧
    y * val (Float64.ofFrac (decide (x < 0) != decide (y < 0)) x.natAbs y.natAbs) ≤ x * (2 ^ 52 * EE) + y * (EE * 2 ^ j) ∧ x * (2 ^ 52 * EE) ≤ y * val (Float64.ofFrac (decide (x < 0) != decide (y < 0)) x.natAbs y.natAbs) + y * (EE * 2 ^ j) := by
  obtain ⟨n, rfl⟩ := Int.eq_ofNat_of_zero_le hx
  obtain ⟨d, rfl⟩ := Int.eq_ofNat_of_zero_le (Int.le_of_lt hy)
  have e : (decide ((n : Int) < 0) != decide ((d : Int) < 0)) = false := by
    have h1 : ¬ ((n : Int) < 0) := by omega
    have h2 : ¬ ((d : Int) < 0) := by omega
    simp [h1, h2]
  rw [e]
  simp only [Int.natAbs_natCast]
  have hd : 0 < d := by omega
  have h : Right (ofFrac false n d) false (n * 2 ^ 1074) d := ofFrac_right hd rfl hd
  rw [KE] at h
  have hxy : n ≤ d * 2 ^ j := by exact_mod_cast hxy
  obtain ⟨hf, v, hv, h1, h2⟩ := near h hd (j := j) (by
    have h9 := Nat.mul_le_mul_right (2 ^ 52 * EE) hxy
    rw [EEj]
    clear h hx hy hxy
    generalize (2 : Nat) ^ 52 = A, EE = c, 2 ^ j = b at *
    rw [show d * (A * (c * b)) = d * b * (A * c) by ac_rfl]
    exact h9) hj
  refine ⟨hf, ?_⟩
  rw [EEj] at h1 h2
  rw [hv, show sgn false v = (v : Int) from rfl]
  constructor
  · have := Int.ofNat_le.mpr h1
    simpa using this
  · have := Int.ofNat_le.mpr h2
    simpa using this
theorem fracR {x y : Int} (hx : 0 ≤ x) (hy : 0 < y) (j : Nat) (hxy : x ≤ y * 2 ^ j) (hj : j ≤ 100) {q : Rat} (hq : q * (y : Rat) = (x : Rat)) :
    Ap (Float64.ofFrac (decide (x < 0) != decide (y < 0)) x.natAbs y.natAbs) q (2 ^ j * UL) := by
  obtain ⟨hf, a1, a2⟩ := fracIj hx hy hxy hj
  generalize Float64.ofFrac (decide (x < 0) != decide (y < 0)) x.natAbs y.natAbs = r at *
  have a1 : (y : Rat) * (val r : Rat) ≤ (x : Rat) * (2 ^ 52 * (EE : Rat)) + (y : Rat) * ((EE : Rat) * 2 ^ j) := by have h := Rat.intCast_le_intCast.mpr a1; push_cast at h; exact h
  have a2 : (x : Rat) * (2 ^ 52 * (EE : Rat)) ≤ (y : Rat) * (val r : Rat) + (y : Rat) * ((EE : Rat) * 2 ^ j) := by have h := Rat.intCast_le_intCast.mpr a2; push_cast at h; exact h
  change _ ≤ _ * C0 + _ at a1
  change _ * C0 ≤ _ at a2
  rw [R_val, EC, ← hq] at a1 a2
  have hC := CQ
  have hy : (0 : Rat) < (y : Rat) := by exact_mod_cast hy
  refine ⟨hf, ?_, ?_⟩
  · have := down hC (down hy (a := (q - R r) * C0) (b := 2 ^ j * UL * C0) (by grind))
    grind
  · have := down hC (down hy (a := (R r - q) * C0) (b := 2 ^ j * UL * C0) (by grind))
    grind
theorem ofIntR {x : Int} (hx : 0 ≤ x) (j : Nat) (hxy : x ≤ 2 ^ j) (hj : j ≤ 100) : Ap (Float64.ofInt x) (x : Rat) (2 ^ j * UL) := by
  have h := fracR hx (y := 1) (by decide) j (by omega) hj (q := x) (by push_cast; grind)
  unfold Float64.ofInt
  have e : (decide (x < 0) != decide ((1 : Int) < 0)) = decide (x < 0) := by simp
  rw [e] at h
  exact h
/-- division by a small whole number -/
theorem divR {x y : UInt64} {q e c : Rat} (hx : Ap x q e) (hf : Fin y) (hy : R y = c) (hc : 0 < c) (j : Nat) (hj : j ≤ 100) (h1 : q + e ≤ c * 2 ^ j) (h2 : -(c * 2 ^ j) ≤ q - e) {q' : Rat} (hq : q' * c = q) {e' : Rat} (he : e' * c = e) :
    Ap (div x y) q' (e' + 2 ^ j * UL) := by
  obtain ⟨f1, l1, u1⟩ := hx
  have hC := CQ
  have hvy := R_val y
  rw [hy] at hvy
  have hy0 : 0 < val y := by
    have h3 : (0 : Rat) < (val y : Rat) := by rw [hvy]; exact Rat.mul_pos hc hC
    exact_mod_cast h3
  obtain ⟨d, hd⟩ := Int.eq_ofNat_of_zero_le (Int.le_of_lt hy0)
  have hd2 : ((d : Nat) : Rat) = c * C0 := by rw [← hvy, hd]; rfl
  obtain ⟨hf, a1, a2⟩ := divI f1 hf hy0 (j := j) (abs_of (by
      rw [hd, Int.natAbs_natCast]
      push_cast
      rw [hd2, R_val]
      have h3 := up hC (show R x ≤ c * 2 ^ j by grind)
      grind) (by
      rw [hd, Int.natAbs_natCast]
      push_cast
      rw [hd2, R_val]
      have h3 := up hC (show -(c * 2 ^ j) ≤ R x by grind)
      grind)) hj
  have a1 : (val y : Rat) * (val (div x y) : Rat) - (val x : Rat) * (2 ^ 52 * (EE : Rat)) ≤ (val y : Rat) * ((EE : Rat) * 2 ^ j) := by have h := Rat.intCast_le_intCast.mpr a1; push_cast at h; exact h
  have a2 : (val x : Rat) * (2 ^ 52 * (EE : Rat)) - (val y : Rat) * (val (div x y) : Rat) ≤ (val y : Rat) * ((EE : Rat) * 2 ^ j) := by have h := Rat.intCast_le_intCast.mpr a2; push_cast at h; exact h
  change _ - _ * C0 ≤ _ at a1
  change _ * C0 - _ ≤ _ at a2
  rw [hvy, R_val, R_val, EC] at a1 a2
  have b1 := down hC (down hC (a := (R (div x y) * c - R x) * C0) (b := c * (2 ^ j * UL) * C0) (by grind))
  have b2 := down hC (down hC (a := (R x - R (div x y) * c) * C0) (b := c * (2 ^ j * UL) * C0) (by grind))
  refine ⟨hf, ?_, ?_⟩
  · have := down hc (a := q' - e' - 2 ^ j * UL) (b := R (div x y)) (by grind)
    grind
  · have := down hc (a := R (div x y)) (b := q' + e' + 2 ^ j * UL) (by grind)
    grind
end
section
open PySem.Float64
theorem Fin.isFinite {x : UInt64} (h : Fin x) : Float64.isFinite x = true := by
  obtain ⟨a, m, e, h⟩ := h
  unfold Float64.isFinite
  rw [h]
theorem K_C : ((2 ^ 1074 : Nat) : Rat) = C0 := by rw [KE, CE]
theorem trunc_at {x : UInt64} {q e : Rat} (k : Nat) (hx : Ap x q e) (h1 : (k : Rat) ≤ q - e) (h2 : q + e < (k : Rat) + 1) (h0 : 0 < q - e) : Flt.toInt Float64.truncOf x = k := by
  obtain ⟨⟨a, m, ex, hd⟩, l, u⟩ := hx
  have hC := CQ
  have hv := R_val x
  have b0 : (0 : Rat) < (val x : Rat) := by rw [hv]; exact Rat.mul_pos (by grind) hC
  have b1 := up hC (show (k : Rat) ≤ R x by grind)
  have b2 := Rat.mul_lt_mul_of_pos_right (show R x < ((k + 1 : Nat) : Rat) by push_cast; grind) hC
  rw [← hv, ← K_C] at b1 b2
  have b0 : 0 < val x := by exact_mod_cast b0
  rw [val_eq hd] at b0 b1 b2
  cases a
  case true =>
    exfalso
    unfold sgn at b0
    rw [if_pos rfl] at b0
    omega
  rw [show ∀ n, sgn false n = (n : Int) from fun _ => rfl] at b1 b2
  have b1 : k * 2 ^ 1074 ≤ m * 2 ^ (ex + 1074).toNat := by
    have h : ((k * 2 ^ 1074 : Nat) : Rat) ≤ ((m * 2 ^ (ex + 1074).toNat : Nat) : Rat) := by rw [Rat.natCast_mul]; exact b1
    exact Rat.natCast_le_natCast.mp h
  have b2 : m * 2 ^ (ex + 1074).toNat < (k + 1) * 2 ^ 1074 := by
    have h : ((m * 2 ^ (ex + 1074).toNat : Nat) : Rat) < (((k + 1) * 2 ^ 1074 : Nat) : Rat) := by rw [Rat.natCast_mul (k + 1)]; exact b2
    exact Rat.natCast_lt_natCast.mp h
  rw [Flt.toInt_fin hd]
  unfold truncOf floorOf
  simp only [Bool.false_eq_true, if_false]
  have hge := decode_ge hd
  rw [show sgn false m = (m : Int) from rfl]
  split
  · rename_i hp
    rw [show (ex + 1074).toNat = ex.toNat + 1074 from Int.toNat_add_nat hp 1074, Nat.pow_add, ← Nat.mul_assoc] at b1 b2
    have c1 := Nat.le_of_mul_le_mul_right b1 (Nat.two_pow_pos _)
    have c2 := Nat.lt_of_mul_lt_mul_right b2
    have : m * 2 ^ ex.toNat = k := by omega
    exact_mod_cast this
  · rename_i hp
    have e1 : 1074 = (-ex).toNat + (ex + 1074).toNat := by rw [← Int.toNat_add (by omega) (by omega), Int.neg_add_cancel_left]; rfl
    have e2 : 2 ^ 1074 = 2 ^ (-ex).toNat * 2 ^ (ex + 1074).toNat := by rw [← Nat.pow_add, ← e1]
    rw [e2, ← Nat.mul_assoc] at b1 b2
    have c1 := Nat.le_of_mul_le_mul_right b1 (Nat.two_pow_pos _)
    have c2 := Nat.lt_of_mul_lt_mul_right b2
    have c3 : m / 2 ^ (-ex).toNat = k := Nat.div_eq_of_lt_le c1 c2
    have c4 : ((2 : Int) ^ (-ex).toNat) = ((2 ^ (-ex).toNat : Nat) : Int) := by simp
    rw [c4, Int.fdiv_eq_ediv_of_nonneg _ (Int.natCast_nonneg _), ← Int.natCast_ediv, c3]
theorem R_of_val {x : UInt64} {z : Int} (h : val x = z * 2 ^ 1074) : R x = (z : Rat) := by
  have hC := CQ
  have h2 := R_val x
  rw [h] at h2
  have h3 : ((z * 2 ^ 1074 : Int) : Rat) = (z : Rat) * C0 := by
    rw [← K_C, Rat.intCast_mul]
    congr 1
  rw [h3] at h2
  exact Rat.le_antisymm (down hC (by rw [h2]; exact Rat.le_refl)) (down hC (by rw [h2]; exact Rat.le_refl))
theorem Fin.of {x : UInt64} (h : Float64.isFinite x = true) : Fin x := by
  unfold Float64.isFinite at h
  split at h
  · exact ⟨_, _, _, by assumption⟩
  · cases h
theorem six_R : R 4618441417868443648 = 6 := R_of_val (z := 6) (by decide +kernel)
theorem one_R : R 4607182418800017408 = 1 := R_of_val (z := 1) (by decide +kernel)
theorem two_R : R 4611686018427387904 = 2 := R_of_val (z := 2) (by decide +kernel)
theorem four_R : R 4616189618054758400 = 4 := R_of_val (z := 4) (by decide +kernel)
theorem Ap_of {x : UInt64} {q : Rat} (h : Float64.isFinite x = true) (h2 : R x = q) : Ap x q 0 := ⟨.of h, by grind, by grind⟩

theorem half_ap : Ap (qF 1 2) (1 / 2) UL := by
  have h := fracR (x := 1) (y := 2) (by decide) (by decide) 0 (by decide) (by decide) (q := 1 / 2) (by decide +kernel)
  rw [show (2 : Rat) ^ 0 * UL = UL by decide +kernel] at h
  exact h
/-- the nearest whole number of what is near one -/
theorem whole_at {x : UInt64} {q e : Rat} (k : Nat) (hx : Ap x q e) (h1 : q - k + e ≤ 1 / 4) (h2 : (k : Rat) - q + e ≤ 1 / 4) (hk : k ≤ 1000000) (he : 0 ≤ e) :
    Float64.isFinite (Float64.add x (qF 1 2)) = true ∧ wholeF x = k := by
  have hk : (k : Rat) ≤ 1000000 := by exact_mod_cast hk
  have hk0 : (0 : Rat) ≤ (k : Rat) := by exact_mod_cast Nat.zero_le k
  have e20 : (2 : Rat) ^ 20 = 1048576 := by decide +kernel
  have h := addR hx half_ap 20 (by decide) (by rw [e20]; grind) (by rw [e20]; grind)
  refine ⟨h.1.isFinite, ?_⟩
  unfold wholeF
  rw [e20] at h
  exact trunc_at k h (by grind) (by grind) (by grind)
end
section
open PySem.Float64
theorem tn_split {e g : Int} (h : g ≤ e) (h2 : -1074 ≤ g) : (e - g).toNat + (g + 1074).toNat = (e + 1074).toNat := by
  rw [← Int.toNat_add (Int.sub_nonneg_of_le h) (by omega)]
  congr 1
  omega
theorem fmod_one {x : UInt64} {q e : Rat} (hx : Ap x q e) (h1 : q + e < 1) (h2 : -1 < q - e) : Ap (fmod x 4607182418800017408) q (e + UL) := by
  obtain ⟨⟨a, m, ex, hd⟩, l, u⟩ := hx
  have hC := CQ
  have hv := R_val x
  have hge := decode_ge hd
  obtain ⟨k, f, hy, hk, hk1⟩ : ∃ k f, decode 4607182418800017408 = .fin false k f ∧ k ≠ 0 ∧ k * 2 ^ (f + 1074).toNat = 2 ^ 1074 :=
    ⟨2 ^ 52, -52, (by
      have h : (match decode 4607182418800017408 with | .fin false k f => k == 2 ^ 52 && f == -52 | _ => false) = true := by decide +kernel
      split at h
      · rename_i k f hd
        simp only [Bool.and_eq_true, beq_iff_eq] at h
        rw [hd, h.1, h.2]
      · cases h), by decide, by rw [show ((-52 : Int) + 1074).toNat = 1022 by decide, ← Nat.pow_add]⟩
  have hgf := decode_ge hy
  have hlt : (val x).natAbs < 2 ^ 1074 := by
    have c1 := Rat.mul_lt_mul_of_pos_right (show R x < 1 by grind) hC
    have c2 := Rat.mul_lt_mul_of_pos_right (show -1 < R x by grind) hC
    rw [← hv, Rat.one_mul, ← K_C] at c1
    rw [← hv, ← K_C] at c2
    have c1 : val x < ((2 ^ 1074 : Nat) : Int) := by
      have : ((val x : Int) : Rat) < (((2 ^ 1074 : Nat) : Int) : Rat) := c1
      exact Rat.intCast_lt_intCast.mp this
    have c2 : -((2 ^ 1074 : Nat) : Int) < val x := by
      have : ((-((2 ^ 1074 : Nat) : Int) : Int) : Rat) < ((val x : Int) : Rat) := by
        rw [Rat.intCast_neg]
        rw [Rat.neg_mul, Rat.one_mul] at c2
        exact c2
      exact Rat.intCast_lt_intCast.mp this
    generalize (2 : Nat) ^ 1074 = z at *
    omega
  have hf : fmod x 4607182418800017408 = ofBin a (m * 2 ^ (ex - min ex f).toNat % (k * 2 ^ (f - min ex f).toNat)) (min ex f) := by
    unfold fmod
    rw [hd, hy]
    simp only [align, sgn, Bool.false_eq_true, if_false]
    rw [if_neg (by simpa using hk)]
    simp only [Int.toNat_natCast]
  have ep : m * 2 ^ (ex - min ex f).toNat * 2 ^ (min ex f + 1074).toNat = m * 2 ^ (ex + 1074).toNat := by
    rw [Nat.mul_assoc, ← Nat.pow_add, tn_split (Int.min_le_left _ _) (Int.le_min.mpr ⟨hge, hgf⟩)]
  have eq : k * 2 ^ (f - min ex f).toNat * 2 ^ (min ex f + 1074).toNat = k * 2 ^ (f + 1074).toNat := by
    rw [Nat.mul_assoc, ← Nat.pow_add, tn_split (Int.min_le_right _ _) (Int.le_min.mpr ⟨hge, hgf⟩)]
  have hpq : m * 2 ^ (ex - min ex f).toNat < k * 2 ^ (f - min ex f).toNat := by
    refine Nat.lt_of_mul_lt_mul_right (a := 2 ^ (min ex f + 1074).toNat) ?_
    rw [ep, eq, hk1, ← val_natAbs hd]
    exact hlt
  rw [hf, Nat.mod_eq_of_lt hpq]
  have hr := ofBin_right (neg := a) (M := m * 2 ^ (ex - min ex f).toNat) (g := min ex f) (by omega)
  rw [ep] at hr
  have e1 := val_natAbs hd
  obtain ⟨hfin, v, hv2, n1, n2⟩ := near hr (by decide) (j := 0) (by
    rw [← e1, Nat.one_mul, Nat.add_zero, show 2 ^ 52 * 2 ^ 1022 = 2 ^ 1074 by rw [← Nat.pow_add]]
    exact Nat.le_of_lt hlt) (by decide)
  rw [Nat.one_mul, EEj, Nat.pow_zero, Nat.mul_one, Nat.one_mul] at n1 n2
  refine ⟨hfin, ?_⟩
  have e2 := val_eq hd
  have n3 : val x - (EE : Int) ≤ sgn a v ∧ sgn a v ≤ val x + (EE : Int) := by
    rw [e2]
    clear hf hr ep eq hpq e1 e2 hlt hk1 hv2
    generalize m * 2 ^ (ex + 1074).toNat = z at *
    unfold sgn
    cases a <;> simp <;> omega
  rw [← hv2] at n3
  have n4 : ((val x : Rat) - (EE : Rat)) ≤ (val (ofBin a (m * 2 ^ (ex - min ex f).toNat) (min ex f)) : Rat) := by exact_mod_cast n3.1
  have n5 : (val (ofBin a (m * 2 ^ (ex - min ex f).toNat) (min ex f)) : Rat) ≤ (val x : Rat) + (EE : Rat) := by exact_mod_cast n3.2
  rw [R_val, R_val, EC] at n4 n5
  have o1 := down hC (a := R x - UL) (b := R (ofBin a (m * 2 ^ (ex - min ex f).toNat) (min ex f))) (by grind)
  have o2 := down hC (a := R (ofBin a (m * 2 ^ (ex - min ex f).toNat) (min ex f))) (b := R x + UL) (by grind)
  exact ⟨by grind, by grind⟩
theorem lt0 {x : UInt64} (h : Fin x) : (lt x (zero false) = true ↔ R x < 0) ∧ (isZero x = true → R x = 0) := by
  obtain ⟨a, m, e, hd⟩ := h
  obtain ⟨⟨b, k, f, hy⟩, hz⟩ := zero_fin false
  have hC := CQ
  have hv := R_val x
  refine ⟨?_, ?_⟩
  · unfold lt
    rw [cmp_right hd hy, hz]
    rw [show (some (compare (val x) 0) == some Ordering.lt) = true ↔ val x < 0 by simp [Int.compare_eq_lt]]
    constructor
    · intro h
      have h : (val x : Rat) < ((0 : Int) : Rat) := Rat.intCast_lt_intCast.mpr h
      rw [hv] at h
      refine Classical.byContradiction fun hn => ?_
      have := Rat.mul_nonneg (show 0 ≤ R x by grind) (Rat.le_of_lt hC)
      grind
    · intro h
      have h := Rat.mul_lt_mul_of_pos_right h hC
      rw [← hv, Rat.zero_mul] at h
      exact_mod_cast h
  · intro h
    unfold isZero at h
    rw [hd] at h
    cases m
    · rw [val_eq hd] at hv
      have : (sgn a (0 * 2 ^ (e + 1074).toNat) : Int) = 0 := by rw [Nat.zero_mul]; cases a <;> rfl
      rw [this] at hv
      grind
    · cases h
theorem mod1_pos {x : UInt64} {q e : Rat} (hx : Ap x q e) (h1 : q + e < 1) (h2 : UL < q - e) : Ap (divmod x 4607182418800017408).2 q (e + UL) := by
  have hm := fmod_one hx h1 (by grind)
  have hl := lt0 hm.1
  have hr : 0 < R (fmod x 4607182418800017408) := by have := hm.2.1; grind
  have e1 : isZero (fmod x 4607182418800017408) = false := by
    cases h : isZero (fmod x 4607182418800017408)
    · rfl
    · have := hl.2 h; grind
  have e2 : lt (fmod x 4607182418800017408) (zero false) = false := by
    cases h : lt (fmod x 4607182418800017408) (zero false)
    · rfl
    · have := hl.1.mp h; grind
  have e3 : lt 4607182418800017408 (zero false) = false := by decide +kernel
  unfold divmod
  simp only [e1, e2, e3, Bool.false_eq_true, if_false, bne_self_eq_false]
  exact hm
theorem mod1_neg {x : UInt64} {q e : Rat} (hx : Ap x q e) (h1 : q + e < -UL) (h2 : -1 < q - e) (he : 0 ≤ e) (he2 : e ≤ 1/2) : Ap (divmod x 4607182418800017408).2 (q + 1) (e + 3 * UL) := by
  have hm := fmod_one hx (by grind) h2
  have hl := lt0 hm.1
  have hr : R (fmod x 4607182418800017408) < 0 := by have := hm.2.2; grind
  have e1 : isZero (fmod x 4607182418800017408) = false := by
    cases h : isZero (fmod x 4607182418800017408)
    · rfl
    · have := hl.2 h; grind
  have e2 := hl.1.mpr hr
  have e3 : lt 4607182418800017408 (zero false) = false := by decide +kernel
  unfold divmod
  simp only [e1, e2, e3, Bool.false_eq_true, if_false, show (false != true) = true from rfl, if_true]
  have e4 : (2 : Rat) ^ 1 = 2 := by decide +kernel
  have := addR hm (Ap_of (by decide +kernel) one_R) 1 (by decide) (by rw [e4]; grind) (by rw [e4]; grind)
  rw [e4] at this
  exact ⟨this.1, by have := this.2.1; grind, by have := this.2.2; grind⟩
end
section
open PySem.Float64
/-- the six orders of three parts -/
def arr6 (k : Nat) (M A B : Int) : Int × Int × Int := match k with
  | 0 => (M, A, B) | 1 => (A, M, B) | 2 => (B, M, A) | 3 => (B, A, M) | 4 => (A, B, M) | _ => (M, B, A)
theorem arr6_max {k : Nat} {M A B : Int} (h1 : B ≤ A) (h2 : A ≤ M) : max (max (arr6 k M A B).1 (arr6 k M A B).2.1) (arr6 k M A B).2.2 = M ∧ min (min (arr6 k M A B).1 (arr6 k M A B).2.1) (arr6 k M A B).2.2 = B := by
  have h3 := Int.le_trans h1 h2
  unfold arr6
  split <;> simp only [Int.max_eq_left, Int.max_eq_right, Int.min_eq_left, Int.min_eq_right, h1, h2, h3, and_self]
def ahead (k : Nat) (M A B : Int) : Int := if k % 2 = 0 then A - B else M - A
theorem Ap.mono {x : UInt64} {q q' e e' : Rat} (h : Ap x q e) (h1 : q = q') (h2 : e ≤ e') : Ap x q' e' := by
  obtain ⟨a, b, c⟩ := h
  exact ⟨a, by grind, by grind⟩
theorem p0 : (2 : Rat) ^ 0 = 1 := by decide +kernel
theorem p1 : (2 : Rat) ^ 1 = 2 := by decide +kernel
theorem p3 : (2 : Rat) ^ 3 = 8 := by decide +kernel
theorem p5 : (2 : Rat) ^ 5 = 32 := by decide +kernel
theorem p16 : (2 : Rat) ^ 16 = 65536 := by decide +kernel
theorem p20 : (2 : Rat) ^ 20 = 1048576 := by decide +kernel
theorem frac1 {x y : Int} (hx : 0 ≤ x) (hy : 0 < y) (hxy : x ≤ y) {q : Rat} (hq : q * (y : Rat) = (x : Rat)) : Ap (qF x y) q UL := by
  have h := fracR hx hy 0 (by omega) (by decide) hq
  rw [p0, Rat.one_mul] at h
  exact h
theorem below {c d : Int} {f : Rat} (hf : f * (d : Rat) = (c : Rat)) (hc : 0 < c) (hd : 0 < d) (hd2 : d ≤ 65536) : 1 / 65536 ≤ f := by
  have hc : (1 : Rat) ≤ (c : Rat) := by exact_mod_cast hc
  have hd : (0 : Rat) < (d : Rat) := by exact_mod_cast hd
  have hd2 : (d : Rat) ≤ 65536 := Rat.intCast_le_intCast.mpr hd2
  refine Classical.byContradiction fun hn => ?_
  have h1 : 0 < (1 / 65536 - f) * (d : Rat) := Rat.mul_pos (by grind) hd
  grind
/-- the hue, six times -/
theorem hue_ap (k : Nat) {M A B : Int} (hk : k < 6) (h1 : B < A) (h2 : A < M) (hd : M - B ≤ 65536) {f : Rat} (hf : f * ((M - B : Int) : Rat) = (ahead k M A B : Rat)) :
    Ap (hueF (arr6 k M A B).1 (arr6 k M A B).2.1 (arr6 k M A B).2.2) (((k : Rat) + f) * (1 / 6)) (24 * UL) := by
  have hD : 0 < M - B := by omega
  have hD0 : (0 : Rat) < ((M - B : Int) : Rat) := by exact_mod_cast hD
  have g0 : (1 : Rat) * ((M - B : Int) : Rat) = ((M - B : Int) : Rat) := Rat.one_mul _
  have hg : (1 - f) * ((M - B : Int) : Rat) = (((M - B) - ahead k M A B : Int) : Rat) := by push_cast at hf g0 ⊢; grind
  have hah : 0 < ahead k M A B ∧ ahead k M A B < M - B := by unfold ahead; split <;> omega
  have b1 := below hf hah.1 hD hd
  have b2 := below hg (by omega) hD hd
  have a1 := frac1 (x := M - B) (y := M - B) (by omega) hD (by omega) g0
  have ef := frac1 (x := ahead k M A B) (y := M - B) (by omega) hD (by omega) hf
  have eg := frac1 (x := (M - B) - ahead k M A B) (y := M - B) (by omega) hD (by omega) hg
  have t2 := Ap_of (x := 4611686018427387904) (by decide +kernel) two_R
  have t4 := Ap_of (x := 4616189618054758400) (by decide +kernel) four_R
  have t6 : Fin 4618441417868443648 := .of (by decide +kernel)
  have fin : ∀ {x : UInt64} {q : Rat}, Ap x q (20 * UL) → q = (k : Rat) + f → 0 ≤ q → q ≤ 6 → 1 / 65536 ≤ q → q ≤ 6 - 1 / 65536 → Ap (divmod (div x 4618441417868443648) 4607182418800017408).2 (((k : Rat) + f) * (1 / 6)) (24 * UL) := by
    intro x q hx hq q0 q1 q2 q3
    have h := divR hx t6 six_R (by decide +kernel) 0 (by decide) (by rw [p0]; grind) (by rw [p0]; grind) (q' := q * (1 / 6)) (by grind) (e' := 20 * UL * (1 / 6)) (by grind)
    rw [p0] at h
    exact (mod1_pos h (by grind) (by grind)).mono (by grind) (by grind)
  unfold hueF hueH
  have ⟨hm1, hm2⟩ := arr6_max (k := k) (Int.le_of_lt h1) (Int.le_of_lt h2)
  have hAM : ¬ A = M := Int.ne_of_lt h2
  have hBM : ¬ B = M := Int.ne_of_lt (Int.lt_trans h1 h2)
  rw [hm1, hm2]
  have eMA : M - B - (A - B) = M - A := by omega
  clear h1 h2 hd
  rcases lt6 hk with rfl | rfl | rfl | rfl | rfl | rfl
  all_goals
    clear hm1 hm2
    simp only [ahead, arr6, show 0 % 2 = 0 from rfl, show 1 % 2 = 1 from rfl, show 2 % 2 = 0 from rfl, show 3 % 2 = 1 from rfl, show 4 % 2 = 0 from rfl, show 5 % 2 = 1 from rfl, Nat.one_ne_zero, if_true, if_false] at *
    try simp only [hAM, hBM, if_true, if_false]
    try rw [eMA] at eg
  · refine fin (q := 1 - (1 - f)) ?_ (by grind) (by grind) (by grind) (by grind) (by grind)
    have h := subR a1 eg 0 (by decide) (by rw [p0]; grind) (by rw [p0]; grind)
    rw [p0] at h
    exact h.mono rfl (by grind)
  · refine fin (q := 2 + f - 1) ?_ (by grind) (by grind) (by grind) (by grind) (by grind)
    have h := subR (addR t2 ef 3 (by decide) (by rw [p3]; grind) (by rw [p3]; grind)) a1 3 (by decide) (by rw [p3]; grind) (by rw [p3]; grind)
    rw [p3] at h
    exact h.mono rfl (by grind)
  · refine fin (q := 2 + 1 - (1 - f)) ?_ (by grind) (by grind) (by grind) (by grind) (by grind)
    have h := subR (addR t2 a1 3 (by decide) (by rw [p3]; grind) (by rw [p3]; grind)) eg 3 (by decide) (by rw [p3]; grind) (by rw [p3]; grind)
    rw [p3] at h
    exact h.mono rfl (by grind)
  · refine fin (q := 4 + f - 1) ?_ (by grind) (by grind) (by grind) (by grind) (by grind)
    have h := subR (addR t4 ef 3 (by decide) (by rw [p3]; grind) (by rw [p3]; grind)) a1 3 (by decide) (by rw [p3]; grind) (by rw [p3]; grind)
    rw [p3] at h
    exact h.mono rfl (by grind)
  · refine fin (q := 4 + 1 - (1 - f)) ?_ (by grind) (by grind) (by grind) (by grind) (by grind)
    have h := subR (addR t4 a1 3 (by decide) (by rw [p3]; grind) (by rw [p3]; grind)) eg 3 (by decide) (by rw [p3]; grind) (by rw [p3]; grind)
    rw [p3] at h
    exact h.mono rfl (by grind)
  · have h := subR ef a1 0 (by decide) (by rw [p0]; grind) (by rw [p0]; grind)
    have h := divR h t6 six_R (by decide +kernel) 0 (by decide) (by rw [p0]; grind) (by rw [p0]; grind) (q' := (f - 1) * (1 / 6)) (by grind) (e' := (UL + UL + 2 ^ 0 * UL) * (1 / 6)) (by grind)
    rw [p0] at h
    exact (mod1_neg h (by grind) (by grind) (by grind) (by grind)).mono (by grind) (by grind)
end
section
open PySem.Float64
theorem whole_int {x : UInt64} {q e : Rat} {z : Int} (hx : Ap x q e) (h : q = (z : Rat)) (h1 : e ≤ 1 / 4) (he : 0 ≤ e) (hz : 0 ≤ z) (hz2 : z ≤ 1000000) :
    Float64.isFinite (Float64.add x (qF 1 2)) = true ∧ wholeF x = z := by
  obtain ⟨k, rfl⟩ := Int.eq_ofNat_of_zero_le hz
  have h : q = ((k : Nat) : Rat) := h
  exact whole_at k hx (by grind) (by grind) (by omega) he
theorem dbound {d : Int} (h1 : 0 < d) (h2 : d ≤ 65536) : (1 : Rat) ≤ (d : Rat) ∧ (d : Rat) ≤ 65536 := ⟨by exact_mod_cast h1, Rat.intCast_le_intCast.mpr h2⟩
theorem frac_ex (c : Int) {d : Int} (h : 0 < d) : ∃ f : Rat, f * (d : Rat) = (c : Rat) := by
  have : (0 : Rat) < (d : Rat) := by exact_mod_cast h
  exact ⟨(c : Rat) / (d : Rat), by grind⟩
theorem told_hue (k : Nat) {M A B : Int} (hk : k < 6) (h1 : B < A) (h2 : A < M) (h0 : 0 ≤ B) (hd : M ≤ 65536) :
    Float64.isFinite (Float64.add (Float64.mul (Float64.mul (hueF (arr6 k M A B).1 (arr6 k M A B).2.1 (arr6 k M A B).2.2) 4618441417868443648) (Float64.ofInt (M - B))) (qF 1 2)) = true
    ∧ wholeF (Float64.mul (Float64.mul (hueF (arr6 k M A B).1 (arr6 k M A B).2.1 (arr6 k M A B).2.2) 4618441417868443648) (Float64.ofInt (M - B))) = k * (M - B) + ahead k M A B := by
  obtain ⟨f, hf⟩ := frac_ex (ahead k M A B) (show 0 < M - B by omega)
  have h := hue_ap k hk h1 h2 (by omega) hf
  have hD := dbound (d := M - B) (by omega) (by omega)
  have hah : 0 < ahead k M A B ∧ ahead k M A B < M - B := by unfold ahead; split <;> omega
  have b1 := below hf hah.1 (by omega) (by omega)
  have hg : (1 - f) * ((M - B : Int) : Rat) = (((M - B) - ahead k M A B : Int) : Rat) := by push_cast at hf ⊢; grind
  have b2 := below hg (by omega) (by omega) (by omega)
  have hk0 : (0 : Rat) ≤ (k : Rat) := by exact_mod_cast Nat.zero_le k
  have hk1 : (k : Rat) ≤ 5 := by exact_mod_cast (show k ≤ 5 by omega)
  have m1 := mulR h (Ap_of (by decide +kernel) six_R) (M := 6) (M' := 1) (by grind) (by grind) (by grind) (by grind) 3 (by decide) (by rw [p3]; grind) (by rw [p3]; grind)
  have o := ofIntR (x := M - B) (by omega) 16 (by omega) (by decide)
  rw [p16] at o
  have m1 := m1.mono (q' := (k : Rat) + f) (by grind) (e' := 160 * UL) (by rw [p3]; grind)
  have kf0 : 0 ≤ ((k : Rat) + f) * ((M - B : Int) : Rat) := Rat.mul_nonneg (by grind) (by grind)
  have kf1 : 0 ≤ (6 - ((k : Rat) + f)) * ((M - B : Int) : Rat) := Rat.mul_nonneg (by grind) (by grind)
  have m2 := mulR m1 o (M := 131072) (M' := 6) (by grind) (by grind) (by grind) (by grind) 20 (by decide) (by rw [p20]; grind) (by rw [p20]; grind)
  rw [p20] at m2
  have hkd : 0 ≤ (k : Int) * (M - B) ∧ (k : Int) * (M - B) ≤ 5 * 65536 := by
    have hk5 : (k : Int) ≤ 5 := by omega
    constructor
    · exact Int.mul_nonneg (by omega) (by omega)
    · exact Int.mul_le_mul hk5 (by omega) (by omega) (by omega)
  refine whole_int m2 ?_ (by grind) (by grind) (by omega) (by omega)
  push_cast at hf ⊢
  grind
theorem told_share {r g b M B : Int} (hM : max (max r g) b = M) (hB : min (min r g) b = B) (h1 : B < M) (h0 : 0 ≤ B) (hd : M ≤ 65536) :
    Float64.isFinite (Float64.add (Float64.mul (shareF r g b) (Float64.ofInt M)) (qF 1 2)) = true ∧ wholeF (Float64.mul (shareF r g b) (Float64.ofInt M)) = M - B := by
  unfold shareF
  rw [hM, hB]
  obtain ⟨f, hf⟩ := frac_ex (M - B) (show 0 < M by omega)
  have h := frac1 (x := M - B) (y := M) (by omega) (by omega) (by omega) hf
  have hD := dbound (d := M) (by omega) (by omega)
  have b1 := below hf (by omega) (by omega) hd
  have hg : (1 - f) * ((M : Int) : Rat) = (B : Rat) := by push_cast at hf ⊢; grind
  have hB0 : (0 : Rat) ≤ (B : Rat) := by exact_mod_cast h0
  have b2 : f ≤ 1 := by
    refine Classical.byContradiction fun hn => ?_
    have : 0 < (f - 1) * (M : Rat) := Rat.mul_pos (by grind) (by grind)
    grind
  have o := ofIntR (x := M) (by omega) 16 (by omega) (by decide)
  rw [p16] at o
  have kf0 : 0 ≤ f * (M : Rat) := Rat.mul_nonneg (by grind) (by grind)
  have kf1 : 0 ≤ (1 - f) * (M : Rat) := Rat.mul_nonneg (by grind) (by grind)
  have m2 := mulR h o (M := 131072) (M' := 1) (by grind) (by grind) (by grind) (by grind) 20 (by decide) (by rw [p20]; grind) (by rw [p20]; grind)
  rw [p20] at m2
  exact whole_int m2 hf (by grind) (by grind) (by omega) (by omega)
end
section
open PySem.Float64
theorem unit_mul {a b c : Rat} (h1 : 0 ≤ a) (h2 : a ≤ 1) (h3 : 0 ≤ b) (h4 : b ≤ c) : 0 ≤ a * b ∧ a * b ≤ c := by
  have i1 := Rat.mul_nonneg h1 h3
  have i2 : 0 ≤ (1 - a) * b := Rat.mul_nonneg (by grind) h3
  exact ⟨i1, by grind⟩
theorem p17 : (2 : Rat) ^ 17 = 131072 := by decide +kernel
theorem cmp0_ap {x : UInt64} {q e : Rat} (h : Ap x q e) (h1 : 0 < q - e) : (Float64.cmp x 0 == some .eq) = false := by
  obtain ⟨⟨a, m, ex, hd⟩, l, u⟩ := h
  obtain ⟨⟨b, k, f, hy⟩, hz⟩ := zero_fin false
  have hv := R_val x
  have h2 := Rat.mul_pos (show 0 < R x by grind) CQ
  rw [← hv] at h2
  have h2 : 0 < val x := by exact_mod_cast h2
  have e0 : zero false = 0 := by decide +kernel
  rw [e0] at hy hz
  rw [cmp_right hd hy, hz, Int.compare_eq_gt.mpr h2]
  rfl
theorem scaled {x : UInt64} {s e : Rat} {v z : Int} (hx : Ap x s e) (hs0 : 0 ≤ s) (hs1 : s ≤ 1) (he : 0 ≤ e) (he2 : e ≤ 1000 * UL) (hv : 0 < v) (hv2 : v ≤ 65536) (hq : s * (v : Rat) = (z : Rat)) (hz : 0 ≤ z) (hz2 : z ≤ 65536) :
    Float64.isFinite (Float64.add (Float64.mul (Float64.ofInt v) x) (qF 1 2)) = true ∧ wholeF (Float64.mul (Float64.ofInt v) x) = z := by
  have hD := dbound hv hv2
  have o := ofIntR (x := v) (by omega) 16 (by omega) (by decide)
  rw [p16] at o
  obtain ⟨i1, i2⟩ := unit_mul hs0 hs1 (b := (v : Rat)) (c := 65536) (by grind) (by grind)
  have m := mulR o hx (M := 2) (M' := 65536) (by grind) (by grind) (by grind) (by grind) 17 (by decide) (by rw [p17]; grind) (by rw [p17]; grind)
  rw [p17] at m
  exact whole_int m (by grind) (by grind) (by grind) hz (by omega)
structure Paints (h S : UInt64) (v : Int) (i t : Nat) (z b : Int) : Prop where
  s0 : (Float64.cmp S 0 == some .eq) = false
  fin : Float64.isFinite (Float64.mul h 4618441417868443648) = true
  whole : hsvI h = ((i + 6 * t : Nat) : Int)
  vf : Float64.isFinite (Float64.add (Float64.ofInt v) (qF 1 2)) = true ∧ wholeF (Float64.ofInt v) = v
  pf : Float64.isFinite (Float64.add (hsvP S v) (qF 1 2)) = true ∧ wholeF (hsvP S v) = b
  tf : i % 2 = 0 → Float64.isFinite (Float64.add (hsvT h S v) (qF 1 2)) = true ∧ wholeF (hsvT h S v) = z
  qf : i % 2 = 1 → Float64.isFinite (Float64.add (hsvQ h S v) (qF 1 2)) = true ∧ wholeF (hsvQ h S v) = z
theorem paints {r g b : Int} {i t : Nat} (hi : i < 6) (ht : t < 4) (h0 : 0 ≤ b) (h1 : b < g) (h2 : g < r) (h3 : r ≤ 65536) :
    Paints (Float64.add (Float64.add (hueF r g b) (qF i 6)) (Float64.ofInt t)) (shareF r g b) r i t (if i % 2 = 0 then g else r + b - g) b := by
  have hD := dbound (d := r - b) (by omega) (by omega)
  have hR := dbound (d := r) (by omega) h3
  obtain ⟨f, hf⟩ := frac_ex (g - b) (show 0 < r - b by omega)
  obtain ⟨s, hs⟩ := frac_ex (r - b) (show 0 < r by omega)
  have hg : (1 - f) * ((r - b : Int) : Rat) = ((r - g : Int) : Rat) := by push_cast at hf ⊢; grind
  have hs' : (1 - s) * (r : Rat) = (b : Rat) := by push_cast at hs ⊢; grind
  have b1 := below hf (by omega) (by omega) (by omega)
  have b2 := below hg (by omega) (by omega) (by omega)
  have b3 := below hs (by omega) (by omega) (by omega)
  have hb0 : (0 : Rat) ≤ (b : Rat) := by exact_mod_cast h0
  have b4 : s ≤ 1 := by
    refine Classical.byContradiction fun hn => ?_
    have : 0 < (s - 1) * (r : Rat) := Rat.mul_pos (by grind) (by grind)
    grind
  have hi0 : (0 : Rat) ≤ (i : Rat) := by exact_mod_cast Nat.zero_le i
  have hi1 : (i : Rat) ≤ 5 := by exact_mod_cast (show i ≤ 5 by omega)
  have ht0 : (0 : Rat) ≤ (t : Rat) := by exact_mod_cast Nat.zero_le t
  have ht1 : (t : Rat) ≤ 3 := by exact_mod_cast (show t ≤ 3 by omega)
  have a1 := hue_ap 0 (M := r) (A := g) (B := b) (by decide) h1 h2 (by omega) hf
  have a2 := frac1 (x := (i : Int)) (y := 6) (by omega) (by decide) (by omega) (q := (i : Rat) * (1 / 6)) (by rw [show (((6 : Int) : Rat)) = 6 from rfl, show (((i : Int) : Rat)) = (i : Rat) from rfl]; grind)
  have a3 := ofIntR (x := (t : Int)) (by omega) 3 (by omega) (by decide)
  rw [p3, show (((t : Int) : Rat)) = (t : Rat) from rfl] at a3
  have a4 := addR (addR a1 a2 1 (by decide) (by rw [p1]; grind) (by rw [p1]; grind)) a3 3 (by decide) (by rw [p1, p3]; grind) (by rw [p1, p3]; grind)
  rw [p1, p3] at a4
  have a5 := (mulR a4 (Ap_of (by decide +kernel) six_R) (M := 6) (M' := 8) (by grind) (by grind) (by grind) (by grind) 5 (by decide) (by rw [p5]; grind) (by rw [p5]; grind)).mono (q' := f + i + 6 * t) (by grind) (e' := 400 * UL) (by rw [p5]; grind)
  change Ap (mul (add (add (hueF r g b) (qF i 6)) (ofInt t)) 4618441417868443648) _ _ at a5
  have hw : hsvI (add (add (hueF r g b) (qF i 6)) (ofInt t)) = ((i + 6 * t : Nat) : Int) := by
    unfold hsvI
    refine trunc_at (i + 6 * t) a5 ?_ ?_ ?_
    all_goals push_cast
    all_goals grind
  have a6 := ofIntR (x := ((i + 6 * t : Nat) : Int)) (by omega) 5 (by omega) (by decide)
  rw [p5] at a6
  have a6 := a6.mono (q' := (i : Rat) + 6 * t) (by show (((i + 6 * t : Nat)) : Rat) = _; push_cast; rfl) (Rat.le_refl)
  have a7 := (subR a5 a6 0 (by decide) (by rw [p0]; grind) (by rw [p0]; grind)).mono (q' := f) (by grind) (e' := 440 * UL) (by rw [p0]; grind)
  rw [← hw] at a7
  change Ap (hsvFr (add (add (hueF r g b) (qF i 6)) (ofInt t))) _ _ at a7
  have s1 : Ap (shareF r g b) s UL := by
    unfold shareF
    rw [Int.max_eq_left (Int.le_of_lt (show g < r by assumption)), Int.max_eq_left (Int.le_of_lt (Int.lt_trans (show b < g by assumption) (show g < r by assumption))), Int.min_eq_right (Int.le_of_lt (show g < r by assumption)), Int.min_eq_right (Int.le_of_lt (show b < g by assumption))]
    exact frac1 (by omega) (by omega) (by omega) hs
  have one := Ap_of (x := 4607182418800017408) (by decide +kernel) one_R
  have s2 := (subR one s1 0 (by decide) (by rw [p0]; grind) (by rw [p0]; grind)).mono rfl (e' := 2 * UL) (by rw [p0]; grind)
  have b5 : 0 ≤ 1 - s := by grind
  generalize hx : add (add (hueF r g b) (qF i 6)) (ofInt t) = x at *
  generalize shareF r g b = S at *
  refine ⟨cmp0_ap s1 (by grind), a5.1.isFinite, hw, ?_, scaled s2 b5 (by grind) (by grind) (by grind) (by omega) h3 hs' h0 (by omega), ?_, ?_⟩
  · have o := ofIntR (x := r) (by omega) 16 (by omega) (by decide)
    rw [p16] at o
    exact whole_int o rfl (by grind) (by grind) (by omega) (by omega)
  · intro hp
    rw [if_pos hp]
    have q1 := (subR one a7 0 (by decide) (by rw [p0]; grind) (by rw [p0]; grind)).mono rfl (e' := 441 * UL) (by rw [p0]; grind)
    obtain ⟨i1, i2⟩ := unit_mul (a := s) (b := 1 - f) (c := 1) (by grind) b4 (by grind) (by grind)
    have q2 := (mulR s1 q1 (M := 2) (M' := 1) (by grind) (by grind) (by grind) (by grind) 1 (by decide) (by rw [p1]; grind) (by rw [p1]; grind)).mono rfl (e' := 445 * UL) (by rw [p1]; grind)
    have q3 := (subR one q2 1 (by decide) (by rw [p1]; grind) (by rw [p1]; grind)).mono rfl (e' := 447 * UL) (by rw [p1]; grind)
    refine scaled q3 (by grind) (by grind) (by grind) (by grind) (by omega) h3 ?_ (by omega) (by omega)
    push_cast at hf hs hs' ⊢
    grind
  · intro hp
    rw [if_neg (by omega)]
    obtain ⟨i1, i2⟩ := unit_mul (a := s) (b := f) (c := 1) (by grind) b4 (by grind) (by grind)
    have q2 := (mulR s1 a7 (M := 2) (M' := 1) (by grind) (by grind) (by grind) (by grind) 1 (by decide) (by rw [p1]; grind) (by rw [p1]; grind)).mono rfl (e' := 445 * UL) (by rw [p1]; grind)
    have q3 := (subR one q2 1 (by decide) (by rw [p1]; grind) (by rw [p1]; grind)).mono rfl (e' := 447 * UL) (by rw [p1]; grind)
    refine scaled q3 (by grind) (by grind) (by grind) (by grind) (by omega) h3 ?_ (by omega) (by omega)
    push_cast at hf hs hs' ⊢
    grind
end
section
variable {prog : Program} {w : World} {p : Program} {loose : List Str} {mean : ExcName → Option Value} {mg mb : Str → Option Value}
  {dp un : Nat} {gd : Option (List Code)} {cn : Str} {cs : Scope} {a : Addr} {ccd : Value} {cl : List (Str × Addr)} {outer : List Env} {A₀ : Around} {base h₀ : Heap} {L : Addr} {m : Str → Option Value} {news : List (Addr × Obj)} {s : Shared} {Q E : Value → Shared → Prop}
/-- the numbers below n that pass a test, as values -/
def rowI (n : Nat) (p : Nat → Bool) : List Int := ((List.range n).filter p).map fun (k : Nat) => (k : Int)
theorem rowI_succ (n : Nat) (p : Nat → Bool) : rowI (n + 1) p = rowI n p ++ (if p n then [(n : Int)] else []) := by
  unfold rowI
  rw [List.range_succ, List.filter_append, List.map_append]
  cases h : p n <;> simp [h]
section
variable {A : Around} {h₀ : Heap} {env : Env} {s : Shared}
theorem filtT {ct elt : PySem.Expr} {x : Str} {scope : Scope} {cl : List (Str × Addr)} {Fin : List Value → List (Addr × Obj) → Prop} {n : Nat} {news : List (Addr × Obj)} (p : Nat → Bool)
    (fin : ∀ ys, IntsAre ys (rowI n p) → Fin ys news)
    (turn : ∀ (i : Nat) (R1 : Value → List (Addr × Obj) → Prop) (R2 : List (Addr × Obj) → Prop) ys t I oI C oC D m₂ h tk (E' : Value → Shared → Prop), i < n → LCg.NsObj oC m₂ → m₂ x = some (.int i t) → Fr h₀ L h m → News h₀ L h ((I, oI) :: (C, oC) :: (D, LCg.lst ys) :: news) → LCg.Off3 I C D news → ((@Ne Nat I C) ∧ (@Ne Nat I D) ∧ (@Ne Nat C D)) →
      (p i = true → ∀ t, R1 (.int i t) news) → (p i = false → R2 news) →
      wpAny (model prog w) A (isTrue ct (compEnvC scope cl C env) (eval ct (compEnvC scope cl C env))) (fun ok s' => if ok = true then
        wpAny (model prog w) A (eval elt (compEnvC scope cl C env)) (LCg.CompEnd h₀ L m { s with heap := h, toks := tk } I oI C oC D (LCg.lst ys) (fun _ => True) R1) E' s'
        else LCg.CompEnd h₀ L m { s with heap := h, toks := tk } I oI C oC D (LCg.lst ys) (fun _ => True) (fun _ news' => R2 news') Value.none s') E' { s with heap := h, toks := tk }) :
    LCt.CompRestT prog w A h₀ L m env ct elt x scope cl s (fun _ => True) (fun i v => ∃ t, v = .int (0 + (i : Int)) t) Fin n 0 [] news := by
  have go : ∀ k i ys, i + k = n → IntsAre ys (rowI i p) → LCt.CompRestT prog w A h₀ L m env ct elt x scope cl s (fun _ => True) (fun i v => ∃ t, v = .int (0 + (i : Int)) t) Fin k i ys news := by
    intro k
    induction k with
    | zero =>
      intro i ys hi hI
      refine LCt.CompRestT.zero (fin ys ?_)
      rw [← hi]
      exact hI
    | succ k ih =>
      intro i ys hi hI
      refine LCt.CompRestT.succ ?_
      rintro v I oI C oC D m₂ h tk E' ⟨t, rfl⟩ hC hx F N off ne
      rw [Int.zero_add] at hx
      refine turn i _ (fun news' => LCt.CompRestT prog w A h₀ L m env ct elt x scope cl s (fun _ => True) (fun i v => ∃ t, v = .int (0 + (i : Int)) t) Fin k (i + 1) ys news') ys t I oI C oC D m₂ h tk E' (by omega) hC hx F N off ne ?_ ?_
      · intro hp t
        refine ih (i + 1) _ (by omega) ?_
        rw [rowI_succ, hp]
        exact hI.append (.cons i t .nil)
      · intro hp
        refine ih (i + 1) _ (by omega) ?_
        rw [rowI_succ, hp]
        simpa using hI
  exact go n 0 [] (by omega) (by rw [show rowI 0 p = [] by simp [rowI]]; exact .nil)
end
theorem rangeN {n : Nat} (h : n ≤ 1000) : Builtin.Range.small 0 n 1 = true ∧ Builtin.Range.rangeSize 0 n 1 = ((n : Nat) : Int) := by
  have hsz : Builtin.Range.rangeSize 0 n 1 = ((n : Nat) : Int) := by
    unfold Builtin.Range.rangeSize
    (repeat' split) <;> first | omega | (simp; omega) | (simp_all; done)
  refine ⟨?_, hsz⟩
  unfold Builtin.Range.small
  rw [hsz]
  simp [Builtin.Range.rangeFitsLong]
  omega
section
variable {A : Around} {E : Value → Shared → Prop} {s : Shared} {env : Env} {h₀ : Heap} {x : Str} {target : PySem.Expr} {body : List Stmt} {Q : Flow → Shared → Prop}
theorem unrPostW_mono {L : Addr} {s₁ : Shared} {its : List (Addr × Obj)} {R R' : (Str → Option Value) → List (Addr × Obj) → Prop} (h : ∀ m n, (∀ p ∈ n, ∀ q ∈ its, p.1 ≠ q.1) → R m n → R' m n) :
    ∀ f s₂, UnrPostW h₀ L s₁ its R Q f s₂ → UnrPostW h₀ L s₁ its R' Q f s₂ := by
  intro f s₂ hp
  have fin : UnrEndW h₀ L s₁ its R s₂ → UnrEndW h₀ L s₁ its R' s₂ := by
    rintro ⟨h', tk, m', n', e, F, N, o, r⟩
    exact ⟨h', tk, m', n', e, F, N, o, h _ _ o r⟩
  cases f with
  | ret v => exact hp
  | brk => exact hp
  | next => exact fin hp
  | cont => exact fin hp
theorem unrPost_off {L I : Addr} {s₁ : Shared} {it : Obj} {R R' : (Str → Option Value) → List (Addr × Obj) → Prop} (h : ∀ m n, (∀ p ∈ n, p.1 ≠ I) → R m n → R' m n) :
    ∀ f s₂, UnrPost h₀ L s₁ I it R Q f s₂ → UnrPost h₀ L s₁ I it R' Q f s₂ := by
  intro f s₂ hp
  have fin : UnrEnd h₀ L s₁ I it R s₂ → UnrEnd h₀ L s₁ I it R' s₂ := by
    rintro ⟨h', tk, m', n', e, F, N, o, r⟩
    exact ⟨h', tk, m', n', e, F, N, o, h _ _ o r⟩
  cases f with
  | ret v => exact hp
  | brk => exact hp
  | next => exact fin hp
  | cont => exact fin hp
/-- a loop over a list; its turn knows that the iterator is none of the ledger -/
theorem forL2 {σ : Type} {ax : Addr} {vs : List Value} {n : Nat} {m₀ : Str → Option Value} {news : List (Addr × Obj)} (ps : σ → List (Str × Value)) (stored : List Str) (J : List Value → σ → List (Addr × Obj) → Prop) (c₀ : σ)
    (hh : A.handled = none) (F : Fr h₀ env.locals s.heap m₀) (N : News h₀ env.locals s.heap news) (hm : (ax, W.listOf vs.toArray n) ∈ news) (hk : ∀ p ∈ ps c₀, m₀ p.1 = some p.2) (hj : J vs c₀ news)
    (turn : ∀ I v r c (u : Str → Option Value) it nx h tk, (∀ p ∈ nx, p.1 ≠ I) → AllLt I news → J (v :: r) c nx → (ax, W.listOf vs.toArray n) ∈ nx →
      Fr h₀ env.locals h (fun y => if y = x then some v else kstB (fun z => if stored.contains z then u z else m₀ z) (ps c) y) → News h₀ env.locals h ((I, it) :: nx) →
      wpAny (model prog w) A (execs body env) (UnrPost h₀ env.locals { s with heap := h, toks := tk } I it (fun m' n' => (ax, W.listOf vs.toArray n) ∈ n' ∧ ∃ c', J r c' n' ∧ StAt ps x stored m₀ c' m') Q) E { s with heap := h, toks := tk })
    (done : ∀ c (u : Str → Option Value) nx h tk, J [] c nx → (ax, W.listOf vs.toArray n) ∈ nx → Fr h₀ env.locals h (fun y => if y = x then u y else kstB (fun z => if stored.contains z then u z else m₀ z) (ps c) y) → News h₀ env.locals h nx → Q .next { s with heap := h, toks := tk }) :
    wpAny (model prog w) A (pyIter (.ref ax)) (fun it s₂ => LoopAtV prog w A h₀ env x body Q E it s₂) E s := by
  refine iter_listUnr (lo := W.listOf vs.toArray n) (vs := vs) (n := n) hh F N hm rfl rfl fun I hI => ?_
  have go : ∀ r m nx, (∀ p ∈ nx, p.1 ≠ I) → ((ax, W.listOf vs.toArray n) ∈ nx ∧ ∃ c, J r c nx ∧ StAt ps x stored m₀ c m) →
      ListRest prog w A E h₀ env x body Q s I (ax, W.listOf vs.toArray n) r m nx := by
    intro r
    induction r with
    | nil =>
      rintro m nx hoI ⟨hm', c, hJ, h1, h2⟩
      exact ListRest.zero fun h tk F₁ N₁ => done c m nx h tk hJ hm' (kst_frOut h1 h2 F₁) N₁
    | cons v r ih =>
      rintro m nx hoI ⟨hm', c, hJ, h1, h2⟩
      refine ListRest.succ fun it h tk hc F₁ N₁ => ?_
      exact wpAny_mono (turn I v r c m it nx h tk hoI (allLt_of hI) hJ hm' (kst_fr h1 h2 F₁) N₁) (unrPost_off fun m' n' ho hr => ⟨hr.1, ih m' n' ho hr⟩) fun _ _ e => e
  exact go vs m₀ news (fun p hp => Nat.ne_of_lt (hI p hp)) ⟨hm, c₀, hj, hk, fun _ _ _ _ => rfl⟩
/-- a turn's end: three things made, one list longer -/
theorem unrEnd3 {L I T0 : Addr} {it o : Obj} {rest : (Str → Option Value) → List (Addr × Obj) → Prop} {s₁ : Shared} {h' : Heap} {tk : Nat} {m' : Str → Option Value} {a b c : Addr × Obj} {ex : List (Addr × Obj)} (F : Fr h₀ L h' m') (N : News h₀ L h' (a :: b :: c :: (I, it) :: (T0, o) :: ex))
    (hT : T0 ≠ I) (hex : ∀ p ∈ ex, p.1 ≠ I) (ha : a.1 ≠ I) (hb : b.1 ≠ I) (hc : c.1 ≠ I) (r : rest m' ((T0, o) :: a :: b :: c :: ex)) : UnrEnd h₀ L s₁ I it rest { s₁ with heap := h', toks := tk } := by
  refine UnrEnd.intro F N ((T0, o) :: a :: b :: c :: ex) (fun p hp => ?_) (fun p hp => ?_) r
  · simp only [List.mem_cons] at hp ⊢
    rcases hp with h | h | h | h | h | h <;> simp [h]
  · simp only [List.mem_cons] at hp
    rcases hp with rfl | rfl | rfl | rfl | h
    · exact hT
    · exact ha
    · exact hb
    · exact hc
    · exact hex p h
/-- a loop over a list with a tuple for target; x is one of its names -/
theorem forT {σ : Type} {ax : Addr} {vs : List Value} {n : Nat} {m₀ : Str → Option Value} {news : List (Addr × Obj)} (ps : σ → List (Str × Value)) (stored : List Str) (J : List Value → σ → List (Addr × Obj) → Prop) (c₀ : σ)
    (hh : A.handled = none) (F : Fr h₀ env.locals s.heap m₀) (N : News h₀ env.locals s.heap news) (hm : (ax, W.listOf vs.toArray n) ∈ news) (hk : ∀ p ∈ ps c₀, m₀ p.1 = some p.2) (hj : J vs c₀ news)
    (turn : ∀ I v r c (u : Str → Option Value) it nx h tk, (∀ p ∈ nx, p.1 ≠ I) → AllLt I news → J (v :: r) c nx → (ax, W.listOf vs.toArray n) ∈ nx →
      Fr h₀ env.locals h (fun y => if y = x then u y else kstB (fun z => if stored.contains z then u z else m₀ z) (ps c) y) → News h₀ env.locals h ((I, it) :: nx) →
      wpAny (model prog w) A (assign target env v) (fun _ s₂ => wpAny (model prog w) A (execs body env) (UnrPostW h₀ env.locals { s with heap := h, toks := tk } [(I, it)] (fun m' n' => (ax, W.listOf vs.toArray n) ∈ n' ∧ ∃ c', J r c' n' ∧ StAt ps x stored m₀ c' m') Q) E s₂) E { s with heap := h, toks := tk })
    (done : ∀ c (u : Str → Option Value) nx h tk, J [] c nx → (ax, W.listOf vs.toArray n) ∈ nx → Fr h₀ env.locals h (fun y => if y = x then u y else kstB (fun z => if stored.contains z then u z else m₀ z) (ps c) y) → News h₀ env.locals h nx → Q .next { s with heap := h, toks := tk }) :
    wpAny (model prog w) A (pyIter (.ref ax)) (fun it s₂ => TurnsAt prog w A h₀ env target body Q E it s₂) E s := by
  refine iter_listTurns (lo := W.listOf vs.toArray n) (vs := vs) (n := n) hh F N hm rfl rfl fun I hI => ?_
  have go : ∀ r m nx, (∀ p ∈ nx, p.1 ≠ I) → ((ax, W.listOf vs.toArray n) ∈ nx ∧ ∃ c, J r c nx ∧ StAt ps x stored m₀ c m) →
      ItemsRest prog w A E h₀ env target body Q s [(I, "list_iterator")] [(ax, W.listOf vs.toArray n)] (r.map .val) m nx := by
    intro r
    induction r with
    | nil =>
      rintro m nx hoI ⟨hm', c, hJ, h1, h2⟩
      exact ItemsRest.zero fun h tk F₁ N₁ => done c m nx h tk hJ hm' (kst_frOut h1 h2 F₁) N₁
    | cons v r ih =>
      rintro m nx hoI ⟨hm', c, hJ, h1, h2⟩
      refine ItemsRest.val fun h tk F₁ => AllObj.cons fun it _ => AllObj.nil fun N₁ => ?_
      refine wpAny_mono (turn I v r c m it nx h tk hoI (allLt_of hI) hJ hm' (kst_frOut h1 h2 F₁) N₁) (fun _ s₂ h₂ => ?_) fun _ _ e => e
      exact wpAny_mono h₂ (unrPostW_mono fun m' n' ho hr => ⟨⟨hr.1, trivial⟩, ih m' n' (fun p hp => ho p hp _ (.head _)) hr⟩) fun _ _ e => e
  exact go vs m₀ news (fun p hp => Nat.ne_of_lt (hI p hp)) ⟨hm, c₀, hj, hk, fun _ _ _ _ => rfl⟩
/-- a loop over range(n) -/
theorem forRg {σ : Type} {r : Addr} {n : Nat} {t₀ u₀ v₀ : Tok} {m₀ : Str → Option Value} {news : List (Addr × Obj)} (ps : σ → List (Str × Value)) (stored : List Str) (J : Nat → σ → List (Addr × Obj) → Prop) (c₀ : σ)
    (hh : A.handled = none) (hr : IsRange s.heap r 0 (n : Int) 1 t₀ u₀ v₀) (hn : n ≤ 1000) (F : Fr h₀ env.locals s.heap m₀) (N : News h₀ env.locals s.heap news) (hk : ∀ p ∈ ps c₀, m₀ p.1 = some p.2) (hj : J 0 c₀ news)
    (turn : ∀ I i c (u : Str → Option Value) t it nx h tk, i < n → it.cls = .type "range_iterator" → (∀ p ∈ nx, p.1 ≠ I) → AllLt I news → J i c nx →
      Fr h₀ env.locals h (fun y => if y = x then some (.int (i : Int) t) else kstB (fun z => if stored.contains z then u z else m₀ z) (ps c) y) → News h₀ env.locals h ((I, it) :: nx) →
      wpAny (model prog w) A (execs body env) (UnrPost h₀ env.locals { s with heap := h, toks := tk } I it (fun m' n' => ∃ c', J (i + 1) c' n' ∧ StAt ps x stored m₀ c' m') Q) E { s with heap := h, toks := tk })
    (done : ∀ c (u : Str → Option Value) nx h tk, J n c nx → Fr h₀ env.locals h (fun y => if y = x then u y else kstB (fun z => if stored.contains z then u z else m₀ z) (ps c) y) → News h₀ env.locals h nx → Q .next { s with heap := h, toks := tk }) :
    wpAny (model prog w) A (pyIter (.ref r)) (fun it s₂ => LoopAtV prog w A h₀ env x body Q E it s₂) E s := by
  refine iter_rangeUnr hh hr (rangeN hn).1 (rangeN hn).2 F N fun I hI => ?_
  have go : ∀ k i m nx, i + k = n → (∀ p ∈ nx, p.1 ≠ I) → (∃ c, J i c nx ∧ StAt ps x stored m₀ c m) → RangeRest prog w A E h₀ env x body Q s I 0 n k i m nx := by
    intro k
    induction k with
    | zero =>
      rintro i m nx hi hoI ⟨c, hJ, h1, h2⟩
      rw [Nat.add_zero] at hi
      subst hi
      exact RangeRest.zero fun h tk F₁ N₁ => done c m nx h tk hJ (kst_frOut h1 h2 F₁) N₁
    | succ k ih =>
      rintro i m nx hi hoI ⟨c, hJ, h1, h2⟩
      refine RangeRest.succ fun t h tk F₁ N₁ => ?_
      rw [Int.zero_add] at F₁
      exact wpAny_mono (turn I i c m t _ nx h tk (by omega) rfl hoI (allLt_of hI) hJ (kst_fr h1 h2 F₁) N₁) (unrPost_off fun m' n' ho hr => ih (i + 1) m' n' (by omega) ho hr) fun _ _ e => e
  exact go n 0 m₀ news (by omega) (fun p hp => Nat.ne_of_lt (hI p hp)) ⟨c₀, hj, hk, fun _ _ _ _ => rfl⟩
end
theorem ledger_filt {h₀ h : Heap} {L I : Addr} {it : Obj} {nx : List (Addr × Obj)} (N : News h₀ L h nx) (hI : (I, it) ∈ nx) (hc : it.cls = .type "range_iterator") :
    ∃ nx', (∀ p ∈ (I, it) :: nx', p ∈ nx) ∧ (∀ p ∈ nx', p.1 ≠ I) ∧ (∀ p ∈ nx, p.2.cls = .type "list" → p ∈ nx') ∧ (∀ p ∈ nx, p.1 ≠ I → p ∈ nx') := by
  have h4 : ∀ p ∈ nx, p.1 ≠ I → p ∈ nx.filter fun p => decide (p.1 ≠ I) := fun p hp hne => List.mem_filter.mpr ⟨hp, decide_eq_true hne⟩
  refine ⟨_, fun p hp => ?_, fun p hp => of_decide_eq_true (List.mem_filter.mp hp).2, fun p hp hl => h4 p hp ?_, h4⟩
  · rcases List.mem_cons.mp hp with rfl | hp
    · exact hI
    · exact (List.mem_filter.mp hp).1
  · intro e
    have e1 := (N p hp).1
    rw [e, (N _ hI).1] at e1
    rw [← Option.some.inj e1, hc] at hl
    exact absurd hl (by decide)
theorem RefsAre.lists {nx nx' : List (Addr × Obj)} (hs : ∀ p ∈ nx, p.2.cls = .type "list" → p ∈ nx') : ∀ {vs : List Value} {nss : List (List Int)}, RefsAre nx vs nss → RefsAre nx' vs nss
  | _, _, .nil => .nil
  | _, _, .cons m i r => .cons (hs _ m rfl) i (r.lists hs)
/-- the parts of the light of x units of the ring with unit u and base b, highest first -/
def lr (u b : Int) (x : Int) : Int := lightR (x * u) b
def lg (u b : Int) (x : Int) : Int := lightG (x * u) b
def lb (u b : Int) (x : Int) : Int := lightB (x * u) b
/-- what is asked of a row's light -/
def RowOk (u b : Int) (x : Int) : Prop := 0 ≤ x ∧ x ≤ 49 ∧ 0 ≤ lb u b x ∧ lb u b x < lg u b x ∧ lg u b x < lr u b x ∧ lr u b x ≤ 65536
/-- a list of refs to tints -/
inductive TintsAre (u b : Int) (news : List (Addr × Obj)) : List Value → List Int → Prop
  | nil : TintsAre u b news [] []
  | cons {t : Addr} {x : Int} {t1 t2 t3 t4 : Tok} {vs : List Value} {xs : List Int} :
      (t, tup [.float (hueF (lr u b x) (lg u b x) (lb u b x)) t1, .float (shareF (lr u b x) (lg u b x) (lb u b x)) t2, .int (lr u b x) t3, .int (lb u b x) t4]) ∈ news → TintsAre u b news vs xs → TintsAre u b news (.ref t :: vs) (x :: xs)
theorem TintsAre.snoc {u b : Int} {news news' : List (Addr × Obj)} (hs : ∀ p ∈ news, p ∈ news') {t : Addr} {x : Int} {t1 t2 t3 t4 : Tok}
    (h : (t, tup [.float (hueF (lr u b x) (lg u b x) (lb u b x)) t1, .float (shareF (lr u b x) (lg u b x) (lb u b x)) t2, .int (lr u b x) t3, .int (lb u b x) t4]) ∈ news') :
    ∀ {vs : List Value} {xs : List Int}, TintsAre u b news vs xs → TintsAre u b news' (vs ++ [.ref t]) (xs ++ [x])
  | _, _, .nil => .cons h .nil
  | _, _, .cons m r => .cons (hs _ m) (r.snoc hs h)
theorem TintsAre.mono {u b : Int} {news news' : List (Addr × Obj)} (hs : ∀ p ∈ news, p ∈ news') : ∀ {vs : List Value} {xs : List Int}, TintsAre u b news vs xs → TintsAre u b news' vs xs
  | _, _, .nil => .nil
  | _, _, .cons m r => .cons (hs _ m) (r.mono hs)
theorem TintsAre.length {u b : Int} {news : List (Addr × Obj)} : ∀ {vs : List Value} {xs : List Int}, TintsAre u b news vs xs → vs.length = xs.length
  | _, _, .nil => rfl
  | _, _, .cons _ r => congrArg (· + 1) r.length
theorem rowI_len (n : Nat) (p : Nat → Bool) : (rowI n p).length ≤ n := by
  unfold rowI
  rw [List.length_map]
  exact Nat.le_trans (List.length_filter_le _ _) (Nat.le_of_eq List.length_range)
/-- the tints' loop: what it keeps -/
inductive TintJ (ut b : Int) (rowL : List Int) {T0 : Addr} {fx : List (Addr × Obj)} (r : List Value) (z0 : Unit) (nx : List (Addr × Obj)) : Prop
  | mk (ts : _) (k : _) (ex : _) (dn : _) (rest : _) (c1 : nx = (T0, W.listOf ts.toArray k) :: ex) (c2 : (∀ p ∈ ex, p.1 ≠ T0)) (c3 : (∀ p ∈ fx, p ∈ ex)) (c4 : TintsAre ut b ex ts dn) (c5 : rowL = dn ++ rest) (c6 : IntsAre r rest) : @TintJ ut b rowL T0 fx r z0 nx
/-- what a row asks of a number -/
def rowP (n ro x : Nat) : Bool := decide ((x : Int) > ((x : Int) * ro * ro).fmod n) && decide (((x : Int) * ro * ro).fmod n > ((x : Int) * ro).fmod n)
/-- a part that the law takes for the whole number z -/
def WholeV (v : Value) (z : Int) : Prop :=
  (∃ x t, v = .float x t ∧ Float64.isFinite (Float64.add x (qF 1 2)) = true ∧ wholeF x = z) ∨
  (∃ t, v = .int z t ∧ 0 ≤ z ∧ z < 2 ^ 40 ∧ Float64.isFinite (Float64.add (Float64.ofInt z) (qF 1 2)) = true ∧ wholeF (Float64.ofInt z) = z)
theorem whole_call {v : Value} {z : Int} (hv : WholeV v z)
   (B : Below A₀ base outer h₀) (F : Fr h₀ L s.heap m) (X : (Mine.hd.heap_1 w.params).In h₀) (N : News h₀ L s.heap news) (T : Top p loose mean mg mb h₀) (hk : cs.kind = .function)
   (hd : dp + 1 < recursionLimit) (hu : un + 8 < cLine)
   (hret : ∀ h' tk' t1, Fr h₀ L h' m → News h₀ L h' news → Q (.int z t1) { s with heap := h', toks := tk' }) :
    wpAny (model prog w) (ktrTop dp un gd cn cs L a ccd cl outer) (call (.ref 133) [v]) Q E s := by
  rcases hv with ⟨x, t, rfl, h1, rfl⟩ | ⟨t, rfl, h1, h2, h3, h4⟩
  · exact wholeF_call B F X N T hk hd hu h1 hret
  · rw [← h4] at hret
    exact wholeI_call B F X N T hk hd hu h1 h2 h3 hret
theorem hsvL_three {h S : UInt64} {v : Int} {i t : Nat} {z b : Int} {tv t1 t2 : Tok} (P : Paints h S v i t z b) (hi : i < 6) (hv : 0 ≤ v) (hv2 : v < 2 ^ 40) :
    ∃ v0 v1 v2, hsvL ((hsvI h).fmod 6) (.int v tv) (hsvP S v) (hsvQ h S v) (hsvT h S v) t1 t2 = [v0, v1, v2] ∧ WholeV v0 (arr6 i v z b).1 ∧ WholeV v1 (arr6 i v z b).2.1 ∧ WholeV v2 (arr6 i v z b).2.2 := by
  have e : (hsvI h).fmod 6 = (i : Int) := by
    rw [P.whole, Int.fmod_eq_emod_of_nonneg _ (by decide)]
    omega
  rw [e]
  have wv : WholeV (.int v tv) v := .inr ⟨_, rfl, hv, hv2, P.vf⟩
  have wp : ∀ t, WholeV (.float (hsvP S v) t) b := fun t => .inl ⟨_, _, rfl, P.pf⟩
  have wt : ∀ t, i % 2 = 0 → WholeV (.float (hsvT h S v) t) z := fun t hi => .inl ⟨_, _, rfl, P.tf hi⟩
  have wq : ∀ t, i % 2 = 1 → WholeV (.float (hsvQ h S v) t) z := fun t hi => .inl ⟨_, _, rfl, P.qf hi⟩
  have hk := lt6 hi
  rcases hk with rfl | rfl | rfl | rfl | rfl | rfl
  · exact ⟨_, _, _, rfl, wv, wt _ rfl, wp _⟩
  · exact ⟨_, _, _, rfl, wq _ rfl, wv, wp _⟩
  · exact ⟨_, _, _, rfl, wp _, wv, wt _ rfl⟩
  · exact ⟨_, _, _, rfl, wp _, wq _ rfl, wv⟩
  · exact ⟨_, _, _, rfl, wt _ rfl, wp _, wv⟩
  · exact ⟨_, _, _, rfl, wv, wp _, wq _ rfl⟩
/-- the middle part that is painted in a sixth -/
def mid6 (i : Nat) (r g b : Int) : Int := if i % 2 = 0 then g else r + b - g
/-- a light of the wheel, without its white -/
def wl (u b : Int) (i : Nat) (x : Int) : List Int :=
  let a := arr6 i (lr u b x) (mid6 i (lr u b x) (lg u b x) (lb u b x)) (lb u b x)
  [a.1 - lb u b x, a.2.1 - lb u b x, a.2.2 - lb u b x]
/-- the wheel's first i sixths -/
def wheelL (u b : Int) (row : List Int) (i : Nat) : List (List Int) := (List.range i).flatMap fun k => row.map (wl u b k)
theorem wheelL_succ (u b : Int) (row : List Int) (i : Nat) : wheelL u b row (i + 1) = wheelL u b row i ++ row.map (wl u b i) := by
  unfold wheelL
  rw [List.range_succ, List.flatMap_append]
  simp
/-- the wheel's loops: what they keep -/
inductive WhJ (u b : Int) (row : List Int) {fx : List (Addr × Obj)} (i : Nat) (c : Addr) (nx : List (Addr × Obj)) : Prop
  | mk (vs : _) (k : _) (c1 : (c, W.listOf vs.toArray k) ∈ nx) (c2 : (∀ p ∈ fx, p ∈ nx)) (c3 : RefsAre nx vs (wheelL u b row i)) : @WhJ u b row fx i c nx
inductive WhI (u b : Int) (row : List Int) {fx : List (Addr × Obj)} (i : Nat) (r : List Value) (c : Addr) (nx : List (Addr × Obj)) : Prop
  | mk (vs : _) (k : _) (dn : _) (rest : _) (c1 : (c, W.listOf vs.toArray k) ∈ nx) (c2 : (∀ p ∈ fx, p ∈ nx)) (c3 : RefsAre nx vs (wheelL u b row i ++ dn.map (wl u b i))) (c4 : row = dn ++ rest) (c5 : TintsAre u b nx r rest) : @WhI u b row fx i r c nx
theorem unrEndW5 {h₀ : Heap} {L I : Addr} {it : Obj} {rest : (Str → Option Value) → List (Addr × Obj) → Prop} {s₁ : Shared} {h' : Heap} {tk : Nat} {m' : Str → Option Value} {nx' all : List (Addr × Obj)} (F : Fr h₀ L h' m') (N : News h₀ L h' all)
    (hI : (I, it) ∈ all) (hs : ∀ p ∈ nx', p ∈ all) (off : ∀ p ∈ nx', p.1 ≠ I) (r : rest m' nx') : UnrEndW h₀ L s₁ [(I, it)] rest { s₁ with heap := h', toks := tk } := by
  refine ⟨h', tk, m', nx', rfl, F, fun p hp => N p ?_, fun p hp q hq => ?_, r⟩
  · rcases List.mem_cons.mp hp with rfl | hp
    · exact hI
    · exact hs p hp
  · rcases List.mem_cons.mp hq with rfl | hq
    · exact off p hp
    · cases hq
theorem wheelL_len (u b : Int) (row : List Int) (i : Nat) : (wheelL u b row i).length = i * row.length := by
  induction i with
  | zero => simp [wheelL]
  | succ i ih => rw [wheelL_succ, List.length_append, List.length_map, ih, Nat.succ_mul]
theorem unrEndV5 {h₀ : Heap} {L I : Addr} {it : Obj} {rest : (Str → Option Value) → List (Addr × Obj) → Prop} {s₁ : Shared} {h' : Heap} {tk : Nat} {m' : Str → Option Value} {a b c d e : Addr × Obj} {nx : List (Addr × Obj)} (F : Fr h₀ L h' m') (N : News h₀ L h' (a :: b :: c :: d :: e :: (I, it) :: nx))
    (ha : a.1 ≠ I) (hb : b.1 ≠ I) (hc : c.1 ≠ I) (hd : d.1 ≠ I) (he : e.1 ≠ I) (hx : ∀ p ∈ nx, p.1 ≠ I) (r : rest m' (a :: b :: c :: d :: e :: nx)) : UnrEndW h₀ L s₁ [(I, it)] rest { s₁ with heap := h', toks := tk } := by
  refine unrEndW5 (nx' := a :: b :: c :: d :: e :: nx) F N ?_ (fun p hp => ?_) (fun p hp => ?_) r
  · simp
  · simp only [List.mem_cons] at hp ⊢
    rcases hp with h | h | h | h | h | h <;> simp [h]
  · simp only [List.mem_cons] at hp
    rcases hp with rfl | rfl | rfl | rfl | rfl | h
    · exact ha
    · exact hb
    · exact hc
    · exact hd
    · exact he
    · exact hx p h
theorem white_off {u b : Int} {row : List Int} (h : ∀ x ∈ row, RowOk u b x) (i : Nat) : [0, 0, 0] ∉ wheelL u b row i := by
  intro hm
  unfold wheelL at hm
  obtain ⟨k, _, hm⟩ := List.mem_flatMap.mp hm
  obtain ⟨x, hx, e⟩ := List.mem_map.mp hm
  obtain ⟨_, _, x2, x3, x4, _⟩ := h x hx
  have h1 := (arr6_max (k := k) (M := lr u b x) (A := mid6 k (lr u b x) (lg u b x) (lb u b x)) (B := lb u b x) (by unfold mid6; split <;> omega) (by unfold mid6; split <;> omega)).1
  unfold wl at e
  simp only [List.cons.injEq, and_true] at e
  omega
theorem white_parts {b : Int} (hb : 0 < b) : lightR (b ^ 3 - 1) b = b - 1 ∧ lightG (b ^ 3 - 1) b = b - 1 ∧ lightB (b ^ 3 - 1) b = b - 1 := by
  have e : b ^ 3 = b * b * b := by rw [Int.pow_succ, Int.pow_succ, Int.pow_succ, Int.pow_zero, Int.one_mul]
  have h2 : 0 < b * b := Int.mul_pos hb hb
  have e1 : b ^ 3 - 1 = (b * b - 1) + b * b * (b - 1) := by rw [e, Int.mul_sub]; omega
  have e2 : b * b - 1 = (b - 1) + b * (b - 1) := by rw [Int.mul_sub]; omega
  have e3 : (b ^ 3 - 1).fmod (b * b) = b * b - 1 := by
    rw [Int.fmod_eq_emod_of_nonneg _ (by omega), e1, Int.add_mul_emod_self_left]
    exact Int.emod_eq_of_lt (by omega) (by omega)
  unfold lightR lightG lightB
  rw [e3]
  refine ⟨?_, ?_, ?_⟩
  · rw [Int.fdiv_eq_ediv_of_nonneg _ (by omega), e1, Int.add_mul_ediv_left _ _ (by omega), Int.ediv_eq_zero_of_lt (by omega) (by omega)]
    omega
  · rw [Int.fmod_eq_emod_of_nonneg _ (by omega), e2, Int.add_mul_emod_self_left]
    exact Int.emod_eq_of_lt (by omega) (by omega)
  · rw [Int.fdiv_eq_ediv_of_nonneg _ (by omega), e2, Int.add_mul_ediv_left _ _ (by omega), Int.ediv_eq_zero_of_lt (by omega) (by omega)]
    omega
/-- the light of y units, without its white -/
def pl (u b y : Int) : List Int := [lr u b y - min (min (lr u b y) (lg u b y)) (lb u b y), lg u b y - min (min (lr u b y) (lg u b y)) (lb u b y), lb u b y - min (min (lr u b y) (lg u b y)) (lb u b y)]
/-- parts, each taken for a whole number -/
def AllW : List Value → List Int → Prop
  | [], [] => True
  | v :: vs, z :: zs => WholeV v z ∧ AllW vs zs
  | _, _ => False
theorem AllW.len : ∀ {vs : List Value} {zs : List Int}, AllW vs zs → vs.length = zs.length
  | [], [], _ => rfl
  | _ :: _, _ :: _, h => congrArg (· + 1) (AllW.len h.2)
  | [], _ :: _, h => h.elim
  | _ :: _, [], h => h.elim
theorem AllW.at : ∀ {vs : List Value} {zs : List Int} {i : Nat} {v : Value}, AllW vs zs → vs[i]? = some v → ∃ z, zs[i]? = some z ∧ WholeV v z
  | v :: _, z :: _, 0, u, h, e => by
    simp only [List.getElem?_cons_zero, Option.some.injEq] at e ⊢
    exact ⟨z, rfl, e ▸ h.1⟩
  | _ :: _, _ :: _, i + 1, u, h, e => by
    simp only [List.getElem?_cons_succ] at e ⊢
    exact AllW.at h.2 e
section
variable {A : Around} {E : Value → Shared → Prop} {s : Shared} {h₀ : Heap} {L : Addr} {m : Str → Option Value} {env : Env}
theorem tup_st {ax I : Addr} {vs : List Value} : ∀ i (h h' : Heap) (o : Obj) (nw : List (Addr × Obj)), (h.IsTupleIter I ax i ∧ h.IsTuple ax vs.toArray) → h.get? I = some o → h'.get? I = some o → (∀ b o, h₀.get? b = some o → h'.get? b = some o) → News h₀ L h' nw → (ax, tup vs) ∈ nw → (h'.IsTupleIter I ax i ∧ h'.IsTuple ax vs.toArray) :=
  fun i h h' o nw st e e' _ N S => ⟨by obtain ⟨o', q, r⟩ := st.1; rw [e] at q; cases q; exact ⟨o, e', r⟩, ⟨_, (N _ S).1, rfl, _, rfl⟩⟩
/-- the end of the source of a comprehension over parts -/
inductive SrcW (prog : Program) (w : World) (A : Around) (h₀ : Heap) (L : Addr) (m : Str → Option Value) (env : Env) (elt : PySem.Expr) (x y : Str) (scope : Scope) (cl : List (Str × Addr)) (Q : Flow → Shared → Prop) (xv : Value) (s₁ : Shared) : Prop
  | mk (ax : _) (vs : _) (zs : _) (news : _) (c1 : xv = .ref ax) (c2 : A.handled = none) (c3 : Fr h₀ L s₁.heap m) (c4 : News h₀ L s₁.heap news) (c5 : (ax, tup vs) ∈ news) (c6 : AllW vs zs) (c7 : zs.length ≤ 1000) (c8 : (∀ s₂ : Shared, (∃ h, s₂ = { s₁ with heap := h }) → ∀ v z (R1 : Value → List (Addr × Obj) → Prop) ys I oI C oC D m₂ h tk (E' : Value → Shared → Prop), WholeV v z → LCg.NsObj oC m₂ → m₂ x = some v → Fr h₀ L h m → News h₀ L h ((I, oI) :: (C, oC) :: (D, LCg.lst ys) :: news) → LCg.Off3 I C D news → ((@Ne Nat I C) ∧ (@Ne Nat I D) ∧ (@Ne Nat C D)) →
      (∀ t, R1 (.int z t) news) →
      wpAny (model prog w) A (eval elt (compEnvC scope cl C env)) (LCg.CompEnd h₀ L m { s₂ with heap := h, toks := tk } I oI C oC D (LCg.lst ys) (fun nw => (ax, tup vs) ∈ nw) R1) E' { s₂ with heap := h, toks := tk })) (c9 : ∀ ys D h tk, IntsAre ys zs → Fr h₀ L h (fun z => if z = y then some (.ref D) else m z) → News h₀ L h ((D, LCg.lst ys) :: news) → LCg.Off1 D news → Q .next { s₁ with heap := h, toks := tk }) : SrcW prog w A h₀ L m env elt x y scope cl Q xv s₁
theorem Assign_W {elt iter : PySem.Expr} {x y : Str} {px py : Pos} {scope : Scope} {cl : List (Str × Addr)} {pos spos : Pos} {Q : Flow → Shared → Prop} (F₀ : Fr h₀ L s.heap m) (hLe : env.locals = L)
    (hsw : swapsWith (.ListComp elt [⟨.Name x px, iter, [], 0⟩] scope pos) (some (.Name y py)) spos.line env = pure true)
    (hclos : closureFor scope env = pure cl) (hcell : ∀ z ∈ scope.names, z.2 ≠ .cell) (hkind : scope.kind = .function)
    (hnames : ∀ z ∈ scope.names, z.2 = .local → scope.names.lookup z.1 = some .local) (hx : scope.names.lookup x = some .local)
    (hy : env.kindOf y = some .local) (hp : (env.scope.kind == .class || (env.scope.kind == .module && env.locals != env.globals)) = false)
    (h : wpAny (model prog w) A (eval iter env) (SrcW prog w A h₀ L m env elt x y scope cl Q) E s)
    (hs : ∀ x, foldedSetIterable iter env x = pure x := by intro _; rfl) :
    wpAny (model prog w) A (exec (.Assign [.Name y py] (.ListComp elt [⟨.Name x px, iter, [], 0⟩] scope pos) spos) env) Q E s := by
  subst hLe
  rw [exec_Assign_Name_used _ _ _ _ hsw]
  refine wpAny_bind (wpAny_standAt (wpAny_bind ?_))
  show wpAny _ A (do let _ ← comprehension (.ListComp elt [⟨.Name x px, iter, [], 0⟩] scope pos) scope env _ (newList []) false (eval iter env) (some (assign (.Name y py) env))) _ _ s
  refine wpAny_bind (wpAny_mono (wpAny_comprehension_free (use := some (assign (.Name y py) env)) (Q := fun _ s' => Q .next s') rfl hs hclos hkind hnames
    (wpAny_mono h (fun xv s₁ h₁ => ?_) fun _ _ e => e)) (fun _ s' hq => wpAny_pure (wpAny_pure hq)) fun _ _ e => e)
  obtain ⟨ax, vs, zs, news, rfl, hh, F, N, hm, hW, hlen, turn, fin⟩ := h₁
  have hl : s₁.heap.IsTuple ax vs.toArray := ⟨_, (N _ hm).1, rfl, _, rfl⟩
  have hlt : ax < s₁.heap.objs.size := by obtain ⟨_, e, _⟩ := hl; exact Heap.lt_size e
  have hvl := hW.len
  refine wpAny_pyIter_tuple hl ?_
  have up : ∀ b o, s₁.heap.get? b = some o → (s₁.heap.push { cls := .type "tuple_iterator", data := .fields #[.ref ax, .int 0 0] }).get? b = some o := fun b o e => Heap.get?_push_of_some _ e
  have hn : vs.toArray.size = vs.length := by simp
  refine LCg.block_U (S := fun nw => (ax, tup vs) ∈ nw) (Fin := fun ys nw => IntsAre ys zs ∧ nw = news) (Walks.tuple hh s₁.heap.objs.size ax (Nat.ne_of_lt hlt) vs.toArray) (by rw [hn, sizeLine_eq]; omega) (fun i h st => by obtain ⟨o, e, _⟩ := st.1; exact ⟨o, e⟩) tup_st hcell hkind hx ⟨⟨_, Heap.get?_push_size _ rfl, rfl, rfl⟩, hl.at fun o e => up _ _ e⟩ (fun b hb => ?_)
    (F.keeps up) (N.grown up) (Nat.ne_of_lt F.ns.lt) (next_is_new F) (fun p hp => Nat.ne_of_lt (Heap.lt_size (N p hp).1)) hm ?_ ?_
  · show b < (s₁.heap.push _).objs.size
    rw [Heap.size_push]
    rcases List.mem_cons.mp hb with rfl | hb
    · exact Nat.lt_succ_self _
    · rw [List.mem_singleton.mp hb]; exact Nat.lt_succ_of_lt hlt
  · rw [hn]
    generalize hS2 : ({ s₁ with heap := _ } : Shared) = s₂
    have go : ∀ k i ys, i + k = vs.length → IntsAre ys (zs.take i) → LCg.CompRest prog w A h₀ env.locals m env elt x scope cl s₂ (fun nw => (ax, tup vs) ∈ nw) (fun i v => vs.toArray[i]? = some v) (fun ys nw => IntsAre ys zs ∧ nw = news) k i ys news := by
      intro k
      induction k with
      | zero =>
        intro i ys hi hI
        rw [List.take_of_length_le (by omega)] at hI
        exact LCg.CompRest.zero ⟨hI, rfl⟩
      | succ k ih =>
        intro i ys hi hI
        refine LCg.CompRest.succ ?_
        intro v I oI C oC D m₂ h tk E' hP hC hx' F' N' off ne
        have hP' : vs[i]? = some v := by simpa using hP
        obtain ⟨z, hz, hw⟩ := hW.at hP'
        refine turn s₂ ⟨_, hS2.symm⟩ v z _ ys I oI C oC D m₂ h tk E' hw hC hx' F' N' off ne fun t => ih (i + 1) _ (by omega) ?_
        rw [List.take_add_one, hz]
        exact hI.append (.cons z t .nil)
    exact go vs.length 0 [] (by omega) (by rw [List.take_zero]; exact .nil)
  · rintro D C h' tk m' ys news' F' N' o1 hn' hC₀ hD₀ hCL hDL hCD offC ⟨hI, rfl⟩
    show wpAny _ A (assign (.Name y py) env (.ref D)) _ _ _
    refine wpAny_assign_Name (wpAny_storeName_local hy F'.ns (fun h₂ hn₂ hs₂ => ?_) hp)
    have hL₀ : h₀.get? env.locals = none := Heap.get?_none_of_le F'.above
    have F₂ : Fr h₀ env.locals h₂ (fun z => if z = y then some (.ref D) else m z) := ⟨hn₂, fun b o e => hs₂.extBut b o (fun q => by rw [q, hL₀] at e; cases e) (F'.keep b o e), F'.above⟩
    refine ⟨m', hn'.sameBut hs₂ hCL, fun h'' hs'' => fin ys D h'' _ hI (F₂.change hs'' hCL hC₀) (fun p hp => ?_) o1⟩
    have z : h₂.get? p.1 = some p.2 := hs₂.extBut _ _ (N' p hp).2.1 (N' p hp).1
    refine ⟨hs''.extBut _ _ ?_ z, (N' p hp).2⟩
    rcases List.mem_cons.mp hp with rfl | hp
    · exact Ne.symm hCD
    · exact offC p hp
end
section
open PySem.SeqAt
variable {A : Around} {E : Value → Shared → Prop} {s : Shared} {h₀ : Heap} {L l b : Addr} {news : List (Addr × Obj)} {Q : Value → Shared → Prop}
theorem eqat_fi {x : UInt64} {n : Int} {t u : Tok} (hx : Float64.cmpInt x n = some .eq) : EqAt A s (.float x t) (.int n u) true := fun prog w E Q h => by
  unfold eqBool
  refine wpAny_holding ?_
  refine wpAny_ite_split (fun hab => absurd (eq_of_beq hab) nofun) (fun _ => ?_)
  exact wpAny_bind (eq_fi (by rw [hx]; exact wpAny_truthy_bool h))
theorem ne_tup3 {x0 x1 x2 y0 y1 y2 : Value} (N : News h₀ L s.heap news) (m1 : (l, tup [x0, x1, x2]) ∈ news) (m2 : (b, tup [y0, y1, y2]) ∈ news) (hu : A.units < cLine)
    (e0 : EqAt A.in1 s x0 y0 true) (e1 : EqAt A.in1 s x1 y1 true) (e2 : EqAt A.in1 s x2 y2 true) (h : Q (.bool false) s) : wpAny (model prog w) A (compareOp .NotEq (.ref l) (.ref b)) Q E s := by
  refine PySem.W.cmp_ofNotEq (RcNeAt.tuples (e := fun _ => true) (items := #[x0, x1, x2]) (items2 := #[y0, y1, y2]) ⟨_, (N _ m1).1, rfl, _, rfl⟩ ⟨_, (N _ m2).1, rfl, _, rfl⟩ hu ?_ prog w _ _ h)
  intro j h1 h2
  match j, h1 with
  | 0, _ => exact e0
  | 1, _ => exact e1
  | 2, _ => exact e2
theorem eqat_ii {n : Int} {t u : Tok} : EqAt A s (.int n t) (.int n u) true := by
  have h := EqAt.int_int (A := A) (s := s) n t n u
  rw [beq_self_eq_true] at h
  exact h
end
section
variable {A₀ A : Around} {E : Value → Shared → Prop} {s s' : Shared} {base g G h₀ : Heap} {outer : List Env} {L a e : Addr} {m : Str → Option Value} {name : Str} {scope : Scope} {cd : Value} {cl : List (Str × Addr)}
  {b₀ : Stmt} {suite : List Stmt} {pos np : Pos} {rest : List ExceptHandler} {Q : Flow → Shared → Prop} {news : List (Addr × Obj)} {KF : Frag} {x : Str} {X : String}
/-- an exception of a built-in class that a helper with cells catches by its name -/
theorem catchX (R : RaisedSN base G (envX name scope L a cd cl :: outer) e (.type x.toString) news s'.heap) (F : Fr g L G m) (K : Below A₀ base outer g) (hsm : G.UpToSlots s'.heap) (XB : KF.In base) (TB : Top p loose mean mg mb base)
    (ex : nsIn KF mainGlobals x = some none) (hv : bootBuiltins x = some (.type x.toString)) (hn' : x ≠ "__name__")
    (h1 : subB x.toString (.type "BaseException") = some true) (h2 : subB ((Manifest.find? x.toString).elim "type" fun y => y.metatype) (.type "tuple") = some false) (h3 : subB x.toString (.type x.toString) = some true)
    (k : ∀ h' g', KtsTurn (outer.filterMap (·.frame)) g g' → Fr g' L h' m → News g' L h' news → Below A₀ base outer g' → KF.In g' → Top p loose mean mg mb g' →
      wpAny (model prog w) ((A₀.deeper (envX name scope L a cd cl)).mark (some (.ref e))) (execs (b₀ :: suite) (envX name scope L a cd cl)) Q E { s' with heap := h' })
    (hk : scope.kind = .function) (hx : (envX name scope L a cd cl).kindOf x = some .globalImplicit) (hd : (x == ("__debug__" : Str)) = false)
    (hE : PassesOwnAt (model prog w) ((A₀.deeper (envX name scope L a cd cl)).mark (some (.ref e))) (A₀.deeper (envX name scope L a cd cl)) (envX name scope L a cd cl) E := by passes_own) :
    wpAny (model prog w) (A₀.deeper (envX name scope L a cd cl)) (noteFrame (.ref e) (envX name scope L a cd cl))
      (fun _ s₂ => wpAny (model prog w) (A₀.deeper (envX name scope L a cd cl)) (setFlight (.ref e) none) (fun _ s₃ =>
        wpAny (model prog w) (A₀.deeper (envX name scope L a cd cl)) (handleBy (.ref e) (envX name scope L a cd cl) (.ExceptHandler (some (.Name x np)) none (b₀ :: suite) pos :: rest)) Q E s₃) E s₂) E s' := by
  obtain ⟨B, a0, hB, hBG, hl, hfl⟩ := R
  have hL : B.get? L = none := by
    obtain ⟨_, ⟨L', _, hf, hn', _⟩, _⟩ := hfl.2.2.1
    obtain rfl : L = L' := Option.some.inj hf
    exact hn'
  refine wpAny_looks_onW (Around.frames_deeper K.stack) rfl hfl fun h₄ hheld₄ hsm₄ => ?_
  refine wpAny_landsW hheld₄ fun h₅ hheld hsm₅' => ?_
  have hsm₅ := hsm₄.trans hsm₅'
  obtain ⟨g₅, T₅, F₅, K₅⟩ := kts_ground (name := name) (scope := scope) (a := a) (cd := cd) K F hBG hheld.1 (hsm.trans hsm₅)
  have X₅ : KF.In g₅ := XB.keeps K₅.stays
  have P₅ : TopRead p loose mg mb g₅ := topRead_of (TB.keeps K₅.stays)
  obtain ⟨ob, hob, hobc⟩ := hheld.there
  refine wpAny_handleBy_builtin (X := x.toString) (T := x.toString) (b := true) (isSubtype_of_subB h1) (isSubtype_of_subB h2) (isSubtype_of_subB h3) (nameX_B F₅ X₅ P₅ ex hv hn' ⟨rfl, ⟨ob, hob, hobc⟩, ?_⟩ hk hx hd)
  refine lands_againW hheld fun h₆ hfl₆ hsm₆ => ?_
  obtain ⟨g₆, T₆, F₆, K₆⟩ := kts_ground (name := name) (scope := scope) (a := a) (cd := cd) K F hBG hfl₆.1 ((hsm.trans hsm₅).trans hsm₆)
  have Nl : News g₆ L h₆ news := fun q hq => ⟨hfl₆.1 _ _ (hl q hq).1, (fun z => by have := (hl q hq).1; rw [z, hL] at this; cases this), T₆.none_ _ (kts_none F.keep (hl q hq).2.1)⟩
  exact wpAny_passesOwnAt hE (k h₆ g₆ T₆ F₆ Nl K₆ (XB.keeps K₆.stays) (TB.keeps K₆.stays))
end
section
variable {A₀ A : Around} {s : Shared} {base h₀ : Heap} {L f : Addr} {m : Str → Option Value} {env : Env} {news : List (Addr × Obj)} {K : Frag} {R : Result → Shared → Prop}
  {name qual : Str} {params : Arguments} {body : List Stmt} {scope : Scope} {dV kV doc pm cdv ct oc : Value} {an od : Option Addr} {osl : Array (Option Value)} {args : Args} {binds : List (Str × Value)}
/-- into a helper with cells that catches: its ground may be turned at the caller's frame -/
theorem code_defCS (B : Below A₀ base [] h₀) (F : Fr h₀ L s.heap m) (X₀ : K.In h₀) (N : News h₀ L s.heap news) (T : Top p loose mean mg mb h₀) (hA : A.frames = some [env]) (hf : env.frame = some L) (hke : env.scope.kind = .function)
    (ho : K.lookup f = some ⟨oc, od, .func (fnOf name qual params body scope dV kV doc pm an cdv ct), osl⟩) (hcd : codeIn K cdv qual = true) (hroom : A.depth < recursionLimit)
    (hbind : BindsTo s (fnOf name qual params body scope dV kV doc pm an cdv ct) args binds) (hkind : (binds.all fun y => scope.names.lookup y.1 == some .local || scope.names.lookup y.1 == some .cell) = true)
    (hnd : ((cellsFrom 0 scope.names []).map (·.1)).Nodup)
    (h : ∀ g L' h₁ tk cells, Fr h₀ L g m → Fr g L' h₁ (bindL (envOfC qual scope L' f cdv).kindOf binds fun _ => none) → News g L' h₁ (cells ++ news) →
      CellsAre (bindC (envOfC qual scope L' f cdv).kindOf binds fun _ => none) (cellsFrom (L' + 1) scope.names []) cells → Below A base [env] g → K.In g → Top p loose mean mg mb g → (∀ p ∈ news, p.1 < L') →
      wpAny (model prog w) (A.deeper (envOfC qual scope L' f cdv)) (execs body (envOfC qual scope L' f cdv))
        (fun fl s' => LeaveS0 [L] h₀ L m g R (match fl with | .ret v => v | _ => .none) s')
        (fun e s' => wpAny (model prog w) (A.deeper (envOfC qual scope L' f cdv)) (leaving (envOfC qual scope L' f cdv) e) (fun _ s'' => R (.error e) s'') (fun e' s'' => R (.error e') s'') s')
        { s with heap := h₁, toks := tk })
    (hco : scope.isCoroutine = false) (hgen : scope.isGenerator = false) (hk : scope.kind = .function) : codeAny (model prog w) A (.call (.ref f) args) R s := by
  have X := X₀.keeps F.keep
  obtain ⟨FG, BG, st, _⟩ := groundX (R := R) B F N hA hf hke
  refine codeAny_call_function hroom (X _ _ ho) rfl hco hgen rfl (codeRec_of X hcd) (hbind _ _ _ _ ?_)
  refine wpAny_newFunctionEnv_cells hk (kindsX hkind _) fun env' he s' x => ?_
  subst he
  refine ⟨(T.nolimit.keeps F.keep).keeps x.toInCall.keep, codeAny_func ?_⟩
  obtain ⟨h₁, tk, rfl, _⟩ := x.done
  have hk₁ := x.toInCall.keep
  obtain ⟨cells, NC, Y⟩ := Cl.news (h₀ := s.heap) (Nat.le_refl _) fun n c hm => ⟨x.cell n c (lookup_of_mem_nodup (cellsFrom_names scope.names 0 (s.heap.objs.size + 1) [] [] rfl ▸ hnd) hm), x.above n c hm⟩
  refine wpAny_mono (h _ s.heap.objs.size h₁ tk cells FG ⟨x.toInCall.ns, fun b o e => hk₁ b o (of_hideAll _ e), Nat.le_of_eq (hideAll_size _ _)⟩ (fun p hp => ?_) Y BG (X₀.keeps st) (T.keeps st) (fun p hp => Heap.lt_size (N p hp).1)) (fun fl s' hl => ?_) fun _ _ y => y
  · rcases List.mem_append.mp hp with hp | hp
    · refine ⟨(NC p hp).1, (NC p hp).2.1, ?_⟩
      cases q : (hideAll s.heap (news.map (·.1))).get? p.1 with
      | none => rfl
      | some o => have := of_hideAll _ q; rw [(NC p hp).2.2] at this; cases this
    · exact ⟨hk₁ _ _ (N p hp).1, Nat.ne_of_lt (Heap.lt_size (N p hp).1), hideAll_none _ (List.mem_map_of_mem hp)⟩
  · obtain ⟨g', L', m', news', T', F', N', k⟩ := hl
    have nL₀ : h₀.get? L = none := kts_self F
    obtain ⟨oL, es, ep, hLg, hLd, hLk, hLf⟩ := FG.ns
    obtain ⟨sl, hs⟩ := T'.up hLg
    refine k ⟨⟨_, es, ep, F'.keep _ _ hs, hLd, hLk, hLf⟩, fun b o e => F'.keep b o (T'.other b o (st b o e) (fun q => by
      rw [List.mem_singleton.mp q, nL₀] at e
      cases e)), F.above⟩ fun p hp => ⟨(N' p hp).1, fun q => ?_, ?_⟩
    · have := (N' p hp).2.2; rw [q, hs] at this; cases this
    · cases q : h₀.get? p.1 with
      | none => rfl
      | some o =>
        obtain ⟨sl', hs'⟩ := T'.up (st _ _ q)
        have := (N' p hp).2.2
        rw [hs'] at this
        cases this
end
end
section
theorem light_digits {n b u y y1 y2 d0 d1 d2 : Int} (hn : 0 < n) (hb : 0 < b) (hU : b ^ 3 - 1 = n * u) (h0 : y * b = n * d0 + y1) (h1 : y1 * b = n * d1 + y2) (h2 : y2 * b = n * d2 + y)
    (r1 : 0 ≤ d1) (r1' : d1 < b) (r2 : 0 ≤ d2) (r2' : d2 < b) : lr u b y = d0 ∧ lb u b y = d1 ∧ lg u b y = d2 := by
  have e3 : b ^ 3 = b * b * b := by rw [Int.pow_succ, Int.pow_succ, Int.pow_succ, Int.pow_zero, Int.one_mul]
  have hbb : 0 < b * b := Int.mul_pos hb hb
  have e : y * u = d0 * (b * b) + (d1 * b + d2) := by
    refine Int.eq_of_mul_eq_mul_left (Int.ne_of_gt hn) ?_
    have a1 : n * (y * u) = y * (b * b * b) - y := by rw [Int.mul_left_comm, ← hU, e3, Int.mul_sub, Int.mul_one]
    have a2 : y * (b * b * b) = (y * b) * (b * b) := by ac_rfl
    have a3 : n * (d0 * (b * b) + (d1 * b + d2)) = (n * d0) * (b * b) + ((n * d1) * b + n * d2) := by rw [Int.mul_add, Int.mul_add, Int.mul_assoc, Int.mul_assoc]
    have a4 : (n * d0 + y1) * (b * b) = n * d0 * (b * b) + (y1 * b) * b := by rw [Int.add_mul]; congr 1; ac_rfl
    have a5 : (n * d1 + y2) * b = n * d1 * b + y2 * b := Int.add_mul _ _ _
    rw [a1, a2, a3, h0, a4, h1, a5, h2]
    omega
  have q1 : 0 ≤ d1 * b + d2 := Int.add_nonneg (Int.mul_nonneg r1 (Int.le_of_lt hb)) r2
  have q2 : d1 * b + d2 < b * b := by
    have := Int.mul_le_mul_of_nonneg_right (show d1 + 1 ≤ b by omega) (Int.le_of_lt hb)
    rw [Int.add_mul] at this
    omega
  have f1 : (y * u).fmod (b * b) = d1 * b + d2 := by
    rw [Int.fmod_eq_emod_of_nonneg _ (by omega), e, Int.add_comm, Int.mul_comm d0, Int.add_mul_emod_self_left]
    exact Int.emod_eq_of_lt q1 q2
  unfold lr lb lg lightR lightB lightG
  rw [f1]
  refine ⟨?_, ?_, ?_⟩
  · rw [Int.fdiv_eq_ediv_of_nonneg _ (by omega), e, Int.add_comm, Int.mul_comm d0, Int.add_mul_ediv_left _ _ (by omega), Int.ediv_eq_zero_of_lt q1 q2, Int.zero_add]
  · rw [Int.fdiv_eq_ediv_of_nonneg _ (by omega), Int.add_comm, Int.mul_comm d1, Int.add_mul_ediv_left _ _ (by omega), Int.ediv_eq_zero_of_lt r2 r2', Int.zero_add]
  · rw [Int.fmod_eq_emod_of_nonneg _ (by omega), Int.add_comm, Int.mul_comm d1, Int.add_mul_emod_self_left]
    exact Int.emod_eq_of_lt r2 r2'
/-- a number's next one, and its figure -/
def sg (n r y : Nat) : Nat := r * y % n
def dg (n r q y : Nat) : Int := (q * y + r * y / n : Nat)
theorem dg_eq {n r q y : Nat} : (y : Int) * ((r + n * q : Nat) : Int) = (n : Int) * dg n r q y + (sg n r y : Nat) := by
  unfold dg sg
  have h := Nat.div_add_mod (r * y) n
  have e : y * (r + n * q) = n * (q * y + r * y / n) + r * y % n := by
    rw [Nat.mul_add, Nat.mul_add, Nat.add_assoc (n * (q * y)), h, Nat.mul_comm y r, Nat.add_comm]
    congr 1
    rw [Nat.mul_comm y, Nat.mul_assoc]
  exact_mod_cast e
theorem dg_lt {n r q y : Nat} (hy : y < n) (h0 : 0 < r + n * q) : 0 ≤ dg n r q y ∧ dg n r q y < ((r + n * q : Nat) : Int) := by
  refine ⟨Int.natCast_nonneg _, ?_⟩
  have h := dg_eq (n := n) (r := r) (q := q) (y := y)
  refine Int.not_le.mp fun hle => ?_
  have h2 := Int.mul_le_mul_of_nonneg_left hle (show (0 : Int) ≤ n by omega)
  have h3 : (y : Int) * ((r + n * q : Nat) : Int) < (n : Int) * ((r + n * q : Nat) : Int) := Int.mul_lt_mul_of_pos_right (by omega) (by omega)
  have h4 : (0 : Int) ≤ (sg n r y : Nat) := Int.natCast_nonneg _
  omega
/-- the figures are strictly rising -/
theorem dg_mono {n r q y z : Nat} (hq : 0 < q) (h : y < z) : dg n r q y < dg n r q z := by
  unfold dg
  have h1 : r * y / n ≤ r * z / n := Nat.div_le_div_right (Nat.mul_le_mul_left r (Nat.le_of_lt h))
  have h2 : q * y + q ≤ q * z := by rw [← Nat.mul_succ]; exact Nat.mul_le_mul_left q h
  omega
/-- the three parts of a light -/
theorem light_parts {n r q y : Nat} {u : Int} (hy : y < n) (h0 : 0 < r + n * q) (hU : ((r + n * q : Nat) : Int) ^ 3 - 1 = n * u) (h3 : sg n r (sg n r (sg n r y)) = y) :
    lr u ((r + n * q : Nat) : Int) y = dg n r q y ∧ lb u ((r + n * q : Nat) : Int) y = dg n r q (sg n r y) ∧ lg u ((r + n * q : Nat) : Int) y = dg n r q (sg n r (sg n r y)) := by
  have hn : 0 < n := Nat.lt_of_le_of_lt (Nat.zero_le _) hy
  have e1 := dg_eq (n := n) (r := r) (q := q) (y := sg n r (sg n r y))
  rw [h3] at e1
  have l1 := dg_lt (q := q) (r := r) (Nat.mod_lt (r * y) hn : sg n r y < n) h0
  have l2 := dg_lt (q := q) (r := r) (Nat.mod_lt (r * sg n r y) hn : sg n r (sg n r y) < n) h0
  exact light_digits (by omega) (by omega) hU dg_eq dg_eq e1 l1.1 l1.2 l2.1 l2.2
end
section
section
variable {n r q : Nat} {u : Int}
theorem sg_neg {y : Nat} (hy : y ≤ n) (hs : 0 < sg n r y) : sg n r (n - y) = n - sg n r y := by
  unfold sg at *
  have hn : 0 < n := by
    rcases Nat.eq_zero_or_pos n with h | h
    · subst h
      cases Nat.le_zero.mp hy
      simp at hs
    · exact h
  have h1 := Nat.div_add_mod (r * y) n
  have h2 := Nat.mod_lt (r * y) hn
  have h3 : r * (n - y) + r * y = n * r := by rw [← Nat.mul_add, Nat.sub_add_cancel hy, Nat.mul_comm]
  have h4 : r * (n - y) % n = (n - r * y % n) % n := by
    have h5 : r * (n - y) = n - r * y % n + n * (r - 1 - r * y / n) := by
      have h6 : r * y / n < r := by
        refine Nat.lt_of_not_le fun h => ?_
        have h7 : n * r ≤ n * (r * y / n) := Nat.mul_le_mul_left n h
        have h8 : r * y ≤ n * r := by rw [Nat.mul_comm n]; exact Nat.mul_le_mul_left r hy
        omega
      have h9 : n * (r - 1 - r * y / n) + n * (r * y / n) + n = n * r := by
        rw [← Nat.mul_add, ← Nat.mul_succ]
        rw [show r - 1 - r * y / n + r * y / n = r - 1 from Nat.sub_add_cancel (Nat.le_sub_one_of_lt h6), show (r - 1).succ = r from Nat.sub_add_cancel (Nat.lt_of_le_of_lt (Nat.zero_le _) h6)]
      clear h6 hs hy hn
      omega
    rw [h5, Nat.add_mul_mod_self_left]
  rw [h4]
  exact Nat.mod_eq_of_lt (Nat.sub_lt hn hs)
theorem dg_neg {y : Nat} (hy : y < n) (hs : 0 < sg n r y) : dg n r q (n - y) = ((r + n * q : Nat) : Int) - 1 - dg n r q y := by
  have e1 := dg_eq (n := n) (r := r) (q := q) (y := n - y)
  have e2 := dg_eq (n := n) (r := r) (q := q) (y := y)
  rw [sg_neg (Nat.le_of_lt hy) hs] at e1
  have hn0 : 0 < n := Nat.lt_of_le_of_lt (Nat.zero_le _) hy
  have hsl : sg n r y < n := Nat.mod_lt _ hn0
  have hn : (n : Int) ≠ 0 := Int.natCast_ne_zero.mpr (Nat.ne_of_gt hn0)
  refine Int.eq_of_mul_eq_mul_left hn ?_
  have c1 : ((n - y : Nat) : Int) = (n : Int) - y := Int.natCast_sub (Nat.le_of_lt hy)
  have c2 : ((n - sg n r y : Nat) : Int) = (n : Int) - (sg n r y : Nat) := Int.natCast_sub (Nat.le_of_lt hsl)
  rw [c1, Int.sub_mul] at e1
  rw [c2] at e1
  rw [Int.mul_sub, Int.mul_sub, Int.mul_one]
  omega
/-- an orbit of the root, in the row's order -/
structure Orb (n r x s1 s2 : Nat) : Prop where
  x1 : sg n r x = s1
  x2 : sg n r s1 = s2
  x3 : sg n r s2 = x
  p : 0 < s1
  o1 : s1 < s2
  o2 : s2 < x
  l : x < n
variable {x s1 s2 : Nat}
theorem Orb.row (o : Orb n r x s1 s2) (hq : 0 < q) (hU : ((r + n * q : Nat) : Int) ^ 3 - 1 = n * u) :
    lr u ((r + n * q : Nat) : Int) x = dg n r q x ∧ lg u ((r + n * q : Nat) : Int) x = dg n r q s2 ∧ lb u ((r + n * q : Nat) : Int) x = dg n r q s1 := by
  have hl := o.l
  have hB : 0 < r + n * q := Nat.lt_of_lt_of_le (Nat.mul_pos (Nat.lt_of_le_of_lt (Nat.zero_le _) hl) hq) (Nat.le_add_left _ _)
  obtain ⟨h1, h2, h3⟩ := light_parts (u := u) hl hB hU (by rw [o.x1, o.x2, o.x3])
  rw [o.x1] at h2
  rw [o.x1, o.x2] at h3
  exact ⟨h1, h3, h2⟩
/-- the number of an orbit that a sixth names -/
def orbN (n x s1 s2 : Nat) (k : Nat) : Nat := match k with | 0 => x | 1 => n - s2 | 2 => s1 | 3 => n - x | 4 => s2 | _ => n - s1
def orbP (n r q : Nat) (x s1 s2 k : Nat) : Int × Int × Int :=
  if k % 2 = 0 then (dg n r q x, dg n r q s2, dg n r q s1) else (((r + n * q : Nat) : Int) - 1 - dg n r q s1, ((r + n * q : Nat) : Int) - 1 - dg n r q s2, ((r + n * q : Nat) : Int) - 1 - dg n r q x)
theorem Orb.light (o : Orb n r x s1 s2) (hq : 0 < q) (hU : ((r + n * q : Nat) : Int) ^ 3 - 1 = n * u) {k : Nat} (hk : k < 6) :
    (lr u ((r + n * q : Nat) : Int) (orbN n x s1 s2 k), lg u ((r + n * q : Nat) : Int) (orbN n x s1 s2 k), lb u ((r + n * q : Nat) : Int) (orbN n x s1 s2 k)) = arr6 k (orbP n r q x s1 s2 k).1 (orbP n r q x s1 s2 k).2.1 (orbP n r q x s1 s2 k).2.2 := by
  have hl := o.l
  have o1 := o.o1
  have o2 := o.o2
  have op := o.p
  have p2 := Nat.lt_trans op o1
  have p3 := Nat.lt_trans p2 o2
  have l2 := Nat.lt_trans o2 hl
  have l1 := Nat.lt_trans o1 l2
  have hn := Nat.lt_trans op l1
  have hB : 0 < r + n * q := Nat.lt_of_lt_of_le (Nat.mul_pos hn hq) (Nat.le_add_left _ _)
  have nx : sg n r (n - x) = n - s1 := by rw [sg_neg (Nat.le_of_lt hl) (by rw [o.x1]; exact op), o.x1]
  have n1 : sg n r (n - s1) = n - s2 := by rw [sg_neg (Nat.le_of_lt l1) (by rw [o.x2]; exact p2), o.x2]
  have n2 : sg n r (n - s2) = n - x := by rw [sg_neg (Nat.le_of_lt l2) (by rw [o.x3]; exact p3), o.x3]
  have dx : dg n r q (n - x) = _ := dg_neg hl (by rw [o.x1]; exact op)
  have d1 : dg n r q (n - s1) = _ := dg_neg l1 (by rw [o.x2]; exact p2)
  have d2 : dg n r q (n - s2) = _ := dg_neg l2 (by rw [o.x3]; exact p3)
  have go : ∀ y y1 y2 : Nat, y < n → sg n r y = y1 → sg n r y1 = y2 → sg n r y2 = y → lr u ((r + n * q : Nat) : Int) y = dg n r q y ∧ lg u ((r + n * q : Nat) : Int) y = dg n r q y2 ∧ lb u ((r + n * q : Nat) : Int) y = dg n r q y1 := by
    rintro y y1 y2 hy rfl rfl h3
    obtain ⟨h1, h2, h3⟩ := light_parts (u := u) hy hB hU h3
    exact ⟨h1, h3, h2⟩
  rcases lt6 hk with rfl | rfl | rfl | rfl | rfl | rfl
  · obtain ⟨a, b, c⟩ := go x s1 s2 hl o.x1 o.x2 o.x3
    simp only [orbN, orbP, arr6, a, b, c]; rfl
  · obtain ⟨a, b, c⟩ := go (n - s2) (n - x) (n - s1) (Nat.sub_lt hn p2) n2 nx n1
    simp only [orbN, orbP, arr6, a, b, c, dx, d1, d2]; rfl
  · obtain ⟨a, b, c⟩ := go s1 s2 x l1 o.x2 o.x3 o.x1
    simp only [orbN, orbP, arr6, a, b, c]; rfl
  · obtain ⟨a, b, c⟩ := go (n - x) (n - s1) (n - s2) (Nat.sub_lt hn p3) nx n1 n2
    simp only [orbN, orbP, arr6, a, b, c, dx, d1, d2]; rfl
  · obtain ⟨a, b, c⟩ := go s2 x s1 l2 o.x3 o.x1 o.x2
    simp only [orbN, orbP, arr6, a, b, c]; rfl
  · obtain ⟨a, b, c⟩ := go (n - s1) (n - s2) (n - x) (Nat.sub_lt hn op) n1 n2 nx
    simp only [orbN, orbP, arr6, a, b, c, dx, d1, d2]; rfl
end
end
section
section
variable {n r q : Nat} {u : Int} {x s1 s2 x' s1' s2' : Nat}
theorem Orb.parts (o : Orb n r x s1 s2) (hq : 0 < q) : 0 ≤ dg n r q s1 ∧ dg n r q s1 < dg n r q s2 ∧ dg n r q s2 < dg n r q x ∧ dg n r q x < ((r + n * q : Nat) : Int) := by
  have hl := o.l
  exact ⟨Int.natCast_nonneg _, dg_mono hq o.o1, dg_mono hq o.o2, (dg_lt o.l (Nat.lt_of_lt_of_le (Nat.mul_pos (by omega) hq) (Nat.le_add_left _ _))).2⟩
theorem Orb.rowOk (o : Orb n r x s1 s2) (hq : 0 < q) (hU : ((r + n * q : Nat) : Int) ^ 3 - 1 = n * u) (hB : r + n * q ≤ 65536) (hn : n ≤ 49) : RowOk u ((r + n * q : Nat) : Int) x := by
  obtain ⟨a, b, c⟩ := o.row hq hU
  obtain ⟨p0, p1, p2, p3⟩ := o.parts hq
  have hl := o.l
  unfold RowOk
  rw [a, b, c]
  exact ⟨Int.natCast_nonneg x, Int.ofNat_le.mpr (Nat.le_trans (Nat.le_of_lt hl) hn), p0, p1, p2, Int.le_trans (Int.le_of_lt p3) (Int.ofNat_le.mpr hB)⟩
theorem orbP_ok (o : Orb n r x s1 s2) (hq : 0 < q) (k : Nat) : 0 ≤ (orbP n r q x s1 s2 k).2.2 ∧ (orbP n r q x s1 s2 k).2.2 < (orbP n r q x s1 s2 k).2.1 ∧ (orbP n r q x s1 s2 k).2.1 < (orbP n r q x s1 s2 k).1 ∧ (orbP n r q x s1 s2 k).1 ≤ ((r + n * q : Nat) : Int) := by
  obtain ⟨p0, p1, p2, p3⟩ := o.parts hq
  have n1 : ∀ {a b c : Int}, a < b → c - b < c - a := fun h => Int.sub_lt_sub_left h _
  unfold orbP
  split
  · exact ⟨p0, p1, p2, Int.le_of_lt p3⟩
  · exact ⟨Int.sub_nonneg_of_le (Int.le_sub_one_of_lt p3), n1 p2, n1 p1, Int.le_trans (Int.sub_le_self _ p0) (Int.sub_le_self _ (by decide))⟩
/-- the two numbers that a light of the wheel shows -/
def orbD (n r q x s1 s2 k : Nat) : Int × Int := (dg n r q x - dg n r q s1, if k % 2 = 0 then dg n r q s2 - dg n r q s1 else dg n r q x - dg n r q s2)
def arrL (k : Nat) (d z : Int) : List Int := [(arr6 k d z 0).1, (arr6 k d z 0).2.1, (arr6 k d z 0).2.2]
theorem arr6_sub (k : Nat) (M A B : Int) : [(arr6 k M A B).1 - B, (arr6 k M A B).2.1 - B, (arr6 k M A B).2.2 - B] = arrL k (M - B) (A - B) := by
  unfold arrL arr6
  split <;> simp
theorem Orb.wl (o : Orb n r x s1 s2) (hq : 0 < q) (hU : ((r + n * q : Nat) : Int) ^ 3 - 1 = n * u) (k : Nat) : wl u ((r + n * q : Nat) : Int) k x = arrL k (orbD n r q x s1 s2 k).1 (orbD n r q x s1 s2 k).2 := by
  obtain ⟨a, b, c⟩ := o.row hq hU
  unfold Mine.wl
  rw [a, b, c]
  dsimp only
  rw [arr6_sub]
  unfold orbD mid6
  split
  · rfl
  · dsimp only
    congr 1
    omega
theorem Orb.pl (o : Orb n r x s1 s2) (hq : 0 < q) (hU : ((r + n * q : Nat) : Int) ^ 3 - 1 = n * u) {k : Nat} (hk : k < 6) : pl u ((r + n * q : Nat) : Int) (orbN n x s1 s2 k) = Mine.wl u ((r + n * q : Nat) : Int) k x := by
  rw [o.wl hq hU]
  have h := o.light hq hU hk
  obtain ⟨k1, k2, k3, _⟩ := orbP_ok o hq k
  have hm := (arr6_max (k := k) (Int.le_of_lt k2) (Int.le_of_lt k3)).2
  have e1 := congrArg Prod.fst h
  have e2 := congrArg (fun p => p.2.1) h
  have e3 := congrArg (fun p => p.2.2) h
  dsimp only at e1 e2 e3
  unfold Mine.pl
  rw [e1, e2, e3, hm, arr6_sub]
  unfold orbD orbP
  split
  · rfl
  · dsimp only
    congr 1 <;> omega
def kOf (a b c : Int) : Nat := if a < b then (if a < c then (if b < c then 3 else 2) else 1) else (if b < c then (if a < c then 4 else 5) else 0)
theorem kOf_arr {k : Nat} {d z : Int} (hk : k < 6) (h1 : 0 < z) (h2 : z < d) : kOf (arr6 k d z 0).1 (arr6 k d z 0).2.1 (arr6 k d z 0).2.2 = k := by
  have h3 := Int.lt_trans h1 h2
  have n1 := Int.lt_asymm h1
  have n2 := Int.lt_asymm h2
  have n3 := Int.lt_asymm h3
  unfold kOf arr6
  rcases lt6 hk with rfl | rfl | rfl | rfl | rfl | rfl <;> simp only [h1, h2, h3, n1, n2, n3, if_true, if_false]
theorem arrL_inj {k k' : Nat} {d z d' z' : Int} (hk : k < 6) (hk' : k' < 6) (h1 : 0 < z) (h2 : z < d) (h1' : 0 < z') (h2' : z' < d') (e : arrL k d z = arrL k' d' z') : k = k' ∧ d = d' ∧ z = z' := by
  have l0 := Int.le_of_lt h1
  have l1 := Int.le_of_lt h2
  have l0' := Int.le_of_lt h1'
  have l1' := Int.le_of_lt h2'
  unfold arrL at e
  injection e with e1 e
  injection e with e2 e
  injection e with e3 e
  have ek : k = k' := by rw [← kOf_arr hk h1 h2, ← kOf_arr hk' h1' h2', e1, e2, e3]
  have ed : d = d' := by rw [← (arr6_max (k := k) l0 l1).1, ← (arr6_max (k := k') l0' l1').1, e1, e2, e3]
  subst ek ed
  refine ⟨rfl, rfl, ?_⟩
  rcases lt6 hk with rfl | rfl | rfl | rfl | rfl | rfl
  · exact e2
  · exact e1
  · exact e3
  · exact e2
  · exact e1
  · exact e3
theorem orb_inj (o : Orb n r x s1 s2) (o' : Orb n r x' s1' s2') (hn : 0 < n) (h1 : dg n r q x - dg n r q s1 = dg n r q x' - dg n r q s1') (h2 : dg n r q s2 - dg n r q s1 = dg n r q s2' - dg n r q s1') :
    (x : Int) - s1 = (x' : Int) - s1' ∧ (s2 : Int) - s1 = (s2' : Int) - s1' := by
  have ex := dg_eq (n := n) (r := r) (q := q) (y := x)
  have e1 := dg_eq (n := n) (r := r) (q := q) (y := s1)
  have e2 := dg_eq (n := n) (r := r) (q := q) (y := s2)
  have ex' := dg_eq (n := n) (r := r) (q := q) (y := x')
  have e1' := dg_eq (n := n) (r := r) (q := q) (y := s1')
  have e2' := dg_eq (n := n) (r := r) (q := q) (y := s2')
  rw [o.x1] at ex
  rw [o.x2] at e1
  rw [o.x3] at e2
  rw [o'.x1] at ex'
  rw [o'.x2] at e1'
  rw [o'.x3] at e2'
  generalize hB : ((r + n * q : Nat) : Int) = B at *
  have hB0 : 0 ≤ B := by rw [← hB]; exact Int.natCast_nonneg _
  have g1 : (n : Int) * dg n r q x - (n : Int) * dg n r q s1 = (n : Int) * dg n r q x' - (n : Int) * dg n r q s1' := by rw [← Int.mul_sub, h1, Int.mul_sub]
  have g2 : (n : Int) * dg n r q s2 - (n : Int) * dg n r q s1 = (n : Int) * dg n r q s2' - (n : Int) * dg n r q s1' := by rw [← Int.mul_sub, h2, Int.mul_sub]
  have k1 : (((x : Int) - s1) - ((x' : Int) - s1')) * B = -(((s2 : Int) - s1) - ((s2' : Int) - s1')) := by
    rw [Int.sub_mul, Int.sub_mul, Int.sub_mul]
    omega
  have k2 : (((s2 : Int) - s1) - ((s2' : Int) - s1')) * B = (((x : Int) - s1) - ((x' : Int) - s1')) - (((s2 : Int) - s1) - ((s2' : Int) - s1')) := by
    rw [Int.sub_mul, Int.sub_mul, Int.sub_mul]
    omega
  generalize hal : ((x : Int) - s1) - ((x' : Int) - s1') = al at *
  generalize hga : ((s2 : Int) - s1) - ((s2' : Int) - s1') = ga at *
  have k3 : al * (B * B + B + 1) = 0 := by
    have : al * B * B = -ga * B := by rw [k1]
    rw [Int.neg_mul, k2] at this
    rw [Int.mul_add, Int.mul_add, ← Int.mul_assoc, this, k1]
    omega
  have hp : 0 ≤ B * B := Int.mul_nonneg hB0 hB0
  rcases Int.mul_eq_zero.mp k3 with h | h
  · subst h
    rw [Int.zero_mul] at k1
    omega
  · omega
end
end
section
/-- what is asked of a row: its orbits, no number twice, told apart by their differences -/
def RowsOk (n r : Nat) (row : List Nat) : Prop :=
  (∀ x ∈ row, Orb n r x (sg n r x) (sg n r (sg n r x))) ∧ row.Nodup ∧
  ∀ x ∈ row, ∀ x' ∈ row, (x : Int) - sg n r x = (x' : Int) - sg n r x' → (sg n r (sg n r x) : Int) - sg n r x = (sg n r (sg n r x') : Int) - sg n r x' → x = x'
theorem idxOf_map_inj {α β : Type} [BEq α] [LawfulBEq α] [BEq β] [LawfulBEq β] (f : α → β) : ∀ {l : List α} {x : α}, (∀ y ∈ l, f y = f x → y = x) → (l.map f).idxOf (f x) = l.idxOf x
  | [], _, _ => rfl
  | y :: l, x, h => by
    rw [List.map_cons, List.idxOf_cons, List.idxOf_cons]
    by_cases e : y = x
    · subst e; simp
    · have e2 : f y ≠ f x := fun q => e (h y (.head _) q)
      rw [beq_false_of_ne e, beq_false_of_ne e2, cond_false, cond_false, idxOf_map_inj f fun z hz => h z (.tail _ hz)]
theorem count_map_inj {α β : Type} [BEq α] [LawfulBEq α] [BEq β] [LawfulBEq β] (f : α → β) : ∀ {l : List α} {x : α}, (∀ y ∈ l, f y = f x → y = x) → (l.map f).count (f x) = l.count x
  | [], _, _ => rfl
  | y :: l, x, h => by
    rw [List.map_cons, List.count_cons, List.count_cons, count_map_inj f fun z hz => h z (.tail _ hz)]
    by_cases e : y = x
    · subst e; simp
    · have e2 : f y ≠ f x := fun q => e (h y (.head _) q)
      rw [beq_false_of_ne e, beq_false_of_ne e2]
section
variable {n r q : Nat} {u : Int} {row : List Nat}
theorem wl_inj (R : RowsOk n r row) (hq : 0 < q) (hU : ((r + n * q : Nat) : Int) ^ 3 - 1 = n * u) {k k' x x' : Nat} (hk : k < 6) (hk' : k' < 6) (hx : x ∈ row) (hx' : x' ∈ row)
    (e : wl u ((r + n * q : Nat) : Int) k x = wl u ((r + n * q : Nat) : Int) k' x') : k = k' ∧ x = x' := by
  have o := R.1 x hx
  have o' := R.1 x' hx'
  rw [o.wl hq hU, o'.wl hq hU] at e
  obtain ⟨_, a1, a2, _⟩ := o.parts hq
  obtain ⟨_, b1, b2, _⟩ := o'.parts hq
  have hn : 0 < n := Nat.lt_of_le_of_lt (Nat.zero_le _) o.l
  obtain ⟨rfl, e1, e2⟩ := arrL_inj hk hk' (by unfold orbD; dsimp only; split <;> omega) (by unfold orbD; dsimp only; split <;> omega) (by unfold orbD; dsimp only; split <;> omega) (by unfold orbD; dsimp only; split <;> omega) e
  unfold orbD at e1 e2
  dsimp only at e1 e2
  have e3 : dg n r q (sg n r (sg n r x)) - dg n r q (sg n r x) = dg n r q (sg n r (sg n r x')) - dg n r q (sg n r x') := by
    split at e2 <;> omega
  obtain ⟨f1, f2⟩ := orb_inj o o' hn e1 e3
  exact ⟨rfl, R.2.2 x hx x' hx' f1 f2⟩
/-- the row, as whole numbers -/
abbrev zrow (row : List Nat) : List Int := row.map fun (x : Nat) => (x : Int)
theorem zrow_mem {x : Int} : x ∈ zrow row ↔ ∃ y ∈ row, x = (y : Int) := by
  unfold zrow
  rw [List.mem_map]
  exact ⟨fun ⟨y, h, e⟩ => ⟨y, h, e.symm⟩, fun ⟨y, h, e⟩ => ⟨y, h, e.symm⟩⟩
theorem wheel_at (u b : Int) (l : List Int) {i : Nat} : ∀ m, i < m → ∃ rest, wheelL u b l m = wheelL u b l i ++ (l.map (wl u b i) ++ rest)
  | m + 1, h => by
    rw [wheelL_succ]
    by_cases e : i = m
    · subst e
      exact ⟨[], by simp⟩
    · obtain ⟨rest, hr⟩ := wheel_at u b l (i := i) m (by omega)
      exact ⟨rest ++ l.map (wl u b m), by rw [hr]; simp⟩
theorem wheel_mem {u b : Int} {l : List Int} {i : Nat} {v : List Int} (h : v ∈ wheelL u b l i) : ∃ k < i, ∃ x ∈ l, v = wl u b k x := by
  unfold wheelL at h
  obtain ⟨k, hk, hm⟩ := List.mem_flatMap.mp h
  obtain ⟨x, hx, e⟩ := List.mem_map.mp hm
  exact ⟨k, List.mem_range.mp hk, x, hx, e.symm⟩
theorem rim_idx (R : RowsOk n r row) (hq : 0 < q) (hU : ((r + n * q : Nat) : Int) ^ 3 - 1 = n * u) {k x : Nat} (hk : k < 6) (hx : x ∈ row) (T : List (List Int)) :
    (wheelL u ((r + n * q : Nat) : Int) (zrow row) 6 ++ T).idxOf (wl u ((r + n * q : Nat) : Int) k x) = k * row.length + row.idxOf x := by
  obtain ⟨rest, hr⟩ := wheel_at u ((r + n * q : Nat) : Int) (zrow row) (i := k) 6 hk
  have hin : ∀ y ∈ zrow row, wl u ((r + n * q : Nat) : Int) k y = wl u ((r + n * q : Nat) : Int) k x → y = (x : Int) := by
    intro y hy e
    obtain ⟨z, hz, rfl⟩ := zrow_mem.mp hy
    rw [(wl_inj R hq hU hk hk hz hx e).2]
  have hnot : wl u ((r + n * q : Nat) : Int) k x ∉ wheelL u ((r + n * q : Nat) : Int) (zrow row) k := by
    intro h
    obtain ⟨k', hk', y, hy, e⟩ := wheel_mem h
    obtain ⟨z, hz, rfl⟩ := zrow_mem.mp hy
    have := (wl_inj R hq hU hk (by omega) hx hz e).1
    omega
  have hmem : wl u ((r + n * q : Nat) : Int) k x ∈ (zrow row).map (wl u ((r + n * q : Nat) : Int) k) := List.mem_map.mpr ⟨(x : Int), zrow_mem.mpr ⟨x, hx, rfl⟩, rfl⟩
  rw [hr, List.append_assoc, List.idxOf_append, if_neg hnot, List.append_assoc, List.idxOf_append, if_pos hmem, idxOf_map_inj _ hin, wheelL_len]
  have e : (zrow row).idxOf (x : Int) = row.idxOf x := idxOf_map_inj (fun (x : Nat) => (x : Int)) fun y _ e => by exact_mod_cast e
  rw [e, List.length_map, Nat.add_comm]
theorem wheel_cnt (R : RowsOk n r row) (hq : 0 < q) (hU : ((r + n * q : Nat) : Int) ^ 3 - 1 = n * u) {k x : Nat} (hk : k < 6) (hx : x ∈ row) : ∀ m, m ≤ 6 →
    (wheelL u ((r + n * q : Nat) : Int) (zrow row) m).count (wl u ((r + n * q : Nat) : Int) k x) = if k < m then 1 else 0
  | 0, _ => by simp [wheelL]
  | m + 1, h => by
    rw [wheelL_succ, List.count_append, wheel_cnt R hq hU hk hx m (by omega)]
    by_cases e : k = m
    · subst e
      rw [count_map_inj]
      · rw [count_map_inj (fun (x : Nat) => (x : Int)) fun y _ e => by exact_mod_cast e, R.2.1.count, if_pos hx]
        simp
      · intro y hy e
        obtain ⟨z, hz, rfl⟩ := zrow_mem.mp hy
        rw [(wl_inj R hq hU hk hk hz hx e).2]
    · rw [List.count_eq_zero.mpr]
      · split <;> split <;> omega
      · intro hm
        obtain ⟨y, hy, e2⟩ := List.mem_map.mp hm
        obtain ⟨z, hz, rfl⟩ := zrow_mem.mp hy
        exact e (wl_inj R hq hU (by omega) hk hz hx e2).1.symm
/-- a light of an orbit is as told asks -/
theorem lightOk (R : RowsOk n r row) (hq : 0 < q) (hU : ((r + n * q : Nat) : Int) ^ 3 - 1 = n * u) {k x y : Nat} (hk : k < 6) (hx : x ∈ row) (hy : y = orbN n x (sg n r x) (sg n r (sg n r x)) k) :
    pl u ((r + n * q : Nat) : Int) y = wl u ((r + n * q : Nat) : Int) k x ∧ (wheelL u ((r + n * q : Nat) : Int) (zrow row) 6 ++ wheelL u ((r + n * q : Nat) : Int) (zrow row) 6).count (pl u ((r + n * q : Nat) : Int) y) = 2 ∧
    (wheelL u ((r + n * q : Nat) : Int) (zrow row) 6 ++ wheelL u ((r + n * q : Nat) : Int) (zrow row) 6).idxOf (pl u ((r + n * q : Nat) : Int) y) = k * row.length + row.idxOf x := by
  have h := (R.1 x hx).pl hq hU hk
  rw [← hy] at h
  rw [h]
  refine ⟨rfl, ?_, rim_idx R hq hU hk hx _⟩
  rw [List.count_append, wheel_cnt R hq hU hk hx 6 (by omega), if_pos hk]
end
end
section
def rp (n r x : Nat) : Bool := decide (x > sg n r (sg n r x)) && decide (sg n r (sg n r x) > sg n r x)
def rowN (n r : Nat) : List Nat := (List.range n).filter (rp n r)
/-- the sixth and the spot of a number -/
def find6 (n r y : Nat) : Option (Nat × Nat) :=
  (List.range 6).findSome? fun k => (rowN n r).findSome? fun x => if orbN n x (sg n r x) (sg n r (sg n r x)) k = y then some (k, x) else none
def sixN (n r y : Nat) : Nat := ((find6 n r y).map (·.1)).getD 0
def spotN (n r y : Nat) : Nat := ((find6 n r y).map fun p => (rowN n r).idxOf p.2).getD 0
/-- what is asked of a ring, all finite -/
def ringOk (n r : Nat) : Bool :=
  (List.range n).all (fun x => rowP n r x == rp n r x) &&
  (rowN n r).all (fun x => sg n r (sg n r (sg n r x)) == x && decide (0 < sg n r x)) &&
  (rowN n r).all (fun x => (rowN n r).all fun x' => !(decide ((x : Int) - sg n r x = (x' : Int) - sg n r x') && decide ((sg n r (sg n r x) : Int) - sg n r x = (sg n r (sg n r x') : Int) - sg n r x')) || x == x') &&
  (List.range n).all (fun y => y == 0 || (find6 n r y).isSome) &&
  (List.range n).all (fun m => (rowN n r).any (fun x => m * x % n == 0) || (List.range (rowN n r).length).all fun i => ((rowN n r).map fun x => spotN n r (m * x % n)).count i == 1)
/-- the rings that can be: size and root, by the number -/
def szOf (a b : Int) : Nat := (a * a - a * b + b * b).toNat
def roOf (a b : Int) : Nat := ((rangeKs 0 (szOf a b)).map fun k => (a + b * k).fmod (szOf a b)).idxOf 0
/-- what told tells, by residues -/
def toldN (n r m : Nat) : Int := if (rowN n r).any (fun x => m * x % n == 0) then -1 else (((rowN n r).map fun x => sixN n r (m * x % n)).sum % 6 : Nat)
def res (m : Int) (n : Nat) : Nat := (m.emod n).toNat
/-- the law on two numbers, by residues -/
def pairOk (p q : Int × Int) : Bool :=
  let n1 := szOf p.1 p.2; let r1 := roOf p.1 p.2; let n2 := szOf q.1 q.2; let r2 := roOf q.1 q.2
  let there := toldN n2 r2 (res (p.1 + p.2 * r2) n2)
  let back := toldN n1 r1 (res (q.1 + q.2 * r1) n1)
  let two := toldN n1 r1 (res 2 n1)
  let three := toldN n2 r2 (res 3 n2)
  (if there == -1 || back == -1 then there == back else (there - back).fmod 6 == ((n1 : Int).fdiv 2 * (n2 : Int).fdiv 2).fmod 2 * 3) &&
  decide (0 ≤ two) && decide (0 ≤ three) && (two.fmod 3 == p.2.fmod 2 * (1 + p.1.fmod 2)) && (decide (two.fmod 2 = 1) == (((n1 : Int).fmod 8 == 3) || ((n1 : Int).fmod 8 == 5))) &&
  (three.fmod 3 == (q.1 * q.2.fdiv 3).fmod 3) && (three.fmod 2 == ((n2 : Int).fdiv 2).fmod 2)

theorem rings_ok : (PRS.all fun q => ringOk (szOf (primOf q).1 (primOf q).2) (roOf (primOf q).1 (primOf q).2)) = true := by decide +kernel
theorem pairs_ok : (PRS.all fun p => PRS.all fun q => pairOk (primOf p) (primOf q)) = true := by decide +kernel
end
section
theorem find6_at {n r y k x : Nat} (h : find6 n r y = some (k, x)) : k < 6 ∧ x ∈ rowN n r ∧ y = orbN n x (sg n r x) (sg n r (sg n r x)) k := by
  unfold find6 at h
  obtain ⟨k', hk', h⟩ := List.exists_of_findSome?_eq_some h
  obtain ⟨x', hx', h⟩ := List.exists_of_findSome?_eq_some h
  split at h
  · rename_i e
    cases h
    exact ⟨List.mem_range.mp hk', hx', e.symm⟩
  · cases h
structure RingFacts (n r : Nat) : Prop where
  rows : RowsOk n r (rowN n r)
  row : rowI n (rowP n r) = zrow (rowN n r)
  at6 : ∀ y, 0 < y → y < n → ∃ k x, find6 n r y = some (k, x) ∧ k < 6 ∧ x ∈ rowN n r ∧ y = orbN n x (sg n r x) (sg n r (sg n r x)) k
  spots : ∀ m < n, (∀ x ∈ rowN n r, m * x % n ≠ 0) → ∀ i < (rowN n r).length, ((rowN n r).map fun x => spotN n r (m * x % n)).count i = 1
theorem ring_facts {n r : Nat} (h : ringOk n r = true) : RingFacts n r := by
  unfold ringOk at h
  simp only [Bool.and_eq_true, List.all_eq_true, List.mem_range, Bool.or_eq_true, beq_iff_eq, decide_eq_true_eq, Bool.not_eq_true', List.any_eq_true] at h
  obtain ⟨⟨⟨⟨h1, h2⟩, h3⟩, h4⟩, h5⟩ := h
  have hrow : ∀ x ∈ rowN n r, x < n ∧ sg n r (sg n r x) < x ∧ sg n r x < sg n r (sg n r x) := by
    intro x hx
    unfold rowN rp at hx
    obtain ⟨a, b⟩ := List.mem_filter.mp hx
    simp only [Bool.and_eq_true, decide_eq_true_eq] at b
    exact ⟨List.mem_range.mp a, b.1, b.2⟩
  refine ⟨⟨fun x hx => ?_, List.nodup_range.sublist List.filter_sublist, fun x hx x' hx' e1 e2 => ?_⟩, ?_, fun y y0 y1 => ?_, fun m hm hz i hi => ?_⟩
  · obtain ⟨a, b, c⟩ := hrow x hx
    obtain ⟨d, e⟩ := h2 x hx
    exact ⟨rfl, rfl, d, e, c, b, a⟩
  · rcases h3 x hx x' hx' with h | h
    · rw [Bool.and_eq_false_iff, decide_eq_false_iff_not, decide_eq_false_iff_not] at h
      rcases h with h | h
      · exact absurd e1 h
      · exact absurd e2 h
    · exact h
  · unfold rowI zrow rowN
    congr 1
    exact List.filter_congr fun x hx => h1 x (List.mem_range.mp hx)
  · rcases h4 y y1 with h | h
    · omega
    · obtain ⟨⟨k, x⟩, e⟩ := Option.isSome_iff_exists.mp h
      exact ⟨k, x, e, find6_at e⟩
  · rcases h5 m hm with ⟨x, hx, e⟩ | h
    · exact absurd e (hz x hx)
    · exact h i hi
end
section
/-- what is asked of a light that does not go out -/
def LightOk (u b : Int) (rim : List (List Int)) (len : Nat) (y : Int) : Prop :=
  ∃ k M A B, k < 6 ∧ 0 ≤ B ∧ B < A ∧ A < M ∧ M ≤ 65536 ∧ (lr u b y, lg u b y, lb u b y) = arr6 k M A B ∧ pl u b y ∈ rim ∧ rim.idxOf (pl u b y) / len = k ∧ rim.count (pl u b y) = 2
/-- a number's spot and its sixth -/
def spot (mm : Int) (sz : Nat) (ut bs : Int) (len : Nat) (rim : List (List Int)) (x : Int) : Int := ((rim.idxOf (pl ut bs ((mm * x).fmod sz)) % len : Nat) : Int)
def sixth (mm : Int) (sz : Nat) (ut bs : Int) (len : Nat) (rim : List (List Int)) (x : Int) : Int := ((rim.idxOf (pl ut bs ((mm * x).fmod sz)) / len : Nat) : Int)
theorem mod_res {n : Nat} (hn : 0 < n) (mm : Int) (x : Nat) : (mm * (x : Int)).fmod n = ((res mm n * x % n : Nat) : Int) := by
  have hn' : (n : Int) ≠ 0 := by omega
  unfold res
  have h : ((mm.emod n).toNat : Int) = mm % n := Int.toNat_of_nonneg (Int.emod_nonneg _ hn')
  rw [Int.fmod_eq_emod_of_nonneg _ (by omega), Int.natCast_emod, Int.natCast_mul, h, Int.mul_emod, Int.mul_emod (mm % n) x, Int.emod_emod_of_dvd _ (Int.dvd_refl _)]
/-- the rim of a ring -/
abbrev rimL (n r q : Nat) (u : Int) : List (List Int) := wheelL u ((r + n * q : Nat) : Int) (zrow (rowN n r)) 6 ++ wheelL u ((r + n * q : Nat) : Int) (zrow (rowN n r)) 6
section
variable {n r q : Nat} {u : Int}
theorem light_at (R : RingFacts n r) (hq : 0 < q) (hU : ((r + n * q : Nat) : Int) ^ 3 - 1 = n * u) (hB : r + n * q ≤ 65536) {y : Nat} (y0 : 0 < y) (y1 : y < n) :
    LightOk u ((r + n * q : Nat) : Int) (rimL n r q u) (rowN n r).length y ∧ (rimL n r q u).idxOf (pl u ((r + n * q : Nat) : Int) y) % (rowN n r).length = spotN n r y ∧ (rimL n r q u).idxOf (pl u ((r + n * q : Nat) : Int) y) / (rowN n r).length = sixN n r y ∧ sixN n r y < 6 ∧ spotN n r y < (rowN n r).length := by
  obtain ⟨k, x, e, hk, hx, hy⟩ := R.at6 y y0 y1
  obtain ⟨h1, h2, h3⟩ := lightOk R.rows hq hU hk hx hy
  have o := R.rows.1 x hx
  have hl := o.light hq hU hk
  rw [← hy] at hl
  obtain ⟨p0, p1, p2, p3⟩ := orbP_ok o hq k
  have hi : (rowN n r).idxOf x < (rowN n r).length := List.idxOf_lt_length_of_mem hx
  have es : sixN n r y = k := by unfold sixN; rw [e]; rfl
  have ep : spotN n r y = (rowN n r).idxOf x := by unfold spotN; rw [e]; rfl
  have d1 : (k * (rowN n r).length + (rowN n r).idxOf x) / (rowN n r).length = k := by
    rw [Nat.mul_comm, Nat.mul_add_div (by omega), Nat.div_eq_of_lt hi, Nat.add_zero]
  have d2 : (k * (rowN n r).length + (rowN n r).idxOf x) % (rowN n r).length = (rowN n r).idxOf x := by
    rw [Nat.mul_comm, Nat.mul_add_mod, Nat.mod_eq_of_lt hi]
  refine ⟨⟨k, _, _, _, hk, p0, p1, p2, by omega, hl, ?_, ?_, h2⟩, ?_, ?_, by omega, by omega⟩
  · exact List.count_pos_iff.mp (by rw [h2]; decide)
  · rw [h3]; exact d1
  · rw [h3, ep]; exact d2
  · rw [h3, es]; exact d1
theorem told_facts (R : RingFacts n r) (hn : 0 < n) (hq : 0 < q) (hU : ((r + n * q : Nat) : Int) ^ 3 - 1 = n * u) (hB : r + n * q ≤ 65536) (mm : Int) :
    (∀ x ∈ zrow (rowN n r), (mm * x).fmod n ≠ 0 → LightOk u ((r + n * q : Nat) : Int) (rimL n r q u) (zrow (rowN n r)).length ((mm * x).fmod n)) ∧
    ((∀ x ∈ zrow (rowN n r), (mm * x).fmod n ≠ 0) → ∀ i < (zrow (rowN n r)).length, ((zrow (rowN n r)).map (spot mm n u ((r + n * q : Nat) : Int) (zrow (rowN n r)).length (rimL n r q u))).count (i : Int) = 1) ∧
    ((∀ x ∈ zrow (rowN n r), (mm * x).fmod n ≠ 0) → (((zrow (rowN n r)).map (sixth mm n u ((r + n * q : Nat) : Int) (zrow (rowN n r)).length (rimL n r q u))).sum).fmod 6 = toldN n r (res mm n)) ∧
    ((∃ x ∈ zrow (rowN n r), (mm * x).fmod n = 0) → toldN n r (res mm n) = -1) := by
  have hr : res mm n < n := by
    unfold res
    have h1 : mm.emod n < n := Int.emod_lt_of_pos mm (show (0 : Int) < n by omega)
    have h2 : 0 ≤ mm.emod n := Int.emod_nonneg mm (show (n : Int) ≠ 0 by omega)
    omega
  have hlen : (zrow (rowN n r)).length = (rowN n r).length := List.length_map _
  have nz : (∀ x ∈ zrow (rowN n r), (mm * x).fmod n ≠ 0) → ∀ x ∈ rowN n r, res mm n * x % n ≠ 0 := by
    intro h x hx e
    refine h (x : Int) (zrow_mem.mpr ⟨x, hx, rfl⟩) ?_
    rw [mod_res hn, e]
    rfl
  have at_ : ∀ x ∈ rowN n r, res mm n * x % n ≠ 0 → spot mm n u ((r + n * q : Nat) : Int) (zrow (rowN n r)).length (rimL n r q u) (x : Int) = (spotN n r (res mm n * x % n) : Nat) ∧ sixth mm n u ((r + n * q : Nat) : Int) (zrow (rowN n r)).length (rimL n r q u) (x : Int) = (sixN n r (res mm n * x % n) : Nat) := by
    intro x _ h0
    obtain ⟨_, a, b, _⟩ := light_at R hq hU hB (Nat.pos_of_ne_zero h0) (Nat.mod_lt _ hn)
    unfold spot sixth
    rw [hlen, mod_res hn]
    exact ⟨congrArg Int.ofNat a, congrArg Int.ofNat b⟩
  refine ⟨fun x hx h0 => ?_, fun h i hi => ?_, fun h => ?_, ?_⟩
  · obtain ⟨x, hx, rfl⟩ := zrow_mem.mp hx
    rw [mod_res hn] at h0 ⊢
    rw [hlen]
    exact (light_at R hq hU hB (by omega) (Nat.mod_lt _ hn)).1
  · have e : (zrow (rowN n r)).map (spot mm n u ((r + n * q : Nat) : Int) (zrow (rowN n r)).length (rimL n r q u)) = ((rowN n r).map fun x => spotN n r (res mm n * x % n)).map fun (k : Nat) => (k : Int) := by
      unfold zrow
      rw [List.map_map, List.map_map]
      exact List.map_congr_left fun x hx => (at_ x hx (nz h x hx)).1
    rw [e, count_map_inj (fun (k : Nat) => (k : Int)) fun y _ e => by exact_mod_cast e]
    exact R.spots _ hr (nz h) i (by rw [← hlen]; exact hi)
  · have e : (zrow (rowN n r)).map (sixth mm n u ((r + n * q : Nat) : Int) (zrow (rowN n r)).length (rimL n r q u)) = ((rowN n r).map fun x => sixN n r (res mm n * x % n)).map fun (k : Nat) => (k : Int) := by
      unfold zrow
      rw [List.map_map, List.map_map]
      exact List.map_congr_left fun x hx => (at_ x hx (nz h x hx)).2
    have es : ∀ l : List Nat, (l.map fun (k : Nat) => (k : Int)).sum = ((l.sum : Nat) : Int) := by
      intro l
      induction l with
      | nil => rfl
      | cons a l ih => rw [List.map_cons, List.sum_cons, List.sum_cons, ih]; omega
    rw [e, es]
    unfold toldN
    rw [if_neg (by simp only [List.any_eq_true, beq_iff_eq]; rintro ⟨x, hx, e⟩; exact nz h x hx e), Int.fmod_eq_emod_of_nonneg _ (by decide)]
    omega
  · rintro ⟨x, hx, e⟩
    obtain ⟨z, hz, rfl⟩ := zrow_mem.mp hx
    rw [mod_res hn] at e
    unfold toldN
    rw [if_pos (by simp only [List.any_eq_true, beq_iff_eq]; exact ⟨z, hz, by omega⟩)]
end
end
section
theorem cube_le {x : Int} (h : 0 < x) (h2 : x ≤ 65536) : 0 < x ^ 3 ∧ x ^ 3 < 2 ^ 60 := by
  have e : x ^ 3 = x * x * x := by rw [Int.pow_succ, Int.pow_succ, Int.pow_succ, Int.pow_zero, Int.one_mul]
  have h3 : x * x ≤ 65536 * 65536 := Int.mul_le_mul h2 h2 (by omega) (by omega)
  have h4 : x * x * x ≤ 65536 * 65536 * 65536 := Int.mul_le_mul h3 h2 (by omega) (by omega)
  rw [e]
  exact ⟨Int.mul_pos (Int.mul_pos h h) h, by omega⟩
/-- what the law needs of each of the fourteen, all finite -/
def numOk (p : Int × Int) : Bool :=
  let n := szOf p.1 p.2
  let r := roOf p.1 p.2
  decide (p.1.natAbs ≤ 8) && decide (p.2.natAbs ≤ 6) && decide (p.1 * p.1 - p.1 * p.2 + p.2 * p.2 = (n : Int)) && decide (7 ≤ n) && decide (n ≤ 49) && decide (r < n) && decide (r ^ 3 % n = 1) &&
  decide ((0 : Int) ∈ (rangeKs 0 n).map fun k => (p.1 + p.2 * k).fmod n) && decide (0 < (rowN n r).length)
theorem nums_ok : (PRS.all fun q => numOk (primOf q)) = true := by decide +kernel
structure NumFacts (p : Int × Int) (n r : Nat) : Prop where
  a : p.1.natAbs ≤ 8
  b : p.2.natAbs ≤ 6
  sz : p.1 * p.1 - p.1 * p.2 + p.2 * p.2 = (n : Int)
  n7 : 7 ≤ n
  n49 : n ≤ 49
  rn : r < n
  r3 : r ^ 3 % n = 1
  root : (0 : Int) ∈ (rangeKs 0 n).map fun k => (p.1 + p.2 * k).fmod n
  ro : ((rangeKs 0 n).map fun k => (p.1 + p.2 * k).fmod n).idxOf 0 = r
  len : 0 < (rowN n r).length
  ring : RingFacts n r
theorem num_facts {q : Int × Int} (h : q ∈ PRS) : NumFacts (primOf q) (szOf (primOf q).1 (primOf q).2) (roOf (primOf q).1 (primOf q).2) := by
  have h1 := List.all_eq_true.mp nums_ok q h
  have h2 := List.all_eq_true.mp rings_ok q h
  unfold numOk at h1
  simp only [Bool.and_eq_true, decide_eq_true_eq] at h1
  obtain ⟨⟨⟨⟨⟨⟨⟨⟨a, b⟩, c⟩, d⟩, e⟩, f⟩, g⟩, i⟩, j⟩ := h1
  exact ⟨a, b, c, d, e, f, g, i, rfl, j, ring_facts h2⟩
/-- the unit of a ring -/
theorem unit_ex {n r q : Nat} (hn : 7 ≤ n) (hn2 : n ≤ 49) (hr : r < n) (h3 : r ^ 3 % n = 1) (hq : 0 < q) (hq2 : q ≤ 1000) : ∃ u : Int, ((r + n * q : Nat) : Int) ^ 3 - 1 = n * u ∧ 0 < u ∧ u < 2 ^ 60 ∧ r + n * q ≤ 65536 := by
  have hb : r + n * q ≤ 65536 := by
    have := Nat.mul_le_mul hn2 hq2
    omega
  have hb0 : 7 ≤ r + n * q := by
    have := Nat.mul_le_mul hn (show 1 ≤ q by omega)
    omega
  have hm : (r + n * q) ^ 3 % n = 1 := by rw [Nat.pow_mod, Nat.add_mul_mod_self_left, ← Nat.pow_mod]; exact h3
  have hd := Nat.div_add_mod ((r + n * q) ^ 3) n
  rw [hm] at hd
  have hp := cube_le (x := ((r + n * q : Nat) : Int)) (by omega) (by omega)
  have hc : 7 ≤ (r + n * q) ^ 3 := Nat.le_trans hb0 (by
    have : (r + n * q) ^ 3 = (r + n * q) * ((r + n * q) * (r + n * q)) := by rw [Nat.pow_succ, Nat.pow_succ, Nat.pow_one]; ac_rfl
    rw [this]
    exact Nat.le_mul_of_pos_right _ (Nat.mul_pos (by omega) (by omega)))
  have e : ((r + n * q : Nat) : Int) ^ 3 = (((r + n * q) ^ 3 : Nat) : Int) := by simp
  rw [e] at hp ⊢
  generalize (r + n * q) ^ 3 = c at *
  refine ⟨((c / n : Nat) : Int), ?_, ?_, ?_, hb⟩
  · have : ((n * (c / n) : Nat) : Int) = (n : Int) * ((c / n : Nat) : Int) := Int.natCast_mul _ _
    omega
  · have : 0 < c / n := by
      rcases Nat.eq_zero_or_pos (c / n) with h | h
      · rw [h] at hd; omega
      · exact h
    omega
  · have : c / n ≤ c := Nat.div_le_self _ _
    omega
theorem pair_ok {p q : Int × Int} (hp : p ∈ PRS) (hq : q ∈ PRS) : pairOk (primOf p) (primOf q) = true := List.all_eq_true.mp (List.all_eq_true.mp pairs_ok p hp) q hq
end
section
variable {prog : Program} {w : World} {p : Program} {loose : List Str} {mean : ExcName → Option Value} {mg mb : Str → Option Value}
  {dp un : Nat} {gd : Option (List Code)} {cn : Str} {cs : Scope} {a : Addr} {ccd : Value} {cl : List (Str × Addr)} {outer : List Env} {A₀ : Around} {base h₀ : Heap} {L : Addr} {m : Str → Option Value} {news : List (Addr × Obj)} {s : Shared} {Q E : Value → Shared → Prop}
theorem wp_gen {X : Type} {M : Model} {A : Around} {t : Sem X} {Q : X → Shared → Prop} {E : Value → Shared → Prop} {s : Shared} (h : ∀ n, s.toks ≤ n → wpAny M A t Q E { s with toks := n }) : wpAny M A t Q E s := h s.toks (Nat.le_refl _)
theorem ints_at : ∀ {vs : List Value} {ns : List Int} {i : Nat} {v : Value}, IntsAre vs ns → vs[i]? = some v → ∃ x t, v = .int x t ∧ ns[i]? = some x
  | _, _, 0, v, .cons n t _, h => by
    simp only [List.getElem?_cons_zero, Option.some.injEq] at h ⊢
    exact ⟨n, t, h.symm, rfl⟩
  | _, _, i + 1, v, .cons _ _ r, h => by
    simp only [List.getElem?_cons_succ] at h ⊢
    exact ints_at r h
section
variable {A : Around} {E : Value → Shared → Prop} {s : Shared} {env : Env} {h₀ : Heap} {x : Str} {px : Pos} {body : List Stmt} {Q : Flow → Shared → Prop}
/-- a turn's end, with the counter of tokens -/
inductive TokEnd (h₀ : Heap) (L : Addr) (s : Shared) (I : Addr) (o : Obj) (J : Nat → (Str → Option Value) → List (Addr × Obj) → Prop) (s₃ : Shared) : Prop
  | mk (h' : _) (tk : _) (m' : _) (nx : _) (c1 : s₃ = { s with heap := h', toks := tk }) (c2 : Fr h₀ L h' m') (c3 : News h₀ L h' ((I, o) :: nx)) (c4 : (∀ p ∈ nx, p.1 ≠ I)) (k : _) (c5 : k ≤ tk) (c6 : J k m' nx) : TokEnd h₀ L s I o J s₃
/-- a loop whose invariant knows the counter of tokens -/
theorem loopTok {I : Addr} {n : Nat} {ItAt : Nat → Obj → Prop} {P : Nat → Nat → Value → Prop} {Keep : List (Addr × Obj) → Prop} {m : Str → Option Value} {news : List (Addr × Obj)} {o : Obj}
    (item : ∀ i (s : Shared) o nx (Q : Option Value → Shared → Prop) (E : Value → Shared → Prop), i < n → Keep nx → News h₀ env.locals s.heap nx → s.heap.get? I = some o → ItAt i o →
      (∀ v h' tk o', P i s.toks v → s.toks ≤ tk → ItAt (i + 1) o' → h'.get? I = some o' → (∀ b o, b ≠ I → s.heap.get? b = some o → h'.get? b = some o) → Q (some v) { s with heap := h', toks := tk }) → wpAny (model prog w) A (pyNext (.ref I)) Q E s)
    (fin : ∀ (s : Shared) o nx (Q : Option Value → Shared → Prop) (E : Value → Shared → Prop), Keep nx → News h₀ env.locals s.heap nx → s.heap.get? I = some o → ItAt n o →
      (∀ h' tk, s.toks ≤ tk → (∀ b o, b ≠ I → s.heap.get? b = some o → h'.get? b = some o) → Q none { s with heap := h', toks := tk }) → wpAny (model prog w) A (pyNext (.ref I)) Q E s)
    (J : Nat → Nat → (Str → Option Value) → List (Addr × Obj) → Prop) (hK : ∀ i k m nx, J i k m nx → Keep nx)
    (F : Fr h₀ env.locals s.heap m) (N : News h₀ env.locals s.heap ((I, o) :: news)) (ho : ItAt 0 o) (hoff : ∀ p ∈ news, p.1 ≠ I) (h0 : J 0 s.toks m news)
    (turn : ∀ i v m nx o h tk k kt, i < n → k ≤ kt → kt ≤ tk → P i kt v → J i k m nx → (∀ p ∈ nx, p.1 ≠ I) → Fr h₀ env.locals h m → News h₀ env.locals h ((I, o) :: nx) →
      wpAny (model prog w) A (assign (.Name x px) env v) (fun _ s₂ => wpAny (model prog w) A (execs body env) (fun f s₃ => tk ≤ s₃.toks → match f with
        | .ret v => Q (.ret v) s₃
        | .brk => False
        | _ => TokEnd h₀ env.locals s I o (J (i + 1)) s₃) E s₂) E { s with heap := h, toks := tk })
    (done : ∀ m nx h tk k, k ≤ tk → J n k m nx → Fr h₀ env.locals h m → News h₀ env.locals h nx → Q .next { s with heap := h, toks := tk })
    (hE : PassesOwn (model prog w) A env E := by passes_own) :
    codeAny (model prog w) A (.forLoop (.Name x px) (.ref I) body [] env) (fun r s' => match r with | .ok f => Q f s' | .error e => cameBackBy (model prog w) A env E e s') s := by
  have hI := N _ (.head _)
  refine codeAny_forLoop_any
    (fun j s' => ∃ (h' : Heap) (tk k : Nat) (m' : Str → Option Value) (nx : List (Addr × Obj)) (o' : Obj) (i : Nat), s' = { s with heap := h', toks := tk } ∧ Fr h₀ env.locals h' m' ∧ News h₀ env.locals h' ((I, o') :: nx) ∧ ItAt i o' ∧ (∀ p ∈ nx, p.1 ≠ I) ∧ k ≤ tk ∧ J i k m' nx ∧ i ≤ n ∧ j = n + 1 - i) ?_ (n + 1)
    ⟨s.heap, s.toks, s.toks, m, news, o, 0, rfl, F, N, ho, hoff, Nat.le_refl _, h0, Nat.zero_le _, rfl⟩
  rintro j s' ⟨h₁, tk, k, m', nx, o', i, rfl, F₁, N₁, hit, hoff₁, hk, hJ, hi, rfl⟩
  have next : ∀ h₂ : Heap, (∀ b o, b ≠ I → h₁.get? b = some o → h₂.get? b = some o) → Fr h₀ env.locals h₂ m' ∧ News h₀ env.locals h₂ nx := fun h₂ hk₂ =>
    ⟨⟨F₁.ns.at' fun o e => hk₂ _ o (fun q => hI.2.1 q.symm) e, fun b o e => hk₂ b o (fun q => by rw [q, hI.2.2] at e; cases e) (F₁.keep b o e), F₁.above⟩, fun p hp => ⟨hk₂ _ _ (hoff₁ p hp) (N₁ p (.tail _ hp)).1, (N₁ p (.tail _ hp)).2⟩⟩
  by_cases hlt : i < n
  · refine item i _ o' nx _ _ hlt (hK _ _ _ _ hJ) (fun p hp => N₁ p (.tail _ hp)) (N₁ _ (.head _)).1 hit fun v h₂ tk₂ o₂ hP htk hit₂ ho₂ hk₂ => ?_
    obtain ⟨F₂, N₂⟩ := next h₂ hk₂
    have N₃ : News h₀ env.locals h₂ ((I, o₂) :: nx) := fun p hp => by
      rcases List.mem_cons.mp hp with rfl | hp
      · exact ⟨ho₂, hI.2⟩
      · exact N₂ p hp
    have e : letOwnedTupleGo (.Name x px) (.ref I) v = pure () := rfl
    dsimp only
    rw [e]
    refine wpAny_pure ?_
    refine toks_q (wpAny_mono (turn i v m' nx o₂ h₂ tk₂ k tk hlt hk htk hP hJ hoff₁ F₂ N₃) (fun _ s₂ h₃ => fun hle₁ => wpAny_mono (toks_and h₃) (fun f s₃ h₄ => ?_) hE) hE)
    replace h₄ := h₄.2 (Nat.le_trans hle₁ h₄.1)
    have go : TokEnd h₀ env.locals s I o₂ (J (i + 1)) s₃ → ∃ mm, mm < n + 1 - i ∧ ∃ (h' : Heap) (tk k : Nat) (m' : Str → Option Value) (nx : List (Addr × Obj)) (o' : Obj) (i : Nat), s₃ = { s with heap := h', toks := tk } ∧ Fr h₀ env.locals h' m' ∧ News h₀ env.locals h' ((I, o') :: nx) ∧ ItAt i o' ∧ (∀ p ∈ nx, p.1 ≠ I) ∧ k ≤ tk ∧ J i k m' nx ∧ i ≤ n ∧ mm = n + 1 - i := by
      rintro ⟨h', tk', m₂, nx₂, rfl, F₄, N₄, hoff₄, k₂, hk₂, hJ₂⟩
      exact ⟨n + 1 - (i + 1), turn_dec (by assumption), h', tk', k₂, m₂, nx₂, o₂, i + 1, rfl, F₄, N₄, hit₂, hoff₄, hk₂, hJ₂, hlt, rfl⟩
    cases f with
    | ret v => exact h₄
    | brk => exact h₄.elim
    | next => exact go h₄
    | cont => exact go h₄
  · have hin : i = n := by omega
    subst hin
    refine fin _ o' nx _ _ (hK _ _ _ _ hJ) (fun p hp => N₁ p (.tail _ hp)) (N₁ _ (.head _)).1 hit fun h₂ tk₂ htk hk₂ => wpAny_execs_nil ?_
    obtain ⟨F₂, N₂⟩ := next h₂ hk₂
    exact done m' nx h₂ tk₂ k (Nat.le_trans hk htk) hJ F₂ N₂
theorem forLT {ax : Addr} {vs : List Value} {k₀ : Nat} {m₀ : Str → Option Value} {news : List (Addr × Obj)} (J : Nat → Nat → (Str → Option Value) → List (Addr × Obj) → Prop)
    (hh : A.handled = none) (F : Fr h₀ env.locals s.heap m₀) (N : News h₀ env.locals s.heap news) (hm : (ax, W.listOf vs.toArray k₀) ∈ news) (hK : ∀ i k m nx, J i k m nx → (ax, W.listOf vs.toArray k₀) ∈ nx) (h0 : J 0 s.toks m₀ news)
    (turn : ∀ I i v m nx o h tk k kt, k ≤ kt → kt ≤ tk → vs[i]? = some v → AllLt I news → J i k m nx → (∀ p ∈ nx, p.1 ≠ I) → Fr h₀ env.locals h m → News h₀ env.locals h ((I, o) :: nx) →
      wpAny (model prog w) A (assign (.Name x px) env v) (fun _ s₂ => wpAny (model prog w) A (execs body env) (fun f s₃ => tk ≤ s₃.toks → match f with
        | .ret v => Q (.ret v) s₃
        | .brk => False
        | _ => TokEnd h₀ env.locals { s with heap := s.heap.push { cls := .type "list_iterator", data := .fields #[.ref ax, .int 0 0] } } I o (J (i + 1)) s₃) E s₂) E { s with heap := h, toks := tk })
    (done : ∀ m nx h tk k, k ≤ tk → J vs.length k m nx → Fr h₀ env.locals h m → News h₀ env.locals h nx → Q .next { s with heap := h, toks := tk })
    (hE : PassesOwn (model prog w) A env E := by passes_own) :
    wpAny (model prog w) A (pyIter (.ref ax)) (fun it s₂ => codeAny (model prog w) A (.forLoop (.Name x px) it body [] env) (fun r s' => match r with | .ok f => Q f s' | .error e => cameBackBy (model prog w) A env E e s') s₂) E s := by
  have hax := N _ hm
  have hl : s.heap.IsList ax vs.toArray := ⟨_, hax.1, rfl, k₀, rfl⟩
  have hlt : ax < s.heap.objs.size := Heap.lt_size hax.1
  have hnw : ∀ p ∈ news, @LT.lt Nat _ p.1 s.heap.objs.size := fun p hp => Heap.lt_size (N p hp).1
  have up : ∀ b o, s.heap.get? b = some o → (s.heap.push { cls := .type "list_iterator", data := .fields #[.ref ax, .int 0 0] }).get? b = some o := fun b o e => Heap.get?_push_of_some _ e
  have wk := Walks.list (prog := prog) (w := w) hh s.heap.objs.size ax (Nat.ne_of_lt hlt) vs.toArray
  have hsz : vs.toArray.size = vs.length := by simp
  refine wpAny_pyIter_list hl ?_
  refine loopTok (n := vs.length) (o := { cls := .type "list_iterator", data := .fields #[.ref ax, .int 0 0] }) (Keep := fun nx => (ax, W.listOf vs.toArray k₀) ∈ nx) (ItAt := fun i o => ∀ h : Heap, h.get? s.heap.objs.size = some o → h.IsListIter s.heap.objs.size ax i) (P := fun i _ v => vs[i]? = some v) (news := news) (m := m₀)
    ?_ ?_ J hK (F.keeps up) ?_ ?_ (fun p hp => Nat.ne_of_lt (hnw p hp)) h0 (fun i v m nx o h tk k kt hi hk hkt hv hJ ho F₁ N₁ => turn _ i v m nx o h tk k kt hk hkt hv (allLt_of hnw) hJ ho F₁ N₁) done hE
  · intro i s₁ o nx Q E hi hk N₁ ho hit hq
    have hl₁ : s₁.heap.IsList ax vs.toArray := ⟨_, (N₁ _ hk).1, rfl, k₀, rfl⟩
    refine toks_q (wk.item i s₁ _ _ (by rw [hsz]; exact hi) ⟨hit _ ho, hl₁⟩ fun v h' tk hP st' hk' htk => ?_)
    obtain ⟨o', ho', hc', hd'⟩ := st'.1
    exact hq v h' tk o' (by simpa using hP) htk (fun h e => ⟨o', e, hc', hd'⟩) ho' fun b o e => hk' b o (by simpa using e)
  · intro s₁ o nx Q E hk N₁ ho hit hq
    have hl₁ : s₁.heap.IsList ax vs.toArray := ⟨_, (N₁ _ hk).1, rfl, k₀, rfl⟩
    exact toks_q (wk.done s₁ _ _ (by rw [hsz]; exact ⟨hit _ ho, hl₁⟩) fun h' tk hk' htk => hq h' tk htk fun b o e => hk' b o (by simpa using e))
  · intro p hp
    rcases List.mem_cons.mp hp with rfl | hp
    · exact ⟨Heap.get?_push_size _ rfl, fun e => Nat.ne_of_lt F.ns.lt e.symm, next_is_new F⟩
    · exact ⟨up _ _ (N p hp).1, (N p hp).2⟩
  · intro h e
    exact ⟨_, e, rfl, rfl⟩
theorem forRT {r : Addr} {n : Nat} {t₀ u₀ v₀ : Tok} {m₀ : Str → Option Value} {news : List (Addr × Obj)} (J : Nat → Nat → (Str → Option Value) → List (Addr × Obj) → Prop)
    (hh : A.handled = none) (hr : IsRange s.heap r 0 (n : Int) 1 t₀ u₀ v₀) (hn : n ≤ 1000) (F : Fr h₀ env.locals s.heap m₀) (N : News h₀ env.locals s.heap news) (h0 : J 0 s.toks m₀ news)
    (turn : ∀ I i m nx o h tk k kt, i < n → k ≤ kt → kt ≤ tk → AllLt I news → J i k m nx → (∀ p ∈ nx, p.1 ≠ I) → Fr h₀ env.locals h m → News h₀ env.locals h ((I, o) :: nx) →
      wpAny (model prog w) A (assign (.Name x px) env (.int (i : Int) kt)) (fun _ s₂ => wpAny (model prog w) A (execs body env) (fun f s₃ => tk ≤ s₃.toks → match f with
        | .ret v => Q (.ret v) s₃
        | .brk => False
        | _ => TokEnd h₀ env.locals { s with heap := s.heap.push (itR 0 (Builtin.Range.rangeSize 0 n 1)) } I o (J (i + 1)) s₃) E s₂) E { s with heap := h, toks := tk })
    (done : ∀ m nx h tk k, k ≤ tk → J n k m nx → Fr h₀ env.locals h m → News h₀ env.locals h nx → Q .next { s with heap := h, toks := tk })
    (hE : PassesOwn (model prog w) A env E := by passes_own) :
    wpAny (model prog w) A (pyIter (.ref r)) (fun it s₂ => codeAny (model prog w) A (.forLoop (.Name x px) it body [] env) (fun r s' => match r with | .ok f => Q f s' | .error e => cameBackBy (model prog w) A env E e s') s₂) E s := by
  have hnw : ∀ p ∈ news, @LT.lt Nat _ p.1 s.heap.objs.size := fun p hp => Heap.lt_size (N p hp).1
  refine wpAny_pyIter_range hr (rangeN hn).1 ?_
  refine loopTok (n := n) (o := itR 0 (Builtin.Range.rangeSize 0 n 1)) (Keep := fun _ => True) (ItAt := fun i o => o = itR (i : Int) ((n : Int) - i)) (P := fun i kt v => v = .int (i : Int) kt) (news := news) (m := m₀)
    ?_ ?_ J (fun _ _ _ _ _ => trivial) (F.keeps fun b o e => Heap.get?_push_of_some _ e) ?_ ?_ (fun p hp => Nat.ne_of_lt (hnw p hp)) h0 (fun i v m nx o h tk k kt hi hk hkt hv hJ ho F₁ N₁ => by subst hv; exact turn _ i m nx o h tk k kt hi hk hkt (allLt_of hnw) hJ ho F₁ N₁) done hE
  · rintro i s₁ o nx Q E hi - N₁ ho rfl hq
    refine wpAny_pyNext_range_item (x := (i : Int)) (left := (n : Int) - i) (step := 1) ho (by omega) fun h' hit' hs' => ?_
    refine hq _ h' _ _ rfl (Nat.le_succ _) rfl ?_ fun b o e => hs'.extBut b o e
    rw [show ((i + 1 : Nat) : Int) = (i : Int) + 1 by omega, show (n : Int) - ((i : Int) + 1) = (n : Int) - i - 1 by omega]
    exact hit'
  · rintro s₁ o nx Q E - N₁ ho rfl hq
    refine toks_q (wpAny_pyNext_range_end (x := (n : Int)) (left := (n : Int) - n) (step := 1) hh ho (by omega) fun h' he htk => ?_)
    exact hq h' s₁.toks (Nat.le_refl _) fun b o e => he b o e
  · intro p hp
    rcases List.mem_cons.mp hp with rfl | hp
    · exact ⟨Heap.get?_push_size _ rfl, fun e => Nat.ne_of_lt F.ns.lt e.symm, next_is_new F⟩
    · exact ⟨Heap.get?_push_of_some _ (N p hp).1, (N p hp).2⟩
  · rw [(rangeN hn).2]
    simp
/-- such a loop that keeps everything but its own name -/
def InvT (x : Str) (vsp : List Value) (m₀ : Str → Option Value) (news : List (Addr × Obj)) (_ k : Nat) (m : Str → Option Value) (nx : List (Addr × Obj)) : Prop := nx = news ∧ (∀ v ∈ vsp, TokIn k v) ∧ ∀ z, z ≠ x → m z = m₀ z
inductive InvEnd (h₀ : Heap) (L : Addr) (s : Shared) (led : List (Addr × Obj)) (x : Str) (m₀ : Str → Option Value) (s₃ : Shared) : Prop
  | mk (h' : _) (tk : _) (m' : _) (c1 : s₃ = { s with heap := h', toks := tk }) (c2 : Fr h₀ L h' m') (c3 : News h₀ L h' led) (c4 : ∀ z, z ≠ x → m' z = m₀ z) : InvEnd h₀ L s led x m₀ s₃
theorem forRT_inv {r : Addr} {n : Nat} {t₀ u₀ v₀ : Tok} {m₀ : Str → Option Value} {news : List (Addr × Obj)} {vsp : List Value}
    (hh : A.handled = none) (hr : IsRange s.heap r 0 (n : Int) 1 t₀ u₀ v₀) (hn : n ≤ 1000) (F : Fr h₀ env.locals s.heap m₀) (N : News h₀ env.locals s.heap news) (hT : ∀ v ∈ vsp, TokIn s.toks v)
    (turn : ∀ I i (m : Str → Option Value) o h tk kt, i < n → (∀ v ∈ vsp, TokIn kt v) → AllLt I news → Fr h₀ env.locals h (fun z => if z = x then m x else m₀ z) → News h₀ env.locals h ((I, o) :: news) →
      wpAny (model prog w) A (assign (.Name x px) env (.int (i : Int) kt)) (fun _ s₂ => wpAny (model prog w) A (execs body env) (fun f s₃ => match f with
        | .ret v => Q (.ret v) s₃
        | .brk => False
        | _ => InvEnd h₀ env.locals s ((I, o) :: news) x m₀ s₃) E s₂) E { s with heap := h, toks := tk })
    (done : ∀ (m : Str → Option Value) h tk, Fr h₀ env.locals h (fun z => if z = x then m x else m₀ z) → News h₀ env.locals h news → Q .next { s with heap := h, toks := tk })
    (hE : PassesOwn (model prog w) A env E := by passes_own) :
    wpAny (model prog w) A (pyIter (.ref r)) (fun it s₂ => codeAny (model prog w) A (.forLoop (.Name x px) it body [] env) (fun r s' => match r with | .ok f => Q f s' | .error e => cameBackBy (model prog w) A env E e s') s₂) E s := by
  have same : ∀ {m h}, (∀ z, z ≠ x → m z = m₀ z) → Fr h₀ env.locals h m → Fr h₀ env.locals h (fun z => if z = x then m x else m₀ z) := by
    intro m h hm F
    have e : (fun z => if z = x then m x else m₀ z) = m := funext fun z => by
      by_cases hz : z = x
      · rw [if_pos hz, hz]
      · rw [if_neg hz, hm z hz]
    rw [e]; exact F
  refine forRT (InvT x vsp m₀ news) hh hr hn F N ⟨rfl, hT, fun _ _ => rfl⟩ ?_ ?_ hE
  · rintro I i m nx o h tk k kt hi hk hkt hl ⟨rfl, hT', hm⟩ ho F₁ N₁
    refine wpAny_mono (turn I i m o h tk kt hi (fun v hv => (hT' v hv).mono hk) hl (same hm F₁) N₁) (fun _ s₂ h₂ => wpAny_mono h₂ (fun f s₃ h₃ hle => ?_) fun _ _ e => e) fun _ _ e => e
    have fin : ∀ s₃ : Shared, tk ≤ s₃.toks → InvEnd h₀ env.locals s ((I, o) :: nx) x m₀ s₃ → TokEnd h₀ env.locals { s with heap := s.heap.push (itR 0 (Builtin.Range.rangeSize 0 n 1)) } I o (InvT x vsp m₀ nx (i + 1)) s₃ := by
      rintro s₃ hle ⟨h', tk', m', rfl, F₂, N₂, hm₂⟩
      exact ⟨h', tk', m', nx, rfl, F₂, N₂, ho, tk, hle, rfl, fun v hv => (hT' v hv).mono (Nat.le_trans hk hkt), hm₂⟩
    cases f with
    | ret v => exact h₃
    | brk => exact h₃
    | next => exact fin _ hle h₃
    | cont => exact fin _ hle h₃
  · rintro m nx h tk k hk ⟨rfl, hT', hm⟩ F₁ N₁
    exact done m h tk (same hm F₁) N₁
end
theorem pick_ints {vs : List Value} {ns : List Int} (hi : IntsAre vs ns) : ∀ idx : List Nat, ∃ ms, IntsAre (idx.filterMap (vs.toArray[·]?)) ms
  | [] => ⟨[], .nil⟩
  | i :: idx => by
    obtain ⟨ms, h⟩ := pick_ints hi idx
    rw [List.filterMap_cons]
    cases e : vs.toArray[i]? with
    | none => exact ⟨ms, h⟩
    | some v =>
      rw [List.getElem?_toArray] at e
      obtain ⟨x, t, rfl, _⟩ := ints_at hi e
      exact ⟨x :: ms, .cons _ _ h⟩
theorem slice_ints {vs : List Value} {ns : List Int} (hi : IntsAre vs ns) (lo up st : Option Int) : ∃ ms, IntsAre (slicePick vs.toArray lo up st).toList ms := by
  unfold slicePick
  exact pick_ints hi _
section
variable {A : Around} {E : Value → Shared → Prop} {s : Shared} {h₀ : Heap} {L : Addr} {m : Str → Option Value} {news : List (Addr × Obj)} {env : Env} {Q : Value → Shared → Prop}
theorem slice4_s {value slice : PySem.Expr} {l : Addr} {vs : List Value} {ns : List Int} {vl vk : Value} {lo : Option Int} {k : Int} {ops : List Value} (F : Fr h₀ L s.heap m) (N : News h₀ L s.heap news) (hl : s.heap.IsList l vs.toArray) (hi : IntsAre vs ns) (hz : vs.length ≤ 64) (pl : IsPart vl lo) (pk : IsPart vk (some k)) (hk : k ≠ 0)
    (h : ∀ D h' ws ms, Fr h₀ L h' m → News h₀ L h' ((D, W.listOf (List.toArray ws) 0) :: news) → IntsAre ws ms → AllLt D news → Q (.ref D) { s with heap := h' })
    (hs : subscripted slice false (.ref l) (.ref s.heap.objs.size) = operate ops (getItem (.ref l) (.ref s.heap.objs.size)) := by with_unfolding_all rfl) (ht : ∀ r, letTemporaryGo value (.ref l) r = pure () := by intro _; with_unfolding_all rfl) :
    wpAny (model prog w) A (subscriptTail value slice (.ref l) (.ref s.heap.objs.size)) Q E { s with heap := s.heap.push { cls := .type "slice", data := .fields #[vl, .none, vk] } } := by
  obtain ⟨ms, hm⟩ := slice_ints hi lo none (some k)
  refine kmk_slice3_lit F N hl pl .none pk (by simpa using hk) rfl (fun D h' F' N' l1 => h D h' _ ms F' N' hm (allLt_of l1)) hs ht (by rw [List.size_toArray, sizeLine_eq]; omega)
/-- an element's end: some int -/
def EltI (h₀ : Heap) (L : Addr) (m : Str → Option Value) (s : Shared) (led : List (Addr × Obj)) (y : Value) (s₂ : Shared) : Prop :=
  ∃ c t h' tk, y = .int c t ∧ s₂ = { s with heap := h', toks := tk } ∧ Fr h₀ L h' m ∧ News h₀ L h' led
theorem blockE {elt iter : PySem.Expr} {a b : Str} {pa pb tp : Pos} {kk : Nat} {scope : Scope} {cl : List (Str × Addr)} {pos : Pos} {s₂ : Shared} {e I l : Addr} {lo : Obj} {vs : List Value} {n : Nat} {news : List (Addr × Obj)} {RR : Value → Addr → Result → Shared → Prop}
    (hh : A.handled = none) (hsz : vs.length ≤ 1000) (heI : e ≠ I) (hle : l ≠ e) (hlI : l ≠ I) (hm : (l, lo) ∈ news) (hc : lo.cls = .type "list") (hd : lo.data = .seq vs.toArray n)
    (hE : IsEnum s₂.heap e I 0 .none) (hI : s₂.heap.IsListIter I l 0)
    (hcell : ∀ y ∈ scope.names, y.2 ≠ .cell) (hkind : scope.kind = .function) (hxa : scope.names.lookup a = some .local) (hxb : scope.names.lookup b = some .local) (hab : ¬ a = b)
    (F : Fr h₀ L s₂.heap m) (N : News h₀ L s₂.heap news) (hLe : L ≠ e) (hLI : L ≠ I) (he₀ : h₀.get? e = none) (hI₀ : h₀.get? I = none) (off : ∀ p ∈ news, p.1 ≠ e ∧ p.1 ≠ I)
    (turn : ∀ (i : Nat) v t oe oI C oC D m₂ ys h tk (E' : Value → Shared → Prop), vs[i]? = some v → LCg.NsObj oC m₂ → m₂ a = some (.int (i : Int) t) → m₂ b = some v → Fr h₀ L h m → News h₀ L h ((e, oe) :: (I, oI) :: (C, oC) :: (D, LCg.lst ys) :: news) →
      wpAny (model prog w) A (eval elt (compEnvC scope cl C env)) (EltI h₀ L m s₂ ((e, oe) :: (I, oI) :: (C, oC) :: (D, LCg.lst ys) :: news)) E' { s₂ with heap := h, toks := tk })
    (hRR : ∀ D C h tk m' ys ns, Fr h₀ L h m → News h₀ L h ((D, LCg.lst ys) :: news) → AllLt D news → h.Ns C m' → h₀.get? C = none → h₀.get? D = none → C ≠ L → D ≠ L → C ≠ D → (∀ p ∈ news, p.1 ≠ C) → IntsAre ys ns → ns.length = vs.length → RR (.ref D) C (.ok .next) { s₂ with heap := h, toks := tk }) :
    wpAny (model prog w) A (newList []) (fun acc s₃ => wpAny (model prog w) A (newFunctionEnv scope env.globals cl [] env.qual none .none (some env)) (fun cenv s₄ =>
      codeAny (model prog w) A (.compStart (.ListComp elt [⟨.Tuple [.Name a pa, .Name b pb] kk tp, iter, [], 0⟩] scope pos) 0 (.ref e) acc { cenv with scope := relabel scope env }) (RR acc cenv.locals) s₄) E s₃) E s₂ := by
  refine wpAny_newObj_type (wpAny_newFunctionEnv hcell (by intro y hy; simp at hy) (fun h₁ hns₁ hsb₁ => ?_) hkind)
  dsimp only at hns₁ hsb₁ ⊢
  generalize hH2 : s₂.heap.push { cls := .type "list", dict := none, data := .seq ([] : List Value).toArray } = H2 at hns₁ hsb₁ ⊢
  have hC : H2.objs.size = s₂.heap.objs.size + 1 := by rw [← hH2, Heap.size_push]
  have hL : @LT.lt Nat _ L s₂.heap.objs.size := F.ns.lt
  have hN : ∀ p ∈ news, @LT.lt Nat _ p.1 s₂.heap.objs.size := fun p hp => Heap.lt_size (N p hp).1
  have new : ∀ b, @LE.le Nat _ s₂.heap.objs.size b → h₀.get? b = none := fun b hb => new_of F hb
  have old0 : ∀ b o, s₂.heap.get? b = some o → @LT.lt Nat _ b s₂.heap.objs.size := fun b o e => Heap.lt_size e
  have old : ∀ b o, s₂.heap.get? b = some o → h₁.get? b = some o := fun b o e => hsb₁.extBut b o (fun q => by have h1 := old0 b o e; rw [q, hC] at h1; omega) (Heap.get?_push_of_some _ (hH2 ▸ Heap.get?_push_of_some _ e))
  have hacc : h₁.get? s₂.heap.objs.size = some (LCg.lst []) := hsb₁.extBut _ _ (fun q => by rw [hC] at q; exact absurd q (Nat.ne_of_lt (Nat.lt_succ_self _))) (Heap.get?_push_of_some _ (hH2 ▸ Heap.get?_push_size _ rfl))
  have he' : @LT.lt Nat _ e s₂.heap.objs.size := Heap.lt_size hE
  have hI' : @LT.lt Nat _ I s₂.heap.objs.size := by obtain ⟨_, h, _⟩ := hI; exact Heap.lt_size h
  generalize s₂.heap.objs.size = D at hC hL hN new he' hI' hacc ⊢
  generalize hCe : H2.objs.size = C at hC hsb₁ hns₁ ⊢
  have W := KTurns.ofWalksU (elts := [PySem.Expr.Name a pa, .Name b pb]) (k := kk) (pos := tp) (WalksT.enumerate (prog := prog) (w := w) hh e I l heI hle hlI vs.toArray).toU
  have eeC : e ≠ C := fun q => by have h1 : @Eq Nat e C := q; omega
  have eeD : e ≠ D := fun q => by have h1 : @Eq Nat e D := q; omega
  have eIC : I ≠ C := fun q => by have h1 : @Eq Nat I C := q; omega
  have eID : I ≠ D := fun q => by have h1 : @Eq Nat I D := q; omega
  have eCD : C ≠ D := fun q => by have h1 : @Eq Nat C D := q; omega
  have eCL : C ≠ L := fun q => by have h1 : @Eq Nat C L := q; omega
  have eDL : D ≠ L := fun q => by have h1 : @Eq Nat D L := q; omega
  have hC₀ := new C (by omega)
  have hD₀ := new D (Nat.le_refl _)
  have offC : ∀ p ∈ news, p.1 ≠ C ∧ p.1 ≠ D := fun p hp => ⟨fun q => by have h1 := hN p hp; have h2 : @Eq Nat p.1 C := q; omega, fun q => by have h1 := hN p hp; have h2 : @Eq Nat p.1 D := q; omega⟩
  have hNl : ∀ h : Heap, News h₀ L h news → h.IsList l vs.toArray := fun h N => ⟨lo, (N _ hm).1, hc, n, hd⟩
  have loop : ∀ s₃ : Shared, s₃ = { s₂ with heap := h₁, toks := s₂.toks + ([] : List (Str × Value)).length } →
      codeAny (model prog w) A (.compLoop (.ListComp elt [⟨.Tuple [.Name a pa, .Name b pb] kk tp, iter, [], 0⟩] scope pos) 0 (.ref e) (.ref D) (compEnvC scope cl C env)) (RR (.ref D) C) s₃ := by
    rintro s₃ rfl
    refine kcp_loop (fun k s' => ∃ (h' : Heap) (tk i : Nat) (ys : List Value) (ns : List Int) (m' : Str → Option Value), s' = { s₂ with heap := h', toks := tk } ∧ i ≤ vs.length ∧ k = vs.length + 1 - i ∧ ((∃ o, IsEnum h' e I i o) ∧ h'.IsListIter I l i ∧ h'.IsList l vs.toArray) ∧
      Fr h₀ L h' m ∧ h'.Ns C m' ∧ News h₀ L h' ((D, LCg.lst ys) :: news) ∧ IntsAre ys ns ∧ ns.length = i) ?_ (vs.length + 1)
      ⟨h₁, _, 0, [], [], _, rfl, Nat.zero_le _, rfl, ⟨⟨.none, old _ _ hE⟩, ?_, ?_⟩, F.keeps old, hns₁, ?_, .nil, rfl⟩
    · rintro k s' ⟨h', tk, i, ys, ns, m', rfl, hi, rfl, hst', F', hn', N', hIy, hnl⟩
      by_cases hlt' : i < vs.length
      · refine W.item i _ _ _ (by rw [List.size_toArray]; exact hlt') hst' fun v h₂ tk₂ hMd hk₂ => ?_
        refine W.go i v _ _ _ hMd fun h₃ hP hst₃ hk₃ => ?_
        obtain ⟨T, vals, rfl, ⟨t, x, hx, rfl⟩, hT⟩ := hP
        have up₃ : ∀ c o, c ≠ e → c ≠ I → h'.get? c = some o → h₃.get? c = some o := fun c o h1 h2 q => hk₃ c o (by simp [h1, h2]) (hk₂ c o (by simp [h1, h2]) q)
        refine kcp_assign (env := compEnvC scope cl C env) hh hT (lookup_relabel_local hxa) (lookup_relabel_local hxb) (by simp [compEnvC, relabel, hkind]) (hn'.at' fun o q => up₃ _ o (Ne.symm eeC) (Ne.symm eIC) q) fun h₄ tk₄ hn₄ hs₄ => ?_
        have hst₄ := W.frame _ _ _ hst₃ fun c hc o q => by
          have hc' : c = e ∨ c = I ∨ c = l := by simpa using hc
          refine hs₄ c o ?_ q
          rcases hc' with rfl | rfl | rfl
          · exact eeC
          · exact eIC
          · exact (offC _ hm).1
        obtain ⟨⟨ol, heE⟩, ⟨oI, hoI, hic, _⟩, _⟩ := id hst₄
        obtain ⟨oe, hoe⟩ : ∃ oe : Obj, h₄.get? e = some oe := ⟨_, heE⟩
        obtain ⟨oC, heC, hoC⟩ := LCg.ns_obj hn₄
        have up : ∀ c o, c ≠ e → c ≠ I → c ≠ C → h'.get? c = some o → h₄.get? c = some o := fun c o h1 h2 h3 q => hs₄ c o h3 (up₃ c o h1 h2 q)
        have F₄ : Fr h₀ L h₄ m := ⟨F'.ns.at' fun o q => up _ o hLe hLI (Ne.symm eCL) q, fun c o q => up c o (fun z => by rw [z, he₀] at q; cases q) (fun z => by rw [z, hI₀] at q; cases q) (fun z => by rw [z, hC₀] at q; cases q) (F'.keep c o q), F'.above⟩
        have N₄ : News h₀ L h₄ ((e, oe) :: (I, oI) :: (C, oC) :: (D, LCg.lst ys) :: news) := by
          intro p hp
          rcases List.mem_cons.mp hp with rfl | hp
          · exact ⟨hoe, Ne.symm hLe, he₀⟩
          · rcases List.mem_cons.mp hp with rfl | hp
            · exact ⟨hoI, Ne.symm hLI, hI₀⟩
            · rcases List.mem_cons.mp hp with rfl | hp
              · exact ⟨heC, eCL, hC₀⟩
              · refine ⟨?_, (N' p hp).2⟩
                rcases List.mem_cons.mp hp with rfl | hp
                · exact up _ _ (Ne.symm eeD) (Ne.symm eID) (Ne.symm eCD) (N' _ (.head _)).1
                · exact up _ _ (off p hp).1 (off p hp).2 (offC p hp).1 (N' p (.tail _ hp)).1
        refine wpAny_mono (turn i x t oe oI C oC D _ ys h₄ _ _ (by simpa using hx) hoC (by simp [hab]) (by simp) F₄ N₄) (fun y s₅ h₅ => ?_) fun _ _ q => q
        obtain ⟨c, t', h₅, tk₅, rfl, rfl, F₅, N₅⟩ := h₅
        have ze := (N₅ _ (.head _)).1
        have zI := (N₅ _ (.tail _ (.head _))).1
        have zC := (N₅ _ (.tail _ (.tail _ (.head _)))).1
        have zD := (N₅ _ (.tail _ (.tail _ (.tail _ (.head _))))).1
        have zl := (N₅ _ (.tail _ (.tail _ (.tail _ (.tail _ hm))))).1
        have hyl : ys.length = i := by rw [hIy.length, hnl]
        refine append_at (hsz := by show ys.toArray.size ≤ sizeLine; rw [List.size_toArray, hyl, sizeLine_eq]; omega) zD fun h₆ hs₆ hD₆ => ?_
        have hst₆ := W.frame _ h₄ h₆ hst₄ fun b hb o q => by
          have hb' : b = e ∨ b = I ∨ b = l := by simpa using hb
          rcases hb' with rfl | rfl | rfl
          · exact hs₆.extBut _ _ eeD (ze.trans (hoe.symm.trans q))
          · exact hs₆.extBut _ _ eID (zI.trans (hoI.symm.trans q))
          · exact hs₆.extBut _ _ (offC _ hm).2 (zl.trans ((N₄ _ (.tail _ (.tail _ (.tail _ (.tail _ hm))))).1.symm.trans q))
        refine ⟨vs.length + 1 - (i + 1), turn_dec (by assumption), h₆, tk₅, i + 1, ys ++ [.int c t'], ns ++ [c], _, rfl, hlt', rfl, hst₆, F₅.change hs₆ eDL hD₀, (hoC.ns zC).sameBut hs₆ eCD, ?_, hIy.append (.cons _ _ .nil), by rw [List.length_append, hnl]; rfl⟩
        intro p hp
        rcases List.mem_cons.mp hp with rfl | hp
        · exact ⟨hD₆.trans (congrArg some (LCg.lst_snoc ys _)), eDL, hD₀⟩
        · have z := N₅ p (.tail _ (.tail _ (.tail _ (.tail _ hp))))
          exact ⟨hs₆.extBut _ _ (offC p hp).2 z.1, z.2⟩
      · obtain rfl : i = vs.length := by omega
        refine W.done _ _ _ (by rw [List.size_toArray]; exact hst') fun h₂ tk₂ hk₂ => ?_
        have up₂ : ∀ c o, c ≠ e → c ≠ I → h'.get? c = some o → h₂.get? c = some o := fun c o h1 h2 q => hk₂ c o (by simp [h1, h2]) q
        refine hRR D C h₂ tk₂ m' ys ns ⟨F'.ns.at' fun o q => up₂ _ o hLe hLI q, fun c o q => up₂ c o (fun z => by rw [z, he₀] at q; cases q) (fun z => by rw [z, hI₀] at q; cases q) (F'.keep c o q), F'.above⟩ ?_ (allLt_of hN) (hn'.at' fun o q => up₂ _ o (Ne.symm eeC) (Ne.symm eIC) q) hC₀ hD₀ eCL eDL eCD (fun p hp => (offC p hp).1) hIy hnl
        intro p hp
        refine ⟨?_, (N' p hp).2⟩
        rcases List.mem_cons.mp hp with rfl | hp
        · exact up₂ _ _ (Ne.symm eeD) (Ne.symm eID) (N' _ (.head _)).1
        · exact up₂ _ _ (off p hp).1 (off p hp).2 (N' p (.tail _ hp)).1
    · obtain ⟨oI, h1, h2⟩ := hI
      exact ⟨oI, old _ _ h1, h2⟩
    · exact ⟨lo, old _ _ (N _ hm).1, hc, n, hd⟩
    · intro p hp
      rcases List.mem_cons.mp hp with rfl | hp
      · exact ⟨hacc, eDL, hD₀⟩
      · exact ⟨old _ _ (N p hp).1, (N p hp).2⟩
  exact codeAny_compStart_list (loop _ rfl) (wpAny_pyIter_enum (old _ _ hE) (loop _ rfl))
/-- the source of such a comprehension -/
inductive SrcE (prog : Program) (w : World) (A : Around) (h₀ : Heap) (L : Addr) (m : Str → Option Value) (env : Env) (elt : PySem.Expr) (a b y : Str) (scope : Scope) (cl : List (Str × Addr)) (Q : Flow → Shared → Prop) (xv : Value) (s₁ : Shared) : Prop
  | mk (e I l : Addr) (lo : Obj) (vs : List Value) (n : Nat) (news : List (Addr × Obj)) (c1 : xv = .ref e) (c2 : A.handled = none) (c3 : vs.length ≤ 1000) (c4 : (e ≠ I ∧ l ≠ e ∧ l ≠ I)) (c5 : ((l, lo) ∈ news ∧ lo.cls = .type "list" ∧ lo.data = .seq vs.toArray n)) (c6 : (IsEnum s₁.heap e I 0 .none ∧ s₁.heap.IsListIter I l 0)) (c7 : Fr h₀ L s₁.heap m) (c8 : News h₀ L s₁.heap news) (c9 : (L ≠ e ∧ L ≠ I ∧ h₀.get? e = none ∧ h₀.get? I = none ∧ ∀ p ∈ news, p.1 ≠ e ∧ p.1 ≠ I)) (c10 : (∀ (i : Nat) v t oe oI C oC D m₂ ys h tk (E' : Value → Shared → Prop), vs[i]? = some v → LCg.NsObj oC m₂ → m₂ a = some (.int (i : Int) t) → m₂ b = some v → Fr h₀ L h m → News h₀ L h ((e, oe) :: (I, oI) :: (C, oC) :: (D, LCg.lst ys) :: news) →
      wpAny (model prog w) A (eval elt (compEnvC scope cl C env)) (EltI h₀ L m s₁ ((e, oe) :: (I, oI) :: (C, oC) :: (D, LCg.lst ys) :: news)) E' { s₁ with heap := h, toks := tk })) (c11 : (∀ D h tk ys ns, Fr h₀ L h (fun z => if z = y then some (.ref D) else m z) → News h₀ L h ((D, LCg.lst ys) :: news) → AllLt D news → IntsAre ys ns → ns.length = vs.length → Q .next { s₁ with heap := h, toks := tk })) : SrcE prog w A h₀ L m env elt a b y scope cl Q xv s₁
theorem Assign_E {elt iter : PySem.Expr} {a b y : Str} {pa pb tp py : Pos} {kk : Nat} {scope : Scope} {cl : List (Str × Addr)} {pos spos : Pos} {Q : Flow → Shared → Prop} (F₀ : Fr h₀ L s.heap m) (hLe : env.locals = L)
    (hsw : swapsWith (.ListComp elt [⟨.Tuple [.Name a pa, .Name b pb] kk tp, iter, [], 0⟩] scope pos) (some (.Name y py)) spos.line env = pure true)
    (hclos : closureFor scope env = pure cl) (hcell : ∀ y ∈ scope.names, y.2 ≠ .cell) (hkind : scope.kind = .function)
    (hnames : ∀ y ∈ scope.names, y.2 = .local → scope.names.lookup y.1 = some .local) (hxa : scope.names.lookup a = some .local) (hxb : scope.names.lookup b = some .local) (hab : ¬ a = b)
    (hy : env.kindOf y = some .local) (hp : (env.scope.kind == .class || (env.scope.kind == .module && env.locals != env.globals)) = false)
    (h : wpAny (model prog w) A (eval iter env) (SrcE prog w A h₀ L m env elt a b y scope cl Q) E s)
    (hs : ∀ x, foldedSetIterable iter env x = pure x := by intro _; rfl) :
    wpAny (model prog w) A (exec (.Assign [.Name y py] (.ListComp elt [⟨.Tuple [.Name a pa, .Name b pb] kk tp, iter, [], 0⟩] scope pos) spos) env) Q E s := by
  subst hLe
  rw [exec_Assign_Name_used _ _ _ _ hsw]
  refine wpAny_bind (wpAny_standAt (wpAny_bind ?_))
  show wpAny _ A (do let _ ← comprehension (.ListComp elt [⟨.Tuple [.Name a pa, .Name b pb] kk tp, iter, [], 0⟩] scope pos) scope env _ (newList []) false (eval iter env) (some (assign (.Name y py) env))) _ _ s
  refine wpAny_bind (wpAny_mono (wpAny_comprehension_free (use := some (assign (.Name y py) env)) (Q := fun _ s' => Q .next s') rfl hs hclos hkind hnames
    (wpAny_mono h (fun xv s₁ h₁ => ?_) fun _ _ e => e)) (fun _ s' hq => wpAny_pure (wpAny_pure hq)) fun _ _ e => e)
  obtain ⟨e, I, l, lo, vs, n, news, rfl, hh, hsz, ⟨z1, z2, z3⟩, ⟨hm, hc, hd⟩, ⟨hE, hI⟩, F, N, ⟨y1, y2, y3, y4, y5⟩, turn, fin⟩ := h₁
  refine wpAny_pyIter_enum hE ?_
  refine blockE hh hsz z1 z2 z3 hm hc hd hE hI hcell hkind hxa hxb hab F N y1 y2 y3 y4 y5 turn ?_
  intro D C h tk m' ys ns F' N' l1 hn' hC₀ hD₀ hCL hDL hCD offC hI' hl
  show wpAny _ A (assign (.Name y py) env (.ref D)) _ _ _
  refine wpAny_assign_Name (wpAny_storeName_local hy F'.ns (fun h₂ hn₂ hs₂ => ?_) hp)
  have hL₀ : h₀.get? env.locals = none := Heap.get?_none_of_le F'.above
  have F₂ : Fr h₀ env.locals h₂ (fun z => if z = y then some (.ref D) else m z) := ⟨hn₂, fun b o e => hs₂.extBut b o (fun q => by rw [q, hL₀] at e; cases e) (F'.keep b o e), F'.above⟩
  refine ⟨m', hn'.sameBut hs₂ hCL, fun h'' hs'' => fin D h'' _ ys ns (F₂.change hs'' hCL hC₀) (fun p hp => ?_) l1 hI' hl⟩
  have z : h₂.get? p.1 = some p.2 := hs₂.extBut _ _ (N' p hp).2.1 (N' p hp).1
  refine ⟨hs''.extBut _ _ ?_ z, (N' p hp).2⟩
  rcases List.mem_cons.mp hp with rfl | hp
  · exact Ne.symm hCD
  · exact offC p hp
theorem enum_src {elt : PySem.Expr} {a b y : Str} {scope : Scope} {cl : List (Str × Addr)} {l : Addr} {lo : Obj} {vs : List Value} {n : Nat} {Q : Flow → Shared → Prop} (hh : A.handled = none) (F : Fr h₀ L s.heap m) (N : News h₀ L s.heap news)
    (hm : (l, lo) ∈ news) (hc : lo.cls = .type "list") (hd : lo.data = .seq vs.toArray n) (hsz : vs.length ≤ 1000)
    (turn : ∀ (i : Nat) v t e oe I oI C oC D m₂ ys h tk (E' : Value → Shared → Prop), vs[i]? = some v → LCg.NsObj oC m₂ → m₂ a = some (.int (i : Int) t) → m₂ b = some v → Fr h₀ L h m → News h₀ L h ((e, oe) :: (I, oI) :: (C, oC) :: (D, LCg.lst ys) :: news) →
      wpAny (model prog w) A (eval elt (compEnvC scope cl C env)) (EltI h₀ L m s ((e, oe) :: (I, oI) :: (C, oC) :: (D, LCg.lst ys) :: news)) E' { s with heap := h, toks := tk })
    (fin : ∀ D h tk ys ns, Fr h₀ L h (fun z => if z = y then some (.ref D) else m z) → News h₀ L h ((D, LCg.lst ys) :: news) → AllLt D news → IntsAre ys ns → ns.length = vs.length → Q .next { s with heap := h, toks := tk }) :
    wpAny (model prog w) A (call (.type "enumerate") [.ref l]) (SrcE prog w A h₀ L m env elt a b y scope cl Q) E s := by
  have hax := N _ hm
  have hl : s.heap.IsList l vs.toArray := ⟨lo, hax.1, hc, n, hd⟩
  have hlt : @LT.lt Nat _ l s.heap.objs.size := Heap.lt_size hax.1
  have hLs : @LT.lt Nat _ L s.heap.objs.size := F.ns.lt
  have hnw : ∀ p ∈ news, @LT.lt Nat _ p.1 s.heap.objs.size := fun p hp => Heap.lt_size (N p hp).1
  refine call_enumerate_list hl fun h' hE' hI hsz' hk => ?_
  refine ⟨s.heap.objs.size + 1, s.heap.objs.size, l, lo, vs, n, news, rfl, hh, hsz, ⟨Nat.succ_ne_self _, ktu_ne 1 hlt, Nat.ne_of_lt hlt⟩, ⟨hm, hc, hd⟩, ⟨hE', hI⟩, F.keeps hk, N.grown hk, ⟨ktu_ne 1 hLs, Nat.ne_of_lt hLs, new_of F (Nat.le_add_right _ _), new_of F (Nat.le_refl _), fun p hp => ⟨ktu_ne 1 (hnw p hp), Nat.ne_of_lt (hnw p hp)⟩⟩, fun i v t oe oI => turn i v t _ oe _ oI, fin⟩
end
end
section
variable {prog : Program} {w : World} {p : Program} {loose : List Str} {mean : ExcName → Option Value} {mg mb : Str → Option Value}
  {dp un : Nat} {gd : Option (List Code)} {cn : Str} {cs : Scope} {a : Addr} {ccd : Value} {cl : List (Str × Addr)} {outer : List Env} {A₀ : Around} {base h₀ : Heap} {L : Addr} {m : Str → Option Value} {news : List (Addr × Obj)} {s : Shared} {Q E : Value → Shared → Prop}
theorem mem_two {α : Type} {a b c d e f g p : α} {l : List α} (h : p ∈ f :: g :: a :: b :: c :: d :: e :: l) : p ∈ a :: b :: c :: d :: e :: f :: g :: l := by
  simp only [List.mem_cons] at h ⊢
  rcases h with h | h | h | h | h | h | h | h <;> simp [h]
set_option maxRecDepth 100000 in
set_option maxHeartbeats 8000000 in
theorem ring_call {qa qb more turns : Int} {ta tb tm tt : Tok} {num : Addr} {ps1 ps2 : Array Value}
   (B : Below A₀ h₀ [] h₀) (F : Fr h₀ L s.heap m) (X : (Mine.hd.heap_1 w.params).In h₀) (N : News h₀ L s.heap ((44, tabObj ps1) :: (51, tabObj ps2) :: news)) (T : Top p loose mean mg mb h₀) (hk : cs.kind = .function)
   (C1 : CodeHd h₀ 48 44) (C2 : CodeHd h₀ 55 51) (TQ1 : TabQ pos1 qual1 ps1 news) (TQ2 : TabQ pos2 qual2 ps2 news) (hn1 : ∀ p ∈ news, p.1 ≠ 44) (hn2 : ∀ p ∈ news, p.1 ≠ 51)
   (hd : dp + 400 < recursionLimit) (hu : un + 3000 < cLine) (mN : (num, tup [.int qa ta, .int qb tb]) ∈ news)
   (ha : qa.natAbs ≤ 8) (hb : qb.natAbs ≤ 6) {sz ro : Nat} (hsz : qa * qa - qa * qb + qb * qb = (sz : Int)) (hS : 7 ≤ sz) (hS2 : sz ≤ 49)
   (hroot : (0 : Int) ∈ (rangeKs 0 sz).map fun k => (qa + qb * k).fmod sz) (hro : ((rangeKs 0 sz).map fun k => (qa + qb * k).fmod sz).idxOf 0 = ro)
   (hm0 : 0 ≤ more) (hm1 : more < 1000) (ht0 : 0 ≤ turns) (ht1 : turns < 4) {bs ut : Int} (hbs : (ro : Int) + sz * (1 + more) = bs) (hut : bs ^ 3 - 1 = sz * ut) (hu0 : 0 ≤ ut) (hu1 : ut < 2 ^ 60) (hrok : ∀ x ∈ rowI sz (rowP sz ro), RowOk ut bs x)
   (hret : ∀ D' Dr Dm rs vs k1 k2 ps1' ps2' nx t1 t2 t3 h' tk', Fr h₀ L h' m → News h₀ L h' ((D', tup [.int sz t1, .int bs t2, .int ut t3, .ref Dr, .ref Dm]) :: nx) → (∀ p ∈ news, p ∈ nx) → (Dr, W.listOf rs.toArray k1) ∈ nx → IntsAre rs (rowI sz (rowP sz ro)) → (Dm, W.listOf vs.toArray k2) ∈ nx → RefsAre nx vs (wheelL ut bs (rowI sz (rowP sz ro)) 6 ++ wheelL ut bs (rowI sz (rowP sz ro)) 6) →
      (44, tabObj ps1') ∈ nx → (51, tabObj ps2') ∈ nx → TabF pos1 qual1 ps1' nx → TabF pos2 qual2 ps2' nx → AllLt D' nx → Q (.ref D') { s with heap := h', toks := tk' }) :
    wpAny (model prog w) (ktrTop dp un gd cn cs L a ccd cl []) (call (.ref 150) [.ref num, .int more tm, .int turns tt]) Q E s := by
  obtain ⟨tn, rfl⟩ := Int.eq_ofNat_of_zero_le ht0
  have hro2 := List.idxOf_lt_length_of_mem hroot
  rw [List.length_map, rangeKs_length, hro] at hro2
  have hb0 : 0 ≤ (sz : Int) * (1 + more) := Int.mul_nonneg (by omega) (by omega)
  have hb1 : (sz : Int) * (1 + more) ≤ 49 * 1000 := Int.mul_le_mul (by omega) (by omega) (by omega) (by omega)
  refine wpAny_call ?_
  k_dflt (refine' code_defCS ?k1 ?k2 ?k3 ?k4 ?k5 ?kA ?kF ?kK ?k6 ?k7 ?k8 ?k9 ?kB ?kD ?_ ?c2 ?c3 ?c4; (case kA => exact rfl); (case kF => exact rfl); (case kK => first | assumption | exact rfl); (case k1 => k_asm); (case k2 => k_asm); (case k3 => k_asm); (case k4 => k_asm); (case k5 => k_asm); (case k6 => k_is); (case k7 => k_is); (case k8 => ktr_room); (case k9 => exact BindsTo.of_eq rfl); (case kB => exact rfl); (case kD => decide +kernel); (case c2 => exact rfl); (case c3 => exact rfl); (case c4 => exact rfl); k_whole; intro g' L' h' tk' cells' FG' F' N' Y' B' X' T' l1; (try k_lt l1); (repeat (obtain ⟨_, l1⟩ := l1)); k_cells Y'; (try simp only [List.cons_append, List.nil_append] at N'); (try dsimp only); (try k_fold))
  refine letA ?_
  intro A9
  (iterate 70 (first | (with_reducible show wpAny _ _ (eval (PySem.Expr.ListComp _ _ _ _) _) _ _ _) | walk1 | (k_unfold; try dsimp only)))
  rw [hsz] at *
  k_dflt (refine' ListComp_T (fun k => (qa + qb * k).fmod sz) ?F ?h1 ?h2 ?h3 ?h4 ?h5 ?h ?hs; (case F => k_asm); (case h1 => exact rfl); (case h2 => decide +kernel); (case h3 => exact rfl); (case h4 => decide +kernel); (case h5 => exact rfl); (case hs => intro _; rfl))
  k_steps
  refine ⟨_, _, _, _, sz, _, rfl, rfl, (by assumption), (by assumption), (by assumption), (by omega), ?_, ?_, ?_⟩
  · intro k h0 h1
    have h2 := Int.fmod_eq_emod_of_nonneg (qa + qb * k) (show 0 ≤ (sz : Int) by omega)
    have h3 := Int.emod_nonneg (qa + qb * k) (show (sz : Int) ≠ 0 by omega)
    have h4 := Int.emod_lt_of_pos (qa + qb * k) (show 0 < (sz : Int) by omega)
    unfold smallInt
    simp only [h2, Bool.and_eq_true, decide_eq_true_eq]
    omega
  · rintro s₂ ⟨h9, rfl⟩ k t I oI C oC D m₂ ys h tk E' k0 k1 hC hx F1 N1 off ne
    k_steps
    exact ⟨_, _, _, rfl, Nat.succ_pos _, Nat.lt_succ_self _, rfl, (by assumption), (by assumption)⟩
  intro D h tk ys F1 N1 o1 hI hT
  have o2 := off1_ne o1
  simp only [LCg.Off1] at o1
  have htk : 0 < tk := by
    have h1 : ys ≠ [] := by
      rintro rfl
      have h2 := List.length_eq_zero_iff.mp hI.length.symm
      rw [h2] at hroot
      cases hroot
    obtain ⟨v, r, rfl⟩ := List.exists_cons_of_ne_nil h1
    obtain ⟨x, t, _, h2, h3, _⟩ := hT v (.head _)
    exact Nat.lt_trans h2 h3
  k_steps
  k_dflt (refine' index_ints ?B ?F ?X ?N ?T ?hk ?hd ?hu ?mA hI (fun v hv => (hT v hv).off (Nat.le_refl _)) (Nat.ne_of_gt htk) hroot ?_; (case B => k_asm); (case F => k_asm); (case X => k_asm); (case N => k_asm); (case T => k_asm); (case hk => exact rfl); (case hd => first | exact room hd rfl | ktr_room); (case hu => first | exact room hu rfl | ktr_units); (case mA => k_mem))
  rw [hro]
  intro h1' tk1' t1 F2 N2
  clear hI hT htk
  have hb2 : (sz : Int) ≤ sz * (1 + more) := by
    have := Int.mul_le_mul_of_nonneg_left (show 1 ≤ 1 + more by omega) (show 0 ≤ (sz : Int) by omega)
    omega
  have hb3 : 7 ≤ bs ∧ bs ≤ 65536 := by omega
  iterate 60 (first | (with_reducible show wpAny _ _ (storeName _ (Str.ofString "base") _) _ _ _) | walk1 | (k_unfold; try dsimp only))
  rw [show (ro : Int) + sz * (1 + more) = bs from hbs]
  clear hb0 hb1 hb2 hbs
  k_steps
  obtain ⟨p1, p2⟩ := cube_le (x := bs) (by omega) (by omega)
  rename News g' _ _ _ => kN
  k_dflt (refine' idm_first ?B ?F ?X (fun p hp => kN p (mem_two hp)) ?T ?hk ?C1 ?C2 (TQ1.mono ?q1) (TQ2.mono ?q1) ?n1 ?n2 ?hd ?hu ?g1 ?g2 ?g3 ?g4 ?_; (case B => k_asm); (case F => k_asm); (case X => k_asm); (case T => k_asm); (case hk => exact rfl); (case hd => first | exact room hd rfl | ktr_room); (case hu => first | exact room hu rfl | ktr_units); (case C1 => k_asm); (case C2 => k_asm); (case q1 => intro p hp; exact List.Mem.tail _ (List.Mem.tail _ (List.Mem.tail _ (List.Mem.tail _ (List.Mem.tail _ hp))))))
  case n1 => (repeat (refine List.forall_mem_cons.mpr ⟨by show @Ne Nat _ _; omega, ?_⟩)); exact hn1
  case n2 => (repeat (refine List.forall_mem_cons.mpr ⟨by show @Ne Nat _ _; omega, ?_⟩)); exact hn2
  case g1 => show 0 ≤ bs ^ 3 - 1; omega
  case g2 => show bs ^ 3 - 1 < 2 ^ 100; omega
  case g3 => omega
  case g4 => omega
  have e1 : (bs ^ Int.toNat 3 - 1).fdiv sz = ut := by rw [show bs ^ Int.toNat 3 - 1 = sz * ut from hut]; exact Int.mul_fdiv_cancel_left _ (by omega)
  have e2 : (bs ^ Int.toNat 3 - 1).fmod sz = 0 := by rw [show bs ^ Int.toNat 3 - 1 = sz * ut from hut]; exact Int.mul_fmod_right _ _
  rw [e1, e2]
  intro D2 ps1' ps2' c1 oc1 c2 oc2 h2 tk2 t2 t3 F3 N3 TF1 TF2 l2
  simp only [AllLt] at l2
  iterate 70 (first | (with_reducible show wpAny _ _ (exec (Stmt.Assign _ (PySem.Expr.ListComp _ _ _ _) _) _) _ _ _) | walk1 | (k_unfold; try dsimp only))
  k_dflt (refine LCt.Assign_ListComp_T (F₀ := by k_asm) (by rfl) (by with_unfolding_all rfl) (by with_unfolding_all rfl) (by decide) (by rfl) (by decide) (by rfl) (by rfl) (by rfl) ?_)
  iterate 28 (first | (with_reducible show LCt.CompSrcT _ _ _ _ _ _ _ _ _ _ _ _ _ _ _) | walk1 | (dsimp only; walk1))
  k_dflt (refine LCt.CompSrcT.range (n := sz) (by rfl) (by k_asm) (by k_asm) (by assumption) (rangeN (by omega)).1 (rangeN (by omega)).2 (by rw [sizeLine_eq]; omega) ?_)
  intro g
  refine filtT (rowP sz ro) ?fin ?turn
  case turn =>
--{
    intro i R1 R2 zs tz I oI C oC D3 m₂ h3 tk3 E' hi hC hx F4 N4 off ne r1 r2
    k_steps
    · refine ⟨_, _, _, rfl, F4, N4, off, trivial, r1 ?_ _⟩
      unfold rowP
      rw [Bool.and_eq_true, decide_eq_true_eq, decide_eq_true_eq]
      exact ⟨by assumption, by assumption⟩
    · refine ⟨_, _, _, rfl, F4, N4, off, trivial, r2 ?_⟩
      unfold rowP
      rw [Bool.and_eq_false_iff, decide_eq_false_iff_not, decide_eq_false_iff_not]
      exact .inr (by assumption)
    · refine ⟨_, _, _, rfl, F4, N4, off, trivial, r2 ?_⟩
      unfold rowP
      rw [Bool.and_eq_false_iff, decide_eq_false_iff_not, decide_eq_false_iff_not]
      exact .inl (by assumption)
--}
  intro rs hR D3 h3 tk3 F4 N4 o3
  have o4 := off1_ne o3
  simp only [LCg.Off1] at o3
  k_steps
  ((rename Fr _ _ _ _ => lF'); (with_unfolding_all refine' For_invVF lF' ?k1 ?k2 ?_; (case k1 => exact rfl); (case k2 => exact rfl); k_whole))
  iterate 6 (first | (with_reducible show wpAny _ _ (pyIter _) _ _ _) | walk1 | (k_unfold; try dsimp only))
  k_dflt (refine' forL2 (vs := rs) (fun _ : Unit => []) [Str.ofString "red", Str.ofString "green", Str.ofString "blue", Str.ofString "hue", Str.ofString "share", Str.ofString "level"] (TintJ ut bs (rowI sz (rowP sz ro))) () ?hh ?F ?N ?hm ?hk ?hj ?turn ?done; (case hh => exact rfl); (case F => k_asm); (case N => k_asm); (case hm => k_mem); (case hk => exact fun p hp => nomatch hp))
  case hj => exact ⟨[], 0, _, [], _, rfl, by k_all, fun _ h => h, .nil, rfl, hR⟩
  case turn =>
--{
    rintro I v r c u it nx h tk hoI lI ⟨ts, k, ex, dn, rest, rfl, hne, hsub, hT, hrow, hr⟩ hm' F5 N5
    have m44 := hsub _ (.tail _ (.tail _ (.head _)))
    have m51 := hsub _ (.tail _ (.tail _ (.tail _ (.head _))))
    have mc1 := hsub _ (.tail _ (.tail _ (.tail _ (.tail _ (.head _)))))
    have mc2 := hsub _ (.tail _ (.tail _ (.tail _ (.tail _ (.tail _ (.head _))))))
    replace TF1 : TabF pos1 qual1 ps1' ex := TF1.mono (by intro p hp; rcases List.mem_cons.mp hp with rfl | hp; exact mc1; rcases List.mem_cons.mp hp with rfl | hp; exact mc2; cases hp)
    replace TF2 : TabF pos2 qual2 ps2' ex := TF2.mono (by intro p hp; rcases List.mem_cons.mp hp with rfl | hp; exact mc1; rcases List.mem_cons.mp hp with rfl | hp; exact mc2; cases hp)
    dsimp only [kstB] at F5
    cases hr with
    | cons x tx hr =>
    rename_i rest
    have hx := hrok x (by rw [hrow]; exact List.mem_append_right _ (.head _))
    obtain ⟨x0, x1, x2, x3, x4, x5⟩ := hx
    have hxu0 : 0 ≤ x * ut := Int.mul_nonneg x0 hu0
    have hxu1 : x * ut ≤ 49 * 2 ^ 60 := Int.mul_le_mul x1 (by omega) hu0 (by decide)
    dsimp only
    iterate 6 (first | (with_reducible show wpAny _ _ (execs _ _) _ _ _) | walk1 | (k_unfold; try dsimp only))
    k_fold
    k_steps
    k_dflt (refine' mul_call ?B ?F ?X ?N ?T ?hk ?hd ?hu ?g1 ?g2 ?_; (case B => k_asm); (case F => k_asm); (case X => k_asm); (case N => k_asm); (case T => k_asm); (case hk => exact rfl); (case hd => first | exact room hd rfl | ktr_room); (case hu => first | exact room hu rfl | ktr_units); (case g1 => first | exact Nat.lt_of_le_of_lt (by assumption) (by decide) | omega); (case g2 => first | exact Nat.lt_of_le_of_lt (by assumption) (by decide) | omega))
    intro hA tkA tA FA NA
    k_steps
    k_dflt (refine' light_A ?B ?F ?X ?N ?T ?hk ?C1 ?C2 ?mT1 ?mT2 ?TF1 ?TF2 ?hd ?hu ?g1 ?g2 ?g3 ?g4 ?_; (case B => k_asm); (case F => k_asm); (case X => k_asm); (case N => k_asm); (case T => k_asm); (case hk => exact rfl); (case hd => first | exact room hd rfl | ktr_room); (case hu => first | exact room hu rfl | ktr_units); (case C1 => k_asm); (case C2 => k_asm); (case mT1 => k_mem); (case mT2 => k_mem); (case TF1 => exact TabF.mono (by assumption) (by intro p hp; repeat (first | exact hp | refine List.Mem.tail _ ?_))); (case TF2 => exact TabF.mono (by assumption) (by intro p hp; repeat (first | exact hp | refine List.Mem.tail _ ?_))); (case g1 => omega); (case g2 => omega); (case g3 => omega); (case g4 => omega))
    intro DB hB tkB t4 t5 t6 FB NB lB
    simp only [AllLt] at lB
    k_steps
    have hg0 : max (max (lr ut bs x) (lg ut bs x)) (lb ut bs x) = lr ut bs x := max3_1 (Int.le_of_lt (by assumption)) (Int.le_of_lt (Int.lt_trans (by assumption) (by assumption)))
    unfold lr lg lb at hg0
    unfold lb at x2
    unfold lb lg at x3
    unfold lg lr at x4
    unfold lr at x5
    k_dflt (refine' rgb_call ?B ?F ?X ?N ?T ?hk ?hd ?hu ?g1 ?g2 ?g3 ?g4 ?g5 ?g6 ?g7 ?_; (case B => k_asm); (case F => k_asm); (case X => k_asm); (case N => k_asm); (case T => k_asm); (case hk => exact rfl); (case hd => first | exact room hd rfl | ktr_room); (case hu => first | exact room hu rfl | ktr_units); (case g1 => omega); (case g2 => omega); (case g3 => omega); (case g4 => omega); (case g5 => omega); (case g6 => omega); (case g7 => omega))
    rw [hg0]
    intro DC hC tkC t7 t8 t9 FC NC lC
    replace lC := allLt_of lC
    simp only [AllLt] at lC
    k_steps
    have htl : ts.length ≤ 1000 := by
      have h1 := hT.length
      have h2 := rowI_len sz (rowP sz ro)
      rw [hrow, List.length_append] at h2
      omega
    have hTI := hoI _ (.head _)
    dsimp only at hTI
    k_dflt (refine' append_s ?k1 ?k2 ?k3 htl ?_; (case k1 => k_asm); (case k2 => k_asm); (case k3 => k_upd))
    intro hE FE NE
    k_steps
    refine unrEnd3 (by assumption) (by assumption) (hoI _ (.head _)) (fun p hp => hoI p (.tail _ hp)) (by show @Ne Nat _ _; omega) (by show @Ne Nat _ _; omega) (by show @Ne Nat _ _; omega) ?_
    refine ⟨.tail _ (.tail _ (.tail _ (.tail _ ?q1))), (), ⟨_, _, _, dn ++ [x], rest, rfl, ?q2, fun p hp => .tail _ (.tail _ (.tail _ (hsub p hp))), hT.snoc (fun p hp => .tail _ (.tail _ (.tail _ hp))) (.head _), by rw [List.append_assoc]; exact hrow, hr⟩, (fun p hp => nomatch hp), ?q3⟩
    case q3 => (try dsimp +zetaDelta only); kst_same
    case q1 => exact hsub _ (.head _)
    case q2 => (repeat (refine List.forall_mem_cons.mpr ⟨by show @Ne Nat _ _; omega, ?_⟩)); exact hne
--}
  case done =>
    rintro ⟨⟩ u nx h tk ⟨ts, k, ex, dn, rest, rfl, hne, hsub, hT, hrow, hr⟩ hm' F5 N5
    cases hr
    rw [List.append_nil] at hrow
    subst hrow
    have mrow := hsub _ (.head _)
    have m44 := hsub _ (.tail _ (.tail _ (.head _)))
    have m51 := hsub _ (.tail _ (.tail _ (.tail _ (.head _))))
    have mc1 := hsub _ (.tail _ (.tail _ (.tail _ (.tail _ (.head _)))))
    have mc2 := hsub _ (.tail _ (.tail _ (.tail _ (.tail _ (.tail _ (.head _))))))
    have msz := hsub _ (.tail _ (.tail _ (.tail _ (.tail _ (.tail _ (.tail _ (.tail _ (.tail _ (.head _)))))))))
    have hold : ∀ p ∈ news, p ∈ ex := fun p hp => hsub _ (.tail _ (.tail _ (.tail _ (.tail _ (.tail _ (.tail _ (.tail _ (.tail _ (.tail _ (.tail _ (.tail _ hp)))))))))))
    clear hsub hm'
    replace TF1 : TabF pos1 qual1 ps1' ex := TF1.mono (by intro p hp; rcases List.mem_cons.mp hp with rfl | hp; exact mc1; rcases List.mem_cons.mp hp with rfl | hp; exact mc2; cases hp)
    replace TF2 : TabF pos2 qual2 ps2' ex := TF2.mono (by intro p hp; rcases List.mem_cons.mp hp with rfl | hp; exact mc1; rcases List.mem_cons.mp hp with rfl | hp; exact mc2; cases hp)
    dsimp only [kstB] at F5
    iterate 30 (first | (with_reducible show wpAny _ _ (exec (Stmt.For _ _ _ _ _) _) _ _ _) | walk1 | (k_unfold; try dsimp only))
    ((rename Fr _ _ _ _ => lF'); (with_unfolding_all refine' For_invVF lF' ?k1 ?k2 ?_; (case k1 => exact rfl); (case k2 => exact rfl); k_whole))
    iterate 20 (first | (with_reducible show wpAny _ _ (pyIter _) _ _ _) | walk1 | (k_unfold; try dsimp only))
    k_dflt (refine' forRg (n := 6) (fun c : Addr => [(Str.ofString "wheel", Value.ref c)]) [Str.ofString "hue", Str.ofString "share", Str.ofString "level", Str.ofString "least", Str.ofString "painted"] (WhJ ut bs (rowI sz (rowP sz ro))) _ ?hh ?hr ?hn ?F ?N ?hk ?hj ?turn ?done; (case hh => exact rfl); (case hr => assumption); (case F => k_asm); (case N => k_asm); (case hn => decide))
    case hk => intro p hp; rcases List.mem_cons.mp hp with rfl | hp; exact rfl; cases hp
    case hj => exact ⟨[], 0, by k_mem, fun p hp => .tail _ hp, .nil⟩
    case turn =>
--{
      rintro I6 i6 c6 u6 ti6 it6 nx6 h6 tk6 hi6 hc6 ho6 l6 ⟨vs6, k6, mw, hs6, hR6⟩ F6 N6
      dsimp only [kstB] at F6
      dsimp only
      iterate 6 (first | (with_reducible show wpAny _ _ (execs _ _) _ _ _) | walk1 | (k_unfold; try dsimp only))
      k_fold
      k_dflt (iterate 10 (first | (with_reducible show wpAny _ _ (exec (Stmt.For _ _ _ _ _) _) _ _ _) | walk1 | (k_unfold; try dsimp only)))
      ((rename Fr _ _ _ _ => lF'); (with_unfolding_all refine' For_turns lF' ?_; k_whole))
      iterate 10 (first | (with_reducible show wpAny _ _ (pyIter _) _ _ _) | walk1 | (k_unfold; try dsimp only))
      k_dflt (refine' forT (x := Str.ofString "hue") (vs := ts) (n := k) (fun c : Addr => [(Str.ofString "wheel", Value.ref c)]) [Str.ofString "hue", Str.ofString "share", Str.ofString "level", Str.ofString "least", Str.ofString "painted"] (WhI (fx := (I6, it6) :: nx6) ut bs (rowI sz (rowP sz ro)) i6) c6 ?hh2 ?F2 ?N2 ?hm2 ?hk2 ?hj2 ?turn2 ?done2; (case hh2 => exact rfl); (case F2 => k_asm); (case N2 => exact N6); (case hm2 => exact .tail _ (hs6 _ (.head _))))
      case hk2 => intro p hp; rcases List.mem_cons.mp hp with rfl | hp; exact rfl; cases hp
      case hj2 => exact ⟨vs6, k6, [], _, .tail _ mw, fun _ h => h, by simpa using hR6.mono fun p hp => List.Mem.tail _ hp, rfl, hT.mono fun p hp => .tail _ (hs6 _ (.tail _ hp))⟩
      case turn2 =>
        rintro I7 v7 r7 c7 u7 it7 nx7 h7 tk7 ho7 l7 ⟨vs7, k7, dn7, rest7, mw7, hs7, hR7, hrow7, hT7⟩ hm7 F7 N7
        dsimp only [kstB] at F7
        cases hT7 with
        | cons mt hT7 =>
        rename_i vq at7 x7 t9 t10 t11 t12 rest7
        obtain ⟨x0, x1, x2, x3, x4, x5⟩ := hrok _ (by rw [hrow7]; exact List.mem_append_right _ (.head _))
        dsimp only
        iterate 6 (first | (with_reducible show wpAny _ _ (execs _ _) _ _ _) | walk1 | (k_unfold; try dsimp only))
        k_fold
        iterate 30 (first | (with_reducible show wpAny _ _ (exec (Stmt.Assign _ (PySem.Expr.ListComp _ _ _ _) _) _) _ _ _) | walk1 | (k_unfold; try dsimp only))
        k_dflt (refine Assign_W (F₀ := by k_asm) (by rfl) (by with_unfolding_all rfl) (by with_unfolding_all rfl) (by decide) (by rfl) (by decide) (by rfl) (by rfl) (by rfl) ?_)
        have P : Paints _ _ _ i6 tn (mid6 i6 _ _ _) _ := paints (i := i6) (t := tn) hi6 (by omega) x2 x3 x4 x5
        k_steps
        k_dflt (refine' hsv_call (h := Float64.add (Float64.add (hueF (lr ut bs x7) (lg ut bs x7) (lb ut bs x7)) (qF i6 6)) (Float64.ofInt tn)) ?B ?F ?X ?N ?T ?hk ?hd ?hu P.s0 P.fin ?g3 ?g4 ?g5 ?g6 ?_; (case B => k_asm); (case F => k_asm); (case X => k_asm); (case N => k_asm); (case T => k_asm); (case hk => exact rfl); (case hd => first | exact room hd rfl | ktr_room); (case hu => first | exact room hu rfl | ktr_units); (case g3 => rw [P.whole]; omega); (case g4 => rw [P.whole]; omega); (case g5 => omega); (case g6 => omega))
        intro D8 h8 tk8 t13 t14 F8 N8 l8
        obtain ⟨v0, v1, v2, e8, w0, w1, w2⟩ := hsvL_three (tv := t11) (t1 := t13) (t2 := t14) P hi6 (by omega) (by omega)
        obtain ⟨am1, am2⟩ := arr6_max (k := i6) (M := lr ut bs x7) (A := mid6 i6 (lr ut bs x7) (lg ut bs x7) (lb ut bs x7)) (B := lb ut bs x7) (by unfold mid6; split <;> omega) (by unfold mid6; split <;> omega)
        obtain ⟨z0, z1, z2, e0⟩ : ∃ z0 z1 z2, arr6 i6 (lr ut bs x7) (mid6 i6 (lr ut bs x7) (lg ut bs x7) (lb ut bs x7)) (lb ut bs x7) = (z0, z1, z2) := ⟨_, _, _, rfl⟩
        have ewl : wl ut bs i6 x7 = [z0 - lb ut bs x7, z1 - lb ut bs x7, z2 - lb ut bs x7] := by unfold wl; rw [e0]
        rw [e0] at w0 w1 w2 am1 am2
        dsimp only at w0 w1 w2 am1 am2
        rw [e8] at N8
        replace l8 := allLt_of l8
        simp only [AllLt] at l8
        clear e8
        k_steps
        refine ⟨_, [v0, v1, v2], [z0, z1, z2], _, rfl, rfl, (by assumption), (by assumption), (.head _), ⟨w0, w1, w2, trivial⟩, (by show 3 ≤ 1000; decide), ?_, ?_⟩
        · rintro s₂ ⟨g9, rfl⟩ v z R1 ys9 I9 oI C oC D9 m₂ h9 tk9 E' hw hC hx F9 N9 off ne r1
          k_steps
          k_dflt (refine' whole_call hw ?B ?F ?X ?N ?T ?hk ?hd ?hu ?_; (case B => k_asm); (case F => k_asm); (case X => k_asm); (case N => k_asm); (case T => k_asm); (case hk => exact rfl); (case hd => first | exact room hd rfl | ktr_room); (case hu => first | exact room hu rfl | ktr_units))
          intro h10 tk10 t10 F10 N10
          k_steps
          exact ⟨_, _, _, rfl, (by assumption), (by assumption), off, .head _, r1 _⟩
        intro ys9 D9 h9 tk9 hI9 F9 N9 o9
        simp only [LCg.Off1] at o9
        obtain ⟨ta9, tb9, tc9, rfl⟩ := ints3 hI9
        have hvl : vs7.length ≤ 900 := by
          have h1 := hR7.length
          have h2 := rowI_len sz (rowP sz ro)
          rw [List.length_append, wheelL_len, List.length_map] at h1
          rw [hrow7, List.length_append] at h2
          have h3 : i6 * (rowI sz (rowP sz ro)).length ≤ 6 * 49 := Nat.mul_le_mul (by omega) (by rw [hrow7, List.length_append]; omega)
          omega
        k_steps
        · exact absurd ((max3_of (by assumption) (by assumption)).trans am1) (by assumption)
        · exact absurd ((min3_of (by assumption) (by assumption)).trans am2) (by assumption)
        k_dflt (refine' pure_call (ta := ta9) (tb := tb9) (tc := tc9) ?B ?F ?X ?N ?T ?hk ?hd ?hu ?mL ?_; (case B => k_asm); (case F => k_asm); (case X => k_asm); (case N => k_asm); (case T => k_asm); (case hk => exact rfl); (case hd => first | exact room hd rfl | ktr_room); (case hu => first | exact room hu rfl | ktr_units); (case mL => exact .head _))
        rw [am2]
        intro Dp hp tkp t18 t19 t20 Fp Np lp
        k_steps
        k_dflt (refine' concat_call (xs := vs7) (ys := [.ref Dp]) ?B ?F ?X ?N ?T ?hk ?hd ?hu ?mA ?mB ?hx ?hy ?_; (case B => k_asm); (case F => k_asm); (case X => k_asm); (case N => k_asm); (case T => k_asm); (case hk => exact rfl); (case hd => first | exact room hd rfl | ktr_room); (case hu => first | exact room hu rfl | ktr_units); (case mA => k_mem); (case mB => k_mem); (case hx => exact Nat.le_trans hvl (by decide)); (case hy => show 1 ≤ 1000; decide))
        intro Dc hc tkc Fc Nc lc
        simp only [AllLt] at lc
        k_steps
        refine unrEndV5 (by assumption) (by assumption) ?q1 ?q2 ?q3 ?q4 ?q5 (fun p hp => ho7 p hp) ?_
        case q1 => show @Ne Nat _ _; omega
        case q2 => show @Ne Nat _ _; omega
        case q3 => exact Ne.symm (lp _ (.tail _ (.tail _ (.head _))))
        case q4 => show @Ne Nat _ _; omega
        case q5 => show @Ne Nat _ _; omega
        refine ⟨.tail _ (.tail _ (.tail _ (.tail _ (.tail _ hm7)))), Dc, ⟨_, _, dn7 ++ [x7], rest7, .head _, fun p hp => .tail _ (.tail _ (.tail _ (.tail _ (.tail _ (hs7 p hp))))), ?_, by rw [List.append_assoc]; exact hrow7, hT7.mono fun p hp => .tail _ (.tail _ (.tail _ (.tail _ (.tail _ hp))))⟩, by kst_all, ?q9⟩
        case q9 => (try dsimp +zetaDelta only); kst_same
        rw [List.map_append, ← List.append_assoc]
        refine (hR7.mono fun p hp => .tail _ (.tail _ (.tail _ (.tail _ (.tail _ hp))))).append (.cons (us := [_, _, _]) (.tail _ (.tail _ (.head _))) ?_ .nil)
        rw [ewl]
        exact .cons _ _ (.cons _ _ (.cons _ _ .nil))
      case done2 =>
        rintro c8 u8 nx8 h8 tk8 ⟨vs8, k8, dn8, rest8, mw8, hs8, hR8, hrow8, hT8⟩ hm8 F8 N8
        cases hT8
        rw [List.append_nil] at hrow8
        subst hrow8
        rw [← wheelL_succ] at hR8
        obtain ⟨nx', n1, n2, n3, n4⟩ := ledger_filt N8 (hs8 _ (.head _)) hc6
        dsimp only [kstB] at F8
        k_steps
        refine UnrEnd.intro (by assumption) (by assumption) nx' n1 n2 ⟨c8, ⟨vs8, k8, n3 _ mw8 rfl, fun p hp => n4 _ (hs8 _ (.tail _ (hs6 p hp))) (ho6 _ (hs6 p hp)), hR8.lists n3⟩, by kst_all, ?q9⟩
        case q9 => (try dsimp +zetaDelta only); kst_same
--}
    case done =>
      rintro c9 u9 nx9 h9 tk9 ⟨vs9, k9, mw9, hs9, hR9⟩ F9 N9
      dsimp only [kstB] at F9
      replace mrow := hs9 _ (.tail _ mrow)
      replace m44 := hs9 _ (.tail _ m44)
      replace m51 := hs9 _ (.tail _ m51)
      replace msz := hs9 _ (.tail _ msz)
      replace TF1 : TabF pos1 qual1 ps1' nx9 := TF1.mono fun p hp => hs9 _ (.tail _ hp)
      replace TF2 : TabF pos2 qual2 ps2' nx9 := TF2.mono fun p hp => hs9 _ (.tail _ hp)
      replace hold : ∀ p ∈ news, p ∈ nx9 := fun p hp => hs9 _ (.tail _ ((hold p hp)))
      clear hs9
      k_steps
      have hl9 := hR9.length
      rw [wheelL_len] at hl9
      have hl0 := rowI_len sz (rowP sz ro)
      have hl10 : rs.length = (rowI sz (rowP sz ro)).length := hR.length
      have hl11 : vs9.length ≤ 900 := by omega
      k_dflt (refine' concat_call (xs := vs9) (ys := vs9) ?B ?F ?X ?N ?T ?hk ?hd ?hu ?mA ?mB ?hx ?hy ?_; (case B => k_asm); (case F => k_asm); (case X => k_asm); (case N => k_asm); (case T => k_asm); (case hk => exact rfl); (case hd => first | exact room hd rfl | ktr_room); (case hu => first | exact room hu rfl | ktr_units); (case mA => k_mem); (case mB => k_mem); (case hx => omega); (case hy => omega))
      intro Dm hm tkm Fm Nm lm
      have hlm : (vs9 ++ vs9).length = 12 * rs.length := by rw [List.length_append]; omega
      k_steps
      · exfalso; omega
      · exfalso; omega
      k_dflt (refine' mul_call ?B ?F ?X ?N ?T ?hk ?hd ?hu ?g1 ?g2 ?_; (case B => k_asm); (case F => k_asm); (case X => k_asm); (case N => k_asm); (case T => k_asm); (case hk => exact rfl); (case hd => first | exact room hd rfl | ktr_room); (case hu => first | exact room hu rfl | ktr_units); (case g1 => first | exact Nat.lt_of_le_of_lt (by assumption) (by decide) | omega); (case g2 => first | exact Nat.lt_of_le_of_lt (by assumption) (by decide) | omega))
      rw [← hut]
      intro hA tkA tA FA NA
      obtain ⟨wp1, wp2, wp3⟩ := white_parts (b := bs) (by omega)
      k_steps
      k_dflt (refine' light_A ?B ?F ?X ?N ?T ?hk ?C1 ?C2 ?mT1 ?mT2 ?TF1 ?TF2 ?hd ?hu ?g1 ?g2 ?g3 ?g4 ?_; (case B => k_asm); (case F => k_asm); (case X => k_asm); (case N => k_asm); (case T => k_asm); (case hk => exact rfl); (case hd => first | exact room hd rfl | ktr_room); (case hu => first | exact room hu rfl | ktr_units); (case C1 => k_asm); (case C2 => k_asm); (case mT1 => k_mem); (case mT2 => k_mem); (case TF1 => exact TabF.mono (by assumption) (by intro p hp; repeat (first | exact hp | refine List.Mem.tail _ ?_))); (case TF2 => exact TabF.mono (by assumption) (by intro p hp; repeat (first | exact hp | refine List.Mem.tail _ ?_))); (case g1 => omega); (case g2 => omega); (case g3 => omega); (case g4 => omega))
      rw [wp1, wp2, wp3]
      intro DB hB tkB t4 t5 t6 FB NB lB
      simp only [AllLt] at lB
      k_steps
      k_dflt (refine' rgb0_call ?B ?F ?X ?N ?T ?hk ?hd ?hu ?_; (case B => k_asm); (case F => k_asm); (case X => k_asm); (case N => k_asm); (case T => k_asm); (case hk => exact rfl); (case hd => first | exact room hd rfl | ktr_room); (case hu => first | exact room hu rfl | ktr_units))
      intro DC hC tkC t7 t8 t9 FC NC lC
      replace lC := allLt_of lC
      simp only [AllLt] at lC
      k_steps
      k_dflt (refine' ne_tup3 ?N ?m1 ?m2 ?hu ?e0 ?e1 ?e2 ?_; (case N => k_asm); (case m1 => exact .tail _ (.head _)); (case m2 => exact .head _); (case hu => exact room0 hu rfl); (case e0 => exact eqat_fi (by decide +kernel)); (case e1 => exact eqat_fi (by decide +kernel)); (case e2 => exact eqat_ii))
      k_steps
      k_dflt (refine' hsv0_call ?B ?F ?X ?N ?T ?hk ?hd ?hu ?_; (case B => k_asm); (case F => k_asm); (case X => k_asm); (case N => k_asm); (case T => k_asm); (case hk => exact rfl); (case hd => first | exact room hd rfl | ktr_room); (case hu => first | exact room hu rfl | ktr_units))
      intro DE hE tkE FE NE lE
      replace lE := allLt_of lE
      simp only [AllLt] at lE
      iterate 60 (first | (with_reducible show wpAny _ _ (compareOp _ _ _) _ _ _) | walk1 | (k_unfold; try dsimp only))
      k_dflt (refine' ne_tup3 ?N ?m1 ?m2 ?hu ?e0 ?e1 ?e2 ?_; (case N => k_asm); (case m1 => k_mem); (case m2 => k_mem); (case hu => exact room0 hu rfl); (case e0 => exact eqat_ii); (case e1 => exact eqat_ii); (case e2 => exact eqat_ii))
      k_steps
      refine wpAny_Try_except ?_
      k_steps
      k_dflt (refine' pure_call ?B ?F ?X ?N ?T ?hk ?hd ?hu ?mL ?_; (case B => k_asm); (case F => k_asm); (case X => k_asm); (case N => k_asm); (case T => k_asm); (case hk => exact rfl); (case hd => first | exact room hd rfl | ktr_room); (case hu => first | exact room hu rfl | ktr_units); (case mL => k_mem))
      intro Dp hp tkp t18 t19 t20 Fp Np lp
      k_steps
      rw [show bs - 1 - min (min (bs - 1) (bs - 1)) (bs - 1) = 0 by rw [Int.min_self, Int.min_self, Int.sub_self]] at Np
      have hWh : RefsAre nx9 (vs9 ++ vs9) (wheelL ut bs (rowI sz (rowP sz ro)) 6 ++ wheelL ut bs (rowI sz (rowP sz ro)) 6) := hR9.append hR9
      have hoff : [0, 0, 0] ∉ wheelL ut bs (rowI sz (rowP sz ro)) 6 ++ wheelL ut bs (rowI sz (rowP sz ro)) 6 := fun hm => (List.mem_append.mp hm).elim (white_off hrok 6) (white_off hrok 6)
      k_dflt (refine' index_none (vs := vs9 ++ vs9) (ub := [_, _, _]) ?B ?F ?X ?N ?T ?hk ?hd ?hu ?mA ?mB (hWh.mono ?sub) ?hB hoff ?_; (case B => k_asm); (case F => k_asm); (case X => k_asm); (case N => k_asm); (case T => k_asm); (case hk => exact rfl); (case hd => first | exact room hd rfl | ktr_room); (case hu => first | exact room hu rfl | ktr_units); (case mA => k_mem); (case mB => exact .head _); (case sub => intro p hp; repeat (first | exact hp | refine List.Mem.tail _ ?_)); (case hB => exact .cons _ _ (.cons _ _ (.cons _ _ .nil))))
      intro G eX hX tkX FX RX UX
      dsimp only
      k_dflt (refine' catchX (x := Str.ofString "ValueError") (KF := Mine.hd.heap_1 w.params) RX FX ?K UX X T ?ex ?hv ?hn ?h1 ?h2 ?h3 ?_ ?hk ?hx ?hd ?hE; (case K => k_asm))
      case ex => k_is
      case hv => boot_by_name
      case hn => decide
      case h1 => decide +kernel
      case h2 => decide +kernel
      case h3 => decide +kernel
      case hk => exact rfl
      case hx => exact rfl
      case hd => decide
      case hE => passes_own
      · intro h10 g10 TU F10 N10 B10 X10 T10
        k_steps
        rename Fr h₀ L _ m => kF
        rename News h₀ L _ _ => kN
        refine hret _ _ _ rs (vs9 ++ vs9) rs.length 0 ps1' ps2' _ _ _ _ _ _ kF kN ?r1 ?r2 hR ?r3 (hWh.mono ?r4) ?r5 ?r6 (TF1.mono ?r7) (TF2.mono ?r7) (by assumption)
        case r1 => intro p hp; have hp' := hold p hp; repeat (first | exact hp' | refine List.Mem.tail _ ?_)
        case r2 => repeat (first | exact mrow | refine List.Mem.tail _ ?_)
        case r3 => k_mem
        case r4 => intro p hp; repeat (first | exact hp | refine List.Mem.tail _ ?_)
        case r5 => repeat (first | exact m44 | refine List.Mem.tail _ ?_)
        case r6 => repeat (first | exact m51 | refine List.Mem.tail _ ?_)
        case r7 => intro p hp; repeat (first | exact hp | refine List.Mem.tail _ ?_)
end
section
variable {prog : Program} {w : World} {p : Program} {loose : List Str} {mean : ExcName → Option Value} {mg mb : Str → Option Value}
  {dp un : Nat} {gd : Option (List Code)} {cn : Str} {cs : Scope} {a : Addr} {ccd : Value} {cl : List (Str × Addr)} {outer : List Env} {A₀ : Around} {base h₀ : Heap} {L : Addr} {m : Str → Option Value} {news : List (Addr × Obj)} {s : Shared} {Q E : Value → Shared → Prop}
section
variable {A : Around} {E : Value → Shared → Prop} {s : Shared} {h₀ : Heap} {L l : Addr} {news : List (Addr × Obj)} {Q : Value → Shared → Prop}
theorem len_t {vs : List Value} {k : Nat} (N : News h₀ L s.heap news) (hm : (l, W.listOf vs.toArray k) ∈ news) (hz : vs.length < 2 ^ 60) (h : Q (.int vs.length (s.toks + 1)) { s with toks := s.toks + 1 + 1 }) :
    wpAny (model prog w) A (call (.builtin "len") [.ref l]) Q E s := by
  have hl : s.heap.IsList l vs.toArray := ⟨_, (N _ hm).1, rfl, k, rfl⟩
  refine len_list hl (by rw [List.size_toArray]; omega) ?_
  rw [List.size_toArray]
  exact h
end
local macro_rules | `(tactic| walk_at "call builtin:len") => `(tactic| (k_here; (with_reducible show wpAny _ _ (call (Value.builtin "len") [Value.ref _]) _ _ _); k_dflt (refine' len_t ?k1 ?k2 ?k3 ?_; (case k1 => k_asm); (case k2 => k_mem); (case k3 => omega); k_whole)))
theorem told_dm {way q n u : Int} (hw : way = 1 ∨ way = -1) (hn : 0 < n) (hu : 0 < u) : (way * (q * u)).fdiv (way * (n * u)) = q.fdiv n ∧ (way * (q * u)).fmod (way * (n * u)) = way * (q.fmod n * u) := by
  have h1 : (q * u).fdiv (n * u) = q.fdiv n := Int.mul_fdiv_mul_of_pos_left _ _ hu
  have h2 : (q * u).fmod (n * u) = q.fmod n * u := by
    rw [Int.fmod_def, h1, Int.fmod_def, Int.sub_mul]
    congr 1
    rw [Int.mul_right_comm]
  rcases hw with rfl | rfl
  · simp only [Int.one_mul]; exact ⟨h1, h2⟩
  · rw [show (-1 : Int) * (q * u) = -(q * u) by omega, show (-1 : Int) * (n * u) = -(n * u) by omega, show (-1 : Int) * (q.fmod n * u) = -(q.fmod n * u) by omega]
    have h3 : (-(q * u)).fdiv (-(n * u)) = q.fdiv n := by rw [Int.neg_fdiv_neg]; exact h1
    refine ⟨h3, ?_⟩
    rw [Int.fmod_def, h3, ← h2, Int.fmod_def, h1, Int.neg_mul]
    omega
theorem arr6_perm {k : Nat} {r g b M A B : Int} (e : (r, g, b) = arr6 k M A B) : [r, g, b].Perm [B, A, M] := by
  unfold arr6 at e
  split at e <;> cases e
  · exact (List.reverse_perm [_, _, _]).symm
  · exact List.perm_append_comm (l₁ := [_, _]) (l₂ := [_])
  · exact .cons _ (.swap _ _ _)
  · exact .refl _
  · exact .swap _ _ _
  · exact List.perm_append_comm (l₁ := [_]) (l₂ := [_, _])
theorem sort6 {ns : List Int} {r g b : Int} {k : Nat} {M A B : Int} (hp : ns.Perm [r, g, b]) (ho : ns.Pairwise (· ≤ ·)) (e : (r, g, b) = arr6 k M A B) (h1 : B < A) (h2 : A < M) : ns = [B, A, M] :=
  List.Perm.eq_of_pairwise (fun _ _ _ _ h h' => Int.le_antisymm h h') ho
    (.cons (fun x hx => by rcases List.mem_cons.mp hx with rfl | hx; exact Int.le_of_lt h1; rcases List.mem_singleton.mp hx with rfl; exact Int.le_of_lt (Int.lt_trans h1 h2)) (.cons (fun x hx => by rcases List.mem_singleton.mp hx with rfl; exact Int.le_of_lt h2) (.cons (fun _ h => nomatch h) .nil))) (hp.trans (arr6_perm e))
theorem arr6_rgb (k : Nat) {M A B : Int} (h0 : 0 ≤ B) (h1 : B < A) (h2 : A < M) (h3 : M ≤ 65536) : 0 ≤ (arr6 k M A B).1 ∧ 0 ≤ (arr6 k M A B).2.1 ∧ 0 ≤ (arr6 k M A B).2.2 ∧ (arr6 k M A B).1 < 2 ^ 40 ∧ (arr6 k M A B).2.1 < 2 ^ 40 ∧ (arr6 k M A B).2.2 < 2 ^ 40 := by
  have a0 := Int.le_trans h0 (Int.le_of_lt h1)
  have m0 := Int.le_trans a0 (Int.le_of_lt h2)
  have m1 : M < 2 ^ 40 := Int.lt_of_le_of_lt h3 (by decide)
  have a1 := Int.lt_trans h2 m1
  have b1 := Int.lt_trans h1 a1
  unfold arr6
  split <;> exact ⟨by assumption, by assumption, by assumption, by assumption, by assumption, by assumption⟩
theorem gap_small {x y : Int} (h0 : 0 ≤ y) (h1 : y ≤ x) (h2 : x ≤ 65536) : (x - y).natAbs < 2 ^ 62 ∧ (x - y).natAbs < 2 ^ 128 := by
  have h : (x - y).natAbs < 2 ^ 62 := by omega
  exact ⟨h, Nat.lt_trans h (by decide)⟩
theorem tokEnd5 {h₀ : Heap} {L I T0 : Addr} {it ob : Obj} {J : Nat → (Str → Option Value) → List (Addr × Obj) → Prop} {s₁ : Shared} {h' : Heap} {tk k : Nat} {m' : Str → Option Value} {a b c d e : Addr × Obj} {ex : List (Addr × Obj)} (F : Fr h₀ L h' m') (N : News h₀ L h' (a :: b :: c :: d :: e :: (I, it) :: (T0, ob) :: ex))
    (hT : T0 ≠ I) (hex : ∀ p ∈ ex, p.1 ≠ I) (ha : a.1 ≠ I) (hb : b.1 ≠ I) (hc : c.1 ≠ I) (hd : d.1 ≠ I) (he : e.1 ≠ I) (hk : k ≤ tk) (r : J k m' ((T0, ob) :: a :: b :: c :: d :: e :: ex)) : TokEnd h₀ L s₁ I it J { s₁ with heap := h', toks := tk } := by
  refine ⟨h', tk, m', (T0, ob) :: a :: b :: c :: d :: e :: ex, rfl, F, fun p hp => N p ?_, fun p hp => ?_, k, hk, r⟩
  · simp only [List.mem_cons] at hp ⊢
    rcases hp with h | h | h | h | h | h | h | h <;> simp [h]
  · simp only [List.mem_cons] at hp
    rcases hp with rfl | rfl | rfl | rfl | rfl | rfl | h
    · exact hT
    · exact ha
    · exact hb
    · exact hc
    · exact hd
    · exact he
    · exact hex p h
/-- the names that a turn of told stores -/
abbrev toldS : List Str := [Str.ofString "count", Str.ofString "rest", Str.ofString "left", Str.ofString "light", Str.ofString "hue", Str.ofString "share", Str.ofString "level", Str.ofString "place", Str.ofString "sixth", Str.ofString "least", Str.ofString "middle", Str.ofString "most", Str.ofString "spread", Str.ofString "ahead"]
/-- what told's loop keeps -/
inductive ToldJ (mm : Int) (sz : Nat) (ut bs : Int) (row : List Int) (rim : List (List Int)) {m₀ : Str → Option Value} {S0 : Addr} {fx : List (Addr × Obj)} (i k : Nat) (m : Str → Option Value) (nx : List (Addr × Obj)) : Prop
  | mk (vsp : _) (ksp : _) (ex : _) (tt : _) (c1 : nx = (S0, W.listOf vsp.toArray ksp) :: ex) (c2 : (∀ p ∈ ex, p.1 ≠ S0)) (c3 : (∀ p ∈ fx, p ∈ ex)) (c4 : IntsAre vsp ((row.take i).map (spot mm sz ut bs row.length rim))) (c5 : (∀ v ∈ vsp, TokIn k v)) (c6 : (∀ x ∈ row.take i, (mm * x).fmod sz ≠ 0)) (c7 : StAt (fun c : Int × Tok => [(Str.ofString "total", Value.int c.1 c.2)]) (Str.ofString "x") toldS m₀ (((row.take i).map (sixth mm sz ut bs row.length rim)).sum, tt) m) (c8 : (0 < i → ∃ Dl kl x t1 t2 t3, x ∈ row ∧ m (Str.ofString "light") = some (.ref Dl) ∧ (Dl, W.listOf #[.int (lr ut bs ((mm * x).fmod sz)) t1, .int (lg ut bs ((mm * x).fmod sz)) t2, .int (lb ut bs ((mm * x).fmod sz)) t3] kl) ∈ ex ∧ (mm * x).fmod sz ≠ 0)) : @ToldJ mm sz ut bs row rim m₀ S0 fx i k m nx
theorem told_next {mm : Int} {sz : Nat} {ut bs : Int} {row : List Int} {rim : List (List Int)} {m₀ m' : Str → Option Value} {S0 : Addr} {fx ex : List (Addr × Obj)} {i k k' ksp : Nat} {vsp : List Value} {x : Int} {tv tt : Tok} {Dl : Addr} {kl : Nat} {q1 q2 q3 : Tok} {v r : Int}
    (hx : row[i]? = some x) (hI : IntsAre vsp ((row.take i).map (spot mm sz ut bs row.length rim))) (hT : ∀ v ∈ vsp, TokIn k v) (hz : ∀ x ∈ row.take i, (mm * x).fmod sz ≠ 0) (hY : (mm * x).fmod sz ≠ 0) (hv : v = spot mm sz ut bs row.length rim x) (hr : r = sixth mm sz ut bs row.length rim x)
    (hk : k ≤ k') (ht : 0 < tv ∧ tv < k') (hs : smallInt v = true) (hS : ∀ p ∈ ex, p.1 ≠ S0) (hf : ∀ p ∈ fx, p ∈ ex)
    (hst : StAt (fun c : Int × Tok => [(Str.ofString "total", Value.int c.1 c.2)]) (Str.ofString "x") toldS m₀ (((row.take i).map (sixth mm sz ut bs row.length rim)).sum + r, tt) m')
    (hl : m' (Str.ofString "light") = some (.ref Dl)) (hml : (Dl, W.listOf #[.int (lr ut bs ((mm * x).fmod sz)) q1, .int (lg ut bs ((mm * x).fmod sz)) q2, .int (lb ut bs ((mm * x).fmod sz)) q3] kl) ∈ ex) :
    ToldJ (m₀ := m₀) (fx := fx) (S0 := S0) mm sz ut bs row rim (i + 1) k' m' ((S0, W.listOf (vsp ++ [Value.int v tv]).toArray (ksp + 1)) :: ex) := by
  have e : row.take (i + 1) = row.take i ++ [x] := by rw [List.take_add_one, hx]; rfl
  have hxm := List.mem_of_getElem? hx
  refine ⟨_, _, ex, tt, rfl, hS, hf, ?_, ?_, ?_, ?_, fun _ => ⟨Dl, kl, x, q1, q2, q3, hxm, hl, hml, hY⟩⟩
  · rw [e, List.map_append, hv]
    exact hI.append (.cons _ _ .nil)
  · intro u hu
    rcases List.mem_append.mp hu with hu | hu
    · exact (hT u hu).mono hk
    · rcases List.mem_singleton.mp hu with rfl
      exact ⟨v, tv, rfl, ht.1, ht.2, hs⟩
  · intro u hu
    rw [e] at hu
    rcases List.mem_append.mp hu with hu | hu
    · exact hz u hu
    · rcases List.mem_singleton.mp hu with rfl
      exact hY
  · rw [e, List.map_append, List.sum_append]
    simpa [hr] using hst
set_option maxRecDepth 100000 in
set_option maxHeartbeats 8000000 in
theorem told_call {mm bs ut way : Int} {tm tw t1 t2 t3 : Tok} {sz : Nat} {ring Dr Dm : Addr} {rs vs : List Value} {kr km : Nat} {row : List Int} {rim : List (List Int)} {ps1 ps2 : Array Value}
   (B : Below A₀ base outer h₀) (F : Fr h₀ L s.heap m) (X : (Mine.hd.heap_1 w.params).In h₀) (N : News h₀ L s.heap news) (T : Top p loose mean mg mb h₀) (hk : cs.kind = .function)
   (C1 : CodeHd base 48 44) (C2 : CodeHd base 55 51) (mT1 : (44, tabObj ps1) ∈ news) (mT2 : (51, tabObj ps2) ∈ news) (TF1 : TabF pos1 qual1 ps1 news) (TF2 : TabF pos2 qual2 ps2 news)
   (hd : dp + 400 < recursionLimit) (hu : un + 3000 < cLine) (mR : (ring, tup [.int sz t1, .int bs t2, .int ut t3, .ref Dr, .ref Dm]) ∈ news) (mr : (Dr, W.listOf rs.toArray kr) ∈ news) (hR : IntsAre rs row) (mm' : (Dm, W.listOf vs.toArray km) ∈ news) (hV : RefsAre news vs rim)
   (hway : way = 1 ∨ way = -1) (hmm : mm.natAbs < 2 ^ 20) (hrow : ∀ x ∈ row, 0 ≤ x ∧ x ≤ 49) (hlen : 0 < row.length) (hlen2 : row.length ≤ 49) (hS : 0 < sz) (hS2 : sz ≤ 49) (hb : 0 < bs) (hb2 : bs ≤ 65536) (hut : bs ^ 3 - 1 = sz * ut) (hu0 : 0 < ut)
   (hL : ∀ x ∈ row, (mm * x).fmod sz ≠ 0 → LightOk ut bs rim row.length ((mm * x).fmod sz))
   (hsp : (∀ x ∈ row, (mm * x).fmod sz ≠ 0) → ∀ i < row.length, (row.map (spot mm sz ut bs row.length rim)).count (i : Int) = 1)
   (hretA : (∀ x ∈ row, (mm * x).fmod sz ≠ 0) → ∀ h' tk' t, Fr h₀ L h' m → News h₀ L h' news → Q (.int ((row.map (sixth mm sz ut bs row.length rim)).sum.fmod 6) t) { s with heap := h', toks := tk' })
   (hretB : (∃ x ∈ row, (mm * x).fmod sz = 0) → ∀ h' tk' t, Fr h₀ L h' m → News h₀ L h' news → Q (.int (-1) t) { s with heap := h', toks := tk' }) :
    wpAny (model prog w) (ktrTop dp un gd cn cs L a ccd cl outer) (call (.ref 157) [.int mm tm, .ref ring, .int way tw]) Q E s := by
  refine wpAny_call ?_
  k_dflt ktr_enter
  refine letA ?_
  intro A9
  obtain ⟨p1, p2⟩ := cube_le (x := bs) hb hb2
  k_steps
  k_dflt (refine' sub_call ?B ?F ?X ?N ?T ?hk ?hd ?hu ?_; (case B => k_asm); (case F => k_asm); (case X => k_asm); (case N => k_asm); (case T => k_asm); (case hk => exact rfl); (case hd => first | exact room hd rfl | ktr_room); (case hu => first | exact room hu rfl | ktr_units))
  rw [show bs ^ Int.toNat 3 - 1 = (sz : Int) * ut from hut]
  intro hA tkA tA FA NA
  k_steps
  refine wpAny_For ?_
  iterate 10 (first | (with_reducible show wpAny _ _ (pyIter _) _ _ _) | walk1 | (k_unfold; try dsimp only))
  k_dflt (refine' forLT (vs := rs) (k₀ := kr) (ToldJ mm sz ut bs row rim) ?hh ?F ?N ?hm ?hK ?h0 ?turn ?done; (case hh => exact rfl); (case F => k_asm); (case N => k_asm); (case hm => k_mem))
  case hK =>
    rintro i k m nx ⟨vsp, ksp, ex, tt, rfl, _, hsub, _⟩
    exact .tail _ (hsub _ mr)
  case h0 => exact ⟨[], 0, _, _, rfl, by k_all, fun _ h => h, .nil, fun v hv => (nomatch hv), fun v hv => (nomatch hv), ⟨(fun p hp => by rcases List.mem_cons.mp hp with rfl | hp; (first | exact rfl | (simp only [List.take_zero, List.map_nil, List.sum_nil]; exact rfl)); cases hp), fun _ _ _ _ => rfl⟩, fun h => absurd h (Nat.lt_irrefl 0)⟩
  case turn =>
    --{
    rintro I i v m1 nx o h tk k kt hk hkt hv lI ⟨vsp, ksp, ex, tt, rfl, hne, hsub, hIs, hTk, hnz, ⟨hs1, hs2⟩, _⟩ hoI F1 N1
    have F2 := kst_frOut hs1 hs2 F1
    clear F1 hs1 hs2
    dsimp only [kstB] at F2
    obtain ⟨x, tx, rfl, hx⟩ := ints_at hR hv
    have hxm := List.mem_of_getElem? hx
    obtain ⟨x0, x1⟩ := hrow x hxm
    replace mT1 := hsub _ mT1
    replace mT2 := hsub _ mT2
    replace mm' := hsub _ mm'
    replace TF1 : TabF pos1 qual1 ps1 ex := TF1.mono hsub
    replace TF2 : TabF pos2 qual2 ps2 ex := TF2.mono hsub
    replace hV := hV.mono hsub
    have mr' := hsub _ mr
    have hrl : rs.length = row.length := hR.length
    have htl : vsp.length ≤ 1000 := by have h1 := hIs.length; rw [List.length_map, List.length_take] at h1; omega
    have hTI := hoI _ (.head _)
    dsimp only at hTI
    have hy0 : 0 ≤ (mm * x).fmod sz := Int.fmod_nonneg_of_pos _ (by omega)
    have hy1 : (mm * x).fmod sz < sz := Int.fmod_lt_of_pos _ (by omega)
    have hb1 : (mm * x).natAbs ≤ 2 ^ 20 * 49 := by rw [Int.natAbs_mul]; exact Nat.mul_le_mul (by omega) (by omega)
    have hut1 : ut.natAbs < 2 ^ 60 := by
      have := Int.mul_le_mul_of_nonneg_right (show 1 ≤ (sz : Int) by omega) (Int.le_of_lt hu0)
      omega
    have hb2' : (mm * x * ut).natAbs ≤ 2 ^ 20 * 49 * 2 ^ 60 := by rw [Int.natAbs_mul]; exact Nat.mul_le_mul hb1 (by omega)
    have hwa : way.natAbs = 1 := by rcases hway with rfl | rfl <;> rfl
    have hb3 : (way * (mm * x * ut)).natAbs ≤ 2 ^ 20 * 49 * 2 ^ 60 := by rw [Int.natAbs_mul, hwa, Nat.one_mul]; exact hb2'
    have hb4 : (way * ((sz : Int) * ut)).natAbs < 2 ^ 60 := by rw [Int.natAbs_mul, hwa, Nat.one_mul]; omega
    have hb5 : way * ((sz : Int) * ut) ≠ 0 := by
      have := Int.mul_pos (show 0 < (sz : Int) by omega) hu0
      rcases hway with rfl | rfl <;> omega
    obtain ⟨eq1, eq2⟩ := told_dm (q := mm * x) hway (show 0 < (sz : Int) by omega) hu0
    have hyu0 : 0 ≤ (mm * x).fmod sz * ut := Int.mul_nonneg hy0 (Int.le_of_lt hu0)
    have hyu1 : (mm * x).fmod sz * ut ≤ 49 * 2 ^ 60 := Int.mul_le_mul (by omega) (by omega) (Int.le_of_lt hu0) (by decide)
    have hb6 : (way * ((mm * x).fmod sz * ut)).natAbs ≤ 49 * 2 ^ 60 := by rw [Int.natAbs_mul, hwa, Nat.one_mul]; omega
    have hww : way * (way * ((mm * x).fmod sz * ut)) = (mm * x).fmod sz * ut := by rcases hway with rfl | rfl <;> omega
    dsimp only
    iterate 6 (first | (with_reducible show wpAny _ _ (execs _ _) _ _ _) | walk1 | (k_unfold; try dsimp only))
    k_fold
    k_steps
    k_dflt (refine' mul_call ?B ?F ?X ?N ?T ?hk ?hd ?hu ?g1 ?g2 ?_; (case B => k_asm); (case F => k_asm); (case X => k_asm); (case N => k_asm); (case T => k_asm); (case hk => exact rfl); (case hd => first | exact room hd rfl | ktr_room); (case hu => first | exact room hu rfl | ktr_units); (case g1 => first | exact Nat.lt_of_le_of_lt (by assumption) (by decide) | omega); (case g2 => first | exact Nat.lt_of_le_of_lt (by assumption) (by decide) | omega))
    intro hB tkB tB FB NB
    k_steps
    k_dflt (refine' mul_call ?B ?F ?X ?N ?T ?hk ?hd ?hu ?g1 ?g2 ?_; (case B => k_asm); (case F => k_asm); (case X => k_asm); (case N => k_asm); (case T => k_asm); (case hk => exact rfl); (case hd => first | exact room hd rfl | ktr_room); (case hu => first | exact room hu rfl | ktr_units); (case g1 => first | exact Nat.lt_of_le_of_lt (by assumption) (by decide) | omega); (case g2 => first | exact Nat.lt_of_le_of_lt (by assumption) (by decide) | omega))
    intro hC tkC tC FC NC
    k_steps
    k_dflt (refine' mul_call ?B ?F ?X ?N ?T ?hk ?hd ?hu ?g1 ?g2 ?_; (case B => k_asm); (case F => k_asm); (case X => k_asm); (case N => k_asm); (case T => k_asm); (case hk => exact rfl); (case hd => first | exact room hd rfl | ktr_room); (case hu => first | exact room hu rfl | ktr_units); (case g1 => first | exact Nat.lt_of_le_of_lt (by assumption) (by decide) | omega); (case g2 => first | exact Nat.lt_of_le_of_lt (by assumption) (by decide) | omega))
    intro hD tkD tD FD ND
    k_steps
    k_dflt (refine' mul_call ?B ?F ?X ?N ?T ?hk ?hd ?hu ?g1 ?g2 ?_; (case B => k_asm); (case F => k_asm); (case X => k_asm); (case N => k_asm); (case T => k_asm); (case hk => exact rfl); (case hd => first | exact room hd rfl | ktr_room); (case hu => first | exact room hu rfl | ktr_units); (case g1 => first | exact Nat.lt_of_le_of_lt (by assumption) (by decide) | omega); (case g2 => first | exact Nat.lt_of_le_of_lt (by assumption) (by decide) | omega))
    intro hE tkE tE FE NE
    k_steps
    k_dflt (refine' idm_A ?B ?F ?X ?N ?T ?hk ?C1 ?C2 ?mT1 ?mT2 ?TF1 ?TF2 ?hd ?hu ?g1 hb5 hb4 ?_; (case B => k_asm); (case F => k_asm); (case X => k_asm); (case N => k_asm); (case T => k_asm); (case hk => exact rfl); (case hd => first | exact room hd rfl | ktr_room); (case hu => first | exact room hu rfl | ktr_units); (case C1 => k_asm); (case C2 => k_asm); (case mT1 => k_mem); (case mT2 => k_mem); (case TF1 => exact TabF.mono (by assumption) (by intro p hp; repeat (first | exact hp | refine List.Mem.tail _ ?_))); (case TF2 => exact TabF.mono (by assumption) (by intro p hp; repeat (first | exact hp | refine List.Mem.tail _ ?_))); (case g1 => omega))
    rw [eq1, eq2]
    intro DF hF tkF tF1 tF2 FF NF lF
    simp only [AllLt] at lF
    k_steps
    k_dflt (refine' mul_call ?B ?F ?X ?N ?T ?hk ?hd ?hu ?g1 ?g2 ?_; (case B => k_asm); (case F => k_asm); (case X => k_asm); (case N => k_asm); (case T => k_asm); (case hk => exact rfl); (case hd => first | exact room hd rfl | ktr_room); (case hu => first | exact room hu rfl | ktr_units); (case g1 => first | exact Nat.lt_of_le_of_lt (by assumption) (by decide) | omega); (case g2 => first | exact Nat.lt_of_le_of_lt (by assumption) (by decide) | omega))
    rw [hww]
    intro hG tkG tG FG NG
    k_steps
    · exact absurd rfl (by assumption)
    · exact absurd rfl (by assumption)
    k_dflt (refine' light_A ?B ?F ?X ?N ?T ?hk ?C1 ?C2 ?mT1 ?mT2 ?TF1 ?TF2 ?hd ?hu ?g1 ?g2 ?g3 ?g4 ?_; (case B => k_asm); (case F => k_asm); (case X => k_asm); (case N => k_asm); (case T => k_asm); (case hk => exact rfl); (case hd => first | exact room hd rfl | ktr_room); (case hu => first | exact room hu rfl | ktr_units); (case C1 => k_asm); (case C2 => k_asm); (case mT1 => k_mem); (case mT2 => k_mem); (case TF1 => exact TabF.mono (by assumption) (by intro p hp; repeat (first | exact hp | refine List.Mem.tail _ ?_))); (case TF2 => exact TabF.mono (by assumption) (by intro p hp; repeat (first | exact hp | refine List.Mem.tail _ ?_))); (case g1 => omega); (case g2 => omega); (case g3 => omega); (case g4 => omega))
    intro DH hH tkH tH1 tH2 tH3 FH NH lH
    simp only [AllLt] at lH
    k_steps
    by_cases hY : (mm * x).fmod sz = 0
    · have z0 : (mm * x).fmod sz * ut = 0 := by rw [hY, Int.zero_mul]
      have w1 : lightR ((mm * x).fmod sz * ut) bs = 0 := by rw [z0]; unfold lightR; exact Int.zero_fdiv _
      have w2 : lightG ((mm * x).fmod sz * ut) bs = 0 := by rw [z0]; unfold lightG; rw [Int.zero_fmod, Int.zero_fmod]
      have w3 : lightB ((mm * x).fmod sz * ut) bs = 0 := by rw [z0]; unfold lightB; rw [Int.zero_fmod, Int.zero_fdiv]
      rw [w1, w2, w3]
      k_dflt (refine' rgb0_call (r := 0) ?B ?F ?X ?N ?T ?hk ?hd ?hu ?_; (case B => k_asm); (case F => k_asm); (case X => k_asm); (case N => k_asm); (case T => k_asm); (case hk => exact rfl); (case hd => first | exact room hd rfl | ktr_room); (case hu => first | exact room hu rfl | ktr_units))
      intro DI hI tkI tI1 tI2 tI3 FI NI lI2
      replace lI2 := allLt_of lI2
      simp only [AllLt] at lI2
      k_steps
      k_dflt (refine' ne_tup3 ?N ?m1 ?m2 ?hu ?e0 ?e1 ?e2 ?_; (case N => k_asm); (case m1 => exact .tail _ (.head _)); (case m2 => exact .head _); (case hu => exact room0 hu rfl); (case e0 => exact eqat_fi (by decide +kernel)); (case e1 => exact eqat_fi (by decide +kernel)); (case e2 => exact eqat_ii))
      k_steps
      · rename Fr h₀ L _ m => kF
        rename News h₀ L _ _ => kN
        exact hretB ⟨x, hxm, hY⟩ _ _ _ kF fun p hp => kN p (by repeat (first | exact hsub p hp | refine List.Mem.tail _ ?_))
      · exact absurd z0 (by assumption)
    · obtain ⟨kk, M, A, Bb, q0, q1, q2, q3, q4, q5, q6, q7, q8⟩ := hL x hxm hY
      have r1 : lightR ((mm * x).fmod sz * ut) bs = (arr6 kk M A Bb).1 := congrArg Prod.fst q5
      have r2 : lightG ((mm * x).fmod sz * ut) bs = (arr6 kk M A Bb).2.1 := congrArg (fun p => p.2.1) q5
      have r3 : lightB ((mm * x).fmod sz * ut) bs = (arr6 kk M A Bb).2.2 := congrArg (fun p => p.2.2) q5
      obtain ⟨am1, am2⟩ := arr6_max (k := kk) (M := M) (A := A) (B := Bb) (Int.le_of_lt q2) (Int.le_of_lt q3)
      obtain ⟨rm1, rm2, rm3, rm4, rm5, rm6⟩ := arr6_rgb kk q1 q2 q3 q4
      rw [← r1, ← r2, ← r3] at am1 am2
      rw [← r1] at rm1 rm4
      rw [← r2] at rm2 rm5
      rw [← r3] at rm3 rm6
      have ⟨_, _⟩ := gap_small q1 (Int.le_of_lt (Int.lt_trans q2 q3)) q4
      have ⟨_, _⟩ := gap_small (Int.le_trans q1 (Int.le_of_lt q2)) (Int.le_of_lt q3) q4
      have ⟨_, _⟩ := gap_small q1 (Int.le_of_lt q2) (Int.le_of_lt (Int.lt_of_lt_of_le q3 q4))
      have ⟨hM62, hM128⟩ := gap_small (Int.le_refl 0) (Int.le_trans q1 (Int.le_of_lt (Int.lt_trans q2 q3))) q4
      rw [Int.sub_zero] at hM62 hM128
      k_dflt (refine' rgb_call (r := lightR ((mm * x).fmod sz * ut) bs) (g := lightG ((mm * x).fmod sz * ut) bs) (b := lightB ((mm * x).fmod sz * ut) bs) ?B ?F ?X ?N ?T ?hk ?hd ?hu rm1 rm2 rm3 rm4 rm5 rm6 ?g7 ?_; (case B => k_asm); (case F => k_asm); (case X => k_asm); (case N => k_asm); (case T => k_asm); (case hk => exact rfl); (case hd => first | exact room hd rfl | ktr_room); (case hu => first | exact room hu rfl | ktr_units); (case g7 => rw [am1, am2]; exact Int.ne_of_lt (Int.lt_trans q2 q3)))
      rw [am1]
      intro DI hI tkI tI1 tI2 tI3 FI NI lI2
      replace lI2 := allLt_of lI2
      simp only [AllLt] at lI2
      have hne0 : (mm * x).fmod sz * ut ≠ 0 := by
        intro e
        rcases Int.mul_eq_zero.mp e with e | e
        · exact hY e
        · omega
      k_steps
      · exact absurd (by assumption) hne0
      k_dflt (refine' pure_call (r := lightR ((mm * x).fmod sz * ut) bs) (g := lightG ((mm * x).fmod sz * ut) bs) (b := lightB ((mm * x).fmod sz * ut) bs) ?B ?F ?X ?N ?T ?hk ?hd ?hu ?mL ?_; (case B => k_asm); (case F => k_asm); (case X => k_asm); (case N => k_asm); (case T => k_asm); (case hk => exact rfl); (case hd => first | exact room hd rfl | ktr_room); (case hu => first | exact room hu rfl | ktr_units); (case mL => k_mem))
      intro DJ hJ tkJ tJ1 tJ2 tJ3 FJ NJ lJ
      have hDJ1 := lJ _ (.tail _ (.tail _ (.tail _ (.tail _ (.head _)))))
      dsimp only at hDJ1
      k_steps
      k_dflt (refine' index_refs (vs := vs) (ub := [_, _, _]) (nb := pl ut bs ((mm * x).fmod sz)) ?B ?F ?X ?N ?T ?hk ?hd ?hu ?mA ?mB (hV.mono ?sub) ?hB q6 ?_; (case B => k_asm); (case F => k_asm); (case X => k_asm); (case N => k_asm); (case T => k_asm); (case hk => exact rfl); (case hd => first | exact room hd rfl | ktr_room); (case hu => first | exact room hu rfl | ktr_units); (case mA => k_mem); (case mB => exact .head _); (case sub => intro p hp; repeat (first | exact hp | refine List.Mem.tail _ ?_)); (case hB => exact .cons _ _ (.cons _ _ (.cons _ _ .nil))))
      intro hK tkK tK FK NK
      k_steps
      rename IntsAre _ _ => hI9
      rename List.Pairwise _ _ => hO9
      rename List.Perm _ _ => hP9
      have hS9 := sort6 hP9 hO9 q5 q2 q3
      subst hS9
      obtain ⟨ta9, tb9, tc9, rfl⟩ := ints3 hI9
      clear hO9 hP9
      have hsx : ((rim.idxOf (pl ut bs ((mm * x).fmod sz)) : Nat) : Int).fdiv (rs.length : Int) = (kk : Int) := by rw [hrl, Int.fdiv_eq_ediv_of_nonneg _ (by omega), ← Int.natCast_ediv, q7]
      have tH := told_hue kk q0 q2 q3 q1 q4
      rw [← r1, ← r2, ← r3, show (4618441417868443648 : UInt64) = Float64.ofInt 6 by decide +kernel] at tH
      have tS := told_share am1 am2 (Int.lt_trans q2 q3) q1 q4
      have ⟨_, _⟩ : (ahead kk M A Bb).natAbs < 2 ^ 62 ∧ (ahead kk M A Bb).natAbs < 2 ^ 128 := by
        unfold ahead
        split
        · exact ⟨by assumption, by assumption⟩
        · exact ⟨by assumption, by assumption⟩
      iterate 99 (first | (with_reducible show wpAny _ _ (exec (Stmt.Assign _ (PySem.Expr.IfExp _ _ _ _) _) _) _ _ _) | walk1 | (k_unfold; try dsimp only))
      rename Fr _ _ _ _ => FM9
      rename News _ _ _ _ => NM9
      refine mid_asg (Str.ofString "ahead") (fun t => .int (ahead kk M A Bb) t) FM9 NM9 ?_ ?_
      · k_steps
        · rename Int.fmod _ 2 = 0 => hpar
          rw [hsx, Int.fmod_eq_emod_of_nonneg _ (by decide)] at hpar
          rw [show ahead kk M A Bb = A - Bb from if_pos (Int.ofNat_inj.mp hpar)]
          exact ⟨rfl, _, _, _, rfl, by assumption, by assumption⟩
        · rename ¬ (Int.fmod _ 2 = 0) => hpar
          rw [hsx, Int.fmod_eq_emod_of_nonneg _ (by decide)] at hpar
          rw [show ahead kk M A Bb = M - A from if_neg fun e => hpar (congrArg Int.ofNat e)]
          exact ⟨rfl, _, _, _, rfl, by assumption, by assumption⟩
      · intro h10 tk10 t10 mk10 F10 N10
        k_steps
        k_dflt (refine' whole_call (.inl ⟨_, _, rfl, tH⟩) ?B ?F ?X ?N ?T ?hk ?hd ?hu ?_; (case B => k_asm); (case F => k_asm); (case X => k_asm); (case N => k_asm); (case T => k_asm); (case hk => exact rfl); (case hd => first | exact room hd rfl | ktr_room); (case hu => first | exact room hu rfl | ktr_units))
        intro hL tkL tL FL NL
        k_steps
        · rename ¬ (_ = _) => hbad
          exact absurd (by rw [hsx]) hbad
        · exact absurd rfl (by assumption)
        k_dflt (refine' whole_call (.inl ⟨_, _, rfl, tS⟩) ?B ?F ?X ?N ?T ?hk ?hd ?hu ?_; (case B => k_asm); (case F => k_asm); (case X => k_asm); (case N => k_asm); (case T => k_asm); (case hk => exact rfl); (case hd => first | exact room hd rfl | ktr_room); (case hu => first | exact room hu rfl | ktr_units))
        intro hM tkM tM FM NM
        k_steps
        · exact absurd rfl (by assumption)
        have hDJ2 : @Ne Nat DJ _ := Ne.symm hDJ1
        have hTI2 : @Ne Nat I _ := Ne.symm hTI
        k_dflt (refine' append_s ?k1 ?k2 ?k3 htl ?_; (case k1 => k_asm); (case k2 => k_asm); (case k3 => k_upd))
        intro hO FO NO
        iterate 12 (first | (with_reducible show wpAny _ _ (execs (_ :: _) _) _ _ _) | walk1 | (k_unfold; try dsimp only))
        refine wp_gen fun nO hnO => ?_
        try dsimp only at hnO
        k_steps
        refine toks_q ?_
        k_dflt (refine' add_call ?B ?F ?X ?N ?T ?hk ?hd ?hu ?_; (case B => k_asm); (case F => k_asm); (case X => k_asm); (case N => k_asm); (case T => k_asm); (case hk => exact rfl); (case hd => first | exact room hd rfl | ktr_room); (case hu => first | exact room hu rfl | ktr_units))
        intro hP tkP tP FP NP hle
        try dsimp only at hle
        iterate 12 (first | (with_reducible show wpAny _ _ (execs [] _) _ _ _) | walk1 | (k_unfold; try dsimp only))
        refine wp_gen fun nP hnP => ?_
        try dsimp only at hnP
        k_steps
        rename _ ≤ _ => hle0
        try dsimp only at hle0
        refine tokEnd5 (by assumption) (by assumption) (hoI _ (.head _)) (fun p hp => hoI p (.tail _ hp)) ?q1 ?q2 ?q3 ?q4 ?q5 (Nat.le_refl _) ?_
        case q1 => show @Ne Nat _ _; omega
        case q2 => exact Ne.symm (lJ _ (.tail _ (.tail _ (.tail _ (.head _)))))
        case q3 => show @Ne Nat _ _; omega
        case q4 => show @Ne Nat _ _; omega
        case q5 => show @Ne Nat _ _; omega
        refine told_next (x := x) (r := ((rim.idxOf (pl ut bs ((mm * x).fmod sz)) : Nat) : Int).fdiv (rs.length : Int)) (q1 := tH1) (q2 := tH2) (q3 := tH3) (kl := 0) (Dl := DH) (tt := tP) hx hIs hTk hnz hY ?hv ?hr ?hk2 ?ht ?hs ?hS ?hf ?hst ?hl ?hml
        case hv => unfold spot; rw [hrl, Int.fmod_eq_emod_of_nonneg _ (by omega), ← Int.natCast_emod]
        case hr => unfold sixth; rw [hsx, q7]
        case hk2 => omega
        case ht => exact ⟨Nat.succ_pos _, Nat.lt_of_lt_of_le hnO (Nat.le_trans hle (Nat.le_trans (Nat.le_succ _) hnP))⟩
        case hs =>
          have f1 := Int.fmod_nonneg_of_pos ((rim.idxOf (pl ut bs ((mm * x).fmod sz)) : Nat) : Int) (show (0 : Int) < rs.length by omega)
          have f2 := Int.fmod_lt_of_pos ((rim.idxOf (pl ut bs ((mm * x).fmod sz)) : Nat) : Int) (show (0 : Int) < rs.length by omega)
          unfold smallInt
          simp only [Bool.and_eq_true, decide_eq_true_eq]
          omega
        case hS => (repeat (refine List.forall_mem_cons.mpr ⟨by show @Ne Nat _ _; omega, ?_⟩)); exact hne
        case hf => exact fun p hp => .tail _ (.tail _ (.tail _ (.tail _ (.tail _ (hsub p hp)))))
        case hst => exact ⟨by kst_all, by (try dsimp +zetaDelta only); kst_same⟩
        case hl => exact rfl
        case hml => exact .tail _ (.tail _ (.tail _ (.head _)))
    --}
  case done =>
    rintro m1 nx h tk k hk ⟨vsp, ksp, ex, tt, rfl, hne, hsub, hIs, hTk, hnz, ⟨hs1, hs2⟩, hlast⟩ F1 N1
    have hrl : rs.length = row.length := hR.length
    rw [hrl, List.take_length] at hIs hnz hs1 hs2
    obtain ⟨Dl, kl, x, q1, q2, q3, hxm, hml, hlm, hY⟩ := hlast (by omega)
    have F2 := kst_frOut hs1 hs2 F1
    clear F1 hs1 hs2
    dsimp only [kstB] at F2
    have F3 := fr_with (b := Str.ofString "light") (v := .ref Dl) (by exact hml) F2
    clear F2
    replace mT1 := hsub _ mT1
    replace mT2 := hsub _ mT2
    replace mm' := hsub _ mm'
    replace hV := hV.mono hsub
    have mr' := hsub _ mr
    obtain ⟨kk, M, A, Bb, q0, _, _, _, _, q5, q6, q7, q8⟩ := hL x hxm hY
    k_steps
    refine toks_q ?_
    k_dflt (refine' pure_call (r := lr ut bs ((mm * x).fmod sz)) (g := lg ut bs ((mm * x).fmod sz)) (b := lb ut bs ((mm * x).fmod sz)) ?B ?F ?X ?N ?T ?hk ?hd ?hu ?mL ?_; (case B => k_asm); (case F => k_asm); (case X => k_asm); (case N => k_asm); (case T => k_asm); (case hk => exact rfl); (case hd => first | exact room hd rfl | ktr_room); (case hu => first | exact room hu rfl | ktr_units); (case mL => k_mem))
    intro DJ hJ tkJ tJ1 tJ2 tJ3 FJ NJ lJ hleJ
    try dsimp only at hleJ
    k_steps
    refine toks_q ?_
    k_dflt (refine' count_refs (vs := vs) (ub := [_, _, _]) (nb := pl ut bs ((mm * x).fmod sz)) ?B ?F ?X ?N ?T ?hk ?hd ?hu ?mA ?mB (hV.mono ?sub) ?hB ?_; (case B => k_asm); (case F => k_asm); (case X => k_asm); (case N => k_asm); (case T => k_asm); (case hk => exact rfl); (case hd => first | exact room hd rfl | ktr_room); (case hu => first | exact room hu rfl | ktr_units); (case mA => k_mem); (case mB => exact .head _); (case sub => intro p hp; repeat (first | exact hp | refine List.Mem.tail _ ?_)); (case hB => exact .cons _ _ (.cons _ _ (.cons _ _ .nil))))
    rw [q8]
    intro hK tkK tK FK NK hleK
    try dsimp only at hleK
    iterate 20 (first | (with_reducible show wpAny _ _ (execs [] _) _ _ _) | walk1 | (k_unfold; try dsimp only))
    refine wp_gen fun nK hnK => ?_
    try dsimp only at hnK
    iterate 10 (first | (with_reducible show wpAny _ _ (exec (Stmt.For _ _ _ _ _) _) _ _ _) | walk1 | (k_unfold; try dsimp only))
    refine wpAny_For ?_
    iterate 30 (first | (with_reducible show wpAny _ _ (call (Value.type "range") _) _ _ _) | walk1 | (k_unfold; try dsimp only))
    refine toks_q ?_
    iterate 40 (first | (with_reducible show wpAny _ _ (pyIter _) _ _ _) | walk1 | (k_unfold; try dsimp only))
    rename _ ≤ _ => hleR
    try dsimp only at hleR
    rename IsRange _ _ _ _ _ _ _ _ => hR5
    k_dflt (refine' forRT_inv (vsp := vsp) ?hh ?hr ?hn ?F ?N ?hT ?turn2 ?done2; (case hh => exact rfl); (case hr => exact hR5); (case hn => omega); (case F => k_asm); (case N => k_asm))
    case hT =>
      intro v hv
      exact (hTk v hv).mono (Nat.le_trans hk (Nat.le_trans hleJ (Nat.le_trans hleK (Nat.le_trans (Nat.le_of_succ_le hnK) (Nat.le_trans (Nat.le_add_right nK 2) hleR)))))
    case turn2 =>
      intro I i m2 o h tk3 kt hi hT2 lI2 F2 N2
      rename IntsAre vsp _ => hIs
      have hi2 : i < row.length := by omega
      have hc := hsp hnz i hi2
      have hkt : kt ≠ 0 := by
        cases vsp with
        | nil => have := hIs.length; rw [List.length_map] at this; simp at this; omega
        | cons v vv =>
          obtain ⟨_, _, _, z1, z2, _⟩ := hT2 v (.head _)
          exact Nat.ne_of_gt (Nat.lt_trans z1 z2)
      dsimp only
      iterate 6 (first | (with_reducible show wpAny _ _ (execs _ _) _ _ _) | walk1 | (k_unfold; try dsimp only))
      k_fold
      k_steps
      k_dflt (refine' count_ints (vs := vsp) ?B ?F ?X ?N ?T ?hk ?hd ?hu ?mA hIs (fun v hv => (hT2 v hv).off (Nat.le_refl _)) hkt ?_; (case B => k_asm); (case F => k_asm); (case X => k_asm); (case N => k_asm); (case T => k_asm); (case hk => exact rfl); (case hd => first | exact room hd rfl | ktr_room); (case hu => first | exact room hu rfl | ktr_units); (case mA => k_mem))
      rw [hc]
      intro h6 tk6 t6 F6 N6
      k_steps
      all_goals (first | exact absurd rfl (by assumption) | exact ⟨_, _, _, rfl, (by assumption), (by assumption), fun z hz => by (try dsimp +zetaDelta only); simp only [if_neg hz]⟩ | skip)
    case done2 =>
      intro m2 h tk3 F2 N2
      k_steps
      k_dflt (refine' mod_call ?B ?F ?X ?N ?T ?hk ?hd ?hu ?g1 ?_; (case B => k_asm); (case F => k_asm); (case X => k_asm); (case N => k_asm); (case T => k_asm); (case hk => exact rfl); (case hd => first | exact room hd rfl | ktr_room); (case hu => first | exact room hu rfl | ktr_units); (case g1 => omega))
      intro h7 tk7 t7 F7 N7
      k_steps
      rename Fr h₀ L _ m => kF
      rename News h₀ L _ _ => kN
      exact hretA hnz _ _ _ kF fun p hp => kN p (by repeat (first | exact hsub p hp | refine List.Mem.tail _ ?_))
end
section
theorem res_add (a b : Int) (n r k : Nat) : res (a + b * ((r + n * k : Nat) : Int)) n = res (a + b * r) n := by
  unfold res
  congr 1
  show (a + b * ((r + n * k : Nat) : Int)) % (n : Int) = (a + b * r) % (n : Int)
  rw [Int.natCast_add, Int.natCast_mul, Int.mul_add, ← Int.mul_assoc, Int.mul_comm b n, Int.mul_assoc, ← Int.add_assoc, Int.add_mul_emod_self_left]
theorem toldN_ge (n r m : Nat) : -1 ≤ toldN n r m := by
  unfold toldN
  split
  · exact Int.le_refl _
  · omega
theorem law_facts {p q : Int × Int} (hp : p ∈ PRS) (hq : q ∈ PRS) (k1 k2 : Nat) : ∃ th bk tw tr : Int,
    toldN (szOf (primOf q).1 (primOf q).2) (roOf (primOf q).1 (primOf q).2) (res ((primOf p).1 + (primOf p).2 * ((roOf (primOf q).1 (primOf q).2 + szOf (primOf q).1 (primOf q).2 * k2 : Nat) : Int)) (szOf (primOf q).1 (primOf q).2)) = th ∧
    toldN (szOf (primOf p).1 (primOf p).2) (roOf (primOf p).1 (primOf p).2) (res ((primOf q).1 + (primOf q).2 * ((roOf (primOf p).1 (primOf p).2 + szOf (primOf p).1 (primOf p).2 * k1 : Nat) : Int)) (szOf (primOf p).1 (primOf p).2)) = bk ∧
    toldN (szOf (primOf p).1 (primOf p).2) (roOf (primOf p).1 (primOf p).2) (res 2 (szOf (primOf p).1 (primOf p).2)) = tw ∧ toldN (szOf (primOf q).1 (primOf q).2) (roOf (primOf q).1 (primOf q).2) (res 3 (szOf (primOf q).1 (primOf q).2)) = tr ∧
    th ≠ -2 ∧ bk ≠ -2 ∧ (th = -1 ∨ bk = -1 → th = bk) ∧ (th ≠ -1 → bk ≠ -1 → (th - bk).fmod 6 = ((szOf (primOf p).1 (primOf p).2 : Int).fdiv 2 * (szOf (primOf q).1 (primOf q).2 : Int).fdiv 2).fmod 2 * 3) ∧ 0 ≤ tw ∧ 0 ≤ tr ∧
    tw.fmod 3 = (primOf p).2.fmod 2 * (1 + (primOf p).1.fmod 2) ∧ (tw.fmod 2 = 1 ↔ ((szOf (primOf p).1 (primOf p).2 : Int).fmod 8 = 3 ∨ (szOf (primOf p).1 (primOf p).2 : Int).fmod 8 = 5)) ∧
    tr.fmod 3 = ((primOf q).1 * (primOf q).2.fdiv 3).fmod 3 ∧ tr.fmod 2 = ((szOf (primOf q).1 (primOf q).2 : Int).fdiv 2).fmod 2 := by
  have h := pair_ok hp hq
  unfold pairOk at h
  simp only [Bool.and_eq_true, decide_eq_true_eq, beq_iff_eq] at h
  rw [res_add, res_add]
  generalize hth : toldN (szOf (primOf q).1 (primOf q).2) (roOf (primOf q).1 (primOf q).2) (res ((primOf p).1 + (primOf p).2 * (roOf (primOf q).1 (primOf q).2)) (szOf (primOf q).1 (primOf q).2)) = th at h ⊢
  generalize hbk : toldN (szOf (primOf p).1 (primOf p).2) (roOf (primOf p).1 (primOf p).2) (res ((primOf q).1 + (primOf q).2 * (roOf (primOf p).1 (primOf p).2)) (szOf (primOf p).1 (primOf p).2)) = bk at h ⊢
  generalize toldN (szOf (primOf p).1 (primOf p).2) (roOf (primOf p).1 (primOf p).2) (res 2 (szOf (primOf p).1 (primOf p).2)) = tw at h ⊢
  generalize toldN (szOf (primOf q).1 (primOf q).2) (roOf (primOf q).1 (primOf q).2) (res 3 (szOf (primOf q).1 (primOf q).2)) = tr at h ⊢
  have g1 : -1 ≤ th := hth ▸ toldN_ge _ _ _
  have g2 : -1 ≤ bk := hbk ▸ toldN_ge _ _ _
  obtain ⟨⟨⟨⟨⟨⟨h1, h2⟩, h3⟩, h4⟩, h5⟩, h6⟩, h7⟩ := h
  refine ⟨th, bk, tw, tr, rfl, rfl, rfl, rfl, by omega, by omega, fun h => ?_, fun n1 n2 => ?_, h2, h3, h4, ?_, h6, h7⟩
  · rw [if_pos (by simpa using h)] at h1
    exact eq_of_beq h1
  · rw [if_neg (by simp [n1, n2])] at h1
    exact eq_of_beq h1
  · have := (Bool.eq_iff_iff.mp h5)
    simpa using this
end
section
variable {prog : Program} {w : World} {p : Program} {loose : List Str} {mean : ExcName → Option Value} {mg mb : Str → Option Value}
  {dp un : Nat} {gd : Option (List Code)} {cn : Str} {cs : Scope} {a : Addr} {ccd : Value} {cl : List (Str × Addr)} {outer : List Env} {A₀ : Around} {base h₀ : Heap} {L : Addr} {m : Str → Option Value} {news : List (Addr × Obj)} {s : Shared} {Q E : Value → Shared → Prop}
/-- a ring that the program made for the number p -/
inductive RingAt (p : Int × Int) (more : Int) (D : Addr) (news : List (Addr × Obj)) : Prop
  | mk (ut : Int) (Dr Dm : Addr) (rs vs : List Value) (k1 k2 : Nat) (t1 t2 t3 : Tok) (c1 : (D, tup [.int (szOf p.1 p.2 : Nat) t1, .int ((roOf p.1 p.2 + szOf p.1 p.2 * (1 + more).toNat : Nat) : Int) t2, .int ut t3, .ref Dr, .ref Dm]) ∈ news) (c2 : (Dr, W.listOf rs.toArray k1) ∈ news) (c3 : IntsAre rs (zrow (rowN (szOf p.1 p.2) (roOf p.1 p.2)))) (c4 : (Dm, W.listOf vs.toArray k2) ∈ news) (c5 : RefsAre news vs (rimL (szOf p.1 p.2) (roOf p.1 p.2) (1 + more).toNat ut)) (c6 : ((roOf p.1 p.2 + szOf p.1 p.2 * (1 + more).toNat : Nat) : Int) ^ 3 - 1 = (szOf p.1 p.2 : Int) * ut) (c7 : 0 < ut) : RingAt p more D news
theorem RefsAre.keep {news news' : List (Addr × Obj)} (hs : ∀ p ∈ news, p.2.cls ≠ .none → p ∈ news') : ∀ {vs : List Value} {nss : List (List Int)}, RefsAre news vs nss → RefsAre news' vs nss
  | _, _, .nil => .nil
  | _, _, .cons m i r => .cons (hs _ m (by intro h; cases h)) i (r.keep hs)
theorem RingAt.keep {p : Int × Int} {more : Int} {D : Addr} {news news' : List (Addr × Obj)} (hs : ∀ p ∈ news, p.2.cls ≠ .none → p ∈ news') : RingAt p more D news → RingAt p more D news' := by
  rintro ⟨ut, Dr, Dm, rs, vs, k1, k2, t1, t2, t3, a, b, c, d, e, f, g⟩
  exact ⟨ut, Dr, Dm, rs, vs, k1, k2, t1, t2, t3, hs _ a (by intro h; cases h), hs _ b (by intro h; cases h), c, hs _ d (by intro h; cases h), e.keep hs, f, g⟩
theorem noTabs_keep {h₀ h : Heap} {L : Addr} {news : List (Addr × Obj)} {ps1 ps2 : Array Value} (N : News h₀ L h news) (m1 : (44, tabObj ps1) ∈ news) (m2 : (51, tabObj ps2) ∈ news) : ∀ p ∈ news, p.2.cls ≠ .none → p ∈ noTabs news := by
  intro p hp hc
  rcases List.mem_cons.mp (noTabs_out N m1 m2 p hp) with rfl | h
  · exact absurd rfl hc
  · rcases List.mem_cons.mp h with rfl | h
    · exact absurd rfl hc
    · exact h
theorem zrow_ok {n r : Nat} (hn : n ≤ 49) : (∀ x ∈ zrow (rowN n r), 0 ≤ x ∧ x ≤ 49) ∧ (zrow (rowN n r)).length ≤ 49 := by
  constructor
  · intro x hx
    obtain ⟨y, hy, rfl⟩ := zrow_mem.mp hx
    have := List.mem_range.mp (List.mem_filter.mp hy).1
    omega
  · unfold zrow
    rw [List.length_map]
    have h1 := List.length_filter_le (rp n r) (List.range n)
    rw [List.length_range] at h1
    exact Nat.le_trans h1 hn
set_option maxRecDepth 100000 in
set_option maxHeartbeats 8000000 in
theorem ring_num {q0 : Int × Int} {more turns : Int} {ta tb tm tt : Tok} {num : Addr} {ps1 ps2 : Array Value}
   (B : Below A₀ h₀ [] h₀) (F : Fr h₀ L s.heap m) (X : (Mine.hd.heap_1 w.params).In h₀) (N : News h₀ L s.heap news) (T : Top p loose mean mg mb h₀) (hk : cs.kind = .function)
   (C1 : CodeHd h₀ 48 44) (C2 : CodeHd h₀ 55 51) (m1 : (44, tabObj ps1) ∈ news) (m2 : (51, tabObj ps2) ∈ news) (TQ1 : TabQ pos1 qual1 ps1 (noTabs news)) (TQ2 : TabQ pos2 qual2 ps2 (noTabs news))
   (hd : dp + 400 < recursionLimit) (hu : un + 3000 < cLine) (mN : (num, tup [.int (primOf q0).1 ta, .int (primOf q0).2 tb]) ∈ news) (hq0 : q0 ∈ PRS)
   (hm0 : 0 ≤ more) (hm1 : more < 1000) (ht0 : 0 ≤ turns) (ht1 : turns < 4)
   (hret : ∀ D' ps1' ps2' nx h' tk', Fr h₀ L h' m → News h₀ L h' nx → (∀ a ∈ news, a.2.cls ≠ .none → a ∈ nx) → RingAt (primOf q0) more D' nx → (44, tabObj ps1') ∈ nx → (51, tabObj ps2') ∈ nx → TabF pos1 qual1 ps1' nx → TabF pos2 qual2 ps2' nx → Q (.ref D') { s with heap := h', toks := tk' }) :
    wpAny (model prog w) (ktrTop dp un gd cn cs L a ccd cl []) (call (.ref 150) [.ref num, .int more tm, .int turns tt]) Q E s := by
  have nf := num_facts hq0
  obtain ⟨ut, u1, u2, u3, u4⟩ := unit_ex (q := (1 + more).toNat) nf.n7 nf.n49 nf.rn nf.r3 (by omega) (by omega)
  have hb : (roOf (primOf q0).1 (primOf q0).2 : Int) + (szOf (primOf q0).1 (primOf q0).2 : Int) * (1 + more) = ((roOf (primOf q0).1 (primOf q0).2 + szOf (primOf q0).1 (primOf q0).2 * (1 + more).toNat : Nat) : Int) := by
    rw [Int.natCast_add, Int.natCast_mul, Int.toNat_of_nonneg (by omega)]
  refine ring_call (news := noTabs news) B F X (noTabs_in N m1 m2) T hk C1 C2 TQ1 TQ2 (fun _ hp => (noTabs_mem.mp hp).2.1) (fun _ hp => (noTabs_mem.mp hp).2.2) hd hu (noTabs_keep N m1 m2 _ mN (by intro h; cases h)) nf.a nf.b nf.sz nf.n7 nf.n49 nf.root nf.ro hm0 hm1 ht0 ht1 hb u1 (Int.le_of_lt u2) u3 ?_ ?_
  · intro x hx
    rw [nf.ring.row] at hx
    obtain ⟨y, hy, rfl⟩ := zrow_mem.mp hx
    exact (nf.ring.rows.1 y hy).rowOk (by omega) u1 u4 nf.n49
  · intro D' Dr Dm rs vs k1 k2 ps1' ps2' nx t1 t2 t3 h' tk' F' N' hs mr iR mm rV z1 z2 z3 z4 _
    rw [nf.ring.row] at iR rV
    refine hret D' ps1' ps2' _ h' tk' F' N' (fun p hp hc => .tail _ (hs _ (noTabs_keep N m1 m2 p hp hc))) ⟨ut, Dr, Dm, rs, vs, k1, k2, t1, t2, t3, .head _, .tail _ mr, iR, .tail _ mm, rV.mono fun _ h => .tail _ h, u1, u2⟩ (.tail _ z1) (.tail _ z2) (z3.mono fun _ h => .tail _ h) (z4.mono fun _ h => .tail _ h)
set_option maxRecDepth 100000 in
set_option maxHeartbeats 8000000 in
theorem told_ring {q0 : Int × Int} {more mm way : Int} {tm tw : Tok} {ring : Addr} {ps1 ps2 : Array Value}
   (B : Below A₀ base outer h₀) (F : Fr h₀ L s.heap m) (X : (Mine.hd.heap_1 w.params).In h₀) (N : News h₀ L s.heap news) (T : Top p loose mean mg mb h₀) (hk : cs.kind = .function)
   (C1 : CodeHd base 48 44) (C2 : CodeHd base 55 51) (mT1 : (44, tabObj ps1) ∈ news) (mT2 : (51, tabObj ps2) ∈ news) (TF1 : TabF pos1 qual1 ps1 news) (TF2 : TabF pos2 qual2 ps2 news)
   (hd : dp + 400 < recursionLimit) (hu : un + 3000 < cLine) (R : RingAt (primOf q0) more ring news) (hq0 : q0 ∈ PRS) (hm0 : 0 ≤ more) (hm1 : more < 1000) (hway : way = 1 ∨ way = -1) (hmm : mm.natAbs < 2 ^ 20)
   (hret : ∀ h' tk' t, Fr h₀ L h' m → News h₀ L h' news → Q (.int (toldN (szOf (primOf q0).1 (primOf q0).2) (roOf (primOf q0).1 (primOf q0).2) (res mm (szOf (primOf q0).1 (primOf q0).2))) t) { s with heap := h', toks := tk' }) :
    wpAny (model prog w) (ktrTop dp un gd cn cs L a ccd cl outer) (call (.ref 157) [.int mm tm, .ref ring, .int way tw]) Q E s := by
  have nf := num_facts hq0
  obtain ⟨ut, Dr, Dm, rs, vs, k1, k2, t1, t2, t3, ma, mb, ir, mc, rv, u1, u2⟩ := R
  obtain ⟨_, _, _, _, u4⟩ := unit_ex (q := (1 + more).toNat) nf.n7 nf.n49 nf.rn nf.r3 (by omega) (by omega)
  have n7 := nf.n7
  have hb0 : 7 ≤ roOf (primOf q0).1 (primOf q0).2 + szOf (primOf q0).1 (primOf q0).2 * (1 + more).toNat := by
    have := Nat.mul_le_mul n7 (show 1 ≤ (1 + more).toNat by omega)
    omega
  obtain ⟨f1, f2, f3, f4⟩ := told_facts nf.ring (by omega) (show 0 < (1 + more).toNat by omega) u1 u4 mm
  obtain ⟨g1, g2⟩ := zrow_ok (r := roOf (primOf q0).1 (primOf q0).2) nf.n49
  refine told_call B F X N T hk C1 C2 mT1 mT2 TF1 TF2 hd hu ma mb ir mc rv hway hmm g1 (by unfold zrow; rw [List.length_map]; exact nf.len) g2 (by omega) nf.n49 (by omega) (by omega) u1 u2 f1 f2 ?_ ?_
  · intro hz h' tk' t F' N'
    have := hret h' tk' t F' N'
    rw [← f3 hz] at this
    exact this
  · intro hz h' tk' t F' N'
    have := hret h' tk' t F' N'
    rw [f4 hz] at this
    exact this
theorem way_or (c : Int) : 1 - (c.fdiv 4).fmod 2 * 2 = 1 ∨ 1 - (c.fdiv 4).fmod 2 * 2 = -1 := by
  have := Int.fmod_nonneg_of_pos (c.fdiv 4) (show (0 : Int) < 2 by decide)
  have := Int.fmod_lt_of_pos (c.fdiv 4) (show (0 : Int) < 2 by decide)
  omega
theorem half_small {n : Nat} (h : n ≤ 49) : ((n : Int).fdiv 2).natAbs < 2 ^ 128 := by
  rw [Int.fdiv_eq_ediv_of_nonneg _ (by decide)]
  exact Nat.lt_of_le_of_lt (Nat.le_trans (Nat.div_le_self n 2) h) (by decide)
theorem third_small {b : Int} (h : b.natAbs ≤ 6) : (b.fdiv 3).natAbs < 2 ^ 128 := by
  rw [Int.fdiv_eq_ediv_of_nonneg _ (by decide)]
  omega
theorem mm_small {a b c : Int} (ha : a.natAbs ≤ 8) (hb : b.natAbs ≤ 6) (h0 : 0 ≤ c) (h1 : c ≤ 65536) : (b * c).natAbs ≤ 6 * 65536 ∧ (a + b * c).natAbs < 2 ^ 20 ∧ c.natAbs ≤ 65536 := by
  have h : (b * c).natAbs ≤ 6 * 65536 := by rw [Int.natAbs_mul]; exact Nat.mul_le_mul hb (by omega)
  exact ⟨h, Nat.lt_of_le_of_lt (Int.natAbs_add_le _ _) (Nat.lt_of_le_of_lt (Nat.add_le_add ha h) (by decide)), by omega⟩
theorem bs_le {q : Int × Int} (h : q ∈ PRS) {more : Int} (h0 : 0 ≤ more) (h1 : more < 1000) : ((roOf (primOf q).1 (primOf q).2 + szOf (primOf q).1 (primOf q).2 * (1 + more).toNat : Nat) : Int) ≤ 65536 := by
  have nf := num_facts h
  obtain ⟨_, _, _, _, u4⟩ := unit_ex (q := (1 + more).toNat) nf.n7 nf.n49 nf.rn nf.r3 (by omega) (by omega)
  omega
/-- after a statement that only goes on -/
def MidL (h₀ : Heap) (L : Addr) (m : Str → Option Value) (led : List (Addr × Obj)) (s : Shared) (f : Flow) (s' : Shared) : Prop :=
  f = .next ∧ ∃ h' tk', s' = { s with heap := h', toks := tk' } ∧ Fr h₀ L h' m ∧ News h₀ L h' led
theorem mid_if {M : Model} {A : Around} {t : Sem Flow} {Q : Flow → Shared → Prop} {led : List (Addr × Obj)} (_F : Fr h₀ L s.heap m) (_N : News h₀ L s.heap led) (h : wpAny M A t (MidL h₀ L m led s) E s)
    (k : ∀ h' tk', Fr h₀ L h' m → News h₀ L h' led → Q .next { s with heap := h', toks := tk' }) : wpAny M A t Q E s := by
  refine wpAny_mono h (fun f s' hq => ?_) fun _ _ e => e
  obtain ⟨rfl, h', tk', rfl, F', N'⟩ := hq
  exact k h' tk' F' N'
set_option maxRecDepth 100000 in
set_option maxHeartbeats 40000000 in
theorem law_holds : PySem.Challenge.rw_tl0017_01.Holds := by
  refine Mine.hd ?_
  k_go0
  walk1
  refine letA ?_
  intro A9
  rename CodeHd _ (55, 51).1 (55, 51).2 => C2
  rename CodeHd _ (48, 44).1 (48, 44).2 => C1
  dsimp only at C1 C2
  rename Heap.IsList _ _ _ => lS
  rename Fr _ _ _ _ => F0
  rename News _ _ _ _ => N0
  rename ReadsAll _ _ _ _ => rS
  have iS := (readsAll_intsAre rS).1
  have hvl := iS.length
  rename ¬ ((63 : Nat) : Int) < _ => hlen
  k_dflt (refine Assign_E (F₀ := by k_asm) (by rfl) (by with_unfolding_all rfl) (by with_unfolding_all rfl) (by decide) (by rfl) (by decide) (by rfl) (by rfl) (by decide +kernel) (by rfl) (by rfl) ?_)
  iterate 30 (first | (with_reducible show wpAny _ _ (call (Value.type "enumerate") _) _ _ _) | walk1 | (k_unfold; try dsimp only))
  k_dflt (refine' enum_src ?hh ?F ?N ?hm ?hc ?hd ?hsz ?turn ?fin; (case hh => exact rfl); (case F => k_asm); (case N => k_asm); (case hm => exact .head _); (case hc => exact rfl); (case hd => exact rfl); (case hsz => (show 4 ≤ 1000; decide)))
  case turn =>
    intro i v t e oe I oI C oC D m2 ys h tk E' hv hC ha hb FT NT
    obtain ⟨c0, tc, rfl⟩ : ∃ c tc, v = .int c tc := by
      rcases i with _ | _ | _ | _ | i
      · cases hv; exact ⟨_, _, rfl⟩
      · cases hv; exact ⟨_, _, rfl⟩
      · cases hv; exact ⟨_, _, rfl⟩
      · cases hv; exact ⟨_, _, rfl⟩
      · exact absurd hv (by simp)
    iterate 60 (first | (with_reducible show wpAny _ _ (subscriptTail _ _ _ _) _ _ _) | walk1 | (k_unfold; try dsimp only))
    k_dflt (refine' slice4_s ?F ?N ?hl iS ?hz ?pl ?pk ?hk ?_ ?hs ?ht; (case F => k_asm); (case N => k_asm); (case hl => exact Fr.lst FT lS); (case hz => omega); (case pl => exact .int _ _); (case pk => exact .int _ _); (case hk => decide); (case hs => with_unfolding_all rfl); (case ht => (intro _; with_unfolding_all rfl)))
    intro D' h' ws ms F' N' iM l1
    k_steps
    exact ⟨_, _, _, _, rfl, rfl, (by assumption), fun p hp => (by assumption : News _ _ _ ((D', _) :: _)) p (.tail _ hp)⟩
  case fin =>
    intro Dc h tk ys ns FC NC lC iC hn4
    have hn4' : ns.length = 4 := hn4
    match ns, hn4' with
    | [c0, c1, c2, c3], _ =>
    rcases iC with _ | ⟨_, q0, _ | ⟨_, q1, _ | ⟨_, q2, _ | ⟨_, q3, _ | _⟩⟩⟩⟩
    simp only [AllLt] at lC
    have hw0 := Int.fmod_nonneg_of_pos (c3.fdiv 4) (show (0 : Int) < 2 by decide)
    have hw1 := Int.fmod_lt_of_pos (c3.fdiv 4) (show (0 : Int) < 2 by decide)
    replace NC : News _ _ _ ((Dc, W.listOf #[.int c0 q0, .int c1 q1, .int c2 q2, .int c3 q3] 4) :: _) := NC
    iterate 60 (first | (with_reducible show wpAny _ _ (call (Value.ref _) _) _ _ _) | walk1 | (k_unfold; try dsimp only))
    k_dflt (refine' prim_call ?B ?F ?X ?N ?T ?hk ?hd ?hu ?_; (case B => k_asm); (case F => k_asm); (case X => k_asm); (case N => k_asm); (case T => k_asm); (case hk => exact rfl); (case hd => first | exact room hd rfl | ktr_room); (case hu => first | exact room hu rfl | ktr_units))
    intro D1 hA tkA qA a1 a2 hqA FA NA lA
    simp only [AllLt] at lA
    iterate 60 (first | (with_reducible show wpAny _ _ (call (Value.ref _) _) _ _ _) | walk1 | (k_unfold; try dsimp only))
    k_dflt (refine' prim_call ?B ?F ?X ?N ?T ?hk ?hd ?hu ?_; (case B => k_asm); (case F => k_asm); (case X => k_asm); (case N => k_asm); (case T => k_asm); (case hk => exact rfl); (case hd => first | exact room hd rfl | ktr_room); (case hu => first | exact room hu rfl | ktr_units))
    intro D2 hB tkB qB b1 b2 hqB FB NB lB
    simp only [AllLt] at lB
    replace hqA := List.mem_of_getElem? hqA
    replace hqB := List.mem_of_getElem? hqB
    iterate 60 (first | (with_reducible show wpAny _ _ (call (Value.ref _) _) _ _ _) | walk1 | (k_unfold; try dsimp only))
    k_dflt (refine' ring_num (ps1 := #[]) (ps2 := #[]) (q0 := qA) ?B ?F ?X ?N ?T ?hk ?C1 ?C2 ?m1 ?m2 (.inl rfl) (.inl rfl) ?hd ?hu ?mN hqA ?hm0 ?hm1 ?ht0 ?ht1 ?_; (case B => k_asm); (case F => k_asm); (case X => k_asm); (case N => k_asm); (case T => k_asm); (case hk => exact rfl); (case hd => first | exact room hd rfl | ktr_room); (case hu => first | exact room hu rfl | ktr_units); (case C1 => k_asm); (case C2 => k_asm); (case m1 => k_mem); (case m2 => k_mem); (case mN => k_mem); (case hm0 => exact Int.fmod_nonneg_of_pos _ (by decide)); (case hm1 => exact Int.fmod_lt_of_pos _ (by decide)); (case ht0 => exact Int.fmod_nonneg_of_pos _ (by decide)); (case ht1 => exact Int.fmod_lt_of_pos _ (by decide)))
    intro D3 ps1 ps2 nx1 h3 tk3 F3 N3 s3 R3 m44 m51 TF1 TF2
    have cC := s3 (Dc, W.listOf #[.int c0 q0, .int c1 q1, .int c2 q2, .int c3 q3] 4) (by k_mem) (by intro h; cases h)
    have cA := s3 (D1, tup [.int (primOf qA).1 a1, .int (primOf qA).2 a2]) (by k_mem) (by intro h; cases h)
    have cB := s3 (D2, tup [.int (primOf qB).1 b1, .int (primOf qB).2 b2]) (by k_mem) (by intro h; cases h)
    replace N3 := kst_newsOf N3 (List.forall_mem_cons.mpr ⟨cB, List.forall_mem_cons.mpr ⟨cA, List.forall_mem_cons.mpr ⟨cC, fun _ h => h⟩⟩⟩)
    iterate 60 (first | (with_reducible show wpAny _ _ (call (Value.ref _) _) _ _ _) | walk1 | (k_unfold; try dsimp only))
    have sC : ∀ p ∈ nx1, p.2.cls ≠ .none → p ∈ (D2, tup [.int (primOf qB).1 b1, .int (primOf qB).2 b2]) :: (D1, tup [.int (primOf qA).1 a1, .int (primOf qA).2 a2]) :: (Dc, W.listOf #[.int c0 q0, .int c1 q1, .int c2 q2, .int c3 q3] 4) :: nx1 := fun p h _ => .tail _ (.tail _ (.tail _ h))
    have u44 := List.mem_cons_of_mem (D2, tup [.int (primOf qB).1 b1, .int (primOf qB).2 b2]) (List.mem_cons_of_mem (D1, tup [.int (primOf qA).1 a1, .int (primOf qA).2 a2]) (List.mem_cons_of_mem (Dc, W.listOf #[.int c0 q0, .int c1 q1, .int c2 q2, .int c3 q3] 4) m44))
    have u51 := List.mem_cons_of_mem (D2, tup [.int (primOf qB).1 b1, .int (primOf qB).2 b2]) (List.mem_cons_of_mem (D1, tup [.int (primOf qA).1 a1, .int (primOf qA).2 a2]) (List.mem_cons_of_mem (Dc, W.listOf #[.int c0 q0, .int c1 q1, .int c2 q2, .int c3 q3] 4) m51))
    rename News _ _ _ _ => N3
    k_dflt (refine' ring_num (ps1 := ps1) (ps2 := ps2) (q0 := qB) ?B ?F ?X ?N ?T ?hk ?C1 ?C2 u44 u51 (noTabs_F N3 u44 u51 TF1.q TF2.q (TF1.mono fun _ h => .tail _ (.tail _ (.tail _ h)))).q (noTabs_F N3 u44 u51 TF1.q TF2.q (TF2.mono fun _ h => .tail _ (.tail _ (.tail _ h)))).q ?hd ?hu ?mN hqB ?hm0 ?hm1 ?ht0 ?ht1 ?_; (case B => k_asm); (case F => k_asm); (case X => k_asm); (case N => k_asm); (case T => k_asm); (case hk => exact rfl); (case hd => first | exact room hd rfl | ktr_room); (case hu => first | exact room hu rfl | ktr_units); (case C1 => k_asm); (case C2 => k_asm); (case mN => k_mem); (case hm0 => exact Int.fmod_nonneg_of_pos _ (by decide)); (case hm1 => exact Int.fmod_lt_of_pos _ (by decide)); (case ht0 => exact Int.fmod_nonneg_of_pos _ (by decide)); (case ht1 => exact Int.fmod_lt_of_pos _ (by decide)))
    intro D4 ps3 ps4 nx2 h4 tk4 F4 N4 s4 R4 m44 m51 TG1 TG2
    replace cC := s4 _ (.tail _ (.tail _ (.head _))) (by intro h; cases h)
    replace cA := s4 _ (.tail _ (.head _)) (by intro h; cases h)
    replace cB := s4 _ (.head _) (by intro h; cases h)
    replace R3 := R3.keep fun p h hc => s4 p (sC p h hc) hc
    have R3' := R3
    have R4' := R4
    obtain ⟨ut3, Dr3, Dm3, rs3, vs3, k31, k32, t31, t32, t33, mt3, _⟩ := R3'
    obtain ⟨ut4, Dr4, Dm4, rs4, vs4, k41, k42, t41, t42, t43, mt4, _⟩ := R4'
    replace N4 := kst_newsOf N4 (List.forall_mem_cons.mpr ⟨mt4, List.forall_mem_cons.mpr ⟨mt3, List.forall_mem_cons.mpr ⟨cB, List.forall_mem_cons.mpr ⟨cA, fun _ h => h⟩⟩⟩⟩)
    have nA := num_facts hqA
    have nB := num_facts hqB
    obtain ⟨y1, y2, y3⟩ := mm_small nA.a nA.b (c := ((roOf (primOf qB).1 (primOf qB).2 + szOf (primOf qB).1 (primOf qB).2 * (1 + (([c0, c1, c2, c3].getD (Int.toNat 2) 0).fdiv 1000).fmod 1000).toNat : Nat) : Int)) (Int.natCast_nonneg _) (bs_le hqB (Int.fmod_nonneg_of_pos _ (by decide)) (Int.fmod_lt_of_pos _ (by decide)))
    obtain ⟨x1, x2, x3⟩ := mm_small nB.a nB.b (c := ((roOf (primOf qA).1 (primOf qA).2 + szOf (primOf qA).1 (primOf qA).2 * (1 + ([c0, c1, c2, c3].getD (Int.toNat 2) 0).fmod 1000).toNat : Nat) : Int)) (Int.natCast_nonneg _) (bs_le hqA (Int.fmod_nonneg_of_pos _ (by decide)) (Int.fmod_lt_of_pos _ (by decide)))
    have z1 := nA.b
    have z2 := nB.b
    obtain ⟨th, bk, tw, tr, e1, e2, e3, e4, f1, f2, f3, f4, f5, f6, f7, f8, f9, f10⟩ := law_facts hqA hqB (1 + ([c0, c1, c2, c3].getD (Int.toNat 2) 0).fmod 1000).toNat (1 + (([c0, c1, c2, c3].getD (Int.toNat 2) 0).fdiv 1000).fmod 1000).toNat
    iterate 60 (first | (with_reducible show wpAny _ _ (call (Value.ref _) _) _ _ _) | walk1 | (k_unfold; try dsimp only))
    k_dflt (refine' mul_call ?B ?F ?X ?N ?T ?hk ?hd ?hu ?g1 ?g2 ?_; (case B => k_asm); (case F => k_asm); (case X => k_asm); (case N => k_asm); (case T => k_asm); (case hk => exact rfl); (case hd => first | exact room hd rfl | ktr_room); (case hu => first | exact room hu rfl | ktr_units); (case g1 => first | exact Nat.lt_of_le_of_lt (by assumption) (by decide) | omega); (case g2 => first | exact Nat.lt_of_le_of_lt (by assumption) (by decide) | omega))
    intro hE tkE tE FE NE
    iterate 60 (first | (with_reducible show wpAny _ _ (call (Value.ref _) _) _ _ _) | walk1 | (k_unfold; try dsimp only))
    k_dflt (refine' add_call ?B ?F ?X ?N ?T ?hk ?hd ?hu ?_; (case B => k_asm); (case F => k_asm); (case X => k_asm); (case N => k_asm); (case T => k_asm); (case hk => exact rfl); (case hd => first | exact room hd rfl | ktr_room); (case hu => first | exact room hu rfl | ktr_units))
    intro hG tkG tG FG NG
    iterate 60 (first | (with_reducible show wpAny _ _ (call (Value.ref _) _) _ _ _) | walk1 | (k_unfold; try dsimp only))
    k_dflt (refine' told_ring (q0 := qB) (ps1 := ps3) (ps2 := ps4) ?B ?F ?X ?N ?T ?hk ?C1 ?C2 ?mT1 ?mT2 ?TF1 ?TF2 ?hd ?hu (R4.keep fun p h _ => ?sub) hqB (Int.fmod_nonneg_of_pos _ (by decide)) (Int.fmod_lt_of_pos _ (by decide)) (way_or _) y2 ?_; (case B => k_asm); (case F => k_asm); (case X => k_asm); (case N => k_asm); (case T => k_asm); (case hk => exact rfl); (case hd => first | exact room hd rfl | ktr_room); (case hu => first | exact room hu rfl | ktr_units); (case C1 => k_asm); (case C2 => k_asm); (case mT1 => k_mem); (case mT2 => k_mem); (case TF1 => exact TabF.mono (by assumption) (by intro p hp; repeat (first | exact hp | refine List.Mem.tail _ ?_))); (case TF2 => exact TabF.mono (by assumption) (by intro p hp; repeat (first | exact hp | refine List.Mem.tail _ ?_))); (case sub => (repeat (first | exact h | refine List.Mem.tail _ ?_))))
    rw [e1]
    intro hH tkH tH FH NH
    iterate 60 (first | (with_reducible show wpAny _ _ (call (Value.ref _) _) _ _ _) | walk1 | (k_unfold; try dsimp only))
    k_dflt (refine' mul_call ?B ?F ?X ?N ?T ?hk ?hd ?hu ?g1 ?g2 ?_; (case B => k_asm); (case F => k_asm); (case X => k_asm); (case N => k_asm); (case T => k_asm); (case hk => exact rfl); (case hd => first | exact room hd rfl | ktr_room); (case hu => first | exact room hu rfl | ktr_units); (case g1 => first | exact Nat.lt_of_le_of_lt (by assumption) (by decide) | omega); (case g2 => first | exact Nat.lt_of_le_of_lt (by assumption) (by decide) | omega))
    intro hI tkI tI FI NI
    iterate 60 (first | (with_reducible show wpAny _ _ (call (Value.ref _) _) _ _ _) | walk1 | (k_unfold; try dsimp only))
    k_dflt (refine' add_call ?B ?F ?X ?N ?T ?hk ?hd ?hu ?_; (case B => k_asm); (case F => k_asm); (case X => k_asm); (case N => k_asm); (case T => k_asm); (case hk => exact rfl); (case hd => first | exact room hd rfl | ktr_room); (case hu => first | exact room hu rfl | ktr_units))
    intro hJ tkJ tJ FJ NJ
    iterate 60 (first | (with_reducible show wpAny _ _ (call (Value.ref _) _) _ _ _) | walk1 | (k_unfold; try dsimp only))
    k_dflt (refine' told_ring (q0 := qA) (ps1 := ps3) (ps2 := ps4) ?B ?F ?X ?N ?T ?hk ?C1 ?C2 ?mT1 ?mT2 ?TF1 ?TF2 ?hd ?hu (R3.keep fun p h _ => ?sub) hqA (Int.fmod_nonneg_of_pos _ (by decide)) (Int.fmod_lt_of_pos _ (by decide)) (way_or _) x2 ?_; (case B => k_asm); (case F => k_asm); (case X => k_asm); (case N => k_asm); (case T => k_asm); (case hk => exact rfl); (case hd => first | exact room hd rfl | ktr_room); (case hu => first | exact room hu rfl | ktr_units); (case C1 => k_asm); (case C2 => k_asm); (case mT1 => k_mem); (case mT2 => k_mem); (case TF1 => exact TabF.mono (by assumption) (by intro p hp; repeat (first | exact hp | refine List.Mem.tail _ ?_))); (case TF2 => exact TabF.mono (by assumption) (by intro p hp; repeat (first | exact hp | refine List.Mem.tail _ ?_))); (case sub => (repeat (first | exact h | refine List.Mem.tail _ ?_))))
    rw [e2]
    intro hK tkK tK FK NK
    have g1 : (th == -2) = false := beq_eq_false_iff_ne.mpr f1
    have g2 : (bk == -2) = false := beq_eq_false_iff_ne.mpr f2
    iterate 60 (first | (with_reducible show wpAny _ _ (exec (Stmt.If _ _ [Stmt.If _ _ _ _] _) _) _ _ _) | walk1 | (k_unfold; try dsimp only))
    rename Fr _ _ _ _ => FM
    rename News _ _ _ _ => NM
    refine mid_if FM NM ?_ ?_
    · by_cases ht : th = -1
      · have p1 : (th == -1) = true := beq_iff_eq.mpr ht
        have p3 : (th != bk) = false := by rw [← f3 (.inl ht)]; exact bne_self_eq_false _
        k_steps
        exact ⟨rfl, _, _, rfl, (by assumption), (by assumption)⟩
      · have n2 : bk ≠ -1 := fun h => ht ((f3 (.inr h)).trans h)
        have p1 : (th == -1) = false := beq_eq_false_iff_ne.mpr ht
        have p2 : (bk == -1) = false := beq_eq_false_iff_ne.mpr n2
        have p4 := f4 ht n2
        iterate 60 (first | (with_reducible show wpAny _ _ (call (Value.ref _) _) _ _ _) | walk1 | (k_unfold; try dsimp only))
        k_dflt (refine' sub_call ?B ?F ?X ?N ?T ?hk ?hd ?hu ?_; (case B => k_asm); (case F => k_asm); (case X => k_asm); (case N => k_asm); (case T => k_asm); (case hk => exact rfl); (case hd => first | exact room hd rfl | ktr_room); (case hu => first | exact room hu rfl | ktr_units))
        intro hL tkL tL FL NL
        iterate 60 (first | (with_reducible show wpAny _ _ (call (Value.ref _) _) _ _ _) | walk1 | (k_unfold; try dsimp only))
        k_dflt (refine' mod_call ?B ?F ?X ?N ?T ?hk ?hd ?hu ?g1 ?_; (case B => k_asm); (case F => k_asm); (case X => k_asm); (case N => k_asm); (case T => k_asm); (case hk => exact rfl); (case hd => first | exact room hd rfl | ktr_room); (case hu => first | exact room hu rfl | ktr_units); (case g1 => omega))
        intro hO tkO tO FO NO
        have p6 : ((th - bk).fmod 6 != ((szOf (primOf qA).1 (primOf qA).2 : Int).fdiv 2 * (szOf (primOf qB).1 (primOf qB).2 : Int).fdiv 2).fmod 2 * 3) = false := by rw [p4]; exact bne_self_eq_false _
        iterate 60 (first | (with_reducible show wpAny _ _ (binaryOp Operator.Mult _ _) _ _ _) | walk1 | (k_unfold; try dsimp only))
        refine mul_ii_s ?k1 ?k2 ?_
        case k1 => exact half_small nA.n49
        case k2 => exact half_small nB.n49
        k_steps
        exact ⟨rfl, _, _, rfl, (by assumption), (by assumption)⟩
    · intro hR tkR FR NR
      iterate 60 (first | (with_reducible show wpAny _ _ (call (Value.ref _) _) _ _ _) | walk1 | (k_unfold; try dsimp only))
      k_dflt (refine' told_ring (q0 := qA) (ps1 := ps3) (ps2 := ps4) ?B ?F ?X ?N ?T ?hk ?C1 ?C2 ?mT1 ?mT2 ?TF1 ?TF2 ?hd ?hu (R3.keep fun p h _ => ?sub) hqA (Int.fmod_nonneg_of_pos _ (by decide)) (Int.fmod_lt_of_pos _ (by decide)) (way_or _) (by decide) ?_; (case B => k_asm); (case F => k_asm); (case X => k_asm); (case N => k_asm); (case T => k_asm); (case hk => exact rfl); (case hd => first | exact room hd rfl | ktr_room); (case hu => first | exact room hu rfl | ktr_units); (case C1 => k_asm); (case C2 => k_asm); (case mT1 => k_mem); (case mT2 => k_mem); (case TF1 => exact TabF.mono (by assumption) (by intro p hp; repeat (first | exact hp | refine List.Mem.tail _ ?_))); (case TF2 => exact TabF.mono (by assumption) (by intro p hp; repeat (first | exact hp | refine List.Mem.tail _ ?_))); (case sub => (repeat (first | exact h | refine List.Mem.tail _ ?_))))
      rw [e3]
      intro hS tkS tS FS NS
      iterate 60 (first | (with_reducible show wpAny _ _ (call (Value.ref _) _) _ _ _) | walk1 | (k_unfold; try dsimp only))
      k_dflt (refine' told_ring (q0 := qB) (ps1 := ps3) (ps2 := ps4) ?B ?F ?X ?N ?T ?hk ?C1 ?C2 ?mT1 ?mT2 ?TF1 ?TF2 ?hd ?hu (R4.keep fun p h _ => ?sub) hqB (Int.fmod_nonneg_of_pos _ (by decide)) (Int.fmod_lt_of_pos _ (by decide)) (way_or _) (by decide) ?_; (case B => k_asm); (case F => k_asm); (case X => k_asm); (case N => k_asm); (case T => k_asm); (case hk => exact rfl); (case hd => first | exact room hd rfl | ktr_room); (case hu => first | exact room hu rfl | ktr_units); (case C1 => k_asm); (case C2 => k_asm); (case mT1 => k_mem); (case mT2 => k_mem); (case TF1 => exact TabF.mono (by assumption) (by intro p hp; repeat (first | exact hp | refine List.Mem.tail _ ?_))); (case TF2 => exact TabF.mono (by assumption) (by intro p hp; repeat (first | exact hp | refine List.Mem.tail _ ?_))); (case sub => (repeat (first | exact h | refine List.Mem.tail _ ?_))))
      rw [e4]
      intro hU tkU tU FU NU
      have p7 : decide (tw < 0) = false := decide_eq_false (Int.not_lt.mpr f5)
      have p8 : decide (tr < 0) = false := decide_eq_false (Int.not_lt.mpr f6)
      have p9 : (tw.fmod 3 != (primOf qA).2.fmod 2 * (1 + (primOf qA).1.fmod 2)) = false := by rw [f7]; exact bne_self_eq_false _
      have p10 : ((tw.fmod 2 == 1) != [(3 : Int), 5].any (· == (szOf (primOf qA).1 (primOf qA).2 : Int).fmod 8)) = false := by
        rw [bne_eq_false_iff_eq, Bool.eq_iff_iff]
        simp only [beq_iff_eq, List.any_cons, List.any_nil, Bool.or_false, Bool.or_eq_true]
        rw [f8]
        exact ⟨fun h => h.imp Eq.symm Eq.symm, fun h => h.imp Eq.symm Eq.symm⟩
      iterate 110 (first | (with_reducible show wpAny _ _ (newTuple _) _ _ _) | walk1 | (k_unfold; try dsimp only))
      k_dflt (refine' kup_newTuple ?F ?N ?_ ?z; (case F => k_asm); (case N => k_asm); (case z => (show 2 ≤ sizeLine; rw [sizeLine_eq]; decide)))
      intro D5 h5 F5 N5 l5
      iterate 6 (first | (with_reducible show wpAny _ _ (compareOp _ _ _) _ _ _) | walk1 | (k_unfold; try dsimp only))
      refine in_tuple_ints (News.isTup N5 (.head _)) (.cons _ _ (.cons _ _ .nil)) ?_
      have p11 : (tr.fmod 3 == ((primOf qB).1 * (primOf qB).2.fdiv 3).fmod 3) = true := beq_iff_eq.mpr f9
      have p12 : (tr.fmod 2 == ((szOf (primOf qB).1 (primOf qB).2 : Int).fdiv 2).fmod 2) = true := beq_iff_eq.mpr f10
      iterate 60 (first | (with_reducible show wpAny _ _ (binaryOp Operator.Mult _ _) _ _ _) | walk1 | (k_unfold; try dsimp only))
      refine mul_ii_s ?k1 ?k2 ?_
      case k1 => exact Nat.lt_of_le_of_lt nB.a (by decide)
      case k2 => exact third_small nB.b
      iterate 50 (first | (with_reducible show GoodW _ _ _ _ _ _ _) | walk1 | (k_unfold; try dsimp only))
      rw [p12]
      (k_end; wrow_close)
      exact ⟨GrownAt.of N5 (.tail _ (.tail _ (.tail _ (.tail _ (.tail _ m51))))), GrownAt.of N5 (.tail _ (.tail _ (.tail _ (.tail _ (.tail _ m44))))), trivial⟩
end
end
end Mine
set_option maxRecDepth 100000 in
set_option maxHeartbeats 8000000 in
theorem PySem.Challenge.cw_tl0017_01_holds : PySem.Challenge.rw_tl0017_01.Holds := by
  exact Mine.law_holds
