import PyProof.Rows.All
import Wide.All
import OpenK.AllK
import Wide.FinOn
import PySem.Challenge.RW_mq0469_02
open PySem PySem.W PyProof.Rows
set_option Elab.async false
set_option linter.unusedVariables false
set_option maxRecDepth 100000
set_option maxHeartbeats 8000000
namespace Mine
open_top hd for PySem.Challenge.rw_mq0469_02
end Mine
namespace Mine
/-- the digit of x at place j, n bits a digit -/
def dig (x n j : Int) : Int := x / 2 ^ (n * j).toNat % 2 ^ n.toNat
def setR (ns : List Int) (n lo hi x : Int) : List Int := ns.mapIdx fun i v => if lo ≤ (i : Int) ∧ (i : Int) < hi then dig x n ((i : Int) - lo) else v

theorem setR_length (ns : List Int) (n lo hi x : Int) : (setR ns n lo hi x).length = ns.length := by simp [setR]

theorem nat_mod_div (X D a b : Nat) (h : a + b ≤ D) : X % 2 ^ D / 2 ^ a % 2 ^ b = X / 2 ^ a % 2 ^ b := by
  apply Nat.eq_of_testBit_eq
  intro i
  simp only [Nat.testBit_mod_two_pow, Nat.testBit_div_two_pow]
  by_cases hi : i < b
  · have : i + a < D := by omega
    simp [hi, this]
  · simp [hi]

theorem cast_div_pow (X k : Nat) : ((X : Int) / 2 ^ k) = ((X / 2 ^ k : Nat) : Int) := by
  rw [Int.natCast_ediv, Int.natCast_pow]; rfl
theorem cast_mod_pow (X k : Nat) : ((X : Int) % 2 ^ k) = ((X % 2 ^ k : Nat) : Int) := by
  rw [Int.natCast_emod, Int.natCast_pow]; rfl

theorem dig_low {x n d j : Int} (hx : 0 ≤ x) (hn : 0 ≤ n) (hj : 0 ≤ j) (hjd : j < d) : dig (x % 2 ^ (d * n).toNat) n j = dig x n j := by
  obtain ⟨X, rfl⟩ := Int.eq_ofNat_of_zero_le hx
  unfold dig
  rw [cast_mod_pow, cast_div_pow, cast_mod_pow, cast_div_pow, cast_mod_pow, nat_mod_div]
  have h1 : n * j + n ≤ d * n := by
    have : n * (j + 1) ≤ n * d := Int.mul_le_mul_of_nonneg_left (by omega) hn
    rw [Int.mul_add, Int.mul_one] at this
    rw [Int.mul_comm d n]; exact this
  have h2 : 0 ≤ n * j := Int.mul_nonneg hn hj
  omega

theorem dig_high {x n d j : Int} (hx : 0 ≤ x) (hn : 0 ≤ n) (hd : 0 ≤ d) (hj : 0 ≤ j) : dig (x / 2 ^ (d * n).toNat) n j = dig x n (j + d) := by
  obtain ⟨X, rfl⟩ := Int.eq_ofNat_of_zero_le hx
  unfold dig
  rw [cast_div_pow, cast_div_pow, cast_mod_pow, cast_div_pow, cast_mod_pow, Nat.div_div_eq_div_mul, ← Nat.pow_add]
  have h2 : 0 ≤ n * j := Int.mul_nonneg hn hj
  have h3 : 0 ≤ d * n := Int.mul_nonneg hd hn
  have h1 : n * (j + d) = n * j + d * n := by rw [Int.mul_add, Int.mul_comm n d]
  rw [h1]
  have : (n * j + d * n).toNat = (d * n).toNat + (n * j).toNat := by omega
  rw [this]

theorem xor_low {x : Int} (k : Nat) (hx : 0 ≤ x) : Builtin.bitXor x (x.fdiv (2 ^ k) * 2 ^ k) = x % 2 ^ k := by
  obtain ⟨X, rfl⟩ := Int.eq_ofNat_of_zero_le hx
  have hp : (0 : Int) ≤ 2 ^ k := Int.pow_nonneg (by decide)
  rw [Int.fdiv_eq_ediv_of_nonneg _ hp, cast_div_pow, cast_mod_pow]
  have e : (((X / 2 ^ k : Nat) : Int) * 2 ^ k) = ((X / 2 ^ k * 2 ^ k : Nat) : Int) := by rw [Int.natCast_mul, Int.natCast_pow]; rfl
  rw [e, bitXor_and, bitAnd_pp (by omega) (by omega)]
  have h1 : (X : Int).toNat &&& ((X / 2 ^ k * 2 ^ k : Nat) : Int).toNat = X / 2 ^ k * 2 ^ k := by
    simp only [Int.toNat_natCast]
    apply Nat.eq_of_testBit_eq
    intro i
    rw [Nat.testBit_and, Nat.testBit_mul_two_pow, Nat.testBit_div_two_pow]
    by_cases hi : k ≤ i
    · simp only [hi, decide_true, Bool.true_and]; rw [Nat.sub_add_cancel hi]; simp
    · simp [hi]
  rw [h1]
  have := Nat.div_add_mod X (2 ^ k)
  rw [Nat.mul_comm] at this
  omega
theorem fdiv_pow {x : Int} (k : Nat) : x.fdiv (2 ^ k) = x / 2 ^ k := Int.fdiv_eq_ediv_of_nonneg _ (Int.pow_nonneg (by decide))

theorem setR_join {ns : List Int} {n lo mid hi x : Int} (hn : 0 ≤ n) (hx : 0 ≤ x) (h1 : lo ≤ mid) (h2 : mid ≤ hi) :
    setR (setR ns n lo mid (x % 2 ^ ((mid - lo) * n).toNat)) n mid hi (x / 2 ^ ((mid - lo) * n).toNat) = setR ns n lo hi x := by
  unfold setR
  rw [List.mapIdx_mapIdx]
  congr 1
  funext i v
  by_cases a : mid ≤ (i : Int)
  · by_cases b : (i : Int) < hi
    · have c : lo ≤ (i : Int) := by omega
      simp only [Function.comp, a, b, c, and_self, if_true]
      rw [dig_high hx hn (by omega) (by omega)]
      congr 1; omega
    · have c : ¬ (i : Int) < mid := by omega
      simp [Function.comp, b, c]
  · by_cases c : lo ≤ (i : Int)
    · have d : (i : Int) < mid := by omega
      have e : (i : Int) < hi := by omega
      simp only [Function.comp, a, c, d, e, and_self, if_true, false_and, if_false]
      rw [dig_low hx hn (by omega) (by omega)]
    · simp [Function.comp, a, c]

theorem setR_one {ns : List Int} {n lo hi x : Int} (h0 : 0 ≤ lo) (hlt : lo < ns.length) (hh : hi = lo + 1) (hx : 0 ≤ x) (hx2 : x < 2 ^ n.toNat) : ns.set lo.toNat x = setR ns n lo hi x := by
  subst hh
  apply List.ext_getElem?
  intro i
  rw [List.getElem?_set]
  simp only [setR, List.getElem?_mapIdx]
  by_cases hi : lo.toNat = i
  · subst hi
    have : lo.toNat < ns.length := by omega
    simp only [this, if_true]
    rw [List.getElem?_eq_getElem this]
    simp only [Option.map_some]
    have a : lo ≤ (lo.toNat : Int) ∧ (lo.toNat : Int) < lo + 1 := by omega
    rw [if_pos a]
    congr 1
    unfold dig
    have b : (n * ((lo.toNat : Int) - lo)).toNat = 0 := by
      have : ((lo.toNat : Int) - lo) = 0 := by omega
      rw [this]; simp
    rw [b, Int.pow_zero, Int.ediv_one, Int.emod_eq_of_lt hx hx2]
  · simp only [hi, if_false]
    cases hq : ns[i]? with
    | none => rfl
    | some v =>
      simp only [Option.map_some]
      have a : ¬ (lo ≤ (i : Int) ∧ (i : Int) < lo + 1) := by omega
      rw [if_neg a]
end Mine
namespace Mine
theorem bits_le {v : Int} {B : Nat} (h0 : 0 ≤ v) (h : v < 2 ^ B) : Builtin.Int.intBits v ≤ B := by
  unfold Builtin.Int.intBits
  by_cases hv : v = 0
  · simp [hv]
  · have e : (v == 0) = false := by simpa using hv
    rw [e]
    simp only [Bool.false_eq_true, if_false]
    have hn : v.natAbs ≠ 0 := by omega
    have h1 : v.natAbs < 2 ^ B := by
      have : ((v.natAbs : Nat) : Int) < ((2 ^ B : Nat) : Int) := by
        rw [Int.natCast_pow]
        have : ((v.natAbs : Nat) : Int) = v := by omega
        rw [this]; exact h
      omega
    have := (Nat.log2_lt hn).mpr h1
    omega
theorem lt_bits {v : Int} (h0 : 0 ≤ v) : v < 2 ^ (Builtin.Int.intBits v) := by
  unfold Builtin.Int.intBits
  by_cases hv : v = 0
  · simp [hv]
  · have e : (v == 0) = false := by simpa using hv
    rw [e]
    simp only [Bool.false_eq_true, if_false]
    have hn : v.natAbs ≠ 0 := by omega
    have h1 : v.natAbs < 2 ^ (v.natAbs.log2 + 1) := (Nat.log2_lt hn).mp (Nat.lt_succ_self _)
    have h2 : ((v.natAbs : Nat) : Int) < ((2 ^ (v.natAbs.log2 + 1) : Nat) : Int) := by omega
    rw [Int.natCast_pow] at h2
    have h3 : ((v.natAbs : Nat) : Int) = v := by omega
    rw [h3] at h2; exact h2
theorem bits_pos {v : Int} (h0 : 0 < v) : 1 ≤ Builtin.Int.intBits v := by
  unfold Builtin.Int.intBits
  have e : (v == 0) = false := by simp; omega
  rw [e]; simp
theorem le_bits {v : Int} (h0 : 0 < v) : 2 ^ (Builtin.Int.intBits v - 1) ≤ v := by
  unfold Builtin.Int.intBits
  have e : (v == 0) = false := by simp; omega
  rw [e]
  simp only [Bool.false_eq_true, if_false, Nat.add_sub_cancel]
  have hn : v.natAbs ≠ 0 := by omega
  have h1 : 2 ^ v.natAbs.log2 ≤ v.natAbs := Nat.log2_self_le hn
  have h2 : ((2 ^ v.natAbs.log2 : Nat) : Int) ≤ ((v.natAbs : Nat) : Int) := by omega
  rw [Int.natCast_pow] at h2
  have h3 : ((v.natAbs : Nat) : Int) = v := by omega
  rw [h3] at h2; exact h2
theorem pow_pos2 (k : Nat) : (0 : Int) < 2 ^ k := Int.pow_pos (by decide)
theorem div_lt_pow {x : Int} {a b : Nat} (h : x < 2 ^ (a + b)) : x / 2 ^ a < 2 ^ b := by
  apply Int.ediv_lt_of_lt_mul (pow_pos2 a)
  rw [← Int.pow_add, Nat.add_comm b a]; exact h

/-- the halves of inner's range -/
structure Halves (n lo hi x M sh U W : Int) (k : Nat) : Prop where
  m1 : lo < M
  m2 : M < hi
  k1 : M - lo ≤ 2 ^ k
  k2 : hi - M ≤ 2 ^ k
  s0 : 0 ≤ sh
  s1 : sh ≤ 256000
  sz : (Builtin.Int.intBits U : Int) + sh ≤ 2 ^ 27
  u0 : 0 ≤ U
  u1 : U < 2 ^ (n * (hi - M)).toNat
  w0 : 0 ≤ W
  w1 : W < 2 ^ (n * (M - lo)).toNat
  we : W = x % 2 ^ ((M - lo) * n).toNat
  ue : U = x / 2 ^ ((M - lo) * n).toNat

theorem halves {n lo hi x : Int} {len k : Nat} (hb : 0 < n ∧ n ≤ 1000 ∧ 0 ≤ x ∧ 0 ≤ lo ∧ lo < hi ∧ hi ≤ len ∧ len ≤ 256) (hk : hi - lo ≤ 2 ^ (k + 1)) (hx : x < 2 ^ (n * (hi - lo)).toNat) (h1 : lo + 1 ≠ hi) :
    Halves n lo hi x ((lo + hi).fdiv (2 ^ Int.toNat 1)) (((lo + hi).fdiv (2 ^ Int.toNat 1) - lo) * n) (x.fdiv (2 ^ (((lo + hi).fdiv (2 ^ Int.toNat 1) - lo) * n).toNat))
      (Builtin.bitXor x (x.fdiv (2 ^ (((lo + hi).fdiv (2 ^ Int.toNat 1) - lo) * n).toNat) * 2 ^ (((lo + hi).fdiv (2 ^ Int.toNat 1) - lo) * n).toNat)) k := by
  obtain ⟨hn, hn2, hx0, hl0, hlh, hhl, hlen⟩ := hb
  have eM : (lo + hi).fdiv (2 ^ Int.toNat 1) = (lo + hi) / 2 := by
    rw [fdiv_pow]; rfl
  rw [eM, fdiv_pow, ← fdiv_pow, xor_low _ hx0, fdiv_pow]
  have m1 : lo < (lo + hi) / 2 := by omega
  have m2 : (lo + hi) / 2 < hi := by omega
  generalize hM : (lo + hi) / 2 = M at *
  have hk' : hi - lo ≤ 2 * 2 ^ k := by rw [Int.pow_succ] at hk; omega
  have s0 : 0 ≤ (M - lo) * n := Int.mul_nonneg (by omega) (by omega)
  have s1 : (M - lo) * n ≤ 256 * 1000 := Int.mul_le_mul (by omega) hn2 (by omega) (by omega)
  have t0 : 0 ≤ n * (hi - M) := Int.mul_nonneg (by omega) (by omega)
  have t1 : n * (hi - M) ≤ 1000 * 256 := Int.mul_le_mul hn2 (by omega) (by omega) (by omega)
  have e1 : n * (hi - lo) = (M - lo) * n + n * (hi - M) := by
    rw [Int.mul_comm (M - lo) n, ← Int.mul_add]; congr 1; omega
  have e2 : (n * (hi - lo)).toNat = ((M - lo) * n).toNat + (n * (hi - M)).toNat := by omega
  rw [e2] at hx
  have u1 := div_lt_pow hx
  have u0 : 0 ≤ x / 2 ^ ((M - lo) * n).toNat := Int.ediv_nonneg hx0 (Int.le_of_lt (pow_pos2 _))
  have bb := bits_le u0 u1
  refine ⟨m1, m2, by omega, by omega, s0, by omega, by omega, u0, u1, Int.emod_nonneg _ (Int.ne_of_gt (pow_pos2 _)), ?_, rfl, rfl⟩
  rw [Int.mul_comm n (M - lo)]
  exact Int.emod_lt_of_pos _ (pow_pos2 _)
end Mine
namespace Mine
theorem pow_le2 {a b : Nat} (h : a ≤ b) : (2 : Int) ^ a ≤ 2 ^ b := by
  have h1 : (2 : Nat) ^ a ≤ 2 ^ b := Nat.pow_le_pow_right (by decide) h
  have h2 : ((2 ^ a : Nat) : Int) ≤ ((2 ^ b : Nat) : Int) := by omega
  rw [Int.natCast_pow, Int.natCast_pow] at h2; exact h2
/-- how many digits of n bits -/
def nd (x n : Int) : Int := ((Builtin.Int.intBits x : Int) + n - 1).fdiv n
/-- the row that _int2digits gives -/
def dg (x n : Int) : List Int := setR (List.replicate (nd x n).toNat 0) n 0 (List.replicate (nd x n).toNat (0 : Int)).length x
theorem dg_eq (x n : Int) : dg x n = (List.range (nd x n).toNat).map fun (j : Nat) => dig x n (j : Int) := by
  unfold dg setR
  apply List.ext_getElem
  · simp
  · intro i h1 h2
    simp at h1
    simp
    intro h; omega
theorem nd_facts {x n : Int} (hx : 0 ≤ x) (hn : 0 < n) : 0 ≤ nd x n ∧ (Builtin.Int.intBits x : Int) ≤ n * nd x n ∧ n * nd x n ≤ Builtin.Int.intBits x + n - 1 := by
  unfold nd
  rw [Int.fdiv_eq_ediv_of_nonneg _ (by omega)]
  have h1 := Int.mul_ediv_add_emod ((Builtin.Int.intBits x : Int) + n - 1) n
  have h2 := Int.emod_lt_of_pos ((Builtin.Int.intBits x : Int) + n - 1) hn
  have h3 := Int.emod_nonneg ((Builtin.Int.intBits x : Int) + n - 1) (Int.ne_of_gt hn)
  refine ⟨Int.ediv_nonneg (by omega) (by omega), by omega, by omega⟩
theorem nd_lt {x n : Int} (hx : 0 ≤ x) (hn : 0 < n) : x < 2 ^ (n * nd x n).toNat := by
  obtain ⟨h0, h1, h2⟩ := nd_facts hx hn
  refine Int.lt_of_lt_of_le (lt_bits hx) ?_
  exact pow_le2 (by omega)
theorem nd_zero {n : Int} (hn : 0 < n) : nd 0 n = 0 := by
  obtain ⟨h0, h1, h2⟩ := nd_facts (x := 0) (by decide) hn
  have e : (Builtin.Int.intBits 0 : Int) = 0 := by decide
  rw [e] at h2
  by_cases h : nd 0 n = 0
  · exact h
  · exfalso
    have : 1 ≤ nd 0 n := by omega
    have := Int.mul_le_mul_of_nonneg_left this (Int.le_of_lt hn)
    omega
theorem nd_pos {x n : Int} (hx : 0 < x) (hn : 0 < n) : 1 ≤ nd x n := by
  obtain ⟨h0, h1, h2⟩ := nd_facts (Int.le_of_lt hx) hn
  have := bits_pos hx
  by_cases h : nd x n = 0
  · rw [h] at h1; omega
  · omega
theorem dg_zero {n : Int} (hn : 0 < n) : dg 0 n = [] := by rw [dg_eq, nd_zero hn]; rfl
theorem dg_length (x n : Int) : (dg x n).length = (nd x n).toNat := by rw [dg_eq]; simp
/-- the facts that a first call of inner wants -/
theorem dg_first {x n : Int} (hx : 0 ≤ x) (hx1 : x ≠ 0) (hn : 0 < n) (hn2 : n ≤ 1000) (h256 : nd x n ≤ 256) :
    (0 < n ∧ n ≤ 1000 ∧ 0 ≤ x ∧ (0 : Int) ≤ 0 ∧ (0 : Int) < ((List.replicate (nd x n).toNat (0 : Int)).length : Int) ∧ ((List.replicate (nd x n).toNat (0 : Int)).length : Int) ≤ ((List.replicate (nd x n).toNat (0 : Int)).length : Int) ∧ (List.replicate (nd x n).toNat (0 : Int)).length ≤ 256) ∧
    ((List.replicate (nd x n).toNat (0 : Int)).length : Int) - 0 ≤ 2 ^ 8 ∧ x < 2 ^ (n * (((List.replicate (nd x n).toNat (0 : Int)).length : Int) - 0)).toNat := by
  have h1 := nd_pos (x := x) (by omega) hn
  have h2 := nd_lt hx hn
  have e : ((List.replicate (nd x n).toNat (0 : Int)).length : Int) = nd x n := by rw [List.length_replicate]; omega
  rw [e, Int.sub_zero]
  refine ⟨⟨hn, hn2, hx, by omega, by omega, by omega, by rw [List.length_replicate]; omega⟩, by omega, h2⟩
end Mine
namespace Mine
/-- the number that a row of digits says, the lowest first -/
def vl (n : Int) : List Int → Int
  | [] => 0
  | d :: r => d + 2 ^ n.toNat * vl n r
theorem vl_append (n : Int) : ∀ a b : List Int, vl n (a ++ b) = vl n a + 2 ^ (n.toNat * a.length) * vl n b
  | [], b => by simp [vl]
  | d :: r, b => by
    have e : n.toNat * (r.length + 1) = n.toNat + n.toNat * r.length := by rw [Nat.mul_add, Nat.mul_one, Nat.add_comm]
    rw [List.cons_append, vl, vl, vl_append n r b, List.length_cons, e, Int.pow_add, Int.mul_add, Int.mul_assoc]
    omega
def Digs (n : Int) (ds : List Int) : Prop := ∀ d ∈ ds, 0 ≤ d ∧ d < 2 ^ n.toNat
theorem vl_bounds (n : Int) : ∀ ds : List Int, Digs n ds → 0 ≤ vl n ds ∧ vl n ds < 2 ^ (n.toNat * ds.length)
  | [], _ => by simp [vl]
  | d :: r, h => by
    have h1 := h d (.head _)
    obtain ⟨h2, h3⟩ := vl_bounds n r fun x hx => h x (.tail _ hx)
    have e : n.toNat * (r.length + 1) = n.toNat + n.toNat * r.length := by rw [Nat.mul_add, Nat.mul_one, Nat.add_comm]
    rw [vl, List.length_cons, e, Int.pow_add]
    have hp := pow_pos2 n.toNat
    refine ⟨Int.add_nonneg h1.1 (Int.mul_nonneg (Int.le_of_lt hp) h2), ?_⟩
    have h4 : 2 ^ n.toNat * (vl n r + 1) ≤ 2 ^ n.toNat * 2 ^ (n.toNat * r.length) := Int.mul_le_mul_of_nonneg_left (by omega) (Int.le_of_lt hp)
    rw [Int.mul_add, Int.mul_one] at h4
    omega
def slice (ns : List Int) (lo hi : Int) : List Int := (ns.drop lo.toNat).take (hi - lo).toNat
theorem slice_length {ns : List Int} {lo hi : Int} (h0 : 0 ≤ lo) (h1 : lo ≤ hi) (h2 : hi ≤ ns.length) : (slice ns lo hi).length = (hi - lo).toNat := by
  unfold slice; rw [List.length_take, List.length_drop]; omega
theorem slice_join {ns : List Int} {lo mid hi : Int} (h0 : 0 ≤ lo) (h1 : lo ≤ mid) (h2 : mid ≤ hi) : slice ns lo mid ++ slice ns mid hi = slice ns lo hi := by
  unfold slice
  have e1 : (hi - lo).toNat = (mid - lo).toNat + (hi - mid).toNat := by omega
  have e2 : mid.toNat = lo.toNat + (mid - lo).toNat := by omega
  rw [e1, List.take_add, e2, ← List.drop_drop]
theorem slice_all (ns : List Int) : slice ns 0 ns.length = ns := by
  unfold slice; simp
theorem slice_one {ns : List Int} {lo hi : Int} (h0 : 0 ≤ lo) (h1 : hi = lo + 1) (h2 : hi ≤ ns.length) : slice ns lo hi = [ns.getD lo.toNat 0] := by
  subst h1
  unfold slice
  have e1 : (lo + 1 - lo).toNat = 1 := by omega
  have h3 : lo.toNat < ns.length := by omega
  rw [e1, List.drop_eq_getElem_cons h3, List.take_succ_cons, List.take_zero, List.getD_eq_getElem?_getD, List.getElem?_eq_getElem h3]
  rfl
theorem slice_digs {n : Int} {ns : List Int} (h : Digs n ns) (lo hi : Int) : Digs n (slice ns lo hi) := fun d hd => h d (List.mem_of_mem_drop (List.mem_of_mem_take hd))
theorem vl_one {n : Int} {ns : List Int} {lo hi : Int} (h0 : 0 ≤ lo) (h1 : lo + 1 = hi) (h2 : hi ≤ ns.length) : vl n (slice ns lo hi) = ns.getD lo.toNat 0 := by
  rw [slice_one h0 h1.symm h2, vl, vl]; omega

structure HalvesB (n : Int) (ns : List Int) (lo hi M sh : Int) (k : Nat) : Prop where
  m1 : lo < M
  m2 : M < hi
  k1 : M - lo ≤ 2 ^ k
  k2 : hi - M ≤ 2 ^ k
  s0 : 0 ≤ sh
  s1 : sh ≤ 256000
  sz : (Builtin.Int.intBits (vl n (slice ns M hi)) : Int) + sh ≤ 2 ^ 27
  ev : vl n (slice ns M hi) * 2 ^ sh.toNat + vl n (slice ns lo M) = vl n (slice ns lo hi)

theorem halvesB {n lo hi : Int} {ns : List Int} {k : Nat} (hb : 0 < n ∧ n ≤ 1000 ∧ 0 ≤ lo ∧ lo < hi ∧ hi ≤ ns.length ∧ ns.length ≤ 256) (hk : hi - lo ≤ 2 ^ (k + 1)) (hD : Digs n ns) (h1 : lo + 1 ≠ hi) :
    HalvesB n ns lo hi ((lo + hi).fdiv (2 ^ Int.toNat 1)) (((lo + hi).fdiv (2 ^ Int.toNat 1) - lo) * n) k := by
  obtain ⟨hn, hn2, hl0, hlh, hhl, hlen⟩ := hb
  have eM : (lo + hi).fdiv (2 ^ Int.toNat 1) = (lo + hi) / 2 := by
    rw [fdiv_pow]; rfl
  rw [eM]
  have m1 : lo < (lo + hi) / 2 := by omega
  have m2 : (lo + hi) / 2 < hi := by omega
  generalize hM : (lo + hi) / 2 = M at *
  have hk' : hi - lo ≤ 2 * 2 ^ k := by rw [Int.pow_succ] at hk; omega
  have s0 : 0 ≤ (M - lo) * n := Int.mul_nonneg (by omega) (by omega)
  have s1 : (M - lo) * n ≤ 256 * 1000 := Int.mul_le_mul (by omega) hn2 (by omega) (by omega)
  obtain ⟨u0, u1⟩ := vl_bounds n _ (slice_digs hD M hi)
  rw [slice_length (by omega) (by omega) hhl] at u1
  have bb := bits_le u0 u1
  have t1 : n.toNat * (hi - M).toNat ≤ 1000 * 256 := Nat.mul_le_mul (by omega) (by omega)
  refine ⟨m1, m2, by omega, by omega, s0, by omega, by omega, ?_⟩
  have ej := slice_join (ns := ns) hl0 (Int.le_of_lt m1) (Int.le_of_lt m2)
  rw [← ej, vl_append, slice_length hl0 (Int.le_of_lt m1) (by omega)]
  have e2 : n.toNat * (M - lo).toNat = ((M - lo) * n).toNat := by
    obtain ⟨a, ha⟩ := Int.eq_ofNat_of_zero_le (show 0 ≤ M - lo by omega)
    obtain ⟨b, hb⟩ := Int.eq_ofNat_of_zero_le (show 0 ≤ n by omega)
    rw [ha, hb, ← Int.natCast_mul]
    simp only [Int.toNat_natCast]
    exact Nat.mul_comm _ _
  rw [e2, Int.mul_comm (2 ^ _) _, Int.add_comm]
end Mine
namespace Mine
theorem dg_digs (x n : Int) : Digs n (dg x n) := by
  rw [dg_eq]
  intro d hd
  obtain ⟨j, _, rfl⟩ := List.mem_map.mp hd
  exact ⟨Int.emod_nonneg _ (Int.ne_of_gt (pow_pos2 _)), Int.emod_lt_of_pos _ (pow_pos2 _)⟩
theorem vl_digs {x n : Int} (hx : 0 ≤ x) (hn : 0 ≤ n) : ∀ k : Nat, vl n ((List.range k).map fun (j : Nat) => dig x n (j : Int)) = x % 2 ^ (n.toNat * k)
  | 0 => by simp [vl, Int.emod_one]
  | k + 1 => by
    rw [List.range_succ, List.map_append, vl_append, vl_digs hx hn k]
    simp only [List.map_cons, List.map_nil, List.length_map, List.length_range, vl, Int.mul_zero, Int.add_zero]
    unfold dig
    obtain ⟨X, rfl⟩ := Int.eq_ofNat_of_zero_le hx
    obtain ⟨N, rfl⟩ := Int.eq_ofNat_of_zero_le hn
    have e1 : ((N : Int) * (k : Int)).toNat = N * k := by rw [← Int.natCast_mul, Int.toNat_natCast]
    rw [e1]
    simp only [Int.toNat_natCast]
    rw [cast_mod_pow, cast_div_pow, cast_mod_pow, cast_mod_pow]
    have e2 : ((2 : Int) ^ (N * k)) = ((2 ^ (N * k) : Nat) : Int) := by rw [Int.natCast_pow]; rfl
    rw [e2, ← Int.natCast_mul, ← Int.natCast_add]
    congr 1
    rw [Nat.mul_add, Nat.mul_one, Nat.pow_add]
    exact (Nat.mod_mul).symm
theorem vl_dg {x n : Int} (hx : 0 ≤ x) (hn : 0 < n) : vl n (dg x n) = x := by
  rw [dg_eq, vl_digs hx (Int.le_of_lt hn)]
  have h := nd_lt hx hn
  have h0 := (nd_facts hx hn).1
  have e : (n * nd x n).toNat = n.toNat * (nd x n).toNat := by
    obtain ⟨a, ha⟩ := Int.eq_ofNat_of_zero_le h0
    obtain ⟨b, hb⟩ := Int.eq_ofNat_of_zero_le (Int.le_of_lt hn)
    rw [ha, hb, ← Int.natCast_mul]; simp only [Int.toNat_natCast]
  rw [e] at h
  exact Int.emod_eq_of_lt hx h

theorem nd_le {x n : Int} {B : Nat} (hx : 0 ≤ x) (hn : 0 < n) (hB : Builtin.Int.intBits x ≤ B) : nd x n ≤ B := by
  obtain ⟨h0, h1, h2⟩ := nd_facts hx hn
  by_cases h : nd x n ≤ B
  · exact h
  · exfalso
    have h3 : (B : Int) + 1 ≤ nd x n := by omega
    have h4 := Int.mul_le_mul_of_nonneg_left h3 (Int.le_of_lt hn)
    have h5 : 1 * (B : Int) ≤ n * B := Int.mul_le_mul_of_nonneg_right (by omega) (by omega)
    rw [Int.mul_add, Int.mul_one] at h4
    omega
/-- the long division: so far the value V, its rest r, the quotient's digits from the top -/
structure Dv (b n : Int) (V r : Int) (qs : List Int) : Prop where
  V0 : 0 ≤ V
  rest : r = V % b
  digs : Digs n qs
  quot : vl n qs.reverse = V / b
theorem Dv.start {b n : Int} : Dv b n 0 0 [] := ⟨by decide, by simp, (fun _ h => (nomatch h)), by simp [vl]⟩
theorem Dv.step {b n V r d : Int} {qs : List Int} (D : Dv b n V r qs) (hb : 0 < b) (hd : 0 ≤ d ∧ d < 2 ^ n.toNat) :
    Dv b n (d + 2 ^ n.toNat * V) ((r * 2 ^ n.toNat + d) % b) (qs ++ [(r * 2 ^ n.toNat + d) / b]) := by
  obtain ⟨V0, hr, hq, hv⟩ := D
  have hp := pow_pos2 n.toNat
  have r0 : 0 ≤ r := hr ▸ Int.emod_nonneg _ (Int.ne_of_gt hb)
  have r1 : r < b := hr ▸ Int.emod_lt_of_pos _ hb
  have eV : V = b * (V / b) + r := by rw [hr]; exact (Int.mul_ediv_add_emod V b).symm
  have e1 : d + 2 ^ n.toNat * V = (r * 2 ^ n.toNat + d) + b * (2 ^ n.toNat * (V / b)) := by
    have e2 : 2 ^ n.toNat * V = 2 ^ n.toNat * (b * (V / b)) + 2 ^ n.toNat * r := by rw [← Int.mul_add, ← eV]
    have e3 : 2 ^ n.toNat * (b * (V / b)) = b * (2 ^ n.toNat * (V / b)) := by rw [← Int.mul_assoc, Int.mul_comm (2 ^ n.toNat) b, Int.mul_assoc]
    have e4 : 2 ^ n.toNat * r = r * 2 ^ n.toNat := Int.mul_comm _ _
    omega
  have z0 : 0 ≤ r * 2 ^ n.toNat + d := Int.add_nonneg (Int.mul_nonneg r0 (Int.le_of_lt hp)) hd.1
  refine ⟨Int.add_nonneg hd.1 (Int.mul_nonneg (Int.le_of_lt hp) V0), ?_, ?_, ?_⟩
  · rw [e1, Int.add_mul_emod_self_left]
  · intro q hq'
    rcases List.mem_append.mp hq' with h | h
    · exact hq q h
    · rw [List.mem_singleton.mp h]
      refine ⟨Int.ediv_nonneg z0 (Int.le_of_lt hb), Int.ediv_lt_of_lt_mul hb ?_⟩
      have : (r + 1) * 2 ^ n.toNat ≤ b * 2 ^ n.toNat := Int.mul_le_mul_of_nonneg_right (by omega) (Int.le_of_lt hp)
      rw [Int.add_mul, Int.one_mul] at this
      rw [Int.mul_comm (2 ^ n.toNat) b]
      omega
  · rw [List.reverse_append, List.reverse_cons, List.reverse_nil, List.nil_append, List.singleton_append, vl, hv, e1, Int.add_mul_ediv_left _ _ (Int.ne_of_gt hb)]
/-- what the body of the loop wants to know -/
theorem Dv.facts {b n V r d : Int} {qs : List Int} (D : Dv b n V r qs) (hb : 0 < b) (hn : n = Builtin.Int.intBits b) (hn2 : n ≤ 1000) (hd : 0 ≤ d ∧ d < 2 ^ n.toNat) :
    0 ≤ r ∧ (Builtin.Int.intBits r : Int) + n ≤ 2 ^ 27 ∧ 0 ≤ r * 2 ^ n.toNat + d ∧ (Builtin.Int.intBits (r * 2 ^ n.toNat + d) : Int) - n ≤ 4000 := by
  obtain ⟨V0, hr, _, _⟩ := D
  have hp := pow_pos2 n.toNat
  have r0 : 0 ≤ r := hr ▸ Int.emod_nonneg _ (Int.ne_of_gt hb)
  have r1 : r < b := hr ▸ Int.emod_lt_of_pos _ hb
  have b1 := lt_bits (Int.le_of_lt hb)
  have en : n.toNat = Builtin.Int.intBits b := by omega
  rw [en] at hd hp ⊢
  have h1 := bits_le r0 (Int.lt_trans r1 b1)
  have z0 : 0 ≤ r * 2 ^ Builtin.Int.intBits b + d := Int.add_nonneg (Int.mul_nonneg r0 (Int.le_of_lt hp)) hd.1
  have z1 : r * 2 ^ Builtin.Int.intBits b + d < 2 ^ (Builtin.Int.intBits b + Builtin.Int.intBits b) := by
    rw [Int.pow_add]
    have : (r + 1) * 2 ^ Builtin.Int.intBits b ≤ 2 ^ Builtin.Int.intBits b * 2 ^ Builtin.Int.intBits b := Int.mul_le_mul_of_nonneg_right (by omega) (Int.le_of_lt hp)
    rw [Int.add_mul, Int.one_mul] at this
    omega
  have h2 := bits_le z0 z1
  exact ⟨r0, by omega, z0, by omega⟩
theorem vl_foldl (n : Int) : ∀ (ds : List Int), ds.reverse.foldl (fun V d => d + 2 ^ n.toNat * V) 0 = vl n ds
  | [] => rfl
  | d :: r => by rw [List.reverse_cons, List.foldl_append, vl_foldl n r]; rfl
theorem ints_rev : ∀ {vs : List Value} {ns : List Int}, IntsAre vs ns → IntsAre vs.reverse ns.reverse := by
  have app : ∀ {a b : List Value} {c d : List Int}, IntsAre a c → IntsAre b d → IntsAre (a ++ b) (c ++ d) := by
    intro a b c d h1 h2
    induction h1 with
    | nil => exact h2
    | cons n t _ ih => exact .cons n t ih
  intro vs ns h
  induction h with
  | nil => exact .nil
  | cons n t _ ih => rw [List.reverse_cons, List.reverse_cons]; exact app ih (.cons n t .nil)
theorem ints_append {a b : List Value} {c d : List Int} (h1 : IntsAre a c) (h2 : IntsAre b d) : IntsAre (a ++ b) (c ++ d) := by
  induction h1 with
  | nil => exact h2
  | cons n t _ ih => exact .cons n t ih
end Mine
namespace Mine
theorem allNe_of {d : Addr} {rest : List (Addr × Obj)} (h : AllLt d rest) : ∀ p ∈ rest, p.1 ≠ d := by
  induction rest with
  | nil => intro p hp; cases hp
  | cons q r ih => intro p hp; cases hp with
    | head => exact Nat.ne_of_lt h.1
    | tail _ hp => exact ih h.2 p hp
theorem AllLt.all {d : Addr} {rest : List (Addr × Obj)} (h : AllLt d rest) : ∀ p ∈ rest, p.1 < d := by
  induction rest with
  | nil => intro p hp; cases hp
  | cons q r ih => intro p hp; cases hp with
    | head => exact h.1
    | tail _ hp => exact ih h.2 p hp
theorem allLt_le {d e : Addr} {rest : List (Addr × Obj)} (h : AllLt e rest) (hle : @LE.le Nat _ e d) : ∀ p ∈ rest, p.1 < d := fun p hp =>
  Nat.lt_of_lt_of_le (AllLt.all h p hp) hle
theorem allNe_le {d e : Addr} {rest : List (Addr × Obj)} (h : AllLt e rest) (hle : @LE.le Nat _ e d) : ∀ p ∈ rest, p.1 ≠ d := fun p hp =>
  Nat.ne_of_lt (Nat.lt_of_lt_of_le (AllLt.all h p hp) hle)

theorem flat_rep (k : Nat) (v : Value) : (List.replicate k [v]).flatten = List.replicate k v := by
  induction k with
  | zero => rfl
  | succ k ih => rw [List.replicate_succ, List.flatten_cons, ih]; rfl
theorem ints_rep (z : Int) (t : Tok) : ∀ k : Nat, IntsAre (List.replicate k (.int z t)) (List.replicate k z)
  | 0 => .nil
  | k + 1 => .cons z t (ints_rep z t k)
section
variable {prog : Program} {w : World} {A : Around} {E : Value → Shared → Prop} {s : Shared} {h₀ : Heap} {L : Addr} {m : Str → Option Value} {news : List (Addr × Obj)} {l : Addr} {z : Int} {tz : Tok} {x : Int} {u : Tok} {Q : Value → Shared → Prop}
/-- a list of one int, so many times -/
theorem mulOne (Fm : Fr h₀ L s.heap m) (N : News h₀ L s.heap news) (hl : s.heap.IsList l [.int z tz].toArray) (hlo : 0 ≤ x) (hhi : x ≤ 256)
    (h : ∀ D h' vs, IntsAre vs (List.replicate x.toNat z) → Fr h₀ L h' m → News h₀ L h' ((D, listOf vs.toArray 0) :: news) → (∀ p ∈ news, p.1 < D) → Q (.ref D) { s with heap := h' }) : wpAny (model prog w) A (binaryOp .Mult (.ref l) (.int x u)) Q E s :=
  KMa.mul Fm N hl (by omega) (by omega) (by simp only [List.length_cons, List.length_nil]; omega) (flat_rep _ _) fun D h' => h D h' _ (ints_rep _ _ _)
/-- the length of a list of ints that the ledger bears -/
theorem lenInts {vs : List Value} {ns : List Int} {nn : Nat} (N : News h₀ L s.heap news) (hm : (l, listOf vs.toArray nn) ∈ news) (hi : IntsAre vs ns) (hfit : ns.length < 2 ^ 62)
    (h : ∀ t tk, Q (.int (ns.length : Int) t) { s with toks := tk }) : wpAny (model prog w) A (call (.builtin "len") [.ref l]) Q E s := by
  have e : vs.toArray.size = ns.length := by rw [List.size_toArray]; exact hi.length
  refine len_list (PySem.IsL.isList (n := nn) (N _ hm).1) (by rw [e]; omega) ?_
  rw [e]; exact h _ _
end
section
variable {prog : Program} {w : World} {A A₀ : Around} {E : Value → Shared → Prop} {s : Shared} {K : Frag} {L : Addr} {h₀ base : Heap} {m mg mb : Str → Option Value} {news : List (Addr × Obj)} {p : Program} {loose : List Str} {mean : ExcName → Option Value}
/-- a list of ints is true where it holds one -/
theorem truthyInts {h₀ : Heap} {L l : Addr} {news : List (Addr × Obj)} {vs : List Value} {ns : List Int} {nn : Nat} {Q : Bool → Shared → Prop} (N : News h₀ L s.heap news) (hm : (l, listOf vs.toArray nn) ∈ news) (hi : IntsAre vs ns) (hfit : ns.length < 2 ^ 62)
    (h : ∀ tk, Q (decide (0 < ns.length)) { s with toks := tk }) : wpAny (model prog w) A (truthy (.ref l)) Q E s := by
  have e : vs.toArray.size = ns.length := by rw [List.size_toArray]; exact hi.length
  refine wpAny_truthy_list (PySem.IsL.isList (n := nn) (N _ hm).1) (by rw [e]; omega) ?_
  have e2 : (!vs.toArray.isEmpty) = decide (0 < ns.length) := by
    cases hi with
    | nil => rfl
    | cons _ _ => simp
  rw [e2]; exact h _
/-- a def of the text's, without cells; what was made lies below its frame -/
theorem code_defL {env : Env} {outer : List Env} {R : Result → Shared → Prop} {name qual : Str} {params : Arguments} {body : List Stmt} {scope : Scope} {dV kV doc pm cdv ct oc : Value} {an od : Option Addr} {osl : Array (Option Value)} {f : Addr} {args : Args} {binds : List (Str × Value)}
    (B : Below A₀ base outer h₀) (F : Fr h₀ L s.heap m) (X₀ : K.In h₀) (N : News h₀ L s.heap news) (T : Top p loose mean mg mb h₀) (hA : A.frames = some (env :: outer)) (hf : env.frame = some L) (hke : env.scope.kind = .function)
    (ho : K.lookup f = some ⟨oc, od, .func (fnOf name qual params body scope dV kV doc pm an cdv ct), osl⟩) (hcd : codeIn K cdv qual = true) (hroom : A.depth < recursionLimit)
    (hbind : BindsTo s (fnOf name qual params body scope dV kV doc pm an cdv ct) args binds) (hloc : ∀ y ∈ binds, scope.names.lookup y.1 = some .local)
    (h : ∀ g L' h₁, Fr h₀ L g m → Fr g L' h₁ (fun y => binds.reverse.lookup y) → News g L' h₁ news → Below A base (env :: outer) g → K.In g → Top p loose mean mg mb g → (∀ p ∈ news, p.1 < L') →
      wpAny (model prog w) (A.deeper (envOf qual scope L' f cdv)) (execs body (envOf qual scope L' f cdv))
        (fun fl s' => LeaveK h₀ L m g R (match fl with | .ret v => v | _ => .none) s')
        (fun e s' => wpAny (model prog w) (A.deeper (envOf qual scope L' f cdv)) (leaving (envOf qual scope L' f cdv) e) (fun _ s'' => R (.error e) s'') (fun e' s'' => R (.error e') s'') s')
        { s with heap := h₁, toks := s.toks + binds.length })
    (hco : scope.isCoroutine = false) (hgen : scope.isGenerator = false) (hk : scope.kind = .function)
    (hcell : ∀ x ∈ scope.names, x.2 ≠ .cell) : codeAny (model prog w) A (.call (.ref f) args) R s :=
  callX_plain (cl := []) B F N T.nolimit hA hf hke ((X₀.keeps F.keep) _ _ ho) rfl (codeRec_of (X₀.keeps F.keep) hcd) hroom hbind hloc (fun g L' h₁ FG F' N' B' st l => h g L' h₁ FG F' N' B' (X₀.keeps st) (T.keeps st) l) hcell hco hgen hk
/-- a def that a def has made -/
theorem code_nestL {env : Env} {outer : List Env} {R : Result → Shared → Prop} {name qual : Str} {params : Arguments} {body : List Stmt} {scope : Scope} {cl : List (Str × Addr)} {doc pm ctv : Value} {c' : Addr} {f : Addr} {args : Args} {binds : List (Str × Value)}
    (B : Below A₀ base outer h₀) (F : Fr h₀ L s.heap m) (X₀ : K.In h₀) (N : News h₀ L s.heap news) (T : Top p loose mean mg mb h₀) (hA : A.frames = some (env :: outer)) (hf : env.frame = some L) (hke : env.scope.kind = .function)
    (ho : (f, fnMade name qual params body scope cl doc pm c' ctv) ∈ news) (hcd : s.heap.CodeRec (.ref c') qual) (hroom : A.depth < recursionLimit)
    (hbind : BindsTo s (fnX name qual params body scope cl .none .none doc pm none (.ref c') ctv) args binds) (hloc : ∀ y ∈ binds, scope.names.lookup y.1 = some .local)
    (h : ∀ g L' h₁, Fr h₀ L g m → Fr g L' h₁ (fun y => binds.reverse.lookup y) → News g L' h₁ news → Below A base (env :: outer) g → K.In g → Top p loose mean mg mb g → (∀ p ∈ news, p.1 < L') →
      wpAny (model prog w) (A.deeper (envX qual scope L' f (.ref c') cl)) (execs body (envX qual scope L' f (.ref c') cl))
        (fun fl s' => LeaveK h₀ L m g R (match fl with | .ret v => v | _ => .none) s')
        (fun e s' => wpAny (model prog w) (A.deeper (envX qual scope L' f (.ref c') cl)) (leaving (envX qual scope L' f (.ref c') cl) e) (fun _ s'' => R (.error e) s'') (fun e' s'' => R (.error e') s'') s')
        { s with heap := h₁, toks := s.toks + binds.length })
    (hco : scope.isCoroutine = false) (hgen : scope.isGenerator = false) (hk : scope.kind = .function)
    (hcell : ∀ x ∈ scope.names, x.2 ≠ .cell) : codeAny (model prog w) A (.call (.ref f) args) R s :=
  callX_plain (cl := cl) B F N T.nolimit hA hf hke (N _ ho).1 rfl hcd hroom hbind hloc (fun g L' h₁ FG F' N' B' st l => h g L' h₁ FG F' N' B' (X₀.keeps st) (T.keeps st) l) hcell hco hgen hk
end
theorem memOf {q : Addr × Obj} {l : List (Addr × Obj)} (h : q ∈ l) : List.Mem q l := h
abbrev tupOf (its : Array Value) : Obj := { cls := .type "tuple", data := .seq its }
theorem noPy {x b : Int} (hb : 0 < b) (h : Builtin.Int.intBits b ≤ 1000) : Builtin.divisionGoesByPylong x b = false := by
  refine PyProof.noPylong_of_log2 ?_
  unfold Builtin.Int.intBits at h
  have e : (b == 0) = false := by simp; omega
  rw [e] at h
  simp only [Bool.false_eq_true, if_false] at h
  omega
theorem divmodK {prog : Program} {w : World} {A : Around} {E : Value → Shared → Prop} {s : Shared} {a b : Int} {t u : Tok} {Q : Value → Shared → Prop} {h₀ : Heap} {L : Addr} {m : Str → Option Value} {news : List (Addr × Obj)} (F : Fr h₀ L s.heap m) (N : News h₀ L s.heap news) (hb : b ≠ 0) (hp : ∀ {x : Int}, Builtin.divisionGoesByPylong x b = false)
    (h : ∀ D t1 t2 h' tk', Fr h₀ L h' m → News h₀ L h' ((D, tupOf #[.int (a.fdiv b) t1, .int (a.fmod b) t2]) :: news) → (∀ p ∈ news, p.1 < D) → Q (.ref D) { s with heap := h', toks := tk' }) :
    wpAny (model prog w) A (call (.builtin "divmod") [.int a t, .int b u]) Q E s :=
  divmod_N F N hb (fun h' F' N' => h _ _ _ h' _ F' N' fun p hp => Heap.lt_size (N p hp).1) (Or.inl hp)
/-- (a, ob) lies in the ledger whatever lies at the changing place -/
def AllMem (g : Obj → List (Addr × Obj)) (a : Addr) (ob : Obj) : Prop := ∀ o, (a, ob) ∈ g o
theorem AllMem.at {g : Obj → List (Addr × Obj)} {a : Addr} {ob o : Obj} (h : AllMem g a ob) : (a, ob) ∈ g o := h o
theorem UpdF.upd {d : Addr} {o : Obj} {l : List (Addr × Obj)} {g : Obj → List (Addr × Obj)} (U : UpdF d o l g) : ∀ o', Upd d o o' l (g o') := by
  induction U with
  | head h => intro o'; exact .head h
  | tail h _ ih => intro o'; exact .tail h (ih o')
theorem UpdF.anew {d : Addr} {o : Obj} {l : List (Addr × Obj)} {g : Obj → List (Addr × Obj)} (U : UpdF d o l g) : g o = l ∧ ∀ o', UpdF d o' (g o') g := by
  induction U with
  | head h => exact ⟨rfl, fun o' => .head h⟩
  | tail h _ ih => exact ⟨congrArg _ ih.1, fun o' => .tail h (ih.2 o')⟩
theorem AllLt.upd {d e : Addr} {o : Obj} {l : List (Addr × Obj)} {g : Obj → List (Addr × Obj)} (U : UpdF d o l g) (h : AllLt e l) : ∀ o', AllLt e (g o') := by
  induction U with
  | head _ => exact fun o' => ⟨h.1, h.2⟩
  | tail _ _ ih => exact fun o' => ⟨h.1, ih h.2 o'⟩
theorem UpdF.mem {d : Addr} {o : Obj} {l : List (Addr × Obj)} {g : Obj → List (Addr × Obj)} (U : UpdF d o l g) : (d, o) ∈ l := by
  induction U with
  | head _ => exact .head _
  | tail _ _ ih => exact .tail _ ih
/-- the def that stands as statement i in the def at f -/
def defAt (K : Frag) (f : Addr) (i : Nat) : Option (Str × Arguments × List Stmt × Scope) := match K.lookup f with
  | some ⟨_, _, .func fd, _⟩ => (match fd.body with
    | .stmts b => (match b[i]? with
      | some (.FunctionDef name args body _ _ _ scope _ _ _) => some (name, args, body, scope)
      | _ => none)
    | _ => none)
  | _ => none
end Mine
namespace Mine
section
variable {prog : Program} {w : World} {A : Around} {E : Value → Shared → Prop} {s : Shared} {env : Env} {h₀ : Heap} {x : Str} {body : List Stmt} {Q : Flow → Shared → Prop}
/-- the end of a turn: a frame and a ledger that the next state c' says -/
def TEnd {σ : Type} (h₀ : Heap) (L : Addr) (M : σ → Str → Option Value) (Ld : σ → List (Addr × Obj)) (S : σ → Prop) (s s₂ : Shared) : Prop :=
  ∃ c' h' tk' m', s₂ = { s with heap := h', toks := tk' } ∧ Fr h₀ L h' m' ∧ (∀ z, m' z = M c' z) ∧ News h₀ L h' (Ld c') ∧ S c'
def TPost {σ : Type} (h₀ : Heap) (L : Addr) (M : σ → Str → Option Value) (Ld : σ → List (Addr × Obj)) (S : σ → Prop) (s : Shared) (Q : Flow → Shared → Prop) (f : Flow) (s₂ : Shared) : Prop :=
  match f with
  | .ret v => Q (.ret v) s₂
  | .brk => Q .next s₂
  | _ => TEnd h₀ L M Ld S s s₂
theorem TEnd.intro {σ : Type} {L : Addr} {M : σ → Str → Option Value} {Ld : σ → List (Addr × Obj)} {S : σ → Prop} {h' : Heap} {tk' : Nat} {m' : Str → Option Value} {all : List (Addr × Obj)} (mk : (Str → Option Value) → σ) (F : Fr h₀ L h' m') (N : News h₀ L h' all)
    (sub : ∀ p ∈ Ld (mk m'), p ∈ all) (hm : ∀ z, m' z = M (mk m') z) (r : S (mk m')) : TEnd h₀ L M Ld S s { s with heap := h', toks := tk' } := ⟨mk m', h', tk', m', rfl, F, hm, fun p hp => N p (sub p hp), r⟩

theorem offI_of {I : Addr} {it : Obj} : ∀ {l : List (Addr × Obj)}, (∀ p ∈ l, p.1 ≠ I) → OffI I it l
  | [], _ => trivial
  | _ :: _, h => ⟨.inl (h _ (.head _)), offI_of fun p hp => h p (.tail _ hp)⟩
/-- a loop over a list from behind -/
theorem revInd {σ : Type} (M : σ → Str → Option Value) (Ld : σ → List (Addr × Obj)) (S : List Int → σ → Prop) {I : Addr} {lp : Addr × Obj} (hI : ∀ c, ∀ p ∈ Ld c, p.1 ≠ I) (hl : ∀ c, lp ∈ Ld c)
    (nil : ∀ c, S [] c → ∀ h tk, Fr h₀ env.locals h (M c) → News h₀ env.locals h (Ld c) → Q .next { s with heap := h, toks := tk })
    (cons : ∀ d t rs c, S (d :: rs) c → ∀ it h tk, Fr h₀ env.locals h (fun y => if y = x then some (.int d t) else M c y) → News h₀ env.locals h ((I, it) :: Ld c) →
      wpAny (model prog w) A (execs body env) (TPost h₀ env.locals M (fun c => (I, it) :: Ld c) (S rs) s Q) E { s with heap := h, toks := tk }) :
    ∀ rvs rs, IntsAre rvs rs → ∀ c, S rs c → ∀ m, (∀ z, m z = M c z) → RevRest prog w A E h₀ env x body Q s I lp rvs m (Ld c) := by
  intro rvs rs hi
  induction hi with
  | nil =>
    intro c hS m hm
    have e : m = M c := funext hm
    subst e
    exact RevRest.zero (nil c hS)
  | @cons d t vs' ns' _ ih =>
    intro c hS m hm
    have e : m = M c := funext hm
    subst e
    refine RevRest.succ fun it h tk _ F N => wpAny_mono (cons d t _ c hS it h tk F N) (fun f s₂ hp => ?_) fun _ _ e => e
    have fin : TEnd h₀ env.locals M (fun c => (I, it) :: Ld c) (S ns') s s₂ → UnrEnd h₀ env.locals { s with heap := h, toks := tk } I it (fun m' n' => lp ∈ n' ∧ RevRest prog w A E h₀ env x body Q s I lp vs' m' n') s₂ := by
      rintro ⟨c', h', tk', m', rfl, F', hm', N', hS'⟩
      exact ⟨h', tk', m', Ld c', rfl, F', N', hI c', hl c', ih c' hS' m' hm'⟩
    cases f with
    | ret v => exact hp
    | brk => exact hp
    | next => exact fin hp
    | cont => exact fin hp

/-- a loop over a list -/
theorem listInd {σ : Type} (M : σ → Str → Option Value) (Ld : σ → List (Addr × Obj)) (S : List Int → σ → Prop) {I : Addr} {lp : Addr × Obj} (hI : ∀ c, ∀ p ∈ Ld c, p.1 ≠ I) (hl : ∀ c, lp ∈ Ld c)
    (nil : ∀ c, S [] c → ∀ h tk, Fr h₀ env.locals h (M c) → News h₀ env.locals h (Ld c) → Q .next { s with heap := h, toks := tk })
    (cons : ∀ d t rs c, S (d :: rs) c → ∀ it h tk, Fr h₀ env.locals h (fun y => if y = x then some (.int d t) else M c y) → News h₀ env.locals h ((I, it) :: Ld c) →
      wpAny (model prog w) A (execs body env) (TPost h₀ env.locals M (fun c => (I, it) :: Ld c) (S rs) s Q) E { s with heap := h, toks := tk }) :
    ∀ rvs rs, IntsAre rvs rs → ∀ c, S rs c → ∀ m, (∀ z, m z = M c z) → ListRest prog w A E h₀ env x body Q s I lp rvs m (Ld c) := by
  intro rvs rs hi
  induction hi with
  | nil =>
    intro c hS m hm
    have e : m = M c := funext hm
    subst e
    exact ListRest.zero (nil c hS)
  | @cons d t vs' ns' _ ih =>
    intro c hS m hm
    have e : m = M c := funext hm
    subst e
    refine ListRest.succ fun it h tk _ F N => wpAny_mono (cons d t _ c hS it h tk F N) (fun f s₂ hp => ?_) fun _ _ e => e
    have fin : TEnd h₀ env.locals M (fun c => (I, it) :: Ld c) (S ns') s s₂ → UnrEnd h₀ env.locals { s with heap := h, toks := tk } I it (fun m' n' => lp ∈ n' ∧ ListRest prog w A E h₀ env x body Q s I lp vs' m' n') s₂ := by
      rintro ⟨c', h', tk', m', rfl, F', hm', N', hS'⟩
      exact ⟨h', tk', m', Ld c', rfl, F', N', hI c', hl c', ih c' hS' m' hm'⟩
    cases f with
    | ret v => exact hp
    | brk => exact hp
    | next => exact fin hp
    | cont => exact fin hp

/-- a while by a measure -/
theorem whileInd {σ : Type} {L : Addr} {test : PySem.Expr} {orelse : List Stmt} (M : σ → Str → Option Value) (Ld : σ → List (Addr × Obj)) (S : σ → Prop) (μ : σ → Nat) (hE : PassesOwn (model prog w) A env E)
    (turn : ∀ c, S c → ∀ h tk, Fr h₀ L h (M c) → News h₀ L h (Ld c) →
      wpAny (model prog w) A (isTrue test env (eval test env)) (fun b s₂ => WhlIf b (wpAny (model prog w) A (execs body env) (TPost h₀ L M Ld (fun c' => S c' ∧ μ c' < μ c) s Q) E s₂) (wpAny (model prog w) A (execs orelse env) Q E s₂)) E { s with heap := h, toks := tk }) :
    ∀ n c, μ c < n → S c → ∀ h tk m, (∀ z, m z = M c z) → Fr h₀ L h m → News h₀ L h (Ld c) → WhlRest prog w A E env test body orelse Q 0 { s with heap := h, toks := tk } := by
  intro n
  induction n with
  | zero => intro c h; exact absurd h (Nat.not_lt_zero _)
  | succ n ih =>
    intro c hμ hS h tk m hm F N
    have e : m = M c := funext hm
    subst e
    refine whl_turn (k := 0) hE (wpAny_mono (turn c hS h tk F N) (fun b s₂ hb => ?_) fun _ _ e => e)
    cases b with
    | false => exact hb
    | true =>
      refine WhlIf.yes rfl (wpAny_mono (show wpAny _ _ _ _ _ _ from hb) (fun f s₃ hp => ?_) fun _ _ e => e)
      have fin : TEnd h₀ L M Ld (fun c' => S c' ∧ μ c' < μ c) s s₃ → WhlRest prog w A E env test body orelse Q 0 s₃ := by
        rintro ⟨c', h', tk', m', rfl, F', hm', N', hS', hμ'⟩
        exact ih c' (by omega) hS' h' tk' m' hm' F' N'
      cases f with
      | ret v => exact hp
      | brk => exact hp
      | next => exact fin hp
      | cont => exact fin hp
end
section
variable {prog : Program} {w : World} {A : Around} {E : Value → Shared → Prop} {s : Shared} {h₀ : Heap} {L D : Addr} {m : Str → Option Value} {news news' : List (Addr × Obj)} {vs ws : List Value} {ns ks : List Int} {n k : Nat} {Q : Value → Shared → Prop}
theorem fits_of {a : Nat} (h : a < 100000) : a ≤ sizeLine := by rw [sizeLine_eq]; omega
theorem appendInts {x : Int} {t : Tok} (F : Fr h₀ L s.heap m) (N : News h₀ L s.heap news) (U : Upd D (listOf vs.toArray n) (listOf (vs ++ [Value.int x t]).toArray (n + 1)) news news') (hi : IntsAre vs ns) (hz : ns.length < 100000)
    (h : ∀ h', Fr h₀ L h' m → News h₀ L h' news' → IntsAre (vs ++ [Value.int x t]) (ns ++ [x]) → Q .none { s with heap := h' }) : wpAny (model prog w) A (call (.builtin "list.append") [.ref D, .int x t]) Q E s := by
  refine append_K F N (n := n) (its := vs.toArray) ?_ (fun h' F' N' => h h' F' N' (ints_append hi (.cons x t .nil))) (by rw [List.size_toArray, hi.length]; exact fits_of hz)
  have e : vs.toArray.push (Value.int x t) = (vs ++ [Value.int x t]).toArray := by simp
  rw [e]; exact U
theorem reverseInts (F : Fr h₀ L s.heap m) (N : News h₀ L s.heap news) (U : Upd D (listOf vs.toArray n) (listOf vs.reverse.toArray n) news news') (hi : IntsAre vs ns) (hz : ns.length < 100000)
    (h : ∀ h', Fr h₀ L h' m → News h₀ L h' news' → IntsAre vs.reverse ns.reverse → Q .none { s with heap := h' }) : wpAny (model prog w) A (call (.builtin "list.reverse") [.ref D]) Q E s :=
  kl_reverse F N rfl U (by show vs.length ≤ sizeLine; rw [hi.length]; exact fits_of hz) fun h' F' N' => h h' F' N' (ints_rev hi)
theorem extendInts {b : Addr} (F : Fr h₀ L s.heap m) (N : News h₀ L s.heap news) (hb : (b, listOf ws.toArray k) ∈ news) (U : Upd D (listOf vs.toArray n) (listOf (vs ++ ws).toArray (n + 1)) news news') (hi : IntsAre vs ns) (hj : IntsAre ws ks) (hne : ks.length ≠ 0) (hz : ns.length + ks.length < 100000)
    (h : ∀ h', Fr h₀ L h' m → News h₀ L h' news' → IntsAre (vs ++ ws) (ns ++ ks) → Q .none { s with heap := h' }) : wpAny (model prog w) A (call (.builtin "list.extend") [.ref D, .ref b]) Q E s := by
  have e1 := hi.length
  have e2 := hj.length
  have f1 := fits_of (a := ns.length + ks.length) hz
  refine kl_extend F N hb rfl (by show ws.length ≠ 0; rw [e2]; exact hne) U ?_ (by show vs.length ≤ sizeLine; omega) (by rw [List.size_toArray, List.size_toArray]; omega) fun h' F' N' => h h' F' N' (ints_append hi hj)
  simp only [List.size_toArray, Builtin.List.listTooLong, Bool.and_eq_true, decide_eq_true_eq, not_and]
  intro _
  omega
end
section
variable {prog : Program} {w : World} {A : Around} {E : Value → Shared → Prop} {s : Shared} {env : Env} {h₀ : Heap} {x : Str} {body : List Stmt} {Q : Flow → Shared → Prop}
/-- a place where the walk stands still -/
def Hold (P : Prop) : Prop := P
theorem hold_call {f : Value} {as : List Value} {kw : List (Str × Value)} {Q : Value → Shared → Prop} (h : Hold (wpAny (model prog w) A (call f as kw) Q E s)) : wpAny (model prog w) A (call f as kw) Q E s := h
theorem Hold.out {P : Prop} (h : P) : Hold P := h
theorem whl_hold {test : PySem.Expr} {orelse : List Stmt} {pos : Pos} (h : Hold (WhlRest prog w A E env test body orelse Q 0 s)) : wpAny (model prog w) A (exec (.While test body orelse pos) env) Q E s := whl_start 0 h
theorem whileLoop {σ : Type} {L : Addr} {m₀ : Str → Option Value} {news : List (Addr × Obj)} {test : PySem.Expr} {orelse : List Stmt} (ov : σ → (Str → Option Value) → Str → Option Value) (Ld : σ → List (Addr × Obj)) (S : σ → Prop) (μ : σ → Nat) (mk : (Str → Option Value) → σ)
    (F : Fr h₀ L s.heap m₀) (N : News h₀ L s.heap news) (sub : ∀ p ∈ Ld (mk m₀), p ∈ news) (h0 : ∀ z, m₀ z = ov (mk m₀) m₀ z) (hS : S (mk m₀)) (hE : PassesOwn (model prog w) A env E)
    (turn : ∀ c, S c → ∀ h tk, Fr h₀ L h (ov c m₀) → News h₀ L h (Ld c) →
      wpAny (model prog w) A (isTrue test env (eval test env)) (fun b s₂ => WhlIf b (wpAny (model prog w) A (execs body env) (TPost h₀ L (fun c => ov c m₀) Ld (fun c' => S c' ∧ μ c' < μ c) s Q) E s₂) (wpAny (model prog w) A (execs orelse env) Q E s₂)) E { s with heap := h, toks := tk }) :
    Hold (WhlRest prog w A E env test body orelse Q 0 s) :=
  whileInd (s := s) (fun c => ov c m₀) Ld S μ hE turn _ (mk m₀) (Nat.lt_succ_self _) hS s.heap s.toks m₀ h0 F (fun p hp => N p (sub p hp))
theorem revLoop {σ : Type} {m₀ : Str → Option Value} {I l : Addr} {vs : List Value} {ns : List Int} {nn : Nat} {news : List (Addr × Obj)} (ov : σ → (Str → Option Value) → Str → Option Value) (Ld : σ → List (Addr × Obj)) (S : List Int → σ → Prop) (mk : (Str → Option Value) → σ)
    (hh : A.handled = none) (F : Fr h₀ env.locals s.heap m₀) (N : News h₀ env.locals s.heap news) (sub : ∀ p ∈ (I, revObj l ((vs.length : Int) - 1)) :: Ld (mk m₀), p ∈ news) (hI : ∀ c, ∀ p ∈ Ld c, p.1 ≠ I) (hl : ∀ c, (l, listOf vs.toArray nn) ∈ Ld c) (hi : IntsAre vs ns) (h0 : ∀ z, m₀ z = ov (mk m₀) m₀ z) (hS : S ns.reverse (mk m₀))
    (nil : ∀ c, S [] c → ∀ h tk, Fr h₀ env.locals h (ov c m₀) → News h₀ env.locals h (Ld c) → Q .next { s with heap := h, toks := tk })
    (cons : ∀ d t rs c, S (d :: rs) c → ∀ it h tk, Fr h₀ env.locals h (fun y => if y = x then some (.int d t) else ov c m₀ y) → News h₀ env.locals h ((I, it) :: Ld c) →
      wpAny (model prog w) A (execs body env) (TPost h₀ env.locals (fun c => ov c m₀) (fun c => (I, it) :: Ld c) (S rs) s Q) E { s with heap := h, toks := tk }) :
    wpAny (model prog w) A (pyIter (.ref I)) (fun it s₂ => LoopAtV prog w A h₀ env x body Q E it s₂) E s :=
  iter_revUnr (lo := listOf vs.toArray nn) (news := Ld (mk m₀)) hh F (fun p hp => N p (sub p hp)) (offI_of (hI (mk m₀))) (hl (mk m₀)) rfl rfl
    (revInd (fun c => ov c m₀) Ld S hI hl nil cons _ _ (ints_rev hi) (mk m₀) hS m₀ h0)
theorem listLoop {σ : Type} {m₀ : Str → Option Value} {l : Addr} {vs : List Value} {ns : List Int} {nn : Nat} {news : List (Addr × Obj)} (ov : σ → (Str → Option Value) → Str → Option Value) (Ld : σ → List (Addr × Obj)) (S : List Int → σ → Prop) (mk : (Str → Option Value) → σ)
    (hh : A.handled = none) (F : Fr h₀ env.locals s.heap m₀) (N : News h₀ env.locals s.heap news) (sub : ∀ p ∈ Ld (mk m₀), p ∈ news) (adr : ∀ c, (Ld c).map (·.1) = (Ld (mk m₀)).map (·.1)) (hl : ∀ c, (l, listOf vs.toArray nn) ∈ Ld c) (hi : IntsAre vs ns) (h0 : ∀ z, m₀ z = ov (mk m₀) m₀ z) (hS : S ns (mk m₀))
    (nil : ∀ c, S [] c → ∀ h tk, Fr h₀ env.locals h (ov c m₀) → News h₀ env.locals h (Ld c) → Q .next { s with heap := h, toks := tk })
    (cons : ∀ I d t rs c, (∀ p ∈ Ld c, p.1 < I) → S (d :: rs) c → ∀ it h tk, Fr h₀ env.locals h (fun y => if y = x then some (.int d t) else ov c m₀ y) → News h₀ env.locals h ((I, it) :: Ld c) →
      wpAny (model prog w) A (execs body env) (TPost h₀ env.locals (fun c => ov c m₀) (fun c => (I, it) :: Ld c) (S rs) s Q) E { s with heap := h, toks := tk }) :
    wpAny (model prog w) A (pyIter (.ref l)) (fun it s₂ => LoopAtV prog w A h₀ env x body Q E it s₂) E s := by
  refine iter_listUnr (lo := listOf vs.toArray nn) (news := Ld (mk m₀)) hh F (fun p hp => N p (sub p hp)) (hl (mk m₀)) rfl rfl fun I hlt => ?_
  have lt : ∀ c, ∀ p ∈ Ld c, p.1 < I := fun c p hp => by
    have h1 : p.1 ∈ (Ld c).map (·.1) := List.mem_map_of_mem hp
    rw [adr c] at h1
    obtain ⟨q, hq, e⟩ := List.mem_map.mp h1
    exact e ▸ hlt q hq
  exact listInd (fun c => ov c m₀) Ld S (fun c p hp => Nat.ne_of_lt (lt c p hp)) hl nil (fun d t rs c hS' it h tk => cons I d t rs c (lt c) hS' it h tk) _ _ hi (mk m₀) hS m₀ h0
end
theorem named {α : Sort _} (a : α) : ∃ b : α, b = a := ⟨a, rfl⟩
theorem named5 {g h : Heap} {L D lq l : Addr} {vs : List Value} {nn : Nat} {k : Int} {o : Obj} {r : List (Addr × Obj)} (_ : News g L h ((D, revObj l k) :: (lq, o) :: (l, listOf vs.toArray nn) :: r)) : ∃ (D' lq' l' : Addr) (vs' : List Value) (nn' : Nat), D' = D ∧ lq' = lq ∧ l' = l ∧ vs' = vs ∧ nn' = nn := ⟨D, lq, l, vs, nn, rfl, rfl, rfl, rfl, rfl⟩
theorem named1 {g h : Heap} {L l : Addr} {o : Obj} {r : List (Addr × Obj)} (_ : News g L h ((l, o) :: r)) : ∃ l', l' = l := ⟨l, rfl⟩
theorem namedN {i k : Nat} (_ : i < k) : ∃ j, j = i := ⟨i, rfl⟩
end Mine
namespace Mine
/-- the bits of a number, the lowest first -/
def bitsN (n : Nat) : List Int := if h : n = 0 then [] else ((n % 2 : Nat) : Int) :: bitsN (n / 2)
termination_by n
decreasing_by omega
theorem bitsN_zero : bitsN 0 = [] := by rw [bitsN]; rfl
theorem bitsN_pos {n : Nat} (h : n ≠ 0) : bitsN n = ((n % 2 : Nat) : Int) :: bitsN (n / 2) := by rw [bitsN, dif_neg h]
theorem bitsN_even {m : Nat} (h : m ≠ 0) : bitsN (2 * m) = 0 :: bitsN m := by
  rw [bitsN_pos (by omega)]
  have e1 : 2 * m % 2 = 0 := by omega
  have e2 : 2 * m / 2 = m := by omega
  rw [e1, e2]; rfl
theorem bitsN_odd (m : Nat) : bitsN (2 * m + 1) = 1 :: bitsN m := by
  rw [bitsN_pos (by omega)]
  have e1 : (2 * m + 1) % 2 = 1 := by omega
  have e2 : (2 * m + 1) / 2 = m := by omega
  rw [e1, e2]; rfl
/-- one turn of the count -/
def wstep (s : Int × Int) (bit : Int) : Int × Int := if bit = 0 then (s.1, s.1 + s.2) else (s.1 + s.2, s.2)
def ways (bits : List Int) : Int := (bits.foldl wstep (1, 0)).1
def fw (n : Nat) : Int := ways (bitsN n)
theorem wlin (bits : List Int) : ∀ u v : Int, (bits.foldl wstep (u, v)).1 = u * (bits.foldl wstep (1, 0)).1 + v * (bits.foldl wstep (0, 1)).1 := by
  induction bits with
  | nil => intro u v; simp
  | cons b r ih =>
    intro u v
    simp only [List.foldl_cons]
    by_cases hb : b = 0
    · simp only [wstep, hb, if_true]
      rw [ih u (u + v), ih 1 (1 + 0), ih 0 (0 + 1)]
      simp only [Int.add_mul, Int.mul_add, Int.one_mul, Int.zero_mul, Int.add_zero, Int.zero_add]
      omega
    · simp only [wstep, hb, if_false]
      rw [ih (u + v) v, ih (1 + 0) 0, ih (0 + 1) 1]
      simp only [Int.add_mul, Int.mul_add, Int.one_mul, Int.zero_mul, Int.add_zero, Int.zero_add]
      omega
def gw (n : Nat) : Int := ((bitsN n).foldl wstep (0, 1)).1
theorem F_zero : fw 0 = 1 := by unfold fw; rw [bitsN_zero]; rfl
theorem G_zero : gw 0 = 0 := by unfold gw; rw [bitsN_zero]; rfl
theorem F_odd (m : Nat) : fw (2 * m + 1) = fw m := by
  unfold fw ways
  rw [bitsN_odd, List.foldl_cons]
  rfl
theorem G_odd (m : Nat) : gw (2 * m + 1) = fw m + gw m := by
  unfold fw gw ways
  rw [bitsN_odd, List.foldl_cons]
  show ((bitsN m).foldl wstep (0 + 1, 1)).1 = _
  rw [wlin]; omega
theorem F_even {m : Nat} (h : m ≠ 0) : fw (2 * m) = fw m + gw m := by
  unfold fw gw ways
  rw [bitsN_even h, List.foldl_cons]
  show ((bitsN m).foldl wstep (1, 1 + 0)).1 = _
  rw [wlin]; omega
theorem G_even {m : Nat} (h : m ≠ 0) : gw (2 * m) = gw m := by
  unfold gw
  rw [bitsN_even h, List.foldl_cons]
  rfl
theorem G_succ : ∀ n : Nat, gw (n + 1) = fw n := by
  intro n
  induction n using Nat.strongRecOn with
  | ind n ih =>
    by_cases h : n % 2 = 0
    · obtain ⟨m, rfl⟩ : ∃ m, n = 2 * m := ⟨n / 2, by omega⟩
      rw [G_odd]
      by_cases hm : m = 0
      · subst hm; rw [G_zero, show 2 * 0 = 0 from rfl, F_zero]; rfl
      · rw [F_even hm]
    · obtain ⟨m, rfl⟩ : ∃ m, n = 2 * m + 1 := ⟨n / 2, by omega⟩
      rw [show 2 * m + 1 + 1 = 2 * (m + 1) by omega, G_even (by omega), F_odd, ih m (by omega)]
theorem F_even' (m : Nat) : fw (2 * (m + 1)) = fw (m + 1) + fw m := by rw [F_even (by omega), G_succ]
theorem F_pos : ∀ n : Nat, 1 ≤ fw n := by
  intro n
  induction n using Nat.strongRecOn with
  | ind n ih =>
    by_cases h0 : n = 0
    · subst h0; rw [F_zero]; decide
    by_cases h : n % 2 = 0
    · obtain ⟨m, rfl⟩ : ∃ m, n = 2 * (m + 1) := ⟨n / 2 - 1, by omega⟩
      rw [F_even']
      have := ih (m + 1) (by omega); have := ih m (by omega); omega
    · obtain ⟨m, rfl⟩ : ∃ m, n = 2 * m + 1 := ⟨n / 2, by omega⟩
      rw [F_odd]; exact ih m (by omega)
theorem F_le : ∀ n : Nat, fw n ≤ n + 1 := by
  intro n
  induction n using Nat.strongRecOn with
  | ind n ih =>
    by_cases h0 : n = 0
    · subst h0; rw [F_zero]; decide
    by_cases h : n % 2 = 0
    · obtain ⟨m, rfl⟩ : ∃ m, n = 2 * (m + 1) := ⟨n / 2 - 1, by omega⟩
      rw [F_even']
      have := ih (m + 1) (by omega); have := ih m (by omega); omega
    · obtain ⟨m, rfl⟩ : ∃ m, n = 2 * m + 1 := ⟨n / 2, by omega⟩
      rw [F_odd]; have := ih m (by omega); omega
/-- two neighbours' counts are one only at 0, 1 -/
theorem F_eq {n : Nat} (h : fw n = fw (n + 1)) : n = 0 := by
  by_cases h0 : n = 0
  · exact h0
  exfalso
  by_cases h1 : n % 2 = 0
  · obtain ⟨m, rfl⟩ : ∃ m, n = 2 * (m + 1) := ⟨n / 2 - 1, by omega⟩
    rw [F_odd, F_even'] at h
    have := F_pos m; omega
  · obtain ⟨m, rfl⟩ : ∃ m, n = 2 * m + 1 := ⟨n / 2, by omega⟩
    rw [F_odd, show 2 * m + 1 + 1 = 2 * (m + 1) by omega, F_even'] at h
    have := F_pos (m + 1); omega
/-- Newman: the next count -/
theorem newman : ∀ n : Nat, fw (n + 2) = (fw n / fw (n + 1) + 1) * fw (n + 1) - fw n % fw (n + 1) := by
  intro n
  induction n using Nat.strongRecOn with
  | ind n ih =>
    by_cases h0 : n = 0
    · subst h0
      have e1 : fw 1 = 1 := by rw [show 1 = 2 * 0 + 1 from rfl, F_odd, F_zero]
      have e2 : fw 2 = 2 := by rw [show 2 = 2 * (0 + 1) from rfl, F_even', e1, F_zero]; rfl
      rw [show 0 + 2 = 2 from rfl, show 0 + 1 = 1 from rfl, e2, e1, F_zero]; decide
    by_cases h1 : n % 2 = 0
    · obtain ⟨m, rfl⟩ : ∃ m, n = 2 * (m + 1) := ⟨n / 2 - 1, by omega⟩
      rw [show 2 * (m + 1) + 2 = 2 * (m + 1 + 1) by omega, F_even', F_odd, F_even', ih m (by omega)]
      have hp := F_pos (m + 1)
      rw [show fw (m + 1) + fw m = fw m + fw (m + 1) * 1 by omega, Int.add_mul_ediv_left _ _ (by omega), Int.add_mul_emod_self_left]
      simp only [Int.add_mul, Int.one_mul]; omega
    · obtain ⟨m, rfl⟩ : ∃ m, n = 2 * m + 1 := ⟨n / 2, by omega⟩
      have hp := F_pos (m + 1)
      have hq := F_pos m
      rw [show 2 * m + 1 + 2 = 2 * (m + 1) + 1 by omega, show 2 * m + 1 + 1 = 2 * (m + 1) by omega, F_odd, F_odd, F_even', Int.ediv_eq_zero_of_lt (by omega) (by omega), Int.emod_eq_of_lt (by omega) (by omega)]
      omega
/-- the ones at the low end -/
theorem strip1 : ∀ n : Nat, ∃ k : Nat, bitsN (n + 1) = List.replicate ((fw n - 1) / fw (n + 1)).toNat 1 ++ bitsN (k + 1) ∧ fw k = (fw n - 1) % fw (n + 1) + 1 ∧ fw (k + 1) = fw (n + 1) ∧ k ≤ n ∧ (fw (n + 1) < fw n → k < n) := by
  intro n
  induction n using Nat.strongRecOn with
  | ind n ih =>
    have hp := F_pos n
    have hq := F_pos (n + 1)
    by_cases hlt : fw n ≤ fw (n + 1)
    · refine ⟨n, ?_, ?_, rfl, Nat.le_refl _, fun h => absurd h (by omega)⟩
      · rw [Int.ediv_eq_zero_of_lt (by omega) (by omega)]; rfl
      · rw [Int.emod_eq_of_lt (by omega) (by omega)]; omega
    · have h1 : n % 2 = 0 := by
        by_cases h1 : n % 2 = 0
        · exact h1
        · exfalso
          obtain ⟨m, rfl⟩ : ∃ m, n = 2 * m + 1 := ⟨n / 2, by omega⟩
          rw [F_odd, show 2 * m + 1 + 1 = 2 * (m + 1) by omega, F_even'] at hlt
          have := F_pos (m + 1); omega
      have h0 : n ≠ 0 := by
        intro h0; subst h0
        apply hlt
        rw [show 0 + 1 = 2 * 0 + 1 from rfl, F_odd]; exact Int.le_refl _
      obtain ⟨m, rfl⟩ : ∃ m, n = 2 * (m + 1) := ⟨n / 2 - 1, by omega⟩
      obtain ⟨k, e1, e2, e3, e4, e5⟩ := ih m (by omega)
      rw [F_odd] at hq ⊢
      rw [F_even', bitsN_odd]
      have q1 : (fw (m + 1) + fw m - 1) / fw (m + 1) = (fw m - 1) / fw (m + 1) + 1 := by
        rw [show fw (m + 1) + fw m - 1 = (fw m - 1) + fw (m + 1) * 1 by omega, Int.add_mul_ediv_left _ _ (by omega)]
      have q2 : (fw (m + 1) + fw m - 1) % fw (m + 1) = (fw m - 1) % fw (m + 1) := by
        rw [show fw (m + 1) + fw m - 1 = (fw m - 1) + fw (m + 1) * 1 by omega, Int.add_mul_emod_self_left]
      have q3 : 0 ≤ (fw m - 1) / fw (m + 1) := Int.ediv_nonneg (by have := F_pos m; omega) (by omega)
      refine ⟨k, ?_, ?_, e3, by omega, fun _ => by omega⟩
      · rw [q1, show ((fw m - 1) / fw (m + 1) + 1).toNat = ((fw m - 1) / fw (m + 1)).toNat + 1 by omega, List.replicate_succ, List.cons_append, ← e1]
      · rw [q2]; exact e2
/-- the noughts at the low end -/
theorem strip0 : ∀ n : Nat, ∃ k : Nat, bitsN (n + 1) = List.replicate ((fw (n + 1) - 1) / fw n).toNat 0 ++ bitsN (k + 1) ∧ fw (k + 1) = (fw (n + 1) - 1) % fw n + 1 ∧ fw k = fw n ∧ k ≤ n ∧ (fw n < fw (n + 1) → k < n) := by
  intro n
  induction n using Nat.strongRecOn with
  | ind n ih =>
    have hp := F_pos n
    have hq := F_pos (n + 1)
    by_cases hlt : fw (n + 1) ≤ fw n
    · refine ⟨n, ?_, ?_, rfl, Nat.le_refl _, fun h => absurd h (by omega)⟩
      · rw [Int.ediv_eq_zero_of_lt (by omega) (by omega)]; rfl
      · rw [Int.emod_eq_of_lt (by omega) (by omega)]; omega
    · have h1 : n % 2 = 1 := by
        by_cases h1 : n % 2 = 1
        · exact h1
        · exfalso
          by_cases h0 : n = 0
          · subst h0
            apply hlt
            rw [show 0 + 1 = 2 * 0 + 1 from rfl, F_odd]; exact Int.le_refl _
          obtain ⟨m, rfl⟩ : ∃ m, n = 2 * (m + 1) := ⟨n / 2 - 1, by omega⟩
          rw [F_odd, F_even'] at hlt
          have := F_pos m; omega
      obtain ⟨m, rfl⟩ : ∃ m, n = 2 * m + 1 := ⟨n / 2, by omega⟩
      obtain ⟨k, e1, e2, e3, e4, e5⟩ := ih m (by omega)
      rw [F_odd] at hp ⊢
      rw [show 2 * m + 1 + 1 = 2 * (m + 1) by omega, F_even', bitsN_even (by omega)]
      have q1 : (fw (m + 1) + fw m - 1) / fw m = (fw (m + 1) - 1) / fw m + 1 := by
        rw [show fw (m + 1) + fw m - 1 = (fw (m + 1) - 1) + fw m * 1 by omega, Int.add_mul_ediv_left _ _ (by omega)]
      have q2 : (fw (m + 1) + fw m - 1) % fw m = (fw (m + 1) - 1) % fw m := by
        rw [show fw (m + 1) + fw m - 1 = (fw (m + 1) - 1) + fw m * 1 by omega, Int.add_mul_emod_self_left]
      have q3 : 0 ≤ (fw (m + 1) - 1) / fw m := Int.ediv_nonneg (by have := F_pos (m + 1); omega) (by omega)
      refine ⟨k, ?_, ?_, e3, by omega, fun _ => by omega⟩
      · rw [q1, show ((fw (m + 1) - 1) / fw m + 1).toNat = ((fw (m + 1) - 1) / fw m).toNat + 1 by omega, List.replicate_succ, List.cons_append, ← e1]
      · rw [q2]; exact e2
/-- what _int2digits gives by one bit -/
theorem bits_half {n : Nat} (h : n ≠ 0) : Builtin.Int.intBits (n : Int) = Builtin.Int.intBits ((n / 2 : Nat) : Int) + 1 := by
  unfold Builtin.Int.intBits
  have e : ((n : Int) == 0) = false := by simp; omega
  rw [e]
  simp only [Bool.false_eq_true, if_false, Int.natAbs_natCast]
  by_cases h2 : n / 2 = 0
  · have h3 : n = 1 := by omega
    subst h3; decide
  · have e2 : (((n / 2 : Nat) : Int) == 0) = false := by simp; omega
    rw [e2]
    simp only [Bool.false_eq_true, if_false]
    rw [Nat.log2_def, if_pos (by omega)]
theorem nd_one (x : Int) : nd x 1 = Builtin.Int.intBits x := by
  unfold nd
  rw [Int.fdiv_one]; omega
theorem dg_one (n : Nat) : dg (n : Int) 1 = bitsN n := by
  rw [dg_eq, nd_one]
  simp only [Int.toNat_natCast]
  induction n using Nat.strongRecOn with
  | ind n ih =>
    by_cases h : n = 0
    · subst h; rw [bitsN_zero]; rfl
    · rw [bitsN_pos h, bits_half h, List.range_succ_eq_map, List.map_cons, List.map_map, ← ih (n / 2) (by omega)]
      congr 1
      · unfold dig
        rw [show ((1 : Int) * ((0 : Nat) : Int)).toNat = 0 by decide, show (1 : Int).toNat = 1 by decide, cast_div_pow, cast_mod_pow]
        simp
      apply List.map_congr_left
      intro j _
      show dig (n : Int) 1 ((j + 1 : Nat) : Int) = dig ((n / 2 : Nat) : Int) 1 (j : Int)
      unfold dig
      rw [show ((1 : Int) * ((j + 1 : Nat) : Int)).toNat = 1 + j by omega, show ((1 : Int) * (j : Int)).toNat = j by omega]
      rw [cast_div_pow, cast_div_pow]
      congr 2
      rw [Nat.pow_add, ← Nat.div_div_eq_div_mul]
theorem bitsN_digs (n : Nat) : Digs 1 (bitsN n) := by rw [← dg_one]; exact dg_digs _ _
theorem bitsN_vl (n : Nat) : vl 1 (bitsN n) = n := by rw [← dg_one]; exact vl_dg (by omega) (by decide)
theorem bitsN_length {n : Nat} (h : n < 2 ^ 30) : (bitsN n).length ≤ 30 := by
  rw [← dg_one, dg_length, nd_one]
  have : (n : Int) < 2 ^ 30 := by omega
  have := bits_le (v := n) (B := 30) (by omega) this
  omega
theorem bitsN_last {n : Nat} (h : n ≠ 0) : (bitsN n).getLast? = some 1 := by
  induction n using Nat.strongRecOn with
  | ind n ih =>
    rw [bitsN_pos h]
    by_cases h2 : n / 2 = 0
    · have : n = 1 := by omega
      subst this
      rw [show 1 / 2 = 0 from rfl, bitsN_zero]; rfl
    · rw [List.getLast?_cons, ih (n / 2) (by omega) h2]; rfl
theorem small_bits {v : Int} (h0 : 0 ≤ v) (h : v < 2 ^ 40) : Builtin.Int.intBits v ≤ 256 := Nat.le_trans (bits_le (B := 40) h0 h) (by decide)
/-- what a turn of _law_found wants to know where the upper one is greater -/
theorem found1 {n k : Nat} {done : List Int} (hn : n < 2 ^ 29) (hk : k ≤ n) (hd : done ++ bitsN (k + 1) = bitsN (n + 1)) (hlt : fw (k + 1) < fw k) :
    0 ≤ fw k - 1 ∧ 0 < fw (k + 1) ∧ Builtin.Int.intBits (fw k - 1) ≤ 256 ∧ Builtin.Int.intBits (fw (k + 1)) ≤ 256 ∧ 0 ≤ (fw k - 1) / fw (k + 1) ∧ (fw k - 1) / fw (k + 1) ≤ 256 ∧
    (List.replicate ((fw k - 1) / fw (k + 1)).toNat (1 : Int)).length ≠ 0 ∧ done.length + (List.replicate ((fw k - 1) / fw (k + 1)).toNat (1 : Int)).length < 100000 ∧
    ∃ k', fw k' = (fw k - 1) % fw (k + 1) + 1 ∧ fw (k' + 1) = fw (k + 1) ∧ k' < k ∧ (done ++ List.replicate ((fw k - 1) / fw (k + 1)).toNat 1) ++ bitsN (k' + 1) = bitsN (n + 1) := by
  obtain ⟨k', e1, e2, e3, e4, e5⟩ := strip1 k
  have p1 := F_pos k
  have p2 := F_pos (k + 1)
  have l1 := F_le k
  have l2 := F_le (k + 1)
  have q0 : 0 ≤ (fw k - 1) / fw (k + 1) := Int.ediv_nonneg (by omega) (by omega)
  have q1 : 1 ≤ (fw k - 1) / fw (k + 1) := Int.le_ediv_of_mul_le (by omega) (by omega)
  have hlen := bitsN_length (n := n + 1) (by omega)
  have hl2 : done.length + (List.replicate ((fw k - 1) / fw (k + 1)).toNat (1 : Int)).length ≤ 30 := by
    rw [← hd, e1, List.length_append, List.length_append] at hlen; omega
  rw [List.length_replicate] at hl2 ⊢
  refine ⟨by omega, by omega, small_bits (by omega) (by omega), small_bits (by omega) (by omega), q0, by omega, by omega, by omega, k', e2, e3, e5 hlt, ?_⟩
  rw [List.append_assoc, ← e1, hd]
theorem found0 {n k : Nat} {done : List Int} (hn : n < 2 ^ 29) (hk : k ≤ n) (hd : done ++ bitsN (k + 1) = bitsN (n + 1)) (hlt : fw k < fw (k + 1)) :
    0 ≤ fw (k + 1) - 1 ∧ 0 < fw k ∧ Builtin.Int.intBits (fw (k + 1) - 1) ≤ 256 ∧ Builtin.Int.intBits (fw k) ≤ 256 ∧ 0 ≤ (fw (k + 1) - 1) / fw k ∧ (fw (k + 1) - 1) / fw k ≤ 256 ∧
    (List.replicate ((fw (k + 1) - 1) / fw k).toNat (0 : Int)).length ≠ 0 ∧ done.length + (List.replicate ((fw (k + 1) - 1) / fw k).toNat (0 : Int)).length < 100000 ∧
    ∃ k', fw (k' + 1) = (fw (k + 1) - 1) % fw k + 1 ∧ fw k' = fw k ∧ k' < k ∧ (done ++ List.replicate ((fw (k + 1) - 1) / fw k).toNat 0) ++ bitsN (k' + 1) = bitsN (n + 1) := by
  obtain ⟨k', e1, e2, e3, e4, e5⟩ := strip0 k
  have p1 := F_pos k
  have p2 := F_pos (k + 1)
  have l1 := F_le k
  have l2 := F_le (k + 1)
  have q0 : 0 ≤ (fw (k + 1) - 1) / fw k := Int.ediv_nonneg (by omega) (by omega)
  have q1 : 1 ≤ (fw (k + 1) - 1) / fw k := Int.le_ediv_of_mul_le (by omega) (by omega)
  have hlen := bitsN_length (n := n + 1) (by omega)
  have hl2 : done.length + (List.replicate ((fw (k + 1) - 1) / fw k).toNat (0 : Int)).length ≤ 30 := by
    rw [← hd, e1, List.length_append, List.length_append] at hlen; omega
  rw [List.length_replicate] at hl2 ⊢
  refine ⟨by omega, by omega, small_bits (by omega) (by omega), small_bits (by omega) (by omega), q0, by omega, by omega, by omega, k', e2, e3, e5 hlt, ?_⟩
  rw [List.append_assoc, ← e1, hd]
theorem foundE {n k : Nat} {done : List Int} (hn : n < 2 ^ 29) (hd : done ++ bitsN (k + 1) = bitsN (n + 1)) (he : fw k = fw (k + 1)) : done ++ [1] = bitsN (n + 1) ∧ done.length < 100000 := by
  have := F_eq he
  subst this
  have e : bitsN (0 + 1) = [1] := by rw [show 0 + 1 = 2 * 0 + 1 from rfl, bitsN_odd, bitsN_zero]
  rw [e] at hd
  have hlen := bitsN_length (n := n + 1) (by omega)
  rw [← hd, List.length_append] at hlen
  exact ⟨hd, by omega⟩
end Mine
namespace Mine
theorem mod24 {prog : Program} {w : World} {A : Around} {E : Value → Shared → Prop} {s : Shared} {a : Int} {t u : Tok} {Q : Value → Shared → Prop} (h : ∀ i : Nat, i < 2 ^ 24 → ∀ t' tk', Q (.int (i : Int) t') { s with toks := tk' }) :
    wpAny (model prog w) A (binaryOp .Mod (.int a t) (.int (2 ^ Int.toNat 24) u)) Q E s := by
  refine mod_int' (by decide) ?_
  have e : a.fmod (2 ^ Int.toNat 24) = (((a % 16777216).toNat : Nat) : Int) := by
    rw [Int.fmod_eq_emod_of_nonneg _ (by decide)]
    have : (2 : Int) ^ Int.toNat 24 = 16777216 := by decide
    rw [this]; omega
  rw [e]
  exact h _ (by omega) _ _
theorem small_nd {k : Nat} (h : k < 2 ^ 30) : nd (k : Int) 1 ≤ 256 := by
  rw [nd_one]
  have := bits_le (v := (k : Int)) (B := 30) (by omega) (by omega)
  omega
theorem neEq {prog : Program} {w : World} {A : Around} {E : Value → Shared → Prop} {s : Shared} {a b : Addr} {vs us : List Value} {ns ms : List Int} {Q : Value → Shared → Prop} (hl : s.heap.IsList a vs.toArray) (hl' : s.heap.IsList b us.toArray) (hi : IntsAre vs ns) (hi' : IntsAre us ms) (hu : A.units + 64 < cLine) (e : ns = ms)
    (h : Q (.bool false) s) : wpAny (model prog w) A (compareOp .NotEq (.ref a) (.ref b)) Q E s :=
  ne_intsK hl hi hl' hi' hu (by rw [decide_eq_true e]; exact h)
theorem drop_last : ∀ (l : List Int) (a : Int), l.getLast? = some a → l.drop (l.length - 1) = [a]
  | [], _, h => by cases h
  | [x], a, h => by cases h; rfl
  | x :: y :: r, a, h => by
    have h' : (y :: r).getLast? = some a := by rw [List.getLast?_cons_cons] at h; exact h
    have := drop_last (y :: r) a h'
    show List.drop (r.length + 1 + 1 - 1) (x :: y :: r) = [a]
    rw [show r.length + 1 + 1 - 1 = (r.length + 1 - 1) + 1 by omega, List.drop_succ_cons]
    exact this
theorem last_bit {n : Nat} : (bitsN n).drop ((bitsN n).length - 1) = List.take (1 + (n : Int) - 1).toNat [1] := by
  have e : (1 + (n : Int) - 1).toNat = n := by omega
  rw [e]
  by_cases h : n = 0
  · subst h; rw [bitsN_zero]; rfl
  · have h1 := bitsN_last h
    rw [drop_last _ _ h1]
    cases n with
    | zero => exact absurd rfl h
    | succ k => rw [List.take_succ_cons, List.take_nil]
theorem hold_any {M : Model} {A : Around} {α : Type} {tr : Sem α} {Q : α → Shared → Prop} {E : Value → Shared → Prop} {s : Shared} (h : Hold (wpAny M A tr Q E s)) : wpAny M A tr Q E s := h
theorem sliceAny {prog : Program} {w : World} {A : Around} {E : Value → Shared → Prop} {s : Shared} {h₀ : Heap} {L l : Addr} {m : Str → Option Value} {news : List (Addr × Obj)} {vs : List Value} {ns : List Int} {value slice : PySem.Expr} {vl vu : Value} {lo hi : Option Int} {Q : Value → Shared → Prop} {ms : List Int} {c : Nat} (F : Fr h₀ L s.heap m) (N : News h₀ L s.heap news) (hl : s.heap.IsList l vs.toArray) (pl : IsPart vl lo) (pu : IsPart vu hi) (hi' : IntsAre vs ns) (hm : IntsAre (slicePick vs.toArray lo hi none).toList ms) (hc : ms.length = c)
    (h : ∀ D ws h', Fr h₀ L h' m → News h₀ L h' ((D, listOf (List.toArray ws) 0) :: news) → (∀ p ∈ news, p.1 < D) → IntsAre ws ms → ms.length = c → ms.length ≤ ns.length → Q (.ref D) { s with heap := h' })
    (hs : subscripted slice false (.ref l) (.ref s.heap.objs.size) = operate [.ref s.heap.objs.size, .ref l] (getItem (.ref l) (.ref s.heap.objs.size))) (hz : vs.toArray.size ≤ sizeLine) :
    wpAny (model prog w) A (subscriptTail value slice (.ref l) (.ref s.heap.objs.size)) Q E { s with heap := s.heap.push { cls := .type "slice", data := .fields #[vl, vu, .none] } } :=
  kba_turn (value' := PySem.Expr.Name (PySem.Str.ofString "a") ⟨0, 0, 0, 0⟩) (fun _ => rfl) (kmk_slice_ints F N hl pl pu hi' hm hc h hs (fun _ => rfl) hz)
theorem holdP {P : Prop} (h : Hold P) : P := h
section
variable {prog : Program} {w : World} {A : Around} {E : Value → Shared → Prop} {s : Shared} {env : Env} {h₀ : Heap} {x : Str} {body : List Stmt} {Q : Flow → Shared → Prop}
theorem rangeInd {σ : Type} {I : Addr} {a : Int} {n : Nat} (M : σ → Str → Option Value) (Ld : σ → List (Addr × Obj)) (S : Nat → σ → Prop) (hI : ∀ c, ∀ p ∈ Ld c, p.1 ≠ I)
    (nil : ∀ c, S n c → ∀ h tk, Fr h₀ env.locals h (M c) → News h₀ env.locals h (Ld c) → Q .next { s with heap := h, toks := tk })
    (cons : ∀ i c, i < n → S i c → ∀ t it h tk, Fr h₀ env.locals h (fun y => if y = x then some (.int (a + (i : Int)) t) else M c y) → News h₀ env.locals h ((I, it) :: Ld c) →
      wpAny (model prog w) A (execs body env) (TPost h₀ env.locals M (fun c => (I, it) :: Ld c) (S (i + 1)) s Q) E { s with heap := h, toks := tk }) :
    ∀ k i c, i + k = n → S i c → ∀ m news, (∀ z, m z = M c z) → (∀ p ∈ Ld c, p ∈ news) → RangeRest prog w A E h₀ env x body Q s I a n k i m news := by
  intro k
  induction k with
  | zero =>
    intro i c hik hS m news hm hsub
    have e : m = M c := funext hm
    subst e
    have e2 : i = n := by omega
    subst e2
    exact RangeRest.zero fun h tk F N => nil c hS h tk F fun p hp => N p (hsub p hp)
  | succ k ih =>
    intro i c hik hS m news hm hsub
    have e : m = M c := funext hm
    subst e
    refine RangeRest.succ fun t h tk F N => ?_
    have N' : News h₀ env.locals h ((I, itR (a + ((i + 1 : Nat) : Int)) ((n : Int) - ((i + 1 : Nat) : Int))) :: Ld c) := fun p hp => by
      rcases List.mem_cons.mp hp with rfl | hp
      · exact N _ (.head _)
      · exact N _ (.tail _ (hsub p hp))
    refine wpAny_mono (cons i c (by omega) hS t _ h tk F N') (fun f s₂ hp => ?_) fun _ _ e => e
    have fin : TEnd h₀ env.locals M (fun c => (I, itR (a + ((i + 1 : Nat) : Int)) ((n : Int) - ((i + 1 : Nat) : Int))) :: Ld c) (S (i + 1)) s s₂ → UnrEnd h₀ env.locals { s with heap := h, toks := tk } I (itR (a + ((i + 1 : Nat) : Int)) ((n : Int) - ((i + 1 : Nat) : Int))) (RangeRest prog w A E h₀ env x body Q s I a n k (i + 1)) s₂ := by
      rintro ⟨c', h', tk', m', rfl, F', hm', N', hS'⟩
      exact ⟨h', tk', m', Ld c', rfl, F', N', hI c', ih (i + 1) c' (by omega) hS' m' (Ld c') hm' fun _ h => h⟩
    cases f with
    | ret v => exact hp
    | brk => exact hp
    | next => exact fin hp
    | cont => exact fin hp
theorem rangeLoop {σ : Type} {I : Addr} {a : Int} {n : Nat} {m₀ : Str → Option Value} {news : List (Addr × Obj)} (ov : σ → (Str → Option Value) → Str → Option Value) (Ld : List (Addr × Obj)) (S : Nat → σ → Prop) (mk : (Str → Option Value) → σ)
    (sub : ∀ p ∈ Ld, p ∈ news) (hI : ∀ p ∈ Ld, p.1 ≠ I) (h0 : ∀ z, m₀ z = ov (mk m₀) m₀ z) (hS : S 0 (mk m₀))
    (nil : ∀ c, S n c → ∀ h tk, Fr h₀ env.locals h (ov c m₀) → News h₀ env.locals h Ld → Q .next { s with heap := h, toks := tk })
    (cons : ∀ i c, i < n → S i c → ∀ t it h tk, Fr h₀ env.locals h (fun y => if y = x then some (.int (a + (i : Int)) t) else ov c m₀ y) → News h₀ env.locals h ((I, it) :: Ld) →
      wpAny (model prog w) A (execs body env) (TPost h₀ env.locals (fun c => ov c m₀) (fun _ => (I, it) :: Ld) (S (i + 1)) s Q) E { s with heap := h, toks := tk }) :
    Hold (RangeRest prog w A E h₀ env x body Q s I a n n 0 m₀ news) :=
  rangeInd (fun c => ov c m₀) (fun _ => Ld) S (fun _ => hI) nil cons n 0 (mk m₀) (by omega) hS m₀ news h0 sub
end
theorem law_next {j : Nat} : (fw j / fw (j + 1) + 1) * fw (j + 1) - fw j % fw (j + 1) = ways (bitsN (j + 2)) := (newman j).symm
/-- the end of a turn of a comprehension whose test made nothing that lasts -/
def CTurn (h₀ : Heap) (L : Addr) (m : Str → Option Value) (s : Shared) (led : List (Addr × Obj)) (s' : Shared) : Prop := ∃ h' tk', s' = { s with heap := h', toks := tk' } ∧ Fr h₀ L h' m ∧ News h₀ L h' led
theorem CTurn.intro {h₀ : Heap} {L : Addr} {m : Str → Option Value} {s : Shared} {led all : List (Addr × Obj)} {h' : Heap} {tk' : Nat} (F : Fr h₀ L h' m) (N : News h₀ L h' all) (sub : ∀ p ∈ led, p ∈ all) : CTurn h₀ L m s led { s with heap := h', toks := tk' } := ⟨h', tk', rfl, F, fun p hp => N p (sub p hp)⟩
section
open LCg
variable {prog : Program} {w : World} {A : Around} {s : Shared} {h₀ : Heap} {L : Addr} {m : Str → Option Value} {env : Env} {ct elt : PySem.Expr} {x : Str} {scope : Scope} {cl : List (Str × Addr)} {ax : Addr} {vs : List Value} {ns : List Int} {news : List (Addr × Obj)} {Fin : List Value → List (Addr × Obj) → Prop}
/-- a comprehension that takes no int -/
theorem compNone {k : Nat} (hi : IntsAre vs ns) (hm : (ax, ({ cls := .type "list", data := .seq vs.toArray k } : Obj)) ∈ news)
    (turn : ∀ z t I oI C oC D m₂ h tk (E' : Value → Shared → Prop), NsObj oC m₂ → m₂ x = some (.int z t) → Fr h₀ L h m → News h₀ L h ((I, oI) :: (C, oC) :: (D, lst []) :: news) → Off3 I C D news → ((@Ne Nat I C) ∧ (@Ne Nat I D) ∧ (@Ne Nat C D)) →
      wpAny (model prog w) A (isTrue ct (compEnvC scope cl C env) (eval ct (compEnvC scope cl C env))) (fun ok s' => ok = false ∧ CTurn h₀ L m s ((I, oI) :: (C, oC) :: (D, lst []) :: news) s') E' { s with heap := h, toks := tk })
    (fin : Fin [] news) : Hold (LCt.CompRestT prog w A h₀ L m env ct elt x scope cl s (SrcAt h₀ ax vs.toArray) (fun i v => vs.toArray[i]? = some v) Fin vs.toArray.size 0 [] news) := by
  suffices H : ∀ k i, LCt.CompRestT prog w A h₀ L m env ct elt x scope cl s (SrcAt h₀ ax vs.toArray) (fun i v => vs.toArray[i]? = some v) Fin k i [] news from H _ _
  intro k
  induction k with
  | zero => intro i; exact LCt.CompRestT.zero fin
  | succ k ih =>
    intro i
    refine LCt.CompRestT.succ fun v I oI C oC D m₂ h tk E' hP hC hx F N off ne => ?_
    have hP' : vs[i]? = some v := by simpa using hP
    obtain ⟨z, t, rfl⟩ : ∃ z t, v = .int z t := by
      have hlt : i < vs.length := (List.getElem?_eq_some_iff.mp hP').1
      have hlt2 : i < ns.length := by rw [← hi.length]; exact hlt
      obtain ⟨t, hx'⟩ := hi.get i ns[i] (List.getElem?_eq_getElem hlt2)
      rw [hP'] at hx'
      exact ⟨_, _, Option.some.inj hx'⟩
    refine wpAny_mono (turn z t I oI C oC D m₂ h tk E' hC hx F N off ne) (fun ok s' hok => ?_) fun _ _ e => e
    obtain ⟨rfl, h', tk', rfl, F', N'⟩ := hok
    simp only [Bool.false_eq_true, if_false]
    exact ⟨h', tk', news, rfl, F', N', off, .inr ⟨_, hm, rfl, _, rfl⟩, ih (i + 1)⟩
end
theorem sizeInts {vs : List Value} {ns : List Int} (hi : IntsAre vs ns) (h : ns.length < 100000) : vs.toArray.size ≤ sizeLine := by
  rw [List.size_toArray, hi.length]; exact fits_of h
end Mine
namespace Mine
/-- one turn of _law_pair -/
def kstep (s : Int × Int) (q : Int) : Int × Int := (q * s.1 + s.2, s.1)
/-- what _law_pair gives of a row: the continuant, and that of the row less its last -/
def kp (row : List Int) : Int × Int := row.foldl kstep (1, 0)
def kk (row : List Int) : Int := (kp row).1
def ko (row : List Int) : Int := (kp row).2
/-- the continuant of the row less its first; nought of the empty row -/
def kd : List Int → Int
  | [] => 0
  | _ :: r => kk r
def ky : List Int → Int
  | [] => 1
  | _ :: r => ko r
theorem kp_append (row : List Int) (q : Int) : kp (row ++ [q]) = (q * kk row + ko row, kk row) := by
  unfold kk ko kp
  rw [List.foldl_append]; rfl
theorem kk_nil : kk [] = 1 := rfl
theorem ko_nil : ko [] = 0 := rfl
theorem kp_lin0 (row : List Int) : ∀ u v : Int, row.foldl kstep (u, v) = (u * kk row + v * (row.foldl kstep (0, 1)).1, u * ko row + v * (row.foldl kstep (0, 1)).2) := by
  induction row with
  | nil => intro u v; simp [kk, ko, kp]
  | cons q r ih =>
    intro u v
    have e1 := ih (q * u + v) u
    have e2 := ih (q * 1 + 0) 1
    have e3 := ih (q * 0 + 1) 0
    simp only [List.foldl_cons, kk, ko, kp, kstep] at e1 e2 e3 ⊢
    rw [e1, e2, e3]
    simp only [Prod.mk.injEq]
    constructor <;> grind
theorem k01 : ∀ row : List Int, row.foldl kstep (0, 1) = (kd row, ky row)
  | [] => rfl
  | q :: r => by
    rw [List.foldl_cons, show kstep (0, 1) q = (1, 0) by simp [kstep]]
    rfl
theorem kp_lin (row : List Int) (u v : Int) : row.foldl kstep (u, v) = (u * kk row + v * kd row, u * ko row + v * ky row) := by
  rw [kp_lin0, k01]
theorem kk_cons (q : Int) (r : List Int) : kk (q :: r) = q * kk r + kd r := by
  unfold kk kp
  rw [List.foldl_cons, show kstep (1, 0) q = (q, 1) by simp [kstep], kp_lin, Int.one_mul]; rfl
theorem ko_cons (q : Int) (r : List Int) : ko (q :: r) = q * ko r + ky r := by
  have e : kp (q :: r) = (q * kk r + 1 * kd r, q * ko r + 1 * ky r) := by
    unfold kp
    rw [List.foldl_cons, show kstep (1, 0) q = (q, 1) by simp [kstep], kp_lin]
  rw [ko, e, Int.one_mul, Int.one_mul]
theorem kk_app (a b : List Int) : kk (a ++ b) = kk a * kk b + ko a * kd b := by
  have h : kp (a ++ b) = b.foldl kstep (kk a, ko a) := by unfold kk ko kp; rw [List.foldl_append]
  rw [kk, h, kp_lin]
theorem kk_snoc (a : List Int) (q : Int) : kk (a ++ [q]) = q * kk a + ko a := by rw [kk, kp_append]
theorem ko_snoc (a : List Int) (q : Int) : ko (a ++ [q]) = kk a := by rw [ko, kp_append]
theorem k_rev : ∀ a : List Int, kk a.reverse = kk a ∧ ko a.reverse = kd a
  | [] => ⟨rfl, rfl⟩
  | q :: r => by
    obtain ⟨h1, h2⟩ := k_rev r
    rw [List.reverse_cons, kk_snoc, ko_snoc, h1, h2, kk_cons]
    exact ⟨rfl, rfl⟩
/-- the determinant -/
theorem k_det : ∀ r : List Int, (kk r * ky r - kd r * ko r) * (kk r * ky r - kd r * ko r) = 1
  | [] => by decide
  | q :: r => by
    have h := k_det r
    rw [kk_cons, ko_cons]
    show ((q * kk r + kd r) * ko r - kk r * (q * ko r + ky r)) * _ = 1
    have e : (q * kk r + kd r) * ko r - kk r * (q * ko r + ky r) = -(kk r * ky r - kd r * ko r) := by grind
    show ((q * kk r + kd r) * ko r - kk r * (q * ko r + ky r)) * ((q * kk r + kd r) * ko r - kk r * (q * ko r + ky r)) = 1
    rw [e, Int.neg_mul_neg, h]
/-- a row of quotients: all at least one -/
def Ones (r : List Int) : Prop := ∀ q ∈ r, 1 ≤ q
theorem k_pos : ∀ r : List Int, Ones r → 1 ≤ kk r ∧ 0 ≤ kd r ∧ (r ≠ [] → 1 ≤ kd r)
  | [], _ => ⟨by decide, by decide, fun h => absurd rfl h⟩
  | q :: r, h => by
    obtain ⟨h1, h2, _⟩ := k_pos r fun x hx => h x (.tail _ hx)
    have hq := h q (.head _)
    have h3 : 1 * kk r ≤ q * kk r := Int.mul_le_mul_of_nonneg_right hq (by omega)
    rw [kk_cons]
    exact ⟨by omega, by show 0 ≤ kk r; omega, fun _ => h1⟩
theorem k_opos : ∀ (a : List Int), Ones a → 0 ≤ ko a ∧ (a ≠ [] → 1 ≤ ko a) := by
  intro a h
  have e := (k_rev a.reverse)
  rw [List.reverse_reverse] at e
  have h' : Ones a.reverse := fun x hx => h x (List.mem_reverse.mp hx)
  obtain ⟨_, h2, h3⟩ := k_pos a.reverse h'
  rw [e.2]
  exact ⟨h2, fun hne => h3 fun q => hne (List.reverse_eq_nil_iff.mp q)⟩
/-- the last one at least two -/
def Two (r : List Int) : Prop := ∃ i z, r = i ++ [z] ∧ 2 ≤ z
theorem two_tail {q p : Int} {r : List Int} (h : Two (q :: p :: r)) : Two (p :: r) := by
  obtain ⟨i, z, e, hz⟩ := h
  cases i with
  | nil => cases e
  | cons a i => exact ⟨i, z, (List.cons.inj e).2, hz⟩
theorem k_lt : ∀ r : List Int, Ones r → (r = [] ∨ Two r) → kd r < kk r
  | [], _, _ => by decide
  | [q], _, h => by
    have : 2 ≤ q := by
      rcases h with h | ⟨i, z, e, hz⟩
      · cases h
      · cases i with
        | nil => cases e; exact hz
        | cons a i => have := (List.cons.inj e).2; simp at this
    rw [kk_cons]
    show kk [] < q * kk [] + 0
    rw [kk_nil]; omega
  | q :: p :: r, h, _ => by
    obtain ⟨h1, _, h3⟩ := k_pos (p :: r) fun x hx => h x (.tail _ hx)
    have hq := h q (.head _)
    have h4 : 1 * kk (p :: r) ≤ q * kk (p :: r) := Int.mul_le_mul_of_nonneg_right hq (by omega)
    have h5 := h3 (by simp)
    rw [kk_cons q]
    show kk (p :: r) < _
    omega
/-- Euclid's run: the quotients -/
def Euc : List Int → Int → Int → Prop
  | [], _, y => y = 0
  | q :: qs, x, y => 0 < y ∧ 0 ≤ x ∧ x / y = q ∧ Euc qs y (x % y)
/-- the rests behind the first two -/
def tailR : List Int → Int → Int → List Int
  | [], _, _ => []
  | _ :: qs, x, y => x % y :: tailR qs y (x % y)
/-- the continuants of a row's ends, and nought -/
def rs : List Int → List Int
  | [] => [1, 0]
  | q :: r => kk (q :: r) :: rs r
theorem step_euc {q : Int} {r : List Int} (h : Ones (q :: r)) (ht : r = [] ∨ Two r) : kk (q :: r) / kk r = q ∧ kk (q :: r) % kk r = kd r := by
  have ho : Ones r := fun x hx => h x (.tail _ hx)
  obtain ⟨h1, h2, _⟩ := k_pos r ho
  have h3 := k_lt r ho ht
  rw [kk_cons, Int.add_comm, Int.mul_comm q, Int.add_mul_ediv_left _ _ (by omega), Int.add_mul_emod_self_left, Int.ediv_eq_zero_of_lt h2 h3, Int.emod_eq_of_lt h2 h3]
  exact ⟨by omega, rfl⟩
theorem two_or {q : Int} {r : List Int} (ht : Two (q :: r)) : r = [] ∨ Two r := by
  cases r with
  | nil => exact .inl rfl
  | cons p r => exact .inr (two_tail ht)
theorem euc_row : ∀ r : List Int, Ones r → (r = [] ∨ Two r) → Euc r (kk r) (kd r) ∧ kk r :: kd r :: tailR r (kk r) (kd r) = rs r
  | [], _, _ => ⟨rfl, rfl⟩
  | q :: r, h, ht => by
    have ht' : r = [] ∨ Two r := by
      rcases ht with h' | h'
      · cases h'
      · exact two_or h'
    have ho : Ones r := fun x hx => h x (.tail _ hx)
    obtain ⟨e1, e2⟩ := step_euc h ht'
    obtain ⟨i1, i2⟩ := euc_row r ho ht'
    have p1 := (k_pos (q :: r) h).1
    have p2 := (k_pos r ho).1
    refine ⟨⟨by show 0 < kk r; omega, by omega, e1, ?_⟩, ?_⟩
    · show Euc r (kk r) (kk (q :: r) % kk r)
      rw [e2]; exact i1
    · show kk (q :: r) :: kk r :: (kk (q :: r) % kk r) :: tailR r (kk r) (kk (q :: r) % kk r) = kk (q :: r) :: rs r
      rw [e2, i2]
theorem rs_le : ∀ r : List Int, Ones r → ∀ x ∈ rs r, 0 ≤ x ∧ x ≤ kk r
  | [], _, x, hx => by
    rcases List.mem_cons.mp hx with rfl | hx
    · exact ⟨by decide, by decide⟩
    · rw [List.mem_singleton.mp hx]; exact ⟨by decide, by decide⟩
  | q :: r, h, x, hx => by
    have ho : Ones r := fun x hx => h x (.tail _ hx)
    obtain ⟨p1, p2, _⟩ := k_pos r ho
    have hq := h q (.head _)
    have h4 : 1 * kk r ≤ q * kk r := Int.mul_le_mul_of_nonneg_right hq (by omega)
    have e := kk_cons q r
    rcases List.mem_cons.mp hx with rfl | hx
    · exact ⟨by omega, Int.le_refl _⟩
    · have := rs_le r ho x hx
      exact ⟨this.1, by omega⟩
/-- which rests lie under the root of the total -/
theorem rs_filter {row : List Int} (hr : Ones row) (hne : row ≠ []) : ∀ a : List Int, Ones a → (rs (a ++ row)).filter (fun x => decide (x * x ≤ kk row * kk row + kd row * kd row)) = rs row
  | [], _ => by
    rw [List.nil_append, List.filter_eq_self]
    intro x hx
    obtain ⟨h1, h2⟩ := rs_le row hr x hx
    have h3 : x * x ≤ kk row * kk row := Int.mul_le_mul h2 h2 h1 (by omega)
    have h4 : 0 ≤ kd row * kd row := Int.mul_nonneg (k_pos row hr).2.1 (k_pos row hr).2.1
    simp only [decide_eq_true_eq]; omega
  | q :: a, h => by
    have ho : Ones a := fun x hx => h x (.tail _ hx)
    have ih := rs_filter hr hne a ho
    rw [List.cons_append, rs, List.filter_cons_of_neg, ih]
    have e : kk (q :: (a ++ row)) = kk (q :: a) * kk row + ko (q :: a) * kd row := by rw [← List.cons_append, kk_app]
    have p1 := (k_pos (q :: a) h).1
    have p2 := (k_opos (q :: a) h).2 (by simp)
    have p3 := (k_pos row hr).1
    have p4 := (k_pos row hr).2.2 hne
    have g1 : 1 * kk row ≤ kk (q :: a) * kk row := Int.mul_le_mul_of_nonneg_right p1 (by omega)
    have g2 : 1 * kd row ≤ ko (q :: a) * kd row := Int.mul_le_mul_of_nonneg_right p2 (by omega)
    have g3 : kk row + kd row ≤ kk (q :: (a ++ row)) := by omega
    have g4 : (kk row + kd row) * (kk row + kd row) ≤ kk (q :: (a ++ row)) * kk (q :: (a ++ row)) := Int.mul_le_mul g3 g3 (by omega) (by omega)
    have g5 : 1 ≤ kk row * kd row := by have := Int.mul_le_mul p3 p4 (by decide) (by omega); omega
    have g6 : (kk row + kd row) * (kk row + kd row) = kk row * kk row + kd row * kd row + 2 * (kk row * kd row) := by grind
    simp only [decide_eq_true_eq]; omega
/-- all that law 02 asks of a row -/
structure Row2 (row : List Int) (z : Int) (d : List Int) : Prop where
  due : row.reverse ++ row = z :: d
  total : kk row * kk row + kk (row.drop 1) * kk (row.drop 1) = kk (z :: d)
  root : kk row * ko row + kk (row.drop 1) * ko (row.drop 1) = kk d
  div : (kk d * kk d + 1) / kk (z :: d) = ko row * ko row + ko (row.drop 1) * ko (row.drop 1)
  mod : (kk d * kk d + 1) % kk (z :: d) = 0
  euc1 : Euc (z :: d) (kk (z :: d)) (kk d)
  rest1 : kk (z :: d) :: kk d :: tailR (z :: d) (kk (z :: d)) (kk d) = rs (z :: d)
  fil1 : (rs (z :: d)).filter (fun x => decide (x * x ≤ kk (z :: d))) = rs row
  euc2 : Euc (1 :: (z - 1) :: d) (kk (z :: d)) (kk (z :: d) - kk d)
  rest2 : kk (z :: d) :: (kk (z :: d) - kk d) :: tailR (1 :: (z - 1) :: d) (kk (z :: d)) (kk (z :: d) - kk d) = kk (z :: d) :: (kk (z :: d) - kk d) :: rs d
  fil2 : (kk (z :: d) :: (kk (z :: d) - kk d) :: rs d).filter (fun x => decide (x * x ≤ kk (z :: d))) = rs row
theorem row2 {i : List Int} {z : Int} (hi : Ones i) (hz : 2 ≤ z) : Row2 (i ++ [z]) z (i.reverse ++ (i ++ [z])) := by
  have hr : Ones (i ++ [z]) := fun x hx => by
    rcases List.mem_append.mp hx with h | h
    · exact hi x h
    · rw [List.mem_singleton.mp h]; omega
  have hir : Ones i.reverse := fun x hx => hi x (List.mem_reverse.mp hx)
  have hne : i ++ [z] ≠ [] := by simp
  have hdue : (i ++ [z]).reverse ++ (i ++ [z]) = z :: (i.reverse ++ (i ++ [z])) := by simp
  have hod : Ones (i.reverse ++ (i ++ [z])) := fun x hx => by
    rcases List.mem_append.mp hx with h | h
    · exact hir x h
    · exact hr x h
  have hoz : Ones (z :: (i.reverse ++ (i ++ [z]))) := fun x hx => by
    rcases List.mem_cons.mp hx with rfl | h
    · omega
    · exact hod x h
  have htd : Two (i.reverse ++ (i ++ [z])) := ⟨i.reverse ++ i, z, by simp, hz⟩
  have htz : Two (z :: (i.reverse ++ (i ++ [z]))) := ⟨z :: (i.reverse ++ i), z, by simp, hz⟩
  have hkd : kk ((i ++ [z]).drop 1) = kd (i ++ [z]) := by
    cases i with
    | nil => rfl
    | cons a r => rfl
  have hkb : ko ((i ++ [z]).drop 1) = kd i := by
    cases i with
    | nil => rfl
    | cons a r => show ko (r ++ [z]) = kk r; rw [ko_snoc]
  have hbe : ko (i ++ [z]) = kk i := ko_snoc i z
  have rv := k_rev (i ++ [z])
  have ri := k_rev i
  have htot : kk (z :: (i.reverse ++ (i ++ [z]))) = kk (i ++ [z]) * kk (i ++ [z]) + kd (i ++ [z]) * kd (i ++ [z]) := by
    rw [← hdue, kk_app, rv.1, rv.2]
  have hroot : kk (i.reverse ++ (i ++ [z])) = kk i * kk (i ++ [z]) + kd i * kd (i ++ [z]) := by rw [kk_app, ri.1, ri.2]
  have hdet : (kk (i ++ [z]) * kd i - kk i * kd (i ++ [z])) * (kk (i ++ [z]) * kd i - kk i * kd (i ++ [z])) = 1 := by
    cases i with
    | nil =>
      show (kk [z] * 0 - 1 * 1) * (kk [z] * 0 - 1 * 1) = 1
      simp
    | cons a r =>
      have h := k_det (r ++ [z])
      have e1 : kk ((a :: r) ++ [z]) = a * kk (r ++ [z]) + kd (r ++ [z]) := kk_cons a (r ++ [z])
      have e2 : ko ((a :: r) ++ [z]) = a * ko (r ++ [z]) + ky (r ++ [z]) := ko_cons a (r ++ [z])
      have e3 : ko ((a :: r) ++ [z]) = kk (a :: r) := ko_snoc (a :: r) z
      have e4 : kd (a :: r) = ko (r ++ [z]) := (ko_snoc r z).symm
      have e5 : kd ((a :: r) ++ [z]) = kk (r ++ [z]) := rfl
      rw [← e3, e1, e2, e4, e5]
      have e6 : (a * kk (r ++ [z]) + kd (r ++ [z])) * ko (r ++ [z]) - (a * ko (r ++ [z]) + ky (r ++ [z])) * kk (r ++ [z]) = -(kk (r ++ [z]) * ky (r ++ [z]) - kd (r ++ [z]) * ko (r ++ [z])) := by grind
      rw [e6, Int.neg_mul_neg, h]
  have hsq : kk (i.reverse ++ (i ++ [z])) * kk (i.reverse ++ (i ++ [z])) + 1 = kk (z :: (i.reverse ++ (i ++ [z]))) * (kk i * kk i + kd i * kd i) := by
    rw [htot, hroot, ← hdet]; grind
  have pz := (k_pos _ hoz).1
  have pd := (k_pos _ hod).1
  have pdd := (k_pos _ hod).2.2 (by simp)
  have ht2 : kk (z :: (i.reverse ++ (i ++ [z]))) = z * kk (i.reverse ++ (i ++ [z])) + kd (i.reverse ++ (i ++ [z])) := kk_cons _ _
  have hz2 : 2 * kk (i.reverse ++ (i ++ [z])) ≤ z * kk (i.reverse ++ (i ++ [z])) := Int.mul_le_mul_of_nonneg_right hz (by omega)
  have hlt := k_lt _ hod (.inr htd)
  obtain ⟨u1, u2⟩ := euc_row _ hoz (.inr htz)
  obtain ⟨w1, w2⟩ := euc_row _ hod (.inr htd)
  have hmod2 : (kk (z :: (i.reverse ++ (i ++ [z]))) - kk (i.reverse ++ (i ++ [z]))) / kk (i.reverse ++ (i ++ [z])) = z - 1 ∧ (kk (z :: (i.reverse ++ (i ++ [z]))) - kk (i.reverse ++ (i ++ [z]))) % kk (i.reverse ++ (i ++ [z])) = kd (i.reverse ++ (i ++ [z])) := by
    have e : kk (z :: (i.reverse ++ (i ++ [z]))) - kk (i.reverse ++ (i ++ [z])) = kd (i.reverse ++ (i ++ [z])) + kk (i.reverse ++ (i ++ [z])) * (z - 1) := by rw [ht2]; grind
    rw [e, Int.add_mul_ediv_left _ _ (by omega), Int.add_mul_emod_self_left, Int.ediv_eq_zero_of_lt (by omega) hlt, Int.emod_eq_of_lt (by omega) hlt]
    exact ⟨by omega, rfl⟩
  have hmod1 : kk (z :: (i.reverse ++ (i ++ [z]))) / (kk (z :: (i.reverse ++ (i ++ [z]))) - kk (i.reverse ++ (i ++ [z]))) = 1 ∧ kk (z :: (i.reverse ++ (i ++ [z]))) % (kk (z :: (i.reverse ++ (i ++ [z]))) - kk (i.reverse ++ (i ++ [z]))) = kk (i.reverse ++ (i ++ [z])) := by
    generalize kk (z :: (i.reverse ++ (i ++ [z]))) = t at *
    generalize kk (i.reverse ++ (i ++ [z])) = r at *
    have e : t = r + (t - r) * 1 := by omega
    have h1 : (r + (t - r) * 1) / (t - r) = 1 := by rw [Int.add_mul_ediv_left _ _ (by omega), Int.ediv_eq_zero_of_lt (by omega) (by omega)]; rfl
    have h2 : (r + (t - r) * 1) % (t - r) = r := by rw [Int.add_mul_emod_self_left, Int.emod_eq_of_lt (by omega) (by omega)]
    rw [← e] at h1 h2
    exact ⟨h1, h2⟩
  refine ⟨hdue, ?_, ?_, ?_, ?_, u1, u2, ?_, ?_, ?_, ?_⟩
  · rw [hkd, htot]
  · rw [hkd, hkb, hbe, hroot]; grind
  · rw [hsq, hkb, hbe, Int.mul_ediv_cancel_left _ (by omega)]
  · rw [hsq, Int.mul_emod_right]
  · rw [htot, ← hdue]
    exact rs_filter hr hne _ (fun x hx => hr x (List.mem_reverse.mp hx))
  · refine ⟨by omega, by omega, hmod1.1, ?_⟩
    rw [hmod1.2]
    refine ⟨by omega, by omega, hmod2.1, ?_⟩
    rw [hmod2.2]; exact w1
  · show _ :: _ :: (_ % _) :: ((_ - _) % (_ % _)) :: tailR _ _ _ = _
    rw [hmod1.2, hmod2.2, w2]
  · have f0 := rs_filter hr hne _ hir
    rw [← htot] at f0
    generalize kk (z :: (i.reverse ++ (i ++ [z]))) = t at *
    generalize hgr : kk (i.reverse ++ (i ++ [z])) = r at *
    have c1 : ¬ t * t ≤ t := by
      have : 2 * t ≤ t * t := Int.mul_le_mul_of_nonneg_right (by omega) (by omega)
      omega
    have c2 : ¬ (t - r) * (t - r) ≤ t := by
      have h1 : t + 1 ≤ 2 * (t - r) := by omega
      have h2 : (t + 1) * (t + 1) ≤ (2 * (t - r)) * (2 * (t - r)) := Int.mul_le_mul h1 h1 (by omega) (by omega)
      have h3 : (t + 1) * (t + 1) = (t - 1) * (t - 1) + 4 * t := by grind
      have h4 : (2 * (t - r)) * (2 * (t - r)) = 4 * ((t - r) * (t - r)) := by grind
      have h5 : 1 * 1 ≤ (t - 1) * (t - 1) := Int.mul_le_mul (by omega) (by omega) (by decide) (by omega)
      omega
    rw [List.filter_cons_of_neg (by simpa using c1), List.filter_cons_of_neg (by simpa using c2), f0]
end Mine
namespace Mine
/-! list(reversed(xs)): a list out of a list's iterator from behind -/
theorem lri_no_len : typeLookup (.type "list_reverseiterator") "__len__" = pure none := by rw [typeLookup_type, builtinLookup_eq_fast]; kernel_rfl
theorem lri_hint : typeLookup (.type "list_reverseiterator") "__length_hint__" = pure (some (.builtin "list_reverseiterator.__length_hint__")) := by rw [typeLookup_type, builtinLookup_eq_fast]; kernel_rfl
section
variable {prog : Program} {w : World} {A : Around} {E : Value → Shared → Prop} {s : Shared}
theorem hint_rev {I l : Addr} {i : Int} {Q : Bool → Shared → Prop} (hit : s.heap.IsRevIter I l i) (h : Q false s) : wpAny (model prog w) A (Builtin.List.listLengthHint (.ref I)) Q E s := by
  unfold Builtin.List.listLengthHint
  refine wpAny_bind (wpAny_specialOf hit.typeIs lri_no_len ?_)
  show wpAny _ A (specialOf (Value.ref I) (Str.ofString "__length_hint__") >>= _) _ _ _
  refine wpAny_bind (wpAny_specialOf hit.typeIs lri_hint ?_)
  generalize hid : ("list_reverseiterator.__length_hint__" : String) = id0
  wp_delta
  rw [show splitId id0 = some ("list_reverseiterator", "__length_hint__") from by subst hid; decide +kernel]
  subst hid
  refine wpAny_bind (wpAny_isInstance (T := "list_reverseiterator") (b := true) hit.typeIs (by rw [isSubtype_type]; kernel_rfl) ?_)
  refine wpAny_ite_split (fun hab => absurd hab (by decide)) (fun _ => ?_)
  refine wpAny_ite_split (fun _ => ?_) (fun hab => absurd (by decide +kernel) hab)
  refine wpAny_ite_split (fun hab => absurd hab (by decide +kernel)) (fun _ => ?_)
  exact wpAny_pure h
theorem extend_rev {R : Result → Shared → Prop} {I l : Addr} {items : Array Value} (hh : A.handled = none) (hne : l ≠ I) (hit : s.heap.IsRevIter I l ((items.size : Int) - 1)) (hl : s.heap.IsList l items) (hn : items.size ≤ sizeLine)
    (S : Addr) (hSI : S ≠ I) (hSl : S ≠ l) (res : Value) (c₀ : Nat) (hS : s.heap.get? S = some { cls := .type "list", data := .seq #[] c₀ })
    (hR : ∀ h' tk acc' c', (∀ b o, b ≠ S → b ≠ I → s.heap.get? b = some o → h'.get? b = some o) → h'.get? S = some { cls := .type "list", dict := none, data := .seq acc' c', slots := #[] } →
      ItemsOf (fun i v => items[items.size - 1 - i]? = some v) acc' items.size → R (.ok (.ret res)) { s with heap := h', toks := tk }) :
    wpAny (model prog w) A.in1 (Builtin.List.listExtendWith (.ref S) (.ref I) res)
      (fun fin s' => match fin with | .done f => R (.ok f) s' | .again c' => c'.quiet = true ∧ codeAny (model prog w) A c' R s') (fun e s' => R (.error e) s') s := by
  have W := (Walks.listRev (prog := prog) (w := w) (A := A.in1) hh I l hne items).toS
  have hSf : S ∉ [I, l] := fun hm => by
    rcases List.mem_cons.mp hm with e | hm
    · exact hSI e
    · exact hSl (List.mem_singleton.mp hm)
  unfold Builtin.List.listExtendWith
  refine wpAny_bind (wpAny_typeOf (T := "list_reverseiterator") hit.typeIs ?_)
  have h1 : Builtin.List.listSameRef (.ref S) (.ref I) = false := by simp [Builtin.List.listSameRef, hSI]
  have h2 : (Value.type "list_reverseiterator" == Value.type "list") = false := by decide
  have h3 : (Value.type "list_reverseiterator" == Value.type "tuple") = false := by decide
  simp only [h1, h2, h3, Bool.or_false, Bool.false_eq_true, if_false]
  refine wpAny_bind (wpAny_pyIter_revIter hit ?_)
  refine wpAny_bind (wpAny_holding (hint_rev hit ?_))
  refine wpAny_ite_split (fun hab => absurd hab (by decide +kernel)) (fun _ => wpAny_pure ⟨plainId_quiet F.plain_extend_loop _, ?_⟩)
  refine codeAny_extend_loopS W hn S hSf res items.size 0 _ #[] c₀ rfl (Nat.zero_le _) ⟨Nat.zero_le _, by simpa using hit, hl⟩ hS (ItemsOf.nil _) fun s' acc' c' hm hS' hacc => ?_
  rw [Moved.eq_with hm]
  refine hR s'.heap s'.toks acc' c' (fun b o hb hbI e => hm.heap b o (fun hmem => ?_) e) hS' hacc
  rcases List.mem_cons.mp hmem with e' | hmem
  · exact hb e'
  · exact hbI (List.mem_singleton.mp hmem)
theorem init_rev {R : Result → Shared → Prop} {I l : Addr} {items : Array Value} (hh : A.handled = none) (hne : l ≠ I) (hit : s.heap.IsRevIter I l ((items.size : Int) - 1)) (hl : s.heap.IsList l items) (hn : items.size ≤ sizeLine)
    (S : Addr) (hSI : S ≠ I) (hSl : S ≠ l) (hS : s.heap.get? S = some { cls := .type "list", data := .seq #[] })
    (hR : ∀ h' tk acc' c', (∀ b o, b ≠ S → b ≠ I → s.heap.get? b = some o → h'.get? b = some o) → h'.get? S = some { cls := .type "list", dict := none, data := .seq acc' c', slots := #[] } →
      ItemsOf (fun i v => items[items.size - 1 - i]? = some v) acc' items.size → R (.ok (.ret .none)) { s with heap := h', toks := tk }) :
    wpAny (model prog w) A.in1 (Builtin.«list.__init__» ⟨[.ref S, .ref I], []⟩)
      (fun fin s' => match fin with | .done f => R (.ok f) s' | .again c' => c'.quiet = true ∧ codeAny (model prog w) A c' R s') (fun e s' => R (.error e) s') s := by
  show wpAny _ _ (do let old ← Builtin.List.listItems (.ref S); Builtin.List.listUpdate (.ref S) (fun _ => #[]); letGo old.toList.reverse; Builtin.List.listExtendWith (.ref S) (.ref I) .none) _ _ s
  refine wpAny_bind ?_
  unfold Builtin.List.listItems
  refine wpAny_bind (wpAny_seqItems hS rfl (wpAny_pure ?_))
  show wpAny _ _ (updateSeq S (fun _ => #[]) >>= fun _ => letGo (#[] : Array Value).toList.reverse >>= fun _ => Builtin.List.listExtendWith (.ref S) (.ref I) .none) _ _ s
  refine wpAny_bind (wpAny_updateSeq hS rfl ?_)
  have hS₂ := Heap.get?_update_self (Obj.mapSeq (fun _ => (#[] : Array Value))) hS rfl
  have oth : ∀ b o, b ≠ S → s.heap.get? b = some o → (s.heap.update S (Obj.mapSeq (fun _ => (#[] : Array Value)))).get? b = some o :=
    fun b o hb e => (Heap.get?_update_other _ _ (Ne.symm hb)).trans e
  refine wpAny_bind (wpAny_letGo ?_)
  refine extend_rev hh hne (hit.at fun o e => oth I o (Ne.symm hSI) e) (hl.at fun o e => oth l o (Ne.symm hSl) e) hn S hSI hSl .none _ hS₂ fun h' tk acc' c' hk hS' hacc => ?_
  exact hR h' tk acc' c' (fun b o hb hbI e => hk b o hb hbI (oth b o hb e)) hS' hacc
theorem call_list_rev {I l : Addr} {items : Array Value} {Q : Value → Shared → Prop} (hh : A.handled = none) (hne : l ≠ I) (hit : s.heap.IsRevIter I l ((items.size : Int) - 1)) (hl : s.heap.IsList l items) (hn : items.size ≤ sizeLine)
    (hQ : ∀ h' tk acc' c', (∀ b o, b ≠ I → s.heap.get? b = some o → h'.get? b = some o) → h'.get? s.heap.objs.size = some { cls := .type "list", dict := none, data := .seq acc' c', slots := #[] } →
      ItemsOf (fun i v => items[items.size - 1 - i]? = some v) acc' items.size → Q (.ref s.heap.objs.size) { s with heap := h', toks := tk }) :
    wpAny (model prog w) A (call (.type "list") [.ref I]) Q E s := by
  have hIlt : I < s.heap.objs.size := by obtain ⟨_, e, _⟩ := hit; exact Heap.lt_size e
  have hllt : l < s.heap.objs.size := by obtain ⟨_, e, _⟩ := hl; exact Heap.lt_size e
  refine callType_codes (Q₁ := fun obj s₁ => obj = .ref s.heap.objs.size ∧ s₁ = { s with heap := s.heap.push { cls := .type "list", data := .seq #[] } }) F.called_list (F.typeCall_list_1 _) F.entry_list_init
    (code_list_new _ ⟨rfl, rfl⟩) fun obj s₁ h₁ => ?_
  obtain ⟨rfl, rfl⟩ := h₁
  have hS : (s.heap.push { cls := .type "list", data := .seq #[] }).get? s.heap.objs.size = some { cls := .type "list", data := .seq #[] } := Heap.get?_push_size _ rfl
  refine ⟨⟨_, hS, rfl⟩, F.args_list_init_2 _ _, init_rev (A := A.in1) hh hne (hit.at fun o e => Heap.get?_push_of_some _ e) (hl.at fun o e => Heap.get?_push_of_some _ e) hn _ (Nat.ne_of_gt hIlt) (Nat.ne_of_gt hllt) hS fun h' tk acc' c' hk hS' hacc => ?_⟩
  exact ⟨rfl, hQ h' tk acc' c' (fun b o hbI e => hk b o (Nat.ne_of_lt (Heap.lt_size e)) hbI (Heap.get?_push_of_some _ e)) hS' hacc⟩
theorem ints_from {vs : List Value} {ns : List Int} {acc : Array Value} (hi : IntsAre vs ns) (h : ItemsOf (fun i v => vs.toArray[vs.toArray.size - 1 - i]? = some v) acc vs.toArray.size) : IntsAre acc.toList ns.reverse := by
  have e : acc.toList = vs.reverse := by
    refine List.ext_getElem? fun j => ?_
    by_cases hj : j < acc.size
    · have hv := h.2 j acc[j] (Array.getElem?_eq_getElem hj)
      have hs : acc.size = vs.length := by rw [h.1, List.size_toArray]
      rw [List.getElem?_reverse (by omega)]
      have : acc.toList[j]? = some acc[j] := by simp [hj]
      rw [this]
      simpa using hv.symm
    · have hs : acc.size = vs.length := by rw [h.1, List.size_toArray]
      rw [List.getElem?_eq_none (by simp; omega), List.getElem?_eq_none (by rw [List.length_reverse]; omega)]
  rw [e]
  exact ints_rev hi
/-- a list of ints from behind, where the iterator heads the ledger -/
theorem listOfRev {h₀ : Heap} {L I l : Addr} {m : Str → Option Value} {news : List (Addr × Obj)} {vs : List Value} {ns : List Int} {nn : Nat} {Q : Value → Shared → Prop} (hh : A.handled = none) (F : Fr h₀ L s.heap m) (N : News h₀ L s.heap ((I, revObj l ((vs.length : Int) - 1)) :: news)) (hm : (l, listOf vs.toArray nn) ∈ news) (hi : IntsAre vs ns) (hof : ∀ p ∈ news, p.1 < I) (hz : ns.length < 100000)
    (h : ∀ D us c h' tk, Fr h₀ L h' m → News h₀ L h' ((D, listOf (List.toArray us) c) :: news) → (∀ p ∈ news, p.1 < D) → IntsAre us ns.reverse → Q (.ref D) { s with heap := h', toks := tk }) :
    wpAny (model prog w) A (call (.type "list") [.ref I]) Q E s := by
  have hIx := N _ (.head _)
  have hl := PySem.IsL.isList (n := nn) (N _ (.tail _ hm)).1
  have e : ((vs.toArray.size : Nat) : Int) - 1 = (vs.length : Int) - 1 := by simp
  have hne : l ≠ I := Nat.ne_of_lt (hof _ hm)
  refine call_list_rev hh hne (items := vs.toArray) (by rw [e]; exact ⟨_, hIx.1, rfl, rfl⟩) hl (by rw [List.size_toArray, hi.length]; exact fits_of hz) fun h' tk acc c hk hD hacc => ?_
  have hD' : h'.get? s.heap.objs.size = some (listOf (List.toArray acc.toList) c) := by
    rw [Array.toArray_toList]
    exact hD
  have hI₀ : h₀.get? I = none := hIx.2.2
  have F' : Fr h₀ L h' m := kmk_fr F (fun b o hb e => hk b o (fun q => hb (q ▸ List.mem_singleton.mpr rfl)) e) hIx.2.1 hI₀
  refine h _ acc.toList c h' tk F' (fun q hq => ?_) (fun p hp => Heap.lt_size (N p (.tail _ hp)).1) (ints_from hi hacc)
  rcases List.mem_cons.mp hq with rfl | hq
  · exact ⟨hD', Nat.ne_of_gt F.ns.lt, none_at_size F⟩
  · have z := N q (.tail _ hq)
    exact ⟨hk _ _ (Nat.ne_of_lt (hof q hq)) z.1, z.2⟩
/-- an item of a list of ints -/
theorem itemFront {h₀ : Heap} {L D : Addr} {news : List (Addr × Obj)} {value slice : PySem.Expr} {vs : List Value} {ns : List Int} {n : Nat} {k v : Int} {u : Tok} {Q : Value → Shared → Prop} (N : News h₀ L s.heap news) (hm : (D, listOf vs.toArray n) ∈ news) (hi : IntsAre vs ns)
    (h0 : 0 ≤ k) (h1 : k < (ns.length : Int)) (hfit : k < 2 ^ 63) (hv : ns.getD k.toNat 0 = v) (h : ∀ t, Q (.int v t) s)
    (hs : subscripted slice false (.ref D) (.int k u) = operate [.ref D, .int k u] (getItem (.ref D) (.int k u))) :
    wpAny (model prog w) A (subscriptTail value slice (.ref D) (.int k u)) Q E s :=
  item_anyK (PySem.IsL.isList (n := n) (N _ hm).1) hi h0 h1 hfit (hv ▸ h) hs
end
end Mine
namespace Mine
/-- what a call of the def inner of _int2digits does, down to 2 ^ k places -/
def InA (prog : Program) (w : World) (K : Frag) (p : Program) (loose : List Str) (mean : ExcName → Option Value) (mg mb : Str → Option Value) (qual : Str) (params : Arguments) (body : List Stmt) (scope : Scope) (k : Nat) : Prop :=
  ∀ (dp un : Nat) (gd : Option (List Code)) (cn : Str) (cs : Scope) (a : Addr) (ccd : Value) (cl : List (Str × Addr)) (outer : List Env) (A₀ : Around) (base h₀ : Heap) (L : Addr) (m : Str → Option Value) (s : Shared) (Q E : Value → Shared → Prop)
    (f c' ca ci cw l : Addr) (oc oa oi ow : Obj) (cvs : Array Value) (t : Tok) (doc pm ctv : Value) (n : Int) (tn : Tok) (vs : List Value) (ns : List Int) (nn : Nat) (g : Obj → List (Addr × Obj)) (x lo hi : Int) (tx tl th : Tok),
    Below A₀ base outer h₀ → CodeHd base 34 30 → Fr h₀ L s.heap m → K.In h₀ → News h₀ L s.heap (g (listOf vs.toArray nn)) →
    Top p loose mean mg mb h₀ → cs.kind = .function →
    (∀ o', UpdF l o' (g o') g) → AllMem g f (fnMade (Str.ofString "inner") qual params body scope [(Str.ofString "n", cw), (Str.ofString "inner", ci), (Str.ofString "a_digits", ca)] doc pm c' ctv) → AllMem g c' oc → AllMem g ca oa → AllMem g ci oi → AllMem g cw ow →
    oc.data = .fields cvs → cvs[1]? = some (.str qual t) → oa.data = .cell (some (.ref l)) → oi.data = .cell (some (.ref f)) → ow.data = .cell (some (.int n tn)) →
    IntsAre vs ns →
    (0 < n ∧ n ≤ 1000 ∧ 0 ≤ x ∧ 0 ≤ lo ∧ lo < hi ∧ hi ≤ ns.length ∧ ns.length ≤ 256) → hi - lo ≤ 2 ^ k → x < 2 ^ (n * (hi - lo)).toNat →
    dp + k + 1 < recursionLimit → un + 8 * (k + 1) < cLine →
    (∀ vs' nn' h' tk', IntsAre vs' (setR ns n lo hi x) → Fr h₀ L h' m → News h₀ L h' (g (listOf vs'.toArray nn')) → Q .none { s with heap := h', toks := tk' }) →
    wpAny (model prog w) (ktrTop dp un gd cn cs L a ccd cl outer) (call (.ref f) [.int x tx, .int lo tl, .int hi th]) Q E s

theorem InA.use {prog : Program} {w : World} {K : Frag} {p : Program} {loose : List Str} {mean : ExcName → Option Value} {mg mb : Str → Option Value} {qual : Str} {params : Arguments} {body : List Stmt} {scope : Scope} {k : Nat}
    (I : InA prog w K p loose mean mg mb qual params body scope k)
    {dp un : Nat} {gd : Option (List Code)} {cn : Str} {cs : Scope} {a : Addr} {ccd : Value} {cl : List (Str × Addr)} {outer : List Env} {A₀ : Around} {base h₀ : Heap} {L : Addr} {m : Str → Option Value} {s : Shared} {Q E : Value → Shared → Prop}
    {f c' ca ci cw l : Addr} {oc oa oi ow : Obj} {cvs : Array Value} {t : Tok} {doc pm ctv : Value} {n : Int} {tn : Tok} {vs : List Value} {ns : List Int} {nn : Nat} {news : List (Addr × Obj)} {g : Obj → List (Addr × Obj)} {x lo hi : Int} {tx tl th : Tok}
    (B : Below A₀ base outer h₀) (C30 : CodeHd base 34 30) (F : Fr h₀ L s.heap m) (X : K.In h₀) (N : News h₀ L s.heap news)
    (T : Top p loose mean mg mb h₀) (hk : cs.kind = .function)
    (hf : (f, (fnMade (Str.ofString "inner") qual params body scope [(Str.ofString "n", cw), (Str.ofString "inner", ci), (Str.ofString "a_digits", ca)] doc pm c' ctv)) ∈ news) (hca : (ca, oa) ∈ news) (hoa : oa.data = .cell (some (.ref l)))
    (U : UpdF l (listOf vs.toArray nn) news g) (mf : AllMem g f (fnMade (Str.ofString "inner") qual params body scope [(Str.ofString "n", cw), (Str.ofString "inner", ci), (Str.ofString "a_digits", ca)] doc pm c' ctv)) (mc : AllMem g c' oc) (ma : AllMem g ca oa) (mi : AllMem g ci oi) (mw : AllMem g cw ow)
    (hoc : oc.data = .fields cvs) (hq : cvs[1]? = some (.str qual t)) (hoi : oi.data = .cell (some (.ref f))) (how : ow.data = .cell (some (.int n tn)))
    (hi' : IntsAre vs ns)
    (hb : 0 < n ∧ n ≤ 1000 ∧ 0 ≤ x ∧ 0 ≤ lo ∧ lo < hi ∧ hi ≤ ns.length ∧ ns.length ≤ 256) (hk2 : hi - lo ≤ 2 ^ k) (hx : x < 2 ^ (n * (hi - lo)).toNat)
    (hd : dp + k + 1 < recursionLimit) (hu : un + 8 * (k + 1) < cLine)
    (hret : ∀ vs' nn' h' tk', IntsAre vs' (setR ns n lo hi x) → Fr h₀ L h' m → News h₀ L h' (g (listOf vs'.toArray nn')) → Q .none { s with heap := h', toks := tk' }) :
    wpAny (model prog w) (ktrTop dp un gd cn cs L a ccd cl outer) (call (.ref f) [.int x tx, .int lo tl, .int hi th]) Q E s :=
  have _ := hf
  have _ := hca
  I _ _ _ _ _ _ _ _ _ _ _ _ _ _ _ _ _ _ _ _ _ _ _ _ _ _ _ _ _ _ _ _ _ _ _ _ _ _ _ _ _ _ _ _ B C30 F X ((UpdF.anew U).1 ▸ N) T hk (UpdF.anew U).2 mf mc ma mi mw hoc hq hoa hoi how hi' hb hk2 hx hd hu hret

section
local macro_rules | `(tactic| k_all) => `(tactic| first | with_reducible assumption | exact allNe_le (by with_reducible assumption) (by omega) | ((rename ∀ _, AllLt _ _ => hR9); exact allNe_le (hR9 _) (by omega)))
local macro_rules | `(tactic| k_updF) => `(tactic| with_reducible assumption)
local macro_rules | `(tactic| k_mem) => `(tactic| first | exact memOf (by with_reducible assumption) | exact memOf (AllMem.at (by with_reducible assumption)) | fail "no such entry")
local macro_rules | `(tactic| k_allIn) => `(tactic| (intro p9 hp9; k_ownIn))
local macro_rules | `(tactic| walk_at "ite") => `(tactic| (k_here; k_openite; first | (refine ite_pos (by first | omega | (simp only [decide_eq_true_eq, beq_iff_eq, bne_iff_ne, ne_eq]; omega)) ?_) | (refine ite_neg (by first | omega | (simp only [decide_eq_true_eq, beq_iff_eq, bne_iff_ne, ne_eq]; omega)) ?_)))
local macro_rules | `(tactic| walk_at "binaryOp Mult ref int") => `(tactic| (k_here; (with_reducible show wpAny _ _ (binaryOp Operator.Mult (Value.ref _) (Value.int _ _)) _ _ _); k_dflt (refine' mulOne ?F ?N ?l ?lo ?hi ?_; (case F => k_asm); (case N => k_asm); (case l => is_list); (case lo => first | assumption | omega); (case hi => first | assumption | omega); k_whole); intro D' h' vs' hi' F' N' l1; (try k_lt l1)))
local macro_rules | `(tactic| walk_at "call builtin:len") => `(tactic| (k_here; (with_reducible show wpAny _ _ (call (Value.builtin "len") [Value.ref _]) _ _ _); k_dflt (refine' lenInts ?N ?m ?i ?f ?_; (case N => k_asm); (case m => k_mem); (case i => with_reducible assumption); (case f => (first | omega | (simp only [List.length_replicate]; omega))); k_whole); intro t' tk'))
local macro_rules | `(tactic| walk_at "truthy ref") => `(tactic| (k_here; k_dflt (refine' truthyInts ?N ?m ?i ?f ?_; (case N => k_asm); (case m => k_mem); (case i => with_reducible assumption); (case f => omega); k_whole); intro tk'))
local macro_rules | `(tactic| walk_at "call builtin:list.append") => `(tactic| (k_here; (with_reducible show wpAny _ _ (call (Value.builtin _) [Value.ref _, Value.int _ _]) _ _ _); k_dflt (refine' appendInts ?F ?N ?U ?hi ?hz ?_; (case F => k_asm); (case N => k_asm); (case U => k_upd); (case hi => with_reducible assumption); (case hz => omega); k_whole); intro h' F' N' hi'))
local macro_rules | `(tactic| walk_at "call builtin:list.reverse") => `(tactic| (k_here; (with_reducible show wpAny _ _ (call (Value.builtin _) [Value.ref _]) _ _ _); k_dflt (refine' reverseInts ?F ?N ?U ?hi ?hz ?_; (case F => k_asm); (case N => k_asm); (case U => k_upd); (case hi => with_reducible assumption); (case hz => omega); k_whole); intro h' F' N' hi'))
local macro_rules | `(tactic| walk_at "binaryOp LShift int int") => `(tactic| (k_here; k_dflt (refine' lshift_int ?a ?b ?_; (case a => first | assumption | omega); (case b => first | assumption | omega); k_whole)))
local macro_rules | `(tactic| k_mem) => `(tactic| first | exact AllMem.at (by with_reducible assumption) | fail "no such entry")
local macro_rules | `(tactic| walk_at "setItem ref int") => `(tactic| (k_here; (with_reducible show wpAny _ _ (setItem (Value.ref _) (Value.int _ _) (Value.int _ _)) _ _ _); (rename ∀ o', UpdF _ o' _ _ => hU); k_dflt (refine' ksa_set ?k1 ?k2 ?k3 ?k4 ?k5 ?k6 ?k7 ?_; (case k1 => k_asm); (case k2 => k_asm); (case k3 => exact UpdF.upd (hU _) _); (case k4 => with_reducible assumption); (case k5 => omega); (case k6 => omega); (case k7 => omega); k_whole); intro h' F' N' hi' hl' hs'))
local macro_rules | `(tactic| walk_at "call ref") => `(tactic| (k_here; (rename InA _ _ _ _ _ _ _ _ _ _ _ _ _ => IHn); (rename ∀ o', UpdF _ o' _ _ => hU); k_dflt (refine' InA.use IHn ?B ?C ?F ?X ?N ?T ?hk ?hf ?hca ?hoa ?U ?mf ?mc ?ma ?mi ?mw ?hoc ?hq ?hoi ?how ?hi ?hb ?hk2 ?hx ?hd ?hu ?_; (case B => k_asm); (case C => k_asm); (case F => k_asm); (case X => k_asm); (case N => k_asm); (case T => k_asm); (case hk => exact rfl); (case hf => k_mem); (case hca => k_mem); (case hoa => assumption); (case U => exact hU _); (case mf => assumption); (case mc => assumption); (case ma => assumption); (case mi => assumption); (case mw => assumption); (case hoc => assumption); (case hq => assumption); (case hoi => assumption); (case how => assumption); (case hi => assumption); (case hb => refine ⟨?_, ?_, ?_, ?_, ?_, ?_, ?_⟩ <;> first | assumption | omega); (case hk2 => assumption); (case hx => assumption); (case hd => ktr_room); (case hu => ktr_units)); intro vs' nn' h' tk' hi' F' N'))

theorem inA_step (w : World) (p : Program) (loose : List Str) (mean : ExcName → Option Value) (mg mb : Str → Option Value) (qual nm : Str) (params : Arguments) (body : List Stmt) (scope : Scope)
   (hA : defAt (Mine.hd.heap_39 w.params) 35 1 = some (nm, params, body, scope)) (k : Nat)
   (IH : ∀ j, k = j + 1 → InA PySem.Challenge.rw_mq0469_02.row.prog w (Mine.hd.heap_39 w.params) p loose mean mg mb qual params body scope j) : InA PySem.Challenge.rw_mq0469_02.row.prog w (Mine.hd.heap_39 w.params) p loose mean mg mb qual params body scope k := by
  w_top off
  k_fill
  unfold InA
  intro dp un gd cn cs a ccd cl outer A₀ base h₀ L m s Q E f c' ca ci cw l oc oa oi ow cvs t doc pm ctv n tn vs ns nn g x lo hi tx tl th B C30 F X N T hk hU mf mc ma mi mw hoc hq hoa hoi how hi' hb hk2 hx hd hu hret
  cases hA
  refine wpAny_call ?_
  k_dflt (refine' code_nestL ?k1 ?k2 ?k3 ?k4 ?k5 ?kA ?kF ?kK ?k6 ?k7 ?k8 ?k9 ?kB ?_ ?c2 ?c3 ?c4 ?c5; (case kA => exact rfl); (case kF => exact rfl); (case kK => assumption); (case k1 => k_asm); (case k2 => k_asm); (case k3 => k_asm); (case k4 => k_asm); (case k5 => k_asm); (case k6 => k_mem); (case k7 => exact codeRec_news (by k_asm) (by k_mem) (by assumption) (by assumption)); (case k8 => exact (by omega : dp < recursionLimit)); (case k9 => exact BindsTo.of_eq rfl); (case c5 => decide); (case kB => exact locs rfl); (case c2 => exact rfl); (case c3 => exact rfl); (case c4 => exact rfl); k_whole; intro g' L' h' FG' F' N' B' X' T' l1; (try dsimp only); (try k_lift B'); (try k_fold))
  clear l1
  by_cases h1 : lo + 1 = hi
  · have hb' := hb
    obtain ⟨hn1, hn2, hx0, hl0, hlh, hhl, hlen⟩ := hb'
    have hx1 : x < 2 ^ n.toNat := by
      have : n * (hi - lo) = n := by rw [show hi - lo = 1 by omega, Int.mul_one]
      rw [this] at hx; exact hx
    have e1 := setR_one (ns := ns) (n := n) (hi := hi) hl0 (by omega) h1.symm hx0 hx1
    clear IH
    k_steps
    refine hret _ _ _ _ ?_ (by k_asm) (by k_asm)
    rw [← e1]; assumption
  · cases k with
    | zero => exfalso; omega
    | succ k =>
    have IHk := IH k rfl
    clear IH
    obtain ⟨m1, m2, k1, k2, s0, s1, sz, u0, u1, w0, w1, we, ue⟩ := halves hb hk2 hx h1
    have hb' := hb
    obtain ⟨hn1, hn2, hx0, hl0, hlh, hhl, hlen⟩ := hb'
    have sl' := setR_length ns n lo ((lo + hi).fdiv (2 ^ Int.toNat 1)) (Builtin.bitXor x (x.fdiv (2 ^ (((lo + hi).fdiv (2 ^ Int.toNat 1) - lo) * n).toNat) * 2 ^ (((lo + hi).fdiv (2 ^ Int.toNat 1) - lo) * n).toNat))
    have ej := setR_join (ns := ns) (n := n) (x := x) (lo := lo) (mid := (lo + hi).fdiv (2 ^ Int.toNat 1)) (hi := hi) (by omega) hx0 (by omega) (by omega)
    rw [← we, ← ue] at ej
    k_steps
    refine hret _ _ _ _ ?_ (by k_asm) (by k_asm)
    rw [← ej]; assumption
end
theorem inA_all (w : World) (p : Program) (loose : List Str) (mean : ExcName → Option Value) (mg mb : Str → Option Value) (qual nm : Str) (params : Arguments) (body : List Stmt) (scope : Scope)
   (hA : defAt (Mine.hd.heap_39 w.params) 35 1 = some (nm, params, body, scope)) : ∀ k : Nat, InA PySem.Challenge.rw_mq0469_02.row.prog w (Mine.hd.heap_39 w.params) p loose mean mg mb qual params body scope k
  | 0 => inA_step w p loose mean mg mb qual nm params body scope hA 0 (fun j h => nomatch h)
  | k + 1 => inA_step w p loose mean mg mb qual nm params body scope hA (k + 1) (fun j h => by cases h; exact inA_all w p loose mean mg mb qual nm params body scope hA k)

section
local macro_rules | `(tactic| k_all) => `(tactic| first | with_reducible assumption | exact allNe_le (by with_reducible assumption) (by omega) | ((rename ∀ _, AllLt _ _ => hR9); exact allNe_le (hR9 _) (by omega)))
local macro_rules | `(tactic| k_updF) => `(tactic| with_reducible assumption)
local macro_rules | `(tactic| k_mem) => `(tactic| first | exact memOf (by with_reducible assumption) | exact memOf (AllMem.at (by with_reducible assumption)) | fail "no such entry")
local macro_rules | `(tactic| k_allIn) => `(tactic| (intro p9 hp9; k_ownIn))
local macro_rules | `(tactic| walk_at "ite") => `(tactic| (k_here; k_openite; first | (refine ite_pos (by first | omega | (simp only [decide_eq_true_eq, beq_iff_eq, bne_iff_ne, ne_eq]; omega)) ?_) | (refine ite_neg (by first | omega | (simp only [decide_eq_true_eq, beq_iff_eq, bne_iff_ne, ne_eq]; omega)) ?_)))
local macro_rules | `(tactic| walk_at "binaryOp Mult ref int") => `(tactic| (k_here; (with_reducible show wpAny _ _ (binaryOp Operator.Mult (Value.ref _) (Value.int _ _)) _ _ _); k_dflt (refine' mulOne ?F ?N ?l ?lo ?hi ?_; (case F => k_asm); (case N => k_asm); (case l => is_list); (case lo => first | assumption | omega); (case hi => first | assumption | omega); k_whole); intro D' h' vs' hi' F' N' l1; (try k_lt l1)))
local macro_rules | `(tactic| walk_at "call builtin:len") => `(tactic| (k_here; (with_reducible show wpAny _ _ (call (Value.builtin "len") [Value.ref _]) _ _ _); k_dflt (refine' lenInts ?N ?m ?i ?f ?_; (case N => k_asm); (case m => k_mem); (case i => with_reducible assumption); (case f => (first | omega | (simp only [List.length_replicate]; omega))); k_whole); intro t' tk'))
local macro_rules | `(tactic| walk_at "truthy ref") => `(tactic| (k_here; k_dflt (refine' truthyInts ?N ?m ?i ?f ?_; (case N => k_asm); (case m => k_mem); (case i => with_reducible assumption); (case f => omega); k_whole); intro tk'))
local macro_rules | `(tactic| walk_at "call builtin:list.append") => `(tactic| (k_here; (with_reducible show wpAny _ _ (call (Value.builtin _) [Value.ref _, Value.int _ _]) _ _ _); k_dflt (refine' appendInts ?F ?N ?U ?hi ?hz ?_; (case F => k_asm); (case N => k_asm); (case U => k_upd); (case hi => with_reducible assumption); (case hz => omega); k_whole); intro h' F' N' hi'))
local macro_rules | `(tactic| walk_at "call builtin:list.reverse") => `(tactic| (k_here; (with_reducible show wpAny _ _ (call (Value.builtin _) [Value.ref _]) _ _ _); k_dflt (refine' reverseInts ?F ?N ?U ?hi ?hz ?_; (case F => k_asm); (case N => k_asm); (case U => k_upd); (case hi => with_reducible assumption); (case hz => omega); k_whole); intro h' F' N' hi'))
local macro_rules | `(tactic| walk_at "binaryOp LShift int int") => `(tactic| (k_here; k_dflt (refine' lshift_int ?a ?b ?_; (case a => first | assumption | omega); (case b => first | assumption | omega); k_whole)))

theorem i2d_fresh (w : World) {p : Program} {loose : List Str} {mean : ExcName → Option Value} {mg mb : Str → Option Value}
  {dp un : Nat} {gd : Option (List Code)} {cn : Str} {cs : Scope} {a : Addr} {ccd : Value} {cl : List (Str × Addr)} {outer : List Env} {A₀ : Around} {base h₀ : Heap} {L : Addr} {m : Str → Option Value} {news : List (Addr × Obj)} {s : Shared} {Q E : Value → Shared → Prop} {g : Obj → List (Addr × Obj)} {x n : Int} {tx tn : Tok}
  (B : Below A₀ base outer h₀) (F : Fr h₀ L s.heap m) (X : (Mine.hd.heap_39 w.params).In h₀) (N : News h₀ L s.heap news) (T : Top p loose mean mg mb h₀) (hk : cs.kind = .function) (C30 : CodeHd base 34 30)
  (U30 : UpdF 30 (tabObj #[]) news g) (hx0 : 0 ≤ x) (hn : 0 < n) (hn2 : n ≤ 1000) (h256 : nd x n ≤ 256)
  (hd : dp + 12 < recursionLimit) (hu : un + 100 < cLine)
  (hret : ∀ l nn vs c' oc cvs t h' tk', IntsAre vs (dg x n) → oc.data = .fields cvs → cvs[1]? = some (.str (Str.ofString "_int2digits.<locals>.inner") t) → Fr h₀ L h' m → News h₀ L h' ((l, listOf vs.toArray nn) :: (c', oc) :: g (tabObj #[rawInt 32, rawInt 4, .ref c'])) → (∀ p ∈ news, p.1 < l) → @LT.lt Nat _ l c' → Q (.ref l) { s with heap := h', toks := tk' }) :
  wpAny (model PySem.Challenge.rw_mq0469_02.row.prog w) (ktrTop dp un gd cn cs L a ccd cl outer) (call (.ref 35) [.int x tx, .int n tn]) Q E s := by
  w_top off
  revert X; k_fill; intro X
  refine wpAny_call ?_
  k_dflt (refine' code_defC ?k1 ?k2 ?k3 ?k4 ?k5 ?kA ?kF ?kK ?k6 ?k7 ?k8 ?k9 ?kB ?kD ?_ ?c2 ?c3 ?c4; (case kA => exact rfl); (case kF => exact rfl); (case kK => assumption); (case k1 => k_asm); (case k2 => k_asm); (case k3 => k_asm); (case k4 => k_asm); (case k5 => k_asm); (case k6 => k_is); (case k7 => k_is); (case k8 => exact (by omega : dp < recursionLimit)); (case k9 => exact BindsTo.of_eq rfl); (case kB => exact rfl); (case kD => decide +kernel); (case c2 => exact rfl); (case c3 => exact rfl); (case c4 => exact rfl); k_whole; intro g' L' h' tk' cells' FG' F' N' Y' B' X' T' l1; obtain ⟨o1, o2, o3, hE', d1', d2', d3'⟩ := PyProof.Rows.CellsAre.three Y'; subst hE'; clear Y'; (try simp only [List.cons_append, List.nil_append] at N'); (try dsimp only); (try k_lift B'); (try k_fold))
  have l30 : @LT.lt Nat _ 30 L' := l1 _ (UpdF.mem U30)
  have lR := allLt_of l1
  have hb0 := (nd_facts hx0 hn).1
  have e0 : ((Builtin.Int.intBits x : Int) + n - 1).fdiv n = nd x n := rfl
  have hb1 : ((Builtin.Int.intBits x : Int) + n - 1).fdiv n ≤ 256 := h256
  have hb2 : 0 ≤ ((Builtin.Int.intBits x : Int) + n - 1).fdiv n := hb0
  replace d3' : o3.data = .cell (some (.int n tn)) := d3'
  replace d2' : o2.data = .cell none := d2'
  replace d1' : o1.data = .cell none := d1'
  have lRg := AllLt.upd U30 lR
  clear l1
  k_steps
  · rename x ≠ 0 => hx1
    obtain ⟨q1, q2, q3⟩ := dg_first hx0 hx1 hn hn2 h256
    rw [← e0] at q1 q2 q3
    k_dflt (refine' InA.use (inA_all w _ _ _ _ _ _ _ _ _ _ ?hA 8) ?B ?C ?F ?X ?N ?T ?hk ?hf ?hca ?hoa ?U ?mf ?mc ?ma ?mi ?mw ?hoc ?hq ?hoi ?how ?hi ?hb ?hk2 ?hx ?hd ?hu ?_; (case B => k_asm); (case C => k_asm); (case F => k_asm); (case X => k_asm); (case N => k_asm); (case T => k_asm); (case hk => exact rfl); (case hf => k_mem); (case hA => exact rfl); (case hca => k_mem); (case hoa => assumption); (case U => k_updF); (case mf => (intro o9; dsimp only; k_mem)); (case mc => (intro o9; dsimp only; k_mem)); (case ma => (intro o9; dsimp only; k_mem)); (case mi => (intro o9; dsimp only; k_mem)); (case mw => (intro o9; dsimp only; k_mem)); (case hoc => assumption); (case hq => assumption); (case hoi => assumption); (case how => assumption); (case hi => assumption); (case hb => exact q1); (case hk2 => exact q2); (case hx => exact q3); (case hd => ktr_room); (case hu => ktr_units))
    intro vs' nn' h' tk' hi' F' N'
    try dsimp only at N'
    k_steps
    exact hret _ _ _ _ _ _ _ _ _ (by assumption) (by assumption) (by assumption) (by k_asm) (cb_drop (by k_asm) (by k_allIn)) (allLt_le lR (by omega)) (by omega)
  · rename x = 0 => hx1
    subst hx1
    have e1 : List.replicate (((Builtin.Int.intBits 0 : Int) + n - 1).fdiv n).toNat 0 = dg 0 n := by rw [dg_zero hn, e0, nd_zero hn]; rfl
    exact hret _ _ _ _ _ _ _ _ _ (by rw [← e1]; assumption) (by assumption) (by assumption) (by k_asm) (cb_drop (by k_asm) (by k_allIn)) (allLt_le lR (by omega)) (by omega)

theorem i2d_hit (w : World) {p : Program} {loose : List Str} {mean : ExcName → Option Value} {mg mb : Str → Option Value}
  {dp un : Nat} {gd : Option (List Code)} {cn : Str} {cs : Scope} {a : Addr} {ccd : Value} {cl : List (Str × Addr)} {outer : List Env} {A₀ : Around} {base h₀ : Heap} {L : Addr} {m : Str → Option Value} {news : List (Addr × Obj)} {s : Shared} {Q E : Value → Shared → Prop} {x n : Int} {tx tn : Tok} {c₀ : Addr} {oc₀ : Obj} {cv₀ : Array Value} {t₀ : Tok}
  (B : Below A₀ base outer h₀) (F : Fr h₀ L s.heap m) (X : (Mine.hd.heap_39 w.params).In h₀) (N : News h₀ L s.heap news) (T : Top p loose mean mg mb h₀) (hk : cs.kind = .function) (C30 : CodeHd base 34 30)
  (m30 : (30, tabObj #[rawInt 32, rawInt 4, .ref c₀]) ∈ news) (mc0 : (c₀, oc₀) ∈ news) (hoc0 : oc₀.data = .fields cv₀) (hcv0 : cv₀[1]? = some (.str (Str.ofString "_int2digits.<locals>.inner") t₀)) (hx0 : 0 ≤ x) (hn : 0 < n) (hn2 : n ≤ 1000) (h256 : nd x n ≤ 256)
  (hd : dp + 12 < recursionLimit) (hu : un + 100 < cLine)
  (hret : ∀ l nn vs h' tk', IntsAre vs (dg x n) → Fr h₀ L h' m → News h₀ L h' ((l, listOf vs.toArray nn) :: news) → (∀ p ∈ news, p.1 < l) → Q (.ref l) { s with heap := h', toks := tk' }) :
  wpAny (model PySem.Challenge.rw_mq0469_02.row.prog w) (ktrTop dp un gd cn cs L a ccd cl outer) (call (.ref 35) [.int x tx, .int n tn]) Q E s := by
  w_top off
  revert X; k_fill; intro X
  refine wpAny_call ?_
  k_dflt (refine' code_defC ?k1 ?k2 ?k3 ?k4 ?k5 ?kA ?kF ?kK ?k6 ?k7 ?k8 ?k9 ?kB ?kD ?_ ?c2 ?c3 ?c4; (case kA => exact rfl); (case kF => exact rfl); (case kK => assumption); (case k1 => k_asm); (case k2 => k_asm); (case k3 => k_asm); (case k4 => k_asm); (case k5 => k_asm); (case k6 => k_is); (case k7 => k_is); (case k8 => exact (by omega : dp < recursionLimit)); (case k9 => exact BindsTo.of_eq rfl); (case kB => exact rfl); (case kD => decide +kernel); (case c2 => exact rfl); (case c3 => exact rfl); (case c4 => exact rfl); k_whole; intro g' L' h' tk' cells' FG' F' N' Y' B' X' T' l1; obtain ⟨o1, o2, o3, hE', d1', d2', d3'⟩ := PyProof.Rows.CellsAre.three Y'; subst hE'; clear Y'; (try simp only [List.cons_append, List.nil_append] at N'); (try dsimp only); (try k_lift B'); (try k_fold))
  skip
  have lR := allLt_of l1
  have hb0 := (nd_facts hx0 hn).1
  have e0 : ((Builtin.Int.intBits x : Int) + n - 1).fdiv n = nd x n := rfl
  have hb1 : ((Builtin.Int.intBits x : Int) + n - 1).fdiv n ≤ 256 := h256
  have hb2 : 0 ≤ ((Builtin.Int.intBits x : Int) + n - 1).fdiv n := hb0
  replace d3' : o3.data = .cell (some (.int n tn)) := d3'
  replace d2' : o2.data = .cell none := d2'
  replace d1' : o1.data = .cell none := d1'
  skip
  clear l1
  k_steps
  · rename x ≠ 0 => hx1
    obtain ⟨q1, q2, q3⟩ := dg_first hx0 hx1 hn hn2 h256
    rw [← e0] at q1 q2 q3
    k_dflt (refine' InA.use (inA_all w _ _ _ _ _ _ _ _ _ _ ?hA 8) ?B ?C ?F ?X ?N ?T ?hk ?hf ?hca ?hoa ?U ?mf ?mc ?ma ?mi ?mw ?hoc ?hq ?hoi ?how ?hi ?hb ?hk2 ?hx ?hd ?hu ?_; (case B => k_asm); (case C => k_asm); (case F => k_asm); (case X => k_asm); (case N => k_asm); (case T => k_asm); (case hk => exact rfl); (case hf => k_mem); (case hA => exact rfl); (case hca => k_mem); (case hoa => assumption); (case U => k_updF); (case mf => (intro o9; dsimp only; k_mem)); (case mc => (intro o9; dsimp only; k_mem)); (case ma => (intro o9; dsimp only; k_mem)); (case mi => (intro o9; dsimp only; k_mem)); (case mw => (intro o9; dsimp only; k_mem)); (case hoc => assumption); (case hq => assumption); (case hoi => assumption); (case how => assumption); (case hi => assumption); (case hb => exact q1); (case hk2 => exact q2); (case hx => exact q3); (case hd => ktr_room); (case hu => ktr_units))
    intro vs' nn' h' tk' hi' F' N'
    try dsimp only at N'
    k_steps
    exact hret _ _ _ _ _ (by assumption) (by k_asm) (cb_drop (by k_asm) (by k_allIn)) (allLt_le lR (by omega))
  · rename x = 0 => hx1
    subst hx1
    have e1 : List.replicate (((Builtin.Int.intBits 0 : Int) + n - 1).fdiv n).toNat 0 = dg 0 n := by rw [dg_zero hn, e0, nd_zero hn]; rfl
    exact hret _ _ _ _ _ (by rw [← e1]; assumption) (by k_asm) (cb_drop (by k_asm) (by k_allIn)) (allLt_le lR (by omega))
end
end Mine
namespace Mine
/-- what a call of the def inner of _digits2int does, down to 2 ^ k places -/
def InB (prog : Program) (w : World) (K : Frag) (p : Program) (loose : List Str) (mean : ExcName → Option Value) (mg mb : Str → Option Value) (qual : Str) (params : Arguments) (body : List Stmt) (scope : Scope) (k : Nat) : Prop :=
  ∀ (dp un : Nat) (gd : Option (List Code)) (cn : Str) (cs : Scope) (a : Addr) (ccd : Value) (cl : List (Str × Addr)) (outer : List Env) (A₀ : Around) (base h₀ : Heap) (L : Addr) (m : Str → Option Value) (s : Shared) (Q E : Value → Shared → Prop)
    (f c' ca ci cw l : Addr) (oc oa oi ow : Obj) (cvs : Array Value) (t : Tok) (doc pm ctv : Value) (n : Int) (tn : Tok) (vs : List Value) (ns : List Int) (nn : Nat) (news : List (Addr × Obj)) (lo hi : Int) (tl th : Tok),
    Below A₀ base outer h₀ → CodeHd base 41 37 → Fr h₀ L s.heap m → K.In h₀ → News h₀ L s.heap news →
    Top p loose mean mg mb h₀ → cs.kind = .function →
    (f, (fnMade (Str.ofString "inner") qual params body scope [(Str.ofString "n", cw), (Str.ofString "inner", ci), (Str.ofString "digits", ca)] doc pm c' ctv)) ∈ news → (c', oc) ∈ news → (ca, oa) ∈ news → (ci, oi) ∈ news → (cw, ow) ∈ news → (l, listOf vs.toArray nn) ∈ news →
    oc.data = .fields cvs → cvs[1]? = some (.str qual t) → oa.data = .cell (some (.ref l)) → oi.data = .cell (some (.ref f)) → ow.data = .cell (some (.int n tn)) →
    IntsAre vs ns →
    (0 < n ∧ n ≤ 1000 ∧ 0 ≤ lo ∧ lo < hi ∧ hi ≤ ns.length ∧ ns.length ≤ 256) → hi - lo ≤ 2 ^ k → Digs n ns →
    dp + k + 1 < recursionLimit → un + 8 * (k + 1) < cLine →
    (∀ t' h' tk', Fr h₀ L h' m → News h₀ L h' news → Q (.int (vl n (slice ns lo hi)) t') { s with heap := h', toks := tk' }) →
    wpAny (model prog w) (ktrTop dp un gd cn cs L a ccd cl outer) (call (.ref f) [.int lo tl, .int hi th]) Q E s

theorem InB.use {prog : Program} {w : World} {K : Frag} {p : Program} {loose : List Str} {mean : ExcName → Option Value} {mg mb : Str → Option Value} {qual : Str} {params : Arguments} {body : List Stmt} {scope : Scope} {k : Nat}
    (I : InB prog w K p loose mean mg mb qual params body scope k)
    {dp un : Nat} {gd : Option (List Code)} {cn : Str} {cs : Scope} {a : Addr} {ccd : Value} {cl : List (Str × Addr)} {outer : List Env} {A₀ : Around} {base h₀ : Heap} {L : Addr} {m : Str → Option Value} {s : Shared} {Q E : Value → Shared → Prop}
    {f c' ca ci cw l : Addr} {oc oa oi ow : Obj} {cvs : Array Value} {t : Tok} {doc pm ctv : Value} {n : Int} {tn : Tok} {vs : List Value} {ns : List Int} {nn : Nat} {news : List (Addr × Obj)} {lo hi : Int} {tl th : Tok}
    (B : Below A₀ base outer h₀) (C37 : CodeHd base 41 37) (F : Fr h₀ L s.heap m) (X : K.In h₀) (N : News h₀ L s.heap news)
    (T : Top p loose mean mg mb h₀) (hk : cs.kind = .function)
    (mf : (f, (fnMade (Str.ofString "inner") qual params body scope [(Str.ofString "n", cw), (Str.ofString "inner", ci), (Str.ofString "digits", ca)] doc pm c' ctv)) ∈ news) (ma : (ca, oa) ∈ news) (hoa : oa.data = .cell (some (.ref l))) (mc : (c', oc) ∈ news) (mi : (ci, oi) ∈ news) (mw : (cw, ow) ∈ news) (ml : (l, listOf vs.toArray nn) ∈ news)
    (hoc : oc.data = .fields cvs) (hq : cvs[1]? = some (.str qual t)) (hoi : oi.data = .cell (some (.ref f))) (how : ow.data = .cell (some (.int n tn)))
    (hi' : IntsAre vs ns)
    (hb : 0 < n ∧ n ≤ 1000 ∧ 0 ≤ lo ∧ lo < hi ∧ hi ≤ ns.length ∧ ns.length ≤ 256) (hk2 : hi - lo ≤ 2 ^ k) (hD : Digs n ns)
    (hd : dp + k + 1 < recursionLimit) (hu : un + 8 * (k + 1) < cLine)
    (hret : ∀ t' h' tk', Fr h₀ L h' m → News h₀ L h' news → Q (.int (vl n (slice ns lo hi)) t') { s with heap := h', toks := tk' }) :
    wpAny (model prog w) (ktrTop dp un gd cn cs L a ccd cl outer) (call (.ref f) [.int lo tl, .int hi th]) Q E s :=
  I _ _ _ _ _ _ _ _ _ _ _ _ _ _ _ _ _ _ _ _ _ _ _ _ _ _ _ _ _ _ _ _ _ _ _ _ _ _ _ _ _ _ B C37 F X N T hk mf mc ma mi mw ml hoc hq hoa hoi how hi' hb hk2 hD hd hu hret

section
local macro_rules | `(tactic| k_all) => `(tactic| first | with_reducible assumption | exact allNe_le (by with_reducible assumption) (by omega) | ((rename ∀ _, AllLt _ _ => hR9); exact allNe_le (hR9 _) (by omega)))
local macro_rules | `(tactic| k_updF) => `(tactic| with_reducible assumption)
local macro_rules | `(tactic| k_mem) => `(tactic| first | exact memOf (by with_reducible assumption) | exact memOf (AllMem.at (by with_reducible assumption)) | fail "no such entry")
local macro_rules | `(tactic| k_allIn) => `(tactic| (intro p9 hp9; k_ownIn))
local macro_rules | `(tactic| walk_at "ite") => `(tactic| (k_here; k_openite; first | (refine ite_pos (by first | omega | (simp only [decide_eq_true_eq, beq_iff_eq, bne_iff_ne, ne_eq]; omega)) ?_) | (refine ite_neg (by first | omega | (simp only [decide_eq_true_eq, beq_iff_eq, bne_iff_ne, ne_eq]; omega)) ?_)))
local macro_rules | `(tactic| walk_at "binaryOp Mult ref int") => `(tactic| (k_here; (with_reducible show wpAny _ _ (binaryOp Operator.Mult (Value.ref _) (Value.int _ _)) _ _ _); k_dflt (refine' mulOne ?F ?N ?l ?lo ?hi ?_; (case F => k_asm); (case N => k_asm); (case l => is_list); (case lo => first | assumption | omega); (case hi => first | assumption | omega); k_whole); intro D' h' vs' hi' F' N' l1; (try k_lt l1)))
local macro_rules | `(tactic| walk_at "call builtin:len") => `(tactic| (k_here; (with_reducible show wpAny _ _ (call (Value.builtin "len") [Value.ref _]) _ _ _); k_dflt (refine' lenInts ?N ?m ?i ?f ?_; (case N => k_asm); (case m => k_mem); (case i => with_reducible assumption); (case f => (first | omega | (simp only [List.length_replicate]; omega))); k_whole); intro t' tk'))
local macro_rules | `(tactic| walk_at "truthy ref") => `(tactic| (k_here; k_dflt (refine' truthyInts ?N ?m ?i ?f ?_; (case N => k_asm); (case m => k_mem); (case i => with_reducible assumption); (case f => omega); k_whole); intro tk'))
local macro_rules | `(tactic| walk_at "call builtin:list.append") => `(tactic| (k_here; (with_reducible show wpAny _ _ (call (Value.builtin _) [Value.ref _, Value.int _ _]) _ _ _); k_dflt (refine' appendInts ?F ?N ?U ?hi ?hz ?_; (case F => k_asm); (case N => k_asm); (case U => k_upd); (case hi => with_reducible assumption); (case hz => omega); k_whole); intro h' F' N' hi'))
local macro_rules | `(tactic| walk_at "call builtin:list.reverse") => `(tactic| (k_here; (with_reducible show wpAny _ _ (call (Value.builtin _) [Value.ref _]) _ _ _); k_dflt (refine' reverseInts ?F ?N ?U ?hi ?hz ?_; (case F => k_asm); (case N => k_asm); (case U => k_upd); (case hi => with_reducible assumption); (case hz => omega); k_whole); intro h' F' N' hi'))
local macro_rules | `(tactic| walk_at "binaryOp LShift int int") => `(tactic| (k_here; k_dflt (refine' lshift_int ?a ?b ?_; (case a => first | assumption | omega); (case b => first | assumption | omega); k_whole)))
local macro_rules | `(tactic| walk_at "subscriptTail") => `(tactic| (k_here; (with_reducible show wpAny _ _ (subscriptTail _ _ (Value.ref _) (Value.int _ _)) _ _ _); k_dflt (refine' ksa_sub ?k1 ?k2 ?k3 ?k4 ?k5 ?k6 ?_ ?k7; (case k1 => k_asm); (case k2 => k_mem); (case k3 => with_reducible assumption); (case k4 => omega); (case k5 => omega); (case k6 => omega); (case k7 => with_unfolding_all rfl); k_whole); intro t9))
local macro_rules | `(tactic| walk_at "call ref") => `(tactic| (k_here; (rename InB _ _ _ _ _ _ _ _ _ _ _ _ _ => IHn); k_dflt (refine' InB.use IHn ?B ?C ?F ?X ?N ?T ?hk ?mf ?ma ?hoa ?mc ?mi ?mw ?ml ?hoc ?hq ?hoi ?how ?hi ?hb ?hk2 ?hD ?hd ?hu ?_; (case B => k_asm); (case C => k_asm); (case F => k_asm); (case X => k_asm); (case N => k_asm); (case T => k_asm); (case hk => exact rfl); (case mf => k_mem); (case ma => k_mem); (case hoa => assumption); (case mc => k_mem); (case mi => k_mem); (case mw => k_mem); (case ml => k_mem); (case hoc => assumption); (case hq => assumption); (case hoi => assumption); (case how => assumption); (case hi => assumption); (case hb => refine ⟨?_, ?_, ?_, ?_, ?_, ?_⟩ <;> first | assumption | omega); (case hk2 => first | assumption | omega); (case hD => assumption); (case hd => ktr_room); (case hu => ktr_units)); intro t' h' tk' F' N'))

theorem inB_step (w : World) (p : Program) (loose : List Str) (mean : ExcName → Option Value) (mg mb : Str → Option Value) (qual nm : Str) (params : Arguments) (body : List Stmt) (scope : Scope)
   (hA : defAt (Mine.hd.heap_39 w.params) 42 0 = some (nm, params, body, scope)) (k : Nat)
   (IH : ∀ j, k = j + 1 → InB PySem.Challenge.rw_mq0469_02.row.prog w (Mine.hd.heap_39 w.params) p loose mean mg mb qual params body scope j) : InB PySem.Challenge.rw_mq0469_02.row.prog w (Mine.hd.heap_39 w.params) p loose mean mg mb qual params body scope k := by
  w_top off
  k_fill
  unfold InB
  intro dp un gd cn cs a ccd cl outer A₀ base h₀ L m s Q E f c' ca ci cw l oc oa oi ow cvs t doc pm ctv n tn vs ns nn news lo hi tl th B C37 F X N T hk mf mc ma mi mw ml hoc hq hoa hoi how hi' hb hk2 hD hd hu hret
  cases hA
  refine wpAny_call ?_
  k_dflt (refine' code_nestL ?k1 ?k2 ?k3 ?k4 ?k5 ?kA ?kF ?kK ?k6 ?k7 ?k8 ?k9 ?kB ?_ ?c2 ?c3 ?c4 ?c5; (case kA => exact rfl); (case kF => exact rfl); (case kK => assumption); (case k1 => k_asm); (case k2 => k_asm); (case k3 => k_asm); (case k4 => k_asm); (case k5 => k_asm); (case k6 => k_mem); (case k7 => exact codeRec_news (by k_asm) (by k_mem) (by assumption) (by assumption)); (case k8 => exact (by omega : dp < recursionLimit)); (case k9 => exact BindsTo.of_eq rfl); (case c5 => decide); (case kB => exact locs rfl); (case c2 => exact rfl); (case c3 => exact rfl); (case c4 => exact rfl); k_whole; intro g' L' h' FG' F' N' B' X' T' l1; (try dsimp only); (try k_lift B'); (try k_fold))
  clear l1
  have hb' := hb
  obtain ⟨hn1, hn2, hl0, hlh, hhl, hlen⟩ := hb'
  by_cases h1 : lo + 1 = hi
  · have e1 := vl_one (ns := ns) (n := n) hl0 h1 hhl
    clear IH
    rw [e1] at hret
    k_steps
    exact hret _ _ _ (by k_asm) (by k_asm)
  · cases k with
    | zero => exfalso; omega
    | succ k =>
    have IHk := IH k rfl
    clear IH
    obtain ⟨m1, m2, k1, k2, s0, s1, sz, ev⟩ := halvesB hb hk2 hD h1
    rw [← ev] at hret
    k_steps
    exact hret _ _ _ (by k_asm) (by k_asm)
end
theorem inB_all (w : World) (p : Program) (loose : List Str) (mean : ExcName → Option Value) (mg mb : Str → Option Value) (qual nm : Str) (params : Arguments) (body : List Stmt) (scope : Scope)
   (hA : defAt (Mine.hd.heap_39 w.params) 42 0 = some (nm, params, body, scope)) : ∀ k : Nat, InB PySem.Challenge.rw_mq0469_02.row.prog w (Mine.hd.heap_39 w.params) p loose mean mg mb qual params body scope k
  | 0 => inB_step w p loose mean mg mb qual nm params body scope hA 0 (fun j h => nomatch h)
  | k + 1 => inB_step w p loose mean mg mb qual nm params body scope hA (k + 1) (fun j h => by cases h; exact inB_all w p loose mean mg mb qual nm params body scope hA k)

section
local macro_rules | `(tactic| k_all) => `(tactic| first | with_reducible assumption | exact allNe_le (by with_reducible assumption) (by omega) | ((rename ∀ _, AllLt _ _ => hR9); exact allNe_le (hR9 _) (by omega)))
local macro_rules | `(tactic| k_updF) => `(tactic| with_reducible assumption)
local macro_rules | `(tactic| k_mem) => `(tactic| first | exact memOf (by with_reducible assumption) | exact memOf (AllMem.at (by with_reducible assumption)) | fail "no such entry")
local macro_rules | `(tactic| k_allIn) => `(tactic| (intro p9 hp9; k_ownIn))
local macro_rules | `(tactic| walk_at "ite") => `(tactic| (k_here; k_openite; first | (refine ite_pos (by first | omega | (simp only [decide_eq_true_eq, beq_iff_eq, bne_iff_ne, ne_eq]; omega)) ?_) | (refine ite_neg (by first | omega | (simp only [decide_eq_true_eq, beq_iff_eq, bne_iff_ne, ne_eq]; omega)) ?_)))
local macro_rules | `(tactic| walk_at "binaryOp Mult ref int") => `(tactic| (k_here; (with_reducible show wpAny _ _ (binaryOp Operator.Mult (Value.ref _) (Value.int _ _)) _ _ _); k_dflt (refine' mulOne ?F ?N ?l ?lo ?hi ?_; (case F => k_asm); (case N => k_asm); (case l => is_list); (case lo => first | assumption | omega); (case hi => first | assumption | omega); k_whole); intro D' h' vs' hi' F' N' l1; (try k_lt l1)))
local macro_rules | `(tactic| walk_at "call builtin:len") => `(tactic| (k_here; (with_reducible show wpAny _ _ (call (Value.builtin "len") [Value.ref _]) _ _ _); k_dflt (refine' lenInts ?N ?m ?i ?f ?_; (case N => k_asm); (case m => k_mem); (case i => with_reducible assumption); (case f => (first | omega | (simp only [List.length_replicate]; omega))); k_whole); intro t' tk'))
local macro_rules | `(tactic| walk_at "truthy ref") => `(tactic| (k_here; k_dflt (refine' truthyInts ?N ?m ?i ?f ?_; (case N => k_asm); (case m => k_mem); (case i => with_reducible assumption); (case f => omega); k_whole); intro tk'))
local macro_rules | `(tactic| walk_at "call builtin:list.append") => `(tactic| (k_here; (with_reducible show wpAny _ _ (call (Value.builtin _) [Value.ref _, Value.int _ _]) _ _ _); k_dflt (refine' appendInts ?F ?N ?U ?hi ?hz ?_; (case F => k_asm); (case N => k_asm); (case U => k_upd); (case hi => with_reducible assumption); (case hz => omega); k_whole); intro h' F' N' hi'))
local macro_rules | `(tactic| walk_at "call builtin:list.reverse") => `(tactic| (k_here; (with_reducible show wpAny _ _ (call (Value.builtin _) [Value.ref _]) _ _ _); k_dflt (refine' reverseInts ?F ?N ?U ?hi ?hz ?_; (case F => k_asm); (case N => k_asm); (case U => k_upd); (case hi => with_reducible assumption); (case hz => omega); k_whole); intro h' F' N' hi'))
local macro_rules | `(tactic| walk_at "binaryOp LShift int int") => `(tactic| (k_here; k_dflt (refine' lshift_int ?a ?b ?_; (case a => first | assumption | omega); (case b => first | assumption | omega); k_whole)))
local macro_rules | `(tactic| walk_at "subscriptTail") => `(tactic| (k_here; (with_reducible show wpAny _ _ (subscriptTail _ _ (Value.ref _) (Value.int _ _)) _ _ _); k_dflt (refine' ksa_sub ?k1 ?k2 ?k3 ?k4 ?k5 ?k6 ?_ ?k7; (case k1 => k_asm); (case k2 => k_mem); (case k3 => with_reducible assumption); (case k4 => omega); (case k5 => omega); (case k6 => omega); (case k7 => with_unfolding_all rfl); k_whole); intro t9))

theorem d2i_fresh (w : World) {p : Program} {loose : List Str} {mean : ExcName → Option Value} {mg mb : Str → Option Value}
  {dp un : Nat} {gd : Option (List Code)} {cn : Str} {cs : Scope} {a : Addr} {ccd : Value} {cl : List (Str × Addr)} {outer : List Env} {A₀ : Around} {base h₀ : Heap} {L : Addr} {m : Str → Option Value} {news : List (Addr × Obj)} {s : Shared} {Q E : Value → Shared → Prop} {g : Obj → List (Addr × Obj)} {ld : Addr} {vs : List Value} {ns : List Int} {nn : Nat} {n : Int} {tn : Tok}
  (B : Below A₀ base outer h₀) (F : Fr h₀ L s.heap m) (X : (Mine.hd.heap_39 w.params).In h₀) (N : News h₀ L s.heap news) (T : Top p loose mean mg mb h₀) (hk : cs.kind = .function) (C37 : CodeHd base 41 37)
  (U37 : UpdF 37 (tabObj #[]) news g) (ml' : AllMem g ld (listOf vs.toArray nn)) (hi' : IntsAre vs ns) (hn : 0 < n) (hn2 : n ≤ 1000) (h256 : ns.length ≤ 256) (hD : Digs n ns)
  (hd : dp + 12 < recursionLimit) (hu : un + 100 < cLine)
  (hret : ∀ c' oc cvs t t' h' tk', oc.data = .fields cvs → cvs[1]? = some (.str (Str.ofString "_digits2int.<locals>.inner") t) → Fr h₀ L h' m → News h₀ L h' ((c', oc) :: g (tabObj #[rawInt 47, rawInt 4, .ref c'])) → (∀ p ∈ news, p.1 < c') → Q (.int (vl n ns) t') { s with heap := h', toks := tk' }) :
  wpAny (model PySem.Challenge.rw_mq0469_02.row.prog w) (ktrTop dp un gd cn cs L a ccd cl outer) (call (.ref 42) [.ref ld, .int n tn]) Q E s := by
  w_top off
  revert X; k_fill; intro X
  refine wpAny_call ?_
  k_dflt (refine' code_defC ?k1 ?k2 ?k3 ?k4 ?k5 ?kA ?kF ?kK ?k6 ?k7 ?k8 ?k9 ?kB ?kD ?_ ?c2 ?c3 ?c4; (case kA => exact rfl); (case kF => exact rfl); (case kK => assumption); (case k1 => k_asm); (case k2 => k_asm); (case k3 => k_asm); (case k4 => k_asm); (case k5 => k_asm); (case k6 => k_is); (case k7 => k_is); (case k8 => exact (by omega : dp < recursionLimit)); (case k9 => exact BindsTo.of_eq rfl); (case kB => exact rfl); (case kD => decide +kernel); (case c2 => exact rfl); (case c3 => exact rfl); (case c4 => exact rfl); k_whole; intro g' L' h' tk' cells' FG' F' N' Y' B' X' T' l1; obtain ⟨o1, o2, o3, hE', d1', d2', d3'⟩ := PyProof.Rows.CellsAre.three Y'; subst hE'; clear Y'; (try simp only [List.cons_append, List.nil_append] at N'); (try dsimp only); (try k_lift B'); (try k_fold))
  have l37 : @LT.lt Nat _ 37 L' := l1 _ (UpdF.mem U37)
  have lR := allLt_of l1
  replace d3' : o3.data = .cell (some (.ref ld)) := d3'
  replace d2' : o2.data = .cell (some (.int n tn)) := d2'
  replace d1' : o1.data = .cell none := d1'
  have lRg := AllLt.upd U37 lR
  clear l1
  by_cases hz : ns.length = 0
  · have e0 : vl n ns = 0 := by rw [List.eq_nil_of_length_eq_zero hz]; rfl
    rw [e0] at hret
    k_steps
    exact hret _ _ _ _ _ _ _ (by assumption) (by assumption) (by k_asm) (cb_drop (by k_asm) (by k_allIn)) (allLt_le lR (by omega))
  · have hz1 : 0 < ns.length := Nat.pos_of_ne_zero hz
    k_steps
    k_dflt (refine' InB.use (inB_all w _ _ _ _ _ _ _ _ _ _ ?hA 8) ?B ?C ?F ?X ?N ?T ?hk ?mf ?ma ?hoa ?mc ?mi ?mw ?ml ?hoc ?hq ?hoi ?how ?hi ?hb ?hk2 ?hD ?hd ?hu ?_; (case B => k_asm); (case C => k_asm); (case F => k_asm); (case X => k_asm); (case N => k_asm); (case T => k_asm); (case hk => exact rfl); (case mf => k_mem); (case hA => exact rfl); (case ma => k_mem); (case hoa => assumption); (case mc => k_mem); (case mi => k_mem); (case mw => k_mem); (case ml => k_mem); (case hoc => assumption); (case hq => assumption); (case hoi => assumption); (case how => assumption); (case hi => assumption); (case hb => refine ⟨?_, ?_, ?_, ?_, ?_, ?_⟩ <;> first | assumption | omega); (case hk2 => first | assumption | omega); (case hD => assumption); (case hd => ktr_room); (case hu => ktr_units))
    intro t' h' tk' F' N'
    rw [slice_all]
    k_steps
    exact hret _ _ _ _ _ _ _ (by assumption) (by assumption) (by k_asm) (cb_drop (by k_asm) (by k_allIn)) (allLt_le lR (by omega))

theorem d2i_hit (w : World) {p : Program} {loose : List Str} {mean : ExcName → Option Value} {mg mb : Str → Option Value}
  {dp un : Nat} {gd : Option (List Code)} {cn : Str} {cs : Scope} {a : Addr} {ccd : Value} {cl : List (Str × Addr)} {outer : List Env} {A₀ : Around} {base h₀ : Heap} {L : Addr} {m : Str → Option Value} {news : List (Addr × Obj)} {s : Shared} {Q E : Value → Shared → Prop} {ld : Addr} {vs : List Value} {ns : List Int} {nn : Nat} {n : Int} {tn : Tok} {c₀ : Addr} {oc₀ : Obj} {cv₀ : Array Value} {t₀ : Tok}
  (B : Below A₀ base outer h₀) (F : Fr h₀ L s.heap m) (X : (Mine.hd.heap_39 w.params).In h₀) (N : News h₀ L s.heap news) (T : Top p loose mean mg mb h₀) (hk : cs.kind = .function) (C37 : CodeHd base 41 37)
  (m37 : (37, tabObj #[rawInt 47, rawInt 4, .ref c₀]) ∈ news) (mc0 : (c₀, oc₀) ∈ news) (hoc0 : oc₀.data = .fields cv₀) (hcv0 : cv₀[1]? = some (.str (Str.ofString "_digits2int.<locals>.inner") t₀)) (ml : (ld, listOf vs.toArray nn) ∈ news) (hi' : IntsAre vs ns) (hn : 0 < n) (hn2 : n ≤ 1000) (h256 : ns.length ≤ 256) (hD : Digs n ns)
  (hd : dp + 12 < recursionLimit) (hu : un + 100 < cLine)
  (hret : ∀ t' h' tk', Fr h₀ L h' m → News h₀ L h' news → Q (.int (vl n ns) t') { s with heap := h', toks := tk' }) :
  wpAny (model PySem.Challenge.rw_mq0469_02.row.prog w) (ktrTop dp un gd cn cs L a ccd cl outer) (call (.ref 42) [.ref ld, .int n tn]) Q E s := by
  w_top off
  revert X; k_fill; intro X
  refine wpAny_call ?_
  k_dflt (refine' code_defC ?k1 ?k2 ?k3 ?k4 ?k5 ?kA ?kF ?kK ?k6 ?k7 ?k8 ?k9 ?kB ?kD ?_ ?c2 ?c3 ?c4; (case kA => exact rfl); (case kF => exact rfl); (case kK => assumption); (case k1 => k_asm); (case k2 => k_asm); (case k3 => k_asm); (case k4 => k_asm); (case k5 => k_asm); (case k6 => k_is); (case k7 => k_is); (case k8 => exact (by omega : dp < recursionLimit)); (case k9 => exact BindsTo.of_eq rfl); (case kB => exact rfl); (case kD => decide +kernel); (case c2 => exact rfl); (case c3 => exact rfl); (case c4 => exact rfl); k_whole; intro g' L' h' tk' cells' FG' F' N' Y' B' X' T' l1; obtain ⟨o1, o2, o3, hE', d1', d2', d3'⟩ := PyProof.Rows.CellsAre.three Y'; subst hE'; clear Y'; (try simp only [List.cons_append, List.nil_append] at N'); (try dsimp only); (try k_lift B'); (try k_fold))
  skip
  have lR := allLt_of l1
  replace d3' : o3.data = .cell (some (.ref ld)) := d3'
  replace d2' : o2.data = .cell (some (.int n tn)) := d2'
  replace d1' : o1.data = .cell none := d1'
  skip
  clear l1
  by_cases hz : ns.length = 0
  · have e0 : vl n ns = 0 := by rw [List.eq_nil_of_length_eq_zero hz]; rfl
    rw [e0] at hret
    k_steps
    exact hret _ _ _ (by k_asm) (cb_drop (by k_asm) (by k_allIn))
  · have hz1 : 0 < ns.length := Nat.pos_of_ne_zero hz
    k_steps
    k_dflt (refine' InB.use (inB_all w _ _ _ _ _ _ _ _ _ _ ?hA 8) ?B ?C ?F ?X ?N ?T ?hk ?mf ?ma ?hoa ?mc ?mi ?mw ?ml ?hoc ?hq ?hoi ?how ?hi ?hb ?hk2 ?hD ?hd ?hu ?_; (case B => k_asm); (case C => k_asm); (case F => k_asm); (case X => k_asm); (case N => k_asm); (case T => k_asm); (case hk => exact rfl); (case mf => k_mem); (case hA => exact rfl); (case ma => k_mem); (case hoa => assumption); (case mc => k_mem); (case mi => k_mem); (case mw => k_mem); (case ml => k_mem); (case hoc => assumption); (case hq => assumption); (case hoi => assumption); (case how => assumption); (case hi => assumption); (case hb => refine ⟨?_, ?_, ?_, ?_, ?_, ?_⟩ <;> first | assumption | omega); (case hk2 => first | assumption | omega); (case hD => assumption); (case hd => ktr_room); (case hu => ktr_units))
    intro t' h' tk' F' N'
    rw [slice_all]
    k_steps
    exact hret _ _ _ (by k_asm) (cb_drop (by k_asm) (by k_allIn))
end
end Mine
namespace Mine
section
local macro_rules | `(tactic| k_all) => `(tactic| first | with_reducible assumption | exact allNe_le (by with_reducible assumption) (by omega) | ((rename ∀ _, AllLt _ _ => hR9); exact allNe_le (hR9 _) (by omega)))
local macro_rules | `(tactic| k_updF) => `(tactic| with_reducible assumption)
local macro_rules | `(tactic| k_mem) => `(tactic| first | exact memOf (by with_reducible assumption) | exact memOf (AllMem.at (by with_reducible assumption)) | fail "no such entry")
local macro_rules | `(tactic| k_allIn) => `(tactic| (intro p9 hp9; k_ownIn))
local macro_rules | `(tactic| walk_at "ite") => `(tactic| (k_here; k_openite; first | (refine ite_pos (by first | omega | (simp only [decide_eq_true_eq, beq_iff_eq, bne_iff_ne, ne_eq]; omega)) ?_) | (refine ite_neg (by first | omega | (simp only [decide_eq_true_eq, beq_iff_eq, bne_iff_ne, ne_eq]; omega)) ?_)))
local macro_rules | `(tactic| walk_at "binaryOp Mult ref int") => `(tactic| (k_here; (with_reducible show wpAny _ _ (binaryOp Operator.Mult (Value.ref _) (Value.int _ _)) _ _ _); k_dflt (refine' mulOne ?F ?N ?l ?lo ?hi ?_; (case F => k_asm); (case N => k_asm); (case l => is_list); (case lo => first | assumption | omega); (case hi => first | assumption | omega); k_whole); intro D' h' vs' hi' F' N' l1; (try k_lt l1)))
local macro_rules | `(tactic| walk_at "call builtin:len") => `(tactic| (k_here; (with_reducible show wpAny _ _ (call (Value.builtin "len") [Value.ref _]) _ _ _); k_dflt (refine' lenInts ?N ?m ?i ?f ?_; (case N => k_asm); (case m => k_mem); (case i => with_reducible assumption); (case f => (first | omega | (simp only [List.length_replicate]; omega))); k_whole); intro t' tk'))
local macro_rules | `(tactic| walk_at "truthy ref") => `(tactic| (k_here; k_dflt (refine' truthyInts ?N ?m ?i ?f ?_; (case N => k_asm); (case m => k_mem); (case i => with_reducible assumption); (case f => omega); k_whole); intro tk'))
local macro_rules | `(tactic| walk_at "call builtin:list.append") => `(tactic| (k_here; (with_reducible show wpAny _ _ (call (Value.builtin _) [Value.ref _, Value.int _ _]) _ _ _); k_dflt (refine' appendInts ?F ?N ?U ?hi ?hz ?_; (case F => k_asm); (case N => k_asm); (case U => k_upd); (case hi => with_reducible assumption); (case hz => omega); k_whole); intro h' F' N' hi'))
local macro_rules | `(tactic| walk_at "call builtin:list.reverse") => `(tactic| (k_here; (with_reducible show wpAny _ _ (call (Value.builtin _) [Value.ref _]) _ _ _); k_dflt (refine' reverseInts ?F ?N ?U ?hi ?hz ?_; (case F => k_asm); (case N => k_asm); (case U => k_upd); (case hi => with_reducible assumption); (case hz => omega); k_whole); intro h' F' N' hi'))
local macro_rules | `(tactic| walk_at "binaryOp LShift int int") => `(tactic| (k_here; k_dflt (refine' lshift_int ?a ?b ?_; (case a => first | assumption | omega); (case b => first | assumption | omega); k_whole)))
local macro_rules | `(tactic| walk_at "call builtin:divmod") => `(tactic| (k_here; (with_reducible show wpAny _ _ (call (Value.builtin _) [Value.int _ _, Value.int _ _]) _ _ _); k_dflt (refine' divmodK ?F ?N ?b ?p ?_; (case F => k_asm); (case N => k_asm); (case b => omega); (case p => assumption); k_whole); intro D' t1' t2' h' tk' F' N' l1; (try k_lt l1)))

theorem div_spec (w : World) {p : Program} {loose : List Str} {mean : ExcName → Option Value} {mg mb : Str → Option Value}
  {dp un : Nat} {gd : Option (List Code)} {cn : Str} {cs : Scope} {a : Addr} {ccd : Value} {cl : List (Str × Addr)} {outer : List Env} {A₀ : Around} {base h₀ : Heap} {L : Addr} {m : Str → Option Value} {news : List (Addr × Obj)} {s : Shared} {Q E : Value → Shared → Prop} {x b n : Int} {tx tb tn : Tok}
  (B : Below A₀ base outer h₀) (F : Fr h₀ L s.heap m) (X : (Mine.hd.heap_39 w.params).In h₀) (N : News h₀ L s.heap news) (T : Top p loose mean mg mb h₀) (hk : cs.kind = .function)
  (hb : 0 < b) (hbb : Builtin.Int.intBits b ≤ 1000) (hxb : (Builtin.Int.intBits x : Int) - n ≤ 4000)
  (hd : dp + 1 < recursionLimit)
  (hret : ∀ l t1 t2 h' tk', Fr h₀ L h' m → News h₀ L h' ((l, tupOf #[.int (x / b) t1, .int (x % b) t2]) :: news) → (∀ p ∈ news, p.1 < l) → Q (.ref l) { s with heap := h', toks := tk' }) :
  wpAny (model PySem.Challenge.rw_mq0469_02.row.prog w) (ktrTop dp un gd cn cs L a ccd cl outer) (call (.ref 21) [.int x tx, .int b tb, .int n tn]) Q E s := by
  w_top off
  revert X; k_fill; intro X
  refine wpAny_call ?_
  k_dflt (refine' code_defL ?k1 ?k2 ?k3 ?k4 ?k5 ?kA ?kF ?kK ?k6 ?k7 ?k8 ?k9 ?kB ?_ ?c2 ?c3 ?c4 ?c5; (case kA => exact rfl); (case kF => exact rfl); (case kK => assumption); (case k1 => k_asm); (case k2 => k_asm); (case k3 => k_asm); (case k4 => k_asm); (case k5 => k_asm); (case k6 => k_is); (case k7 => k_is); (case k8 => exact (by omega : dp < recursionLimit)); (case k9 => exact BindsTo.of_eq rfl); (case c5 => decide); (case kB => exact locs rfl); (case c2 => exact rfl); (case c3 => exact rfl); (case c4 => exact rfl); k_whole; intro g' L' h' FG' F' N' B' X' T' l1; (try dsimp only); (try k_lift B'); (try k_fold))
  have hnp : ∀ {x : Int}, Builtin.divisionGoesByPylong x b = false := noPy hb hbb
  have lR := allLt_of l1
  clear l1
  rw [← Int.fdiv_eq_ediv_of_nonneg _ (Int.le_of_lt hb), ← Int.fmod_eq_emod_of_nonneg _ (Int.le_of_lt hb)] at hret
  k_steps
  exact hret _ _ _ _ _ (by k_asm) (by k_asm) (by assumption)
end
end Mine
namespace Mine
/-- the state of _divmod_pos between two turns -/
structure DC where
  r : Int
  V : Int
  qs : List Int
  rv : Option Value
  q : Option Value
  a : Option Value
  vq : List Value
  nq : Nat
def DS (b n x : Int) (rs : List Int) (c : DC) : Prop := (∃ t, c.rv = some (.int c.r t)) ∧ Dv b n c.V c.r c.qs ∧ IntsAre c.vq c.qs ∧ (∀ d ∈ rs, 0 ≤ d ∧ d < 2 ^ n.toNat) ∧ rs.foldl (fun V d => d + 2 ^ n.toNat * V) c.V = x ∧ c.qs.length + rs.length ≤ 256
section
local macro_rules | `(tactic| k_all) => `(tactic| first | with_reducible assumption | exact allNe_le (by with_reducible assumption) (by omega) | ((rename ∀ _, AllLt _ _ => hR9); exact allNe_le (hR9 _) (by omega)))
local macro_rules | `(tactic| k_updF) => `(tactic| with_reducible assumption)
local macro_rules | `(tactic| k_mem) => `(tactic| first | exact memOf (by with_reducible assumption) | exact memOf (AllMem.at (by with_reducible assumption)) | fail "no such entry")
local macro_rules | `(tactic| k_allIn) => `(tactic| (intro p9 hp9; k_ownIn))
local macro_rules | `(tactic| walk_at "ite") => `(tactic| (k_here; k_openite; first | (refine ite_pos (by first | omega | (simp only [decide_eq_true_eq, beq_iff_eq, bne_iff_ne, ne_eq]; omega)) ?_) | (refine ite_neg (by first | omega | (simp only [decide_eq_true_eq, beq_iff_eq, bne_iff_ne, ne_eq]; omega)) ?_)))
local macro_rules | `(tactic| walk_at "binaryOp Mult ref int") => `(tactic| (k_here; (with_reducible show wpAny _ _ (binaryOp Operator.Mult (Value.ref _) (Value.int _ _)) _ _ _); k_dflt (refine' mulOne ?F ?N ?l ?lo ?hi ?_; (case F => k_asm); (case N => k_asm); (case l => is_list); (case lo => first | assumption | omega); (case hi => first | assumption | omega); k_whole); intro D' h' vs' hi' F' N' l1; (try k_lt l1)))
local macro_rules | `(tactic| walk_at "call builtin:len") => `(tactic| (k_here; (with_reducible show wpAny _ _ (call (Value.builtin "len") [Value.ref _]) _ _ _); k_dflt (refine' lenInts ?N ?m ?i ?f ?_; (case N => k_asm); (case m => k_mem); (case i => with_reducible assumption); (case f => (first | omega | (simp only [List.length_replicate]; omega))); k_whole); intro t' tk'))
local macro_rules | `(tactic| walk_at "truthy ref") => `(tactic| (k_here; k_dflt (refine' truthyInts ?N ?m ?i ?f ?_; (case N => k_asm); (case m => k_mem); (case i => with_reducible assumption); (case f => omega); k_whole); intro tk'))
local macro_rules | `(tactic| walk_at "call builtin:list.append") => `(tactic| (k_here; (with_reducible show wpAny _ _ (call (Value.builtin _) [Value.ref _, Value.int _ _]) _ _ _); k_dflt (refine' appendInts ?F ?N ?U ?hi ?hz ?_; (case F => k_asm); (case N => k_asm); (case U => k_upd); (case hi => with_reducible assumption); (case hz => omega); k_whole); intro h' F' N' hi'))
local macro_rules | `(tactic| walk_at "call builtin:list.reverse") => `(tactic| (k_here; (with_reducible show wpAny _ _ (call (Value.builtin _) [Value.ref _]) _ _ _); k_dflt (refine' reverseInts ?F ?N ?U ?hi ?hz ?_; (case F => k_asm); (case N => k_asm); (case U => k_upd); (case hi => with_reducible assumption); (case hz => omega); k_whole); intro h' F' N' hi'))
local macro_rules | `(tactic| walk_at "binaryOp LShift int int") => `(tactic| (k_here; k_dflt (refine' lshift_int ?a ?b ?_; (case a => first | assumption | omega); (case b => first | assumption | omega); k_whole)))
local macro_rules | `(tactic| walk_at "call ref") => `(tactic| (k_here; (with_reducible show wpAny _ _ (call (Value.ref 35) [Value.int _ _, Value.int _ _]) _ _ _); k_dflt (refine' i2d_hit _ ?B ?F ?X ?N ?T ?hk ?C ?m30 ?mc0 ?hoc ?hcv ?hx ?hn ?hn2 ?h256 ?hd ?hu ?_; (case B => k_asm); (case F => k_asm); (case X => k_asm); (case N => k_asm); (case T => k_asm); (case hk => exact rfl); (case C => first | assumption | exact CodeHd.keeps (by assumption) (Below.stays (by assumption))); (case m30 => k_mem); (case mc0 => k_mem); (case hoc => assumption); (case hcv => assumption); (case hx => first | assumption | omega); (case hn => first | assumption | omega); (case hn2 => first | assumption | omega); (case h256 => first | assumption | omega);(case hd => first | ktr_room | omega); (case hu => first | ktr_units | omega)); intro l' nn' vs' h' tk' hi' F' N' l1; (try k_lt l1)))
local macro_rules | `(tactic| walk_at "call ref") => `(tactic| (k_here; (with_reducible show wpAny _ _ (call (Value.ref 42) [Value.ref _, Value.int _ _]) _ _ _); k_dflt (refine' d2i_hit _ ?B ?F ?X ?N ?T ?hk ?C ?m37 ?mc0 ?hoc ?hcv ?ml ?hi ?hn ?hn2 ?h256 ?hD ?hd ?hu ?_; (case B => k_asm); (case F => k_asm); (case X => k_asm); (case N => k_asm); (case T => k_asm); (case hk => exact rfl); (case C => first | assumption | exact CodeHd.keeps (by assumption) (Below.stays (by assumption))); (case m37 => k_mem); (case mc0 => k_mem); (case hoc => assumption); (case hcv => assumption); (case ml => k_mem); (case hi => assumption); (case hn => first | assumption | omega); (case hn2 => first | assumption | omega); (case h256 => first | assumption | omega);(case hD => assumption); (case hd => first | ktr_room | omega); (case hu => first | ktr_units | omega)); intro t' h' tk' F' N'))
local macro_rules | `(tactic| walk_at "call ref") => `(tactic| (k_here; (with_reducible show wpAny _ _ (call (Value.ref 21) [Value.int _ _, Value.int _ _, Value.int _ _]) _ _ _); k_dflt (refine' div_spec _ ?B ?F ?X ?N ?T ?hk ?hb ?hbb ?hxb ?hd ?_; (case B => k_asm); (case F => k_asm); (case X => k_asm); (case N => k_asm); (case T => k_asm); (case hk => exact rfl); (case hb => first | assumption | omega); (case hbb => first | assumption | omega); (case hxb => first | assumption | omega);(case hd => first | ktr_room | omega)); intro l' t1' t2' h' tk' F' N' l1; (try k_lt l1)))
local macro_rules | `(tactic| walk_at "exec For Name Call cons nil") => `(tactic| (k_here; (rename Fr _ _ _ _ => lF'); (with_unfolding_all refine' For_invVF lF' ?k1 ?k2 ?_; (case k1 => exact rfl); (case k2 => exact rfl); k_whole)))
local macro_rules | `(tactic| walk_at "exec For Name Name cons nil") => `(tactic| (k_here; (rename Fr _ _ _ _ => lF'); (with_unfolding_all refine' For_invVF lF' ?k1 ?k2 ?_; (case k1 => exact rfl); (case k2 => exact rfl); k_whole)))
local macro_rules | `(tactic| walk_at "exec While Compare cons nil") => `(tactic| (k_here; k_dflt (refine whl_hold ?_)))

theorem dm_hit (w : World) {p : Program} {loose : List Str} {mean : ExcName → Option Value} {mg mb : Str → Option Value}
  {dp un : Nat} {gd : Option (List Code)} {cn : Str} {cs : Scope} {a : Addr} {ccd : Value} {cl : List (Str × Addr)} {outer : List Env} {A₀ : Around} {base h₀ : Heap} {L : Addr} {m : Str → Option Value} {news : List (Addr × Obj)} {s : Shared} {Q E : Value → Shared → Prop} {x b : Int} {tx tb : Tok} {c₃ c₄ : Addr} {oc₃ oc₄ : Obj} {cv₃ cv₄ : Array Value} {t₃ t₄ : Tok}
  (B : Below A₀ base outer h₀) (F : Fr h₀ L s.heap m) (X : (Mine.hd.heap_39 w.params).In h₀) (N : News h₀ L s.heap news) (T : Top p loose mean mg mb h₀) (hk : cs.kind = .function) (C30 : CodeHd base 34 30) (C37 : CodeHd base 41 37) (m30 : (30, tabObj #[rawInt 32, rawInt 4, .ref c₃]) ∈ news) (mc3 : (c₃, oc₃) ∈ news) (hoc3 : oc₃.data = .fields cv₃) (hcv3 : cv₃[1]? = some (.str (Str.ofString "_int2digits.<locals>.inner") t₃)) (m37 : (37, tabObj #[rawInt 47, rawInt 4, .ref c₄]) ∈ news) (mc4 : (c₄, oc₄) ∈ news) (hoc4 : oc₄.data = .fields cv₄) (hcv4 : cv₄[1]? = some (.str (Str.ofString "_digits2int.<locals>.inner") t₄))
  (hx0 : 0 ≤ x) (hb : 0 < b) (hxb : Builtin.Int.intBits x ≤ 256) (hbb : Builtin.Int.intBits b ≤ 256)
  (hd : dp + 14 < recursionLimit) (hu : un + 120 < cLine)
  (hret : ∀ l t1 t2 h' tk', Fr h₀ L h' m → News h₀ L h' ((l, tupOf #[.int (x / b) t1, .int (x % b) t2]) :: news) → (∀ p ∈ news, p.1 < l) → Q (.ref l) { s with heap := h', toks := tk' }) :
  wpAny (model PySem.Challenge.rw_mq0469_02.row.prog w) (ktrTop dp un gd cn cs L a ccd cl outer) (call (.ref 49) [.int x tx, .int b tb]) Q E s := by
  w_top off
  revert X; k_fill; intro X
  refine wpAny_call ?_
  k_dflt (refine' code_defL ?k1 ?k2 ?k3 ?k4 ?k5 ?kA ?kF ?kK ?k6 ?k7 ?k8 ?k9 ?kB ?_ ?c2 ?c3 ?c4 ?c5; (case kA => exact rfl); (case kF => exact rfl); (case kK => assumption); (case k1 => k_asm); (case k2 => k_asm); (case k3 => k_asm); (case k4 => k_asm); (case k5 => k_asm); (case k6 => k_is); (case k7 => k_is); (case k8 => exact (by omega : dp < recursionLimit)); (case k9 => exact BindsTo.of_eq rfl); (case c5 => decide); (case kB => exact locs rfl); (case c2 => exact rfl); (case c3 => exact rfl); (case c4 => exact rfl); k_whole; intro g' L' h' FG' F' N' B' X' T' l1; (try dsimp only); (try k_lift B'); (try k_fold))
  have lR := allLt_of l1
  clear l1
  have hb1 := bits_pos hb
  have hn : 0 < (Builtin.Int.intBits b : Int) := by omega
  have h256 := nd_le hx0 hn hxb
  k_steps
  rename Fr _ _ _ _ => F9
  rename News _ _ _ ((_, revObj _ _) :: _) => N9
  obtain ⟨D, lq, l, vs, nn, rfl, rfl, rfl, rfl, rfl⟩ := named5 N9
  have hi : IntsAre vs (dg x (Builtin.Int.intBits b)) := by assumption
  have la : ∀ p ∈ news, p.1 < l := by assumption
  have lb : @LT.lt Nat _ l lq ∧ AllLt lq news := by assumption
  have lc : @LT.lt Nat _ lq D ∧ @LT.lt Nat _ l D ∧ AllLt D news := by assumption
  have hmem := fun (c : DC) => (show (l, listOf vs.toArray nn) ∈ (lq, listOf c.vq.toArray c.nq) :: (l, listOf vs.toArray nn) :: news from .tail _ (.head _))
  refine revLoop (σ := DC) (fun c m z => if z = Str.ofString "r" then c.rv else if z = Str.ofString "q_digit" then c.q else if z = Str.ofString "a_digit" then c.a else m z) (fun c => (lq, listOf c.vq.toArray c.nq) :: (l, listOf vs.toArray nn) :: news) (DS b (Builtin.Int.intBits b) x) (fun m => ⟨0, 0, [], m (Str.ofString "r"), m (Str.ofString "q_digit"), m (Str.ofString "a_digit"), [], 0⟩) rfl F9 N9 ?sub ?hI hmem hi ?h0 ?hS ?nil ?cons
  case sub => k_allIn
  case hI => exact fun c => List.forall_mem_cons.mpr ⟨Nat.ne_of_lt lc.1, List.forall_mem_cons.mpr ⟨Nat.ne_of_lt lc.2.1, allNe_of lc.2.2⟩⟩
  case h0 =>
    intro z
    by_cases h0 : z = Str.ofString "r"
    · subst h0; rfl
    by_cases h1 : z = Str.ofString "q_digit"
    · subst h1; rfl
    by_cases h2 : z = Str.ofString "a_digit"
    · subst h2; rfl
    simp only [h0, h1, h2, if_false]
  case hS => exact ⟨⟨_, rfl⟩, Dv.start, .nil, fun d hd => dg_digs x _ d (List.mem_reverse.mp hd), (vl_foldl _ _).trans (vl_dg hx0 hn), by rw [List.length_reverse, dg_length]; show 0 + _ ≤ 256; omega⟩
  case nil =>
    clear F9 N9
    rintro ⟨r, V, qs, rv, q, a', vq, nq⟩ ⟨⟨tr, hrv⟩, hD, hvq, hds, hfold, hlen⟩ h tk F N
    dsimp only at hrv hD hvq hds hfold hlen F N
    subst hrv
    have hfold' : V = x := hfold
    subst hfold'
    have hDr : Digs (Builtin.Int.intBits b) qs.reverse := fun d hd => hD.digs d (List.mem_reverse.mp hd)
    have hlr : qs.reverse.length ≤ 256 := by rw [List.length_reverse]; exact hlen
    have hlq : qs.length < 100000 := by have : qs.length + 0 ≤ 256 := hlen; omega
    rw [← hD.quot, ← hD.rest] at hret
    k_steps
    exact hret _ _ _ _ _ (by k_asm) (cb_drop (by k_asm) (by k_allIn)) (allLt_le lb.2 (by omega))
  case cons =>
    clear F9 N9
    rintro d t rs ⟨r, V, qs, rv, q, a', vq, nq⟩ ⟨⟨tr, hrv⟩, hD, hvq, hds, hfold, hlen⟩ it h tk F N
    dsimp only at hrv hD hvq hds hfold hlen F N
    subst hrv
    have hd' := hds d (.head _)
    obtain ⟨f1, f2, f3, f4⟩ := Dv.facts hD hb rfl (by omega) hd'
    have hst := Dv.step hD hb hd'
    have hlq : qs.length + (rs.length + 1) ≤ 256 := hlen
    k_steps
    dsimp only [TPost]
    refine' TEnd.intro (fun m => ⟨(r * 2 ^ (Builtin.Int.intBits b : Int).toNat + d) % b, d + 2 ^ (Builtin.Int.intBits b : Int).toNat * V, qs ++ [(r * 2 ^ (Builtin.Int.intBits b : Int).toNat + d) / b], m (Str.ofString "r"), m (Str.ofString "q_digit"), m (Str.ofString "a_digit"), _, _⟩) ?F ?N ?sub ?hm ?S
    case F => k_asm
    case N => k_asm
    case sub => ((try dsimp only); k_allIn)
    case hm =>
      intro z
      by_cases h0 : z = Str.ofString "r"
      · subst h0; rfl
      by_cases h1 : z = Str.ofString "q_digit"
      · subst h1; rfl
      by_cases h2 : z = Str.ofString "a_digit"
      · subst h2; rfl
      simp only [h0, h1, h2, if_false]
    case S => exact ⟨⟨_, rfl⟩, hst, by assumption, fun e he => hds e (.tail _ he), hfold, by rw [List.length_append, List.length_singleton]; omega⟩
end
end Mine
namespace Mine
theorem named7 {g h : Heap} {L D lq l c : Addr} {vs : List Value} {nn : Nat} {k : Int} {o oc : Obj} {r : List (Addr × Obj)} (_ : News g L h ((D, revObj l k) :: (lq, o) :: (l, listOf vs.toArray nn) :: (c, oc) :: r)) : ∃ (D' lq' l' : Addr) (vs' : List Value) (nn' : Nat) (c' : Addr) (oc' : Obj), D' = D ∧ lq' = lq ∧ l' = l ∧ vs' = vs ∧ nn' = nn ∧ c' = c ∧ oc' = oc := ⟨D, lq, l, vs, nn, c, oc, rfl, rfl, rfl, rfl, rfl, rfl, rfl⟩
section
local macro_rules | `(tactic| k_all) => `(tactic| first | with_reducible assumption | exact allNe_le (by with_reducible assumption) (by omega) | ((rename ∀ _, AllLt _ _ => hR9); exact allNe_le (hR9 _) (by omega)))
local macro_rules | `(tactic| k_updF) => `(tactic| with_reducible assumption)
local macro_rules | `(tactic| k_mem) => `(tactic| first | exact memOf (by with_reducible assumption) | exact memOf (AllMem.at (by with_reducible assumption)) | fail "no such entry")
local macro_rules | `(tactic| k_allIn) => `(tactic| (intro p9 hp9; k_ownIn))
local macro_rules | `(tactic| walk_at "ite") => `(tactic| (k_here; k_openite; first | (refine ite_pos (by first | omega | (simp only [decide_eq_true_eq, beq_iff_eq, bne_iff_ne, ne_eq]; omega)) ?_) | (refine ite_neg (by first | omega | (simp only [decide_eq_true_eq, beq_iff_eq, bne_iff_ne, ne_eq]; omega)) ?_)))
local macro_rules | `(tactic| walk_at "binaryOp Mult ref int") => `(tactic| (k_here; (with_reducible show wpAny _ _ (binaryOp Operator.Mult (Value.ref _) (Value.int _ _)) _ _ _); k_dflt (refine' mulOne ?F ?N ?l ?lo ?hi ?_; (case F => k_asm); (case N => k_asm); (case l => is_list); (case lo => first | assumption | omega); (case hi => first | assumption | omega); k_whole); intro D' h' vs' hi' F' N' l1; (try k_lt l1)))
local macro_rules | `(tactic| walk_at "call builtin:len") => `(tactic| (k_here; (with_reducible show wpAny _ _ (call (Value.builtin "len") [Value.ref _]) _ _ _); k_dflt (refine' lenInts ?N ?m ?i ?f ?_; (case N => k_asm); (case m => k_mem); (case i => with_reducible assumption); (case f => (first | omega | (simp only [List.length_replicate]; omega))); k_whole); intro t' tk'))
local macro_rules | `(tactic| walk_at "truthy ref") => `(tactic| (k_here; k_dflt (refine' truthyInts ?N ?m ?i ?f ?_; (case N => k_asm); (case m => k_mem); (case i => with_reducible assumption); (case f => omega); k_whole); intro tk'))
local macro_rules | `(tactic| walk_at "call builtin:list.append") => `(tactic| (k_here; (with_reducible show wpAny _ _ (call (Value.builtin _) [Value.ref _, Value.int _ _]) _ _ _); k_dflt (refine' appendInts ?F ?N ?U ?hi ?hz ?_; (case F => k_asm); (case N => k_asm); (case U => k_upd); (case hi => with_reducible assumption); (case hz => omega); k_whole); intro h' F' N' hi'))
local macro_rules | `(tactic| walk_at "call builtin:list.reverse") => `(tactic| (k_here; (with_reducible show wpAny _ _ (call (Value.builtin _) [Value.ref _]) _ _ _); k_dflt (refine' reverseInts ?F ?N ?U ?hi ?hz ?_; (case F => k_asm); (case N => k_asm); (case U => k_upd); (case hi => with_reducible assumption); (case hz => omega); k_whole); intro h' F' N' hi'))
local macro_rules | `(tactic| walk_at "binaryOp LShift int int") => `(tactic| (k_here; k_dflt (refine' lshift_int ?a ?b ?_; (case a => first | assumption | omega); (case b => first | assumption | omega); k_whole)))
local macro_rules | `(tactic| walk_at "call ref") => `(tactic| (k_here; (with_reducible show wpAny _ _ (call (Value.ref 35) [Value.int _ _, Value.int _ _]) _ _ _); k_dflt (refine' i2d_fresh _ ?B ?F ?X ?N ?T ?hk ?C ?U ?hx ?hn ?hn2 ?h256 ?hd ?hu ?_; (case B => k_asm); (case F => k_asm); (case X => k_asm); (case N => k_asm); (case T => k_asm); (case hk => exact rfl); (case C => first | assumption | exact CodeHd.keeps (by assumption) (Below.stays (by assumption))); (case U => k_updF); (case hx => first | assumption | omega); (case hn => first | assumption | omega); (case hn2 => first | assumption | omega); (case h256 => first | assumption | omega);(case hd => first | ktr_room | omega); (case hu => first | ktr_units | omega)); intro l' nn' vs' c' oc' cv' t' h' tk' hi' d1' d2' F' N' l1 l2; (try dsimp only at N'); (try k_lt l1)))
local macro_rules | `(tactic| walk_at "call ref") => `(tactic| (k_here; (with_reducible show wpAny _ _ (call (Value.ref 42) [Value.ref _, Value.int _ _]) _ _ _); k_dflt (refine' d2i_fresh _ ?B ?F ?X ?N ?T ?hk ?C ?U ?ml ?hi ?hn ?hn2 ?h256 ?hD ?hd ?hu ?_; (case B => k_asm); (case F => k_asm); (case X => k_asm); (case N => k_asm); (case T => k_asm); (case hk => exact rfl); (case C => first | assumption | exact CodeHd.keeps (by assumption) (Below.stays (by assumption))); (case U => k_updF); (case ml => (intro o9; (try dsimp only); k_mem)); (case hi => assumption); (case hn => first | assumption | omega); (case hn2 => first | assumption | omega); (case h256 => first | assumption | omega);(case hD => assumption); (case hd => first | ktr_room | omega); (case hu => first | ktr_units | omega)); intro c' oc' cv' t' t'' h' tk' d1' d2' F' N' l1; (try dsimp only at N'); (try k_lt l1)))
local macro_rules | `(tactic| walk_at "call ref") => `(tactic| (k_here; (with_reducible show wpAny _ _ (call (Value.ref 21) [Value.int _ _, Value.int _ _, Value.int _ _]) _ _ _); k_dflt (refine' div_spec _ ?B ?F ?X ?N ?T ?hk ?hb ?hbb ?hxb ?hd ?_; (case B => k_asm); (case F => k_asm); (case X => k_asm); (case N => k_asm); (case T => k_asm); (case hk => exact rfl); (case hb => first | assumption | omega); (case hbb => first | assumption | omega); (case hxb => first | assumption | omega);(case hd => first | ktr_room | omega)); intro l' t1' t2' h' tk' F' N' l1; (try k_lt l1)))
local macro_rules | `(tactic| walk_at "exec For Name Call cons nil") => `(tactic| (k_here; (rename Fr _ _ _ _ => lF'); (with_unfolding_all refine' For_invVF lF' ?k1 ?k2 ?_; (case k1 => exact rfl); (case k2 => exact rfl); k_whole)))
local macro_rules | `(tactic| walk_at "exec For Name Name cons nil") => `(tactic| (k_here; (rename Fr _ _ _ _ => lF'); (with_unfolding_all refine' For_invVF lF' ?k1 ?k2 ?_; (case k1 => exact rfl); (case k2 => exact rfl); k_whole)))
local macro_rules | `(tactic| walk_at "exec While Compare cons nil") => `(tactic| (k_here; k_dflt (refine whl_hold ?_)))

local macro_rules | `(tactic| walk_at "no such step") => `(tactic| fail "never asked: it makes the number of lines another one than in dm_hit's section")
local macro_rules | `(tactic| k_updF) => `(tactic| ((rename ∀ _, UpdF 37 _ _ _ => hU9); exact hU9 _))
theorem dm_fresh (w : World) {p : Program} {loose : List Str} {mean : ExcName → Option Value} {mg mb : Str → Option Value}
  {dp un : Nat} {gd : Option (List Code)} {cn : Str} {cs : Scope} {a : Addr} {ccd : Value} {cl : List (Str × Addr)} {outer : List Env} {A₀ : Around} {base h₀ : Heap} {L : Addr} {m : Str → Option Value} {news : List (Addr × Obj)} {s : Shared} {Q E : Value → Shared → Prop} {x b : Int} {tx tb : Tok} {g30 : Obj → List (Addr × Obj)} {g37 : Obj → Obj → List (Addr × Obj)}
  (B : Below A₀ base outer h₀) (F : Fr h₀ L s.heap m) (X : (Mine.hd.heap_39 w.params).In h₀) (N : News h₀ L s.heap news) (T : Top p loose mean mg mb h₀) (hk : cs.kind = .function) (C30 : CodeHd base 34 30) (C37 : CodeHd base 41 37) (U30 : UpdF 30 (tabObj #[]) news g30) (U37 : ∀ o, UpdF 37 (tabObj #[]) (g30 o) (g37 o))
  (hx0 : 0 ≤ x) (hb : 0 < b) (hxb : Builtin.Int.intBits x ≤ 256) (hbb : Builtin.Int.intBits b ≤ 256)
  (hd : dp + 14 < recursionLimit) (hu : un + 120 < cLine)
  (hret : ∀ l t1 t2 c₃ oc₃ cv₃ t₃ c₄ oc₄ cv₄ t₄ h' tk', oc₃.data = .fields cv₃ → cv₃[1]? = some (.str (Str.ofString "_int2digits.<locals>.inner") t₃) → oc₄.data = .fields cv₄ → cv₄[1]? = some (.str (Str.ofString "_digits2int.<locals>.inner") t₄) → Fr h₀ L h' m →
    News h₀ L h' ((l, tupOf #[.int (x / b) t1, .int (x % b) t2]) :: (c₄, oc₄) :: (c₃, oc₃) :: g37 (tabObj #[rawInt 32, rawInt 4, .ref c₃]) (tabObj #[rawInt 47, rawInt 4, .ref c₄])) → (∀ p ∈ news, p.1 < c₃) → @LT.lt Nat _ c₃ c₄ → @LT.lt Nat _ c₄ l → Q (.ref l) { s with heap := h', toks := tk' }) :
  wpAny (model PySem.Challenge.rw_mq0469_02.row.prog w) (ktrTop dp un gd cn cs L a ccd cl outer) (call (.ref 49) [.int x tx, .int b tb]) Q E s := by
  w_top off
  revert X; k_fill; intro X
  refine wpAny_call ?_
  k_dflt (refine' code_defL ?k1 ?k2 ?k3 ?k4 ?k5 ?kA ?kF ?kK ?k6 ?k7 ?k8 ?k9 ?kB ?_ ?c2 ?c3 ?c4 ?c5; (case kA => exact rfl); (case kF => exact rfl); (case kK => assumption); (case k1 => k_asm); (case k2 => k_asm); (case k3 => k_asm); (case k4 => k_asm); (case k5 => k_asm); (case k6 => k_is); (case k7 => k_is); (case k8 => exact (by omega : dp < recursionLimit)); (case k9 => exact BindsTo.of_eq rfl); (case c5 => decide); (case kB => exact locs rfl); (case c2 => exact rfl); (case c3 => exact rfl); (case c4 => exact rfl); k_whole; intro g' L' h' FG' F' N' B' X' T' l1; (try dsimp only); (try k_lift B'); (try k_fold))
  have lR := allLt_of l1
  have lRg := AllLt.upd U30 lR
  clear l1
  have hb1 := bits_pos hb
  have hn : 0 < (Builtin.Int.intBits b : Int) := by omega
  have h256 := nd_le hx0 hn hxb
  k_steps
  rename Fr _ _ _ _ => F9
  rename News _ _ _ ((_, revObj _ _) :: _) => N9
  obtain ⟨D, lq, l, vs, nn, c', oc, rfl, rfl, rfl, rfl, rfl, rfl, rfl⟩ := named7 N9
  have hi : IntsAre vs (dg x (Builtin.Int.intBits b)) := by assumption
  have la : ∀ p ∈ news, p.1 < l := by assumption
  have hlc : @LT.lt Nat _ l c' := by assumption
  have lb : @LT.lt Nat _ l lq ∧ @LT.lt Nat _ c' lq ∧ AllLt lq (g30 (tabObj #[rawInt 32, rawInt 4, .ref c'])) := by assumption
  have lc : @LT.lt Nat _ lq D ∧ @LT.lt Nat _ l D ∧ @LT.lt Nat _ c' D ∧ AllLt D (g30 (tabObj #[rawInt 32, rawInt 4, .ref c'])) := by assumption
  have m37 : (37, tabObj #[]) ∈ news := (UpdF.anew U30).1 ▸ UpdF.mem (U37 (tabObj #[]))
  have h37 : @LT.lt Nat _ 37 l := la _ m37
  have hmem := fun (c : DC) => (show (l, listOf vs.toArray nn) ∈ (lq, listOf c.vq.toArray c.nq) :: (l, listOf vs.toArray nn) :: (c', oc) :: g30 (tabObj #[rawInt 32, rawInt 4, .ref c']) from .tail _ (.head _))
  refine revLoop (σ := DC) (fun c m z => if z = Str.ofString "r" then c.rv else if z = Str.ofString "q_digit" then c.q else if z = Str.ofString "a_digit" then c.a else m z) (fun c => (lq, listOf c.vq.toArray c.nq) :: (l, listOf vs.toArray nn) :: (c', oc) :: g30 (tabObj #[rawInt 32, rawInt 4, .ref c'])) (DS b (Builtin.Int.intBits b) x) (fun m => ⟨0, 0, [], m (Str.ofString "r"), m (Str.ofString "q_digit"), m (Str.ofString "a_digit"), [], 0⟩) rfl F9 N9 ?sub ?hI hmem hi ?h0 ?hS ?nil ?cons
  case sub => k_allIn
  case hI => exact fun c => List.forall_mem_cons.mpr ⟨Nat.ne_of_lt lc.1, List.forall_mem_cons.mpr ⟨Nat.ne_of_lt lc.2.1, List.forall_mem_cons.mpr ⟨Nat.ne_of_lt lc.2.2.1, allNe_of lc.2.2.2⟩⟩⟩
  case h0 =>
    intro z
    by_cases h0 : z = Str.ofString "r"
    · subst h0; rfl
    by_cases h1 : z = Str.ofString "q_digit"
    · subst h1; rfl
    by_cases h2 : z = Str.ofString "a_digit"
    · subst h2; rfl
    simp only [h0, h1, h2, if_false]
  case hS => exact ⟨⟨_, rfl⟩, Dv.start, .nil, fun d hd => dg_digs x _ d (List.mem_reverse.mp hd), (vl_foldl _ _).trans (vl_dg hx0 hn), by rw [List.length_reverse, dg_length]; show 0 + _ ≤ 256; omega⟩
  case nil =>
    clear F9 N9
    rintro ⟨r, V, qs, rv, q, a', vq, nq⟩ ⟨⟨tr, hrv⟩, hD, hvq, hds, hfold, hlen⟩ h tk F N
    dsimp only at hrv hD hvq hds hfold hlen F N
    subst hrv
    have hfold' : V = x := hfold
    subst hfold'
    have hDr : Digs (Builtin.Int.intBits b) qs.reverse := fun d hd => hD.digs d (List.mem_reverse.mp hd)
    have hlr : qs.reverse.length ≤ 256 := by rw [List.length_reverse]; exact hlen
    have hlq : qs.length < 100000 := by have : qs.length + 0 ≤ 256 := hlen; omega
    rw [← hD.quot, ← hD.rest] at hret
    k_steps
    exact hret _ _ _ c' oc _ _ _ _ _ _ _ _ (by assumption) (by assumption) (by assumption) (by assumption) (by k_asm) (cb_drop (by k_asm) (by k_allIn)) (allLt_le (allLt_of la) (by omega)) (by omega) (by omega)
  case cons =>
    clear F9 N9
    rintro d t rs ⟨r, V, qs, rv, q, a', vq, nq⟩ ⟨⟨tr, hrv⟩, hD, hvq, hds, hfold, hlen⟩ it h tk F N
    dsimp only at hrv hD hvq hds hfold hlen F N
    subst hrv
    have hd' := hds d (.head _)
    obtain ⟨f1, f2, f3, f4⟩ := Dv.facts hD hb rfl (by omega) hd'
    have hst := Dv.step hD hb hd'
    have hlq : qs.length + (rs.length + 1) ≤ 256 := hlen
    k_steps
    dsimp only [TPost]
    refine' TEnd.intro (fun m => ⟨(r * 2 ^ (Builtin.Int.intBits b : Int).toNat + d) % b, d + 2 ^ (Builtin.Int.intBits b : Int).toNat * V, qs ++ [(r * 2 ^ (Builtin.Int.intBits b : Int).toNat + d) / b], m (Str.ofString "r"), m (Str.ofString "q_digit"), m (Str.ofString "a_digit"), _, _⟩) ?F ?N ?sub ?hm ?S
    case F => k_asm
    case N => k_asm
    case sub => ((try dsimp only); k_allIn)
    case hm =>
      intro z
      by_cases h0 : z = Str.ofString "r"
      · subst h0; rfl
      by_cases h1 : z = Str.ofString "q_digit"
      · subst h1; rfl
      by_cases h2 : z = Str.ofString "a_digit"
      · subst h2; rfl
      simp only [h0, h1, h2, if_false]
    case S => exact ⟨⟨_, rfl⟩, hst, by assumption, fun e he => hds e (.tail _ he), hfold, by rw [List.length_append, List.length_singleton]; omega⟩
end
end Mine
namespace Mine
theorem named2 {g h : Heap} {L a b : Addr} {o o2 : Obj} {r : List (Addr × Obj)} (_ : News g L h ((a, o) :: (b, o2) :: r)) : ∃ a' b', a' = a ∧ b' = b := ⟨a, b, rfl, rfl⟩
theorem itemBack {prog : Program} {w : World} {A : Around} {E : Value → Shared → Prop} {s : Shared} {h₀ : Heap} {L D : Addr} {news : List (Addr × Obj)} {value slice : PySem.Expr} {vs : List Value} {ns : List Int} {n : Nat} {k v : Int} {u : Tok} {Q : Value → Shared → Prop} (N : News h₀ L s.heap news) (hm : (D, listOf vs.toArray n) ∈ news) (hi : IntsAre vs ns)
    (h0 : k < 0) (h1 : -(ns.length : Int) ≤ k) (hfit : -(2 ^ 63) ≤ k) (hv : ns.getD (k + ns.length).toNat 0 = v) (h : ∀ t, Q (.int v t) s)
    (hs : subscripted slice false (.ref D) (.int k u) = operate [.ref D, .int k u] (getItem (.ref D) (.int k u))) (hg : ∀ r, letTemporaryGo value (.ref D) r = pure ()) :
    wpAny (model prog w) A (subscriptTail value slice (.ref D) (.int k u)) Q E s :=
  item_list_ints_neg (PySem.IsL.isList (n := n) (N _ hm).1) hi h0 h1 hfit (hv ▸ h) hs hg
/-- the state of _law_pair between two turns -/
structure PC where
  a : Int
  b : Int
  nv : Option Value
  ov : Option Value
  qv : Option Value
def PS (r : Int × Int) (rs : List Int) (c : PC) : Prop := (∃ t, c.nv = some (.int c.a t)) ∧ (∃ t, c.ov = some (.int c.b t)) ∧ rs.foldl kstep (c.a, c.b) = r ∧ (∀ q ∈ rs, 0 ≤ q ∧ q ≤ 1000)
section
local macro_rules | `(tactic| k_all) => `(tactic| first | with_reducible assumption | exact allNe_le (by with_reducible assumption) (by omega) | ((rename ∀ _, AllLt _ _ => hR9); exact allNe_le (hR9 _) (by omega)))
local macro_rules | `(tactic| k_updF) => `(tactic| with_reducible assumption)
local macro_rules | `(tactic| k_mem) => `(tactic| first | exact memOf (by with_reducible assumption) | exact memOf (AllMem.at (by with_reducible assumption)) | fail "no such entry")
local macro_rules | `(tactic| k_allIn) => `(tactic| (intro p9 hp9; k_ownIn))
local macro_rules | `(tactic| walk_at "ite") => `(tactic| (k_here; k_openite; first | (refine ite_pos (by first | omega | (simp only [decide_eq_true_eq, beq_iff_eq, bne_iff_ne, ne_eq]; omega)) ?_) | (refine ite_neg (by first | omega | (simp only [decide_eq_true_eq, beq_iff_eq, bne_iff_ne, ne_eq]; omega)) ?_)))
local macro_rules | `(tactic| walk_at "binaryOp Mult ref int") => `(tactic| (k_here; (with_reducible show wpAny _ _ (binaryOp Operator.Mult (Value.ref _) (Value.int _ _)) _ _ _); k_dflt (refine' mulOne ?F ?N ?l ?lo ?hi ?_; (case F => k_asm); (case N => k_asm); (case l => is_list); (case lo => first | assumption | omega); (case hi => first | assumption | omega); k_whole); intro D' h' vs' hi' F' N' l1; (try k_lt l1)))
local macro_rules | `(tactic| walk_at "call builtin:len") => `(tactic| (k_here; (with_reducible show wpAny _ _ (call (Value.builtin "len") [Value.ref _]) _ _ _); k_dflt (refine' lenInts ?N ?m ?i ?f ?_; (case N => k_asm); (case m => k_mem); (case i => with_reducible assumption); (case f => (first | omega | (simp only [List.length_replicate]; omega))); k_whole); intro t' tk'))
local macro_rules | `(tactic| walk_at "truthy ref") => `(tactic| (k_here; k_dflt (refine' truthyInts ?N ?m ?i ?f ?_; (case N => k_asm); (case m => k_mem); (case i => with_reducible assumption); (case f => omega); k_whole); intro tk'))
local macro_rules | `(tactic| walk_at "call builtin:list.append") => `(tactic| (k_here; (with_reducible show wpAny _ _ (call (Value.builtin _) [Value.ref _, Value.int _ _]) _ _ _); k_dflt (refine' appendInts ?F ?N ?U ?hi ?hz ?_; (case F => k_asm); (case N => k_asm); (case U => k_upd); (case hi => with_reducible assumption); (case hz => omega); k_whole); intro h' F' N' hi'))
local macro_rules | `(tactic| walk_at "call builtin:list.reverse") => `(tactic| (k_here; (with_reducible show wpAny _ _ (call (Value.builtin _) [Value.ref _]) _ _ _); k_dflt (refine' reverseInts ?F ?N ?U ?hi ?hz ?_; (case F => k_asm); (case N => k_asm); (case U => k_upd); (case hi => with_reducible assumption); (case hz => omega); k_whole); intro h' F' N' hi'))
local macro_rules | `(tactic| walk_at "binaryOp LShift int int") => `(tactic| (k_here; k_dflt (refine' lshift_int ?a ?b ?_; (case a => first | assumption | omega); (case b => first | assumption | omega); k_whole)))
local macro_rules | `(tactic| walk_at "exec For Name Call cons nil") => `(tactic| (k_here; (rename Fr _ _ _ _ => lF'); (with_unfolding_all refine' For_invVF lF' ?k1 ?k2 ?_; (case k1 => exact rfl); (case k2 => exact rfl); k_whole)))
local macro_rules | `(tactic| walk_at "exec For Name Name cons nil") => `(tactic| (k_here; (rename Fr _ _ _ _ => lF'); (with_unfolding_all refine' For_invVF lF' ?k1 ?k2 ?_; (case k1 => exact rfl); (case k2 => exact rfl); k_whole)))
local macro_rules | `(tactic| walk_at "exec While Compare cons nil") => `(tactic| (k_here; k_dflt (refine whl_hold ?_)))

theorem pair_spec (w : World) {p : Program} {loose : List Str} {mean : ExcName → Option Value} {mg mb : Str → Option Value}
  {dp un : Nat} {gd : Option (List Code)} {cn : Str} {cs : Scope} {a : Addr} {ccd : Value} {cl : List (Str × Addr)} {outer : List Env} {A₀ : Around} {base h₀ : Heap} {L : Addr} {m : Str → Option Value} {news : List (Addr × Obj)} {s : Shared} {Q E : Value → Shared → Prop} {lb : Addr} {vs : List Value} {ns : List Int} {nn : Nat}
  (B : Below A₀ base outer h₀) (F : Fr h₀ L s.heap m) (X : (Mine.hd.heap_39 w.params).In h₀) (N : News h₀ L s.heap news) (T : Top p loose mean mg mb h₀) (hk : cs.kind = .function) (ml : (lb, listOf vs.toArray nn) ∈ news) (hi : IntsAre vs ns) (hs : ∀ q ∈ ns, 0 ≤ q ∧ q ≤ 1000)
  (hd : dp + 2 < recursionLimit)
  (hret : ∀ l t1 t2 h' tk', Fr h₀ L h' m → News h₀ L h' ((l, tupOf #[.int (kk ns) t1, .int (ko ns) t2]) :: news) → (∀ p ∈ news, p.1 < l) → Q (.ref l) { s with heap := h', toks := tk' }) :
  wpAny (model PySem.Challenge.rw_mq0469_02.row.prog w) (ktrTop dp un gd cn cs L a ccd cl outer) (call (.ref 56) [.ref lb]) Q E s := by
  w_top off
  revert X; k_fill; intro X
  refine wpAny_call ?_
  k_dflt (refine' code_defL ?k1 ?k2 ?k3 ?k4 ?k5 ?kA ?kF ?kK ?k6 ?k7 ?k8 ?k9 ?kB ?_ ?c2 ?c3 ?c4 ?c5; (case kA => exact rfl); (case kF => exact rfl); (case kK => assumption); (case k1 => k_asm); (case k2 => k_asm); (case k3 => k_asm); (case k4 => k_asm); (case k5 => k_asm); (case k6 => k_is); (case k7 => k_is); (case k8 => exact (by omega : dp < recursionLimit)); (case k9 => exact BindsTo.of_eq rfl); (case c5 => decide); (case kB => exact locs rfl); (case c2 => exact rfl); (case c3 => exact rfl); (case c4 => exact rfl); k_whole; intro g' L' h' FG' F' N' B' X' T' l1; (try dsimp only); (try k_lift B'); (try k_fold))
  have lR := allLt_of l1
  clear l1
  k_steps
  rename Fr _ _ _ _ => F9
  rename News _ _ _ _ => N9
  refine listLoop (σ := PC) (fun c m z => if z = Str.ofString "new" then c.nv else if z = Str.ofString "old" then c.ov else if z = Str.ofString "quotient" then c.qv else m z) (fun _ => news) (PS (kp ns)) (fun m => ⟨1, 0, m (Str.ofString "new"), m (Str.ofString "old"), m (Str.ofString "quotient")⟩) rfl F9 N9 ?sub (fun _ => rfl) (fun _ => ml) hi ?h0 ?hS ?nil ?cons
  case sub => exact fun _ h => h
  case h0 =>
    intro z
    by_cases h0 : z = Str.ofString "new"
    · subst h0; rfl
    by_cases h1 : z = Str.ofString "old"
    · subst h1; rfl
    by_cases h2 : z = Str.ofString "quotient"
    · subst h2; rfl
    simp only [h0, h1, h2, if_false]
  case hS => exact ⟨⟨_, rfl⟩, ⟨_, rfl⟩, rfl, hs⟩
  case nil =>
    clear F9 N9
    rintro ⟨a, b, nv, ov, qv⟩ ⟨⟨tf, hf⟩, ⟨tc, hc⟩, hr, hq⟩ h tk F N
    dsimp only at hf hc hr F N
    subst hf hc
    have e1 : kk ns = a := by rw [kk, ← hr]; rfl
    have e2 : ko ns = b := by rw [ko, ← hr]; rfl
    rw [e1, e2] at hret
    k_steps
    exact hret _ _ _ _ _ (by k_asm) (cb_drop (by k_asm) (by k_allIn)) (by assumption)
  case cons =>
    clear F9 N9
    rintro I d t rs ⟨a, b, nv, ov, qv⟩ hlt ⟨⟨tf, hf⟩, ⟨tc, hc⟩, hr, hq⟩ it h tk F N
    dsimp only at hf hc hr F N
    subst hf hc
    have hd1 := hq d (.head _)
    rw [List.foldl_cons] at hr
    k_steps
    dsimp only [TPost]
    refine' TEnd.intro (fun m => ⟨d * a + b, a, m (Str.ofString "new"), m (Str.ofString "old"), m (Str.ofString "quotient")⟩) ?F ?N ?sub ?hm ?S
    case F => k_asm
    case N => k_asm
    case sub => ((try dsimp only); k_allIn)
    case hm =>
      intro z
      by_cases h0 : z = Str.ofString "new"
      · subst h0; rfl
      by_cases h1 : z = Str.ofString "old"
      · subst h1; rfl
      by_cases h2 : z = Str.ofString "quotient"
      · subst h2; rfl
      simp only [h0, h1, h2, if_false]
    case S => exact ⟨⟨_, rfl⟩, ⟨_, rfl⟩, hr, fun q h => hq q (.tail _ h)⟩
end
/-- the state of _law_run between two turns -/
structure RC where
  rem : List Int
  x : Int
  y : Int
  dq : List Int
  pr : List Int
  qv : Option Value
  rv : Option Value
  vq : List Value
  nq : Nat
  vr : List Value
  nr : Nat
def RS (qs all : List Int) (c : RC) : Prop := Euc c.rem c.x c.y ∧ IntsAre c.vq c.dq ∧ IntsAre c.vr (c.pr ++ [c.x, c.y]) ∧ c.dq ++ c.rem = qs ∧ c.pr ++ c.x :: c.y :: tailR c.rem c.x c.y = all ∧ (0 ≤ c.x ∧ c.x < 2 ^ 100 ∧ 0 ≤ c.y ∧ c.y < 2 ^ 100) ∧ (c.dq.length + c.rem.length ≤ 100 ∧ c.pr.length = c.dq.length)
theorem back1 (pr : List Int) (x y : Int) : (pr ++ [x, y]).getD (-1 + ((pr ++ [x, y]).length : Int)).toNat 0 = y := by
  have e : (-1 + ((pr ++ [x, y]).length : Int)).toNat = pr.length + 1 := by rw [List.length_append]; simp only [List.length_cons, List.length_nil]; omega
  rw [e, List.getD_eq_getElem?_getD, List.getElem?_append_right (by omega), show pr.length + 1 - pr.length = 1 by omega]; rfl
theorem back2 (pr : List Int) (x y : Int) : (pr ++ [x, y]).getD (-2 + ((pr ++ [x, y]).length : Int)).toNat 0 = x := by
  have e : (-2 + ((pr ++ [x, y]).length : Int)).toNat = pr.length := by rw [List.length_append]; simp only [List.length_cons, List.length_nil]; omega
  rw [e, List.getD_eq_getElem?_getD, List.getElem?_append_right (by omega), show pr.length - pr.length = 0 by omega]; rfl
section
local macro_rules | `(tactic| k_all) => `(tactic| first | with_reducible assumption | exact allNe_le (by with_reducible assumption) (by omega) | ((rename ∀ _, AllLt _ _ => hR9); exact allNe_le (hR9 _) (by omega)))
local macro_rules | `(tactic| k_updF) => `(tactic| with_reducible assumption)
local macro_rules | `(tactic| k_mem) => `(tactic| first | exact memOf (by with_reducible assumption) | exact memOf (AllMem.at (by with_reducible assumption)) | fail "no such entry")
local macro_rules | `(tactic| k_allIn) => `(tactic| (intro p9 hp9; k_ownIn))
local macro_rules | `(tactic| walk_at "ite") => `(tactic| (k_here; k_openite; first | (refine ite_pos (by first | omega | (simp only [decide_eq_true_eq, beq_iff_eq, bne_iff_ne, ne_eq]; omega)) ?_) | (refine ite_neg (by first | omega | (simp only [decide_eq_true_eq, beq_iff_eq, bne_iff_ne, ne_eq]; omega)) ?_)))
local macro_rules | `(tactic| walk_at "binaryOp Mult ref int") => `(tactic| (k_here; (with_reducible show wpAny _ _ (binaryOp Operator.Mult (Value.ref _) (Value.int _ _)) _ _ _); k_dflt (refine' mulOne ?F ?N ?l ?lo ?hi ?_; (case F => k_asm); (case N => k_asm); (case l => is_list); (case lo => first | assumption | omega); (case hi => first | assumption | omega); k_whole); intro D' h' vs' hi' F' N' l1; (try k_lt l1)))
local macro_rules | `(tactic| walk_at "call builtin:len") => `(tactic| (k_here; (with_reducible show wpAny _ _ (call (Value.builtin "len") [Value.ref _]) _ _ _); k_dflt (refine' lenInts ?N ?m ?i ?f ?_; (case N => k_asm); (case m => k_mem); (case i => with_reducible assumption); (case f => (first | omega | (simp only [List.length_replicate]; omega))); k_whole); intro t' tk'))
local macro_rules | `(tactic| walk_at "truthy ref") => `(tactic| (k_here; k_dflt (refine' truthyInts ?N ?m ?i ?f ?_; (case N => k_asm); (case m => k_mem); (case i => with_reducible assumption); (case f => omega); k_whole); intro tk'))
local macro_rules | `(tactic| walk_at "call builtin:list.append") => `(tactic| (k_here; (with_reducible show wpAny _ _ (call (Value.builtin _) [Value.ref _, Value.int _ _]) _ _ _); k_dflt (refine' appendInts ?F ?N ?U ?hi ?hz ?_; (case F => k_asm); (case N => k_asm); (case U => k_upd); (case hi => with_reducible assumption); (case hz => omega); k_whole); intro h' F' N' hi'))
local macro_rules | `(tactic| walk_at "call builtin:list.reverse") => `(tactic| (k_here; (with_reducible show wpAny _ _ (call (Value.builtin _) [Value.ref _]) _ _ _); k_dflt (refine' reverseInts ?F ?N ?U ?hi ?hz ?_; (case F => k_asm); (case N => k_asm); (case U => k_upd); (case hi => with_reducible assumption); (case hz => omega); k_whole); intro h' F' N' hi'))
local macro_rules | `(tactic| walk_at "binaryOp LShift int int") => `(tactic| (k_here; k_dflt (refine' lshift_int ?a ?b ?_; (case a => first | assumption | omega); (case b => first | assumption | omega); k_whole)))
local macro_rules | `(tactic| walk_at "exec For Name Call cons nil") => `(tactic| (k_here; (rename Fr _ _ _ _ => lF'); (with_unfolding_all refine' For_invVF lF' ?k1 ?k2 ?_; (case k1 => exact rfl); (case k2 => exact rfl); k_whole)))
local macro_rules | `(tactic| walk_at "exec For Name Name cons nil") => `(tactic| (k_here; (rename Fr _ _ _ _ => lF'); (with_unfolding_all refine' For_invVF lF' ?k1 ?k2 ?_; (case k1 => exact rfl); (case k2 => exact rfl); k_whole)))
local macro_rules | `(tactic| walk_at "exec While Compare cons nil") => `(tactic| (k_here; k_dflt (refine whl_hold ?_)))
local macro_rules | `(tactic| walk_at "call ref") => `(tactic| (k_here; (with_reducible show wpAny _ _ (call (Value.ref 49) [Value.int _ _, Value.int _ _]) _ _ _); k_dflt (refine' dm_hit _ ?B ?F ?X ?N ?T ?hk ?C30 ?C37 ?m30 ?mc3 ?hoc3 ?hcv3 ?m37 ?mc4 ?hoc4 ?hcv4 ?hx ?hb ?hxb ?hbb ?hd ?hu ?_; (case B => k_asm); (case F => k_asm); (case X => k_asm); (case N => k_asm); (case T => k_asm); (case hk => exact rfl); (case C30 => first | assumption | exact CodeHd.keeps (by assumption) (Below.stays (by assumption))); (case C37 => first | assumption | exact CodeHd.keeps (by assumption) (Below.stays (by assumption))); (case m30 => k_mem); (case mc3 => k_mem); (case m37 => k_mem); (case mc4 => k_mem); (case hoc3 => assumption); (case hcv3 => assumption); (case hoc4 => assumption); (case hcv4 => assumption); (case hx => first | assumption | omega); (case hb => first | assumption | omega); (case hxb => first | assumption | omega); (case hbb => first | assumption | omega);(case hd => first | ktr_room | omega); (case hu => first | ktr_units | omega)); intro l' t1' t2' h' tk' F' N' l1; (try k_lt l1)))
local macro_rules | `(tactic| walk_at "WhlIf") => `(tactic| first | (refine WhlIf.yes (by first | assumption | (simp only [decide_eq_true_eq, bne_iff_ne, ne_eq, Bool.not_eq_true', decide_eq_false_iff_not, beq_eq_false_iff_ne]; omega)) ?_) | (refine WhlIf.no (by first | assumption | (simp only [decide_eq_false_iff_not, bne_eq_false_iff_eq, ne_eq, Bool.not_eq_false', decide_eq_true_eq, beq_iff_eq]; omega)) ?_))
local macro_rules | `(tactic| walk_at "subscriptTail Name UnaryOp ref int") => `(tactic| (k_here; (with_reducible show wpAny _ _ (subscriptTail _ _ (Value.ref _) (Value.int _ _)) _ _ _); k_dflt (refine' itemBack ?k1 ?k2 ?k3 ?k4 ?k5 ?k6 ?k8 ?_ ?k7 ?k9; (case k1 => k_asm); (case k2 => k_mem); (case k3 => with_reducible assumption); (case k4 => decide); (case k5 => (first | assumption | (simp only [List.length_append, List.length_cons, List.length_nil]; omega))); (case k6 => decide); (case k8 => assumption); (case k7 => with_unfolding_all rfl); (case k9 => (intro r9; with_unfolding_all rfl)); k_whole); intro t9))

theorem run_spec (w : World) {p : Program} {loose : List Str} {mean : ExcName → Option Value} {mg mb : Str → Option Value}
  {dp un : Nat} {gd : Option (List Code)} {cn : Str} {cs : Scope} {a : Addr} {ccd : Value} {cl : List (Str × Addr)} {outer : List Env} {A₀ : Around} {base h₀ : Heap} {L : Addr} {m : Str → Option Value} {news : List (Addr × Obj)} {s : Shared} {Q E : Value → Shared → Prop} {qs : List Int} {x y : Int} {tx ty : Tok} {c₃ c₄ : Addr} {oc₃ oc₄ : Obj} {cv₃ cv₄ : Array Value} {t₃ t₄ : Tok}
  (B : Below A₀ base outer h₀) (F : Fr h₀ L s.heap m) (X : (Mine.hd.heap_39 w.params).In h₀) (N : News h₀ L s.heap news) (T : Top p loose mean mg mb h₀) (hk : cs.kind = .function) (C30 : CodeHd base 34 30) (C37 : CodeHd base 41 37) (m30 : (30, tabObj #[rawInt 32, rawInt 4, .ref c₃]) ∈ news) (mc3 : (c₃, oc₃) ∈ news) (hoc3 : oc₃.data = .fields cv₃) (hcv3 : cv₃[1]? = some (.str (Str.ofString "_int2digits.<locals>.inner") t₃)) (m37 : (37, tabObj #[rawInt 47, rawInt 4, .ref c₄]) ∈ news) (mc4 : (c₄, oc₄) ∈ news) (hoc4 : oc₄.data = .fields cv₄) (hcv4 : cv₄[1]? = some (.str (Str.ofString "_digits2int.<locals>.inner") t₄))
  (hE : Euc qs x y) (hb : 0 ≤ x ∧ x < 2 ^ 100 ∧ 0 ≤ y ∧ y < 2 ^ 100) (hql : qs.length ≤ 100) (hd : dp + 16 < recursionLimit) (hu : un + 140 < cLine)
  (hret : ∀ l lq lr nq nr vq vr h' tk', IntsAre vq qs → IntsAre vr (x :: y :: tailR qs x y) → Fr h₀ L h' m → News h₀ L h' ((l, tupOf #[.ref lq, .ref lr]) :: (lr, listOf vr.toArray nr) :: (lq, listOf vq.toArray nq) :: news) → (∀ p ∈ news, p.1 < lq) → @LT.lt Nat _ lq lr → @LT.lt Nat _ lr l → Q (.ref l) { s with heap := h', toks := tk' }) :
  wpAny (model PySem.Challenge.rw_mq0469_02.row.prog w) (ktrTop dp un gd cn cs L a ccd cl outer) (call (.ref 63) [.int x tx, .int y ty]) Q E s := by
  w_top off
  revert X; k_fill; intro X
  refine wpAny_call ?_
  k_dflt (refine' code_defL ?k1 ?k2 ?k3 ?k4 ?k5 ?kA ?kF ?kK ?k6 ?k7 ?k8 ?k9 ?kB ?_ ?c2 ?c3 ?c4 ?c5; (case kA => exact rfl); (case kF => exact rfl); (case kK => assumption); (case k1 => k_asm); (case k2 => k_asm); (case k3 => k_asm); (case k4 => k_asm); (case k5 => k_asm); (case k6 => k_is); (case k7 => k_is); (case k8 => exact (by omega : dp < recursionLimit)); (case k9 => exact BindsTo.of_eq rfl); (case c5 => decide); (case kB => exact locs rfl); (case c2 => exact rfl); (case c3 => exact rfl); (case c4 => exact rfl); k_whole; intro g' L' h' FG' F' N' B' X' T' l1; (try dsimp only); (try k_lift B'); (try k_fold))
  have lR := allLt_of l1
  clear l1
  k_steps
  rename Fr _ _ _ _ => F9
  rename News _ _ _ (_ :: _ :: _) => N9
  obtain ⟨lr, lq, rfl, rfl⟩ := named2 N9
  have hlb : ∀ p ∈ news, p.1 < lq := by assumption
  have hl1 : AllLt lq news := allLt_of hlb
  have hl2 : @LT.lt Nat _ lq lr ∧ AllLt lr news := by assumption
  refine whileLoop (σ := RC) (fun c m z => if z = Str.ofString "quotient" then c.qv else if z = Str.ofString "rest" then c.rv else m z) (fun c => (lr, listOf c.vr.toArray c.nr) :: (lq, listOf c.vq.toArray c.nq) :: news) (RS qs (x :: y :: tailR qs x y)) (fun c => c.rem.length) (fun m => ⟨qs, x, y, [], [], m (Str.ofString "quotient"), m (Str.ofString "rest"), [], 0, [.int x tx, .int y ty], 0⟩) F9 N9 ?sub ?h0 ?hS ?hE ?turn
  case sub => ((try dsimp only); k_allIn)
  case h0 =>
    intro z
    by_cases h0 : z = Str.ofString "quotient"
    · subst h0; rfl
    by_cases h1 : z = Str.ofString "rest"
    · subst h1; rfl
    simp only [h0, h1, if_false]
  case hS => exact ⟨hE, .nil, .cons _ _ (.cons _ _ .nil), rfl, rfl, hb, by show 0 + qs.length ≤ 100; omega, rfl⟩
  case hE => passes_own
  case turn =>
    clear F9 N9
    rintro ⟨rem, x', y', dq, pr, qv, rv, vq, nq, vr, nr⟩ ⟨hE', hvq, hvr, hdq, hall, hb', hlen, hpr⟩ h tk F N
    dsimp only at hE' hvq hvr hdq hall hb' hlen hpr F N
    obtain ⟨b1, b2, b3, b4⟩ := hb'
    have g1 := back1 pr x' y'
    have g2 := back2 pr x' y'
    cases rem with
    | nil =>
      have hy : y' = 0 := hE'
      have e1 : dq = qs := by rw [← hdq, List.append_nil]
      have e2 : pr ++ [x', y'] = x :: y :: tailR qs x y := hall
      k_steps
      exact hret _ _ _ _ _ _ _ _ _ (by rw [← e1]; assumption) (by rw [← e2]; assumption) (by k_asm) (cb_drop (by k_asm) (by k_allIn)) hlb hl2.1 (by omega)
    | cons q rem =>
      obtain ⟨y0, x0, hq, hE2⟩ := hE'
      have i1 := Int.emod_nonneg x' (show y' ≠ 0 by omega)
      have i2 := Int.emod_lt_of_pos x' y0
      have k1 := bits_le (B := 100) b1 b2
      have k2 := bits_le (B := 100) b3 b4
      have k3 : Builtin.Int.intBits x' ≤ 256 := by omega
      have k4 : Builtin.Int.intBits y' ≤ 256 := by omega
      rw [List.length_cons] at hlen
      have z1 : dq.length < 100000 := by omega
      have z2 : (pr ++ [x', y']).length < 100000 := by rw [List.length_append]; simp only [List.length_cons, List.length_nil]; omega
      k_steps
      dsimp only [TPost]
      refine' TEnd.intro (fun m => ⟨rem, y', x' % y', dq ++ [q], pr ++ [x'], m (Str.ofString "quotient"), m (Str.ofString "rest"), _, _, _, _⟩) ?F ?N ?sub ?hm ?S
      case F => k_asm
      case N => k_asm
      case sub => ((try dsimp only); k_allIn)
      case hm =>
        intro z
        by_cases h0 : z = Str.ofString "quotient"
        · subst h0; rfl
        by_cases h1 : z = Str.ofString "rest"
        · subst h1; rfl
        simp only [h0, h1, if_false]
      case S =>
        have s1 : pr ++ [x'] ++ [y', x' % y'] = pr ++ [x', y'] ++ [x' % y'] := by simp
        have s2 : dq ++ [q] ++ rem = qs := by rw [← hdq]; simp
        have s3 : pr ++ [x'] ++ y' :: x' % y' :: tailR rem y' (x' % y') = x :: y :: tailR qs x y := by rw [← hall, tailR]; simp
        have s4 : (dq ++ [q]).length + rem.length ≤ 100 := by rw [List.length_append, List.length_singleton]; omega
        have s5 : (pr ++ [x']).length = (dq ++ [q]).length := by rw [List.length_append, List.length_append, hpr]; rfl
        refine ⟨⟨hE2, ?a1, ?a2, s2, s3, ⟨b3, b4, i1, Int.lt_trans i2 b4⟩, s4, s5⟩, Nat.lt_succ_self _⟩
        case a1 => dsimp only; rw [← hq]; assumption
        case a2 => dsimp only; rw [s1]; assumption
end
end Mine
namespace Mine
theorem namedV {vs : List Value} {ns : List Int} (_ : IntsAre vs ns) : ∃ vs' ns', vs' = vs ∧ ns' = ns := ⟨vs, ns, rfl, rfl⟩
theorem namedC {g h : Heap} {L a b : Addr} {o1 o2 o3 o4 : Obj} (_ : News g L h [(a, o1), (b, o2), (37, o3), (30, o4)]) : ∃ (h' : Heap) (o1' o2' : Obj), h' = h ∧ o1' = o1 ∧ o2' = o2 := ⟨h, o1, o2, rfl, rfl, rfl⟩
theorem namedS {l : List (Addr × Addr)} {s : Shared} (_ : TabsAt l s.heap) : ∃ s', s' = s := ⟨s, rfl⟩
theorem namedD {o : Obj} {l : Addr} (_ : o.data = .cell (some (.ref l))) : ∃ (l' : Addr) (o' : Obj), l' = l ∧ o' = o := ⟨l, o, rfl, rfl⟩
/-- a mark in the context: the walk stops where a line asks for it -/
inductive Flag : Nat → Prop
  | on (n : Nat) : Flag n
theorem hold_flag (n : Nat) (_ : Flag n) {M : Model} {A : Around} {α : Type} {tr : Sem α} {Q : α → Shared → Prop} {E : Value → Shared → Prop} {s : Shared} (h : Hold (wpAny M A tr Q E s)) : wpAny M A tr Q E s := h
/-- one statement of a block: what it leaves is said anew -/
theorem joinAt {prog : Program} {w : World} {A : Around} {E : Value → Shared → Prop} {s : Shared} {env : Env} {h₀ : Heap} {L : Addr} {st : Stmt} {P : Flow → Shared → Prop} {σ : Type} {m₀ : Str → Option Value} (_ : Fr h₀ L s.heap m₀) (ov : σ → (Str → Option Value) → Str → Option Value) (Ld : σ → List (Addr × Obj)) (S : σ → Prop)
    (first : wpAny (model prog w) A (exec st env) (fun fl s₂ => fl = .next ∧ TEnd h₀ L (fun c => ov c m₀) Ld S s s₂) E s)
    (rest : ∀ c, S c → ∀ h tk, Fr h₀ L h (ov c m₀) → News h₀ L h (Ld c) → P .next { s with heap := h, toks := tk }) : Hold (wpAny (model prog w) A (exec st env) P E s) := by
  refine wpAny_mono first (fun fl s₂ hp => ?_) fun _ _ e => e
  obtain ⟨rfl, c', h', tk', m', rfl, F', hm', N', hS'⟩ := hp
  have e : m' = ov c' m₀ := funext hm'
  subst e
  exact rest c' hS' h' tk' F' N'
/-- one quotient of the row -/
def rowf (x : Int) : Int := 1 + (if x < 0 then -x else x).fmod 20
structure J1 where
  lr : Addr
  vr : List Value
  nr : Nat
  r : List Int
  oc : Obj
def J1S (b : Addr) (c : J1) : Prop := c.oc.data = .cell (some (.ref c.lr)) ∧ IntsAre c.vr c.r ∧ c.r ≠ [] ∧ (∀ q ∈ c.r, 1 ≤ q ∧ q ≤ 20) ∧ c.r.length ≤ 6 ∧ (@Ne Nat (b + 1 + 1) c.lr ∧ @Ne Nat (b + 1) c.lr ∧ @Ne Nat 37 c.lr ∧ @Ne Nat 30 c.lr)
def J2S (row : List Int) (b : Addr) (c : J1) : Prop := c.oc.data = .cell (some (.ref c.lr)) ∧ IntsAre c.vr row ∧ (@LT.lt Nat _ (b + 1 + 1) c.lr)
theorem rowf_bd (x : Int) : 1 ≤ rowf x ∧ rowf x ≤ 20 := by
  unfold rowf
  rw [Int.fmod_eq_emod_of_nonneg _ (by decide)]
  omega
theorem row_bd (l : List Int) : ∀ q ∈ l.map rowf, 1 ≤ q ∧ q ≤ 20 := fun q hq => by
  obtain ⟨x, _, rfl⟩ := List.mem_map.mp hq
  exact rowf_bd x
theorem back_last (i : List Int) (z : Int) : (i ++ [z]).getD (-1 + ((i ++ [z]).length : Int)).toNat 0 = z := by
  have e : (-1 + ((i ++ [z]).length : Int)).toNat = i.length := by rw [List.length_append]; simp only [List.length_cons, List.length_nil]; omega
  rw [e, List.getD_eq_getElem?_getD, List.getElem?_append_right (by omega), show i.length - i.length = 0 by omega]; rfl
theorem row_facts {i : List Int} {z0 z : Int} (hbd : ∀ q ∈ i ++ [z0], 1 ≤ q ∧ q ≤ 20) (hlen : (i ++ [z0]).length ≤ 6) (hz : z = z0 + 1) : Ones i ∧ 2 ≤ z ∧ z ≤ 21 ∧ (∀ q ∈ i ++ [z], 0 ≤ q ∧ q ≤ 1000) ∧ (∀ q ∈ (i ++ [z]).drop 1, 0 ≤ q ∧ q ≤ 1000) ∧ (i ++ [z]).length ≤ 6 := by
  have h0 := hbd z0 (List.mem_append.mpr (.inr (.head _)))
  have hi : ∀ q ∈ i, 1 ≤ q ∧ q ≤ 20 := fun q hq => hbd q (List.mem_append.mpr (.inl hq))
  have hb0 : ∀ q ∈ i ++ [z], 0 ≤ q ∧ q ≤ 1000 := fun q hq => by
    rcases List.mem_append.mp hq with h | h
    · have := hi q h; omega
    · rw [List.mem_singleton.mp h]; omega
  refine ⟨fun q hq => (hi q hq).1, by omega, by omega, hb0, fun q hq => hb0 q (List.mem_of_mem_drop hq), ?_⟩
  rw [List.length_append] at hlen ⊢; exact hlen
/-- quotients from 1 to 21 -/
def In21 (r : List Int) : Prop := ∀ q ∈ r, 1 ≤ q ∧ q ≤ 21
theorem In21.ones {r : List Int} (h : In21 r) : Ones r := fun q hq => (h q hq).1
theorem row_21 {i : List Int} {z0 z : Int} (hbd : ∀ q ∈ i ++ [z0], 1 ≤ q ∧ q ≤ 20) (hz : z = z0 + 1) : In21 (i ++ [z]) := fun q hq => by
  rcases List.mem_append.mp hq with h | h
  · have := hbd q (List.mem_append.mpr (.inl h)); omega
  · have := hbd z0 (List.mem_append.mpr (.inr (.head _)))
    rw [List.mem_singleton.mp h]; omega
theorem kd_le {r : List Int} (h : Ones r) : kd r ≤ kk r := by
  cases r with
  | nil => decide
  | cons q r =>
    have ho : Ones r := fun x hx => h x (.tail _ hx)
    obtain ⟨p1, p2, _⟩ := k_pos r ho
    have hq := h q (.head _)
    have h4 : 1 * kk r ≤ q * kk r := Int.mul_le_mul_of_nonneg_right hq (by omega)
    rw [kk_cons]; show kk r ≤ _; omega
theorem kk_le22 : ∀ {r : List Int}, In21 r → kk r ≤ 22 ^ r.length
  | [], _ => by decide
  | q :: r, h => by
    have h' : In21 r := fun x hx => h x (.tail _ hx)
    have ih := kk_le22 h'
    obtain ⟨p1, p2, _⟩ := k_pos r h'.ones
    have hq := h q (.head _)
    have h4 : q * kk r ≤ 21 * kk r := Int.mul_le_mul_of_nonneg_right hq.2 (by omega)
    have h5 := kd_le h'.ones
    rw [kk_cons, List.length_cons, Int.pow_succ]; omega
theorem pow_22 {n m : Nat} (h : n ≤ m) : (22 : Int) ^ n ≤ 22 ^ m := by
  obtain ⟨k, rfl⟩ := Nat.le.dest h
  induction k with
  | zero => exact Int.le_refl _
  | succ k ih =>
    have i1 := ih (by omega)
    have : 0 < (22 : Int) ^ (n + k) := Int.pow_pos (by decide)
    rw [← Nat.add_assoc, Int.pow_succ]; omega
theorem kk_small {r : List Int} {m : Nat} (h : In21 r) (hl : r.length ≤ m) : 1 ≤ kk r ∧ kk r ≤ 22 ^ m :=
  ⟨(k_pos r h.ones).1, Int.le_trans (kk_le22 h) (pow_22 hl)⟩
theorem ko_small {r : List Int} {m : Nat} (h : In21 r) (hl : r.length ≤ m) : 0 ≤ ko r ∧ ko r ≤ 22 ^ m := by
  have e := k_rev r.reverse
  rw [List.reverse_reverse] at e
  have h' : In21 r.reverse := fun q hq => h q (List.mem_reverse.mp hq)
  have p := k_pos r.reverse h'.ones
  have := kd_le h'.ones
  have := (kk_small (m := m) h' (by rw [List.length_reverse]; exact hl)).2
  rw [e.2]
  exact ⟨p.2.1, by omega⟩
theorem row_bounds {r : List Int} (h : In21 r) (hl : r.length ≤ 6) : 1 ≤ kk r ∧ kk r ≤ 113379904 ∧ 0 ≤ ko r ∧ ko r ≤ 113379904 ∧ 1 ≤ kk (r.drop 1) ∧ kk (r.drop 1) ≤ 113379904 ∧ 0 ≤ ko (r.drop 1) ∧ ko (r.drop 1) ≤ 113379904 := by
  have h' : In21 (r.drop 1) := fun q hq => h q (List.mem_of_mem_drop hq)
  have hl' : (r.drop 1).length ≤ 6 := by rw [List.length_drop]; omega
  have a := kk_small h hl
  have b := ko_small h hl
  have c := kk_small h' hl'
  have d := ko_small h' hl'
  have e : (22 : Int) ^ 6 = 113379904 := by decide
  rw [e] at a b c d
  exact ⟨a.1, a.2, b.1, b.2, c.1, c.2, d.1, d.2⟩
theorem dm_fresh2 (w : World) {p : Program} {loose : List Str} {mean : ExcName → Option Value} {mg mb : Str → Option Value}
  {dp un : Nat} {gd : Option (List Code)} {cn : Str} {cs : Scope} {a : Addr} {ccd : Value} {cl : List (Str × Addr)} {outer : List Env} {A₀ : Around} {base h₀ : Heap} {L : Addr} {m : Str → Option Value} {s : Shared} {Q E : Value → Shared → Prop} {x b : Int} {tx tb : Tok} {rest : List (Addr × Obj)}
  (B : Below A₀ base outer h₀) (F : Fr h₀ L s.heap m) (X : (Mine.hd.heap_39 w.params).In h₀) (N : News h₀ L s.heap ((37, tabObj #[]) :: (30, tabObj #[]) :: rest)) (T : Top p loose mean mg mb h₀) (hk : cs.kind = .function) (C30 : CodeHd base 34 30) (C37 : CodeHd base 41 37) (n30 : ∀ p ∈ rest, p.1 ≠ 30) (n37 : ∀ p ∈ rest, p.1 ≠ 37)
  (hx0 : 0 ≤ x) (hb : 0 < b) (hxb : Builtin.Int.intBits x ≤ 256) (hbb : Builtin.Int.intBits b ≤ 256)
  (hd : dp + 14 < recursionLimit) (hu : un + 120 < cLine)
  (hret : ∀ l t1 t2 c₃ oc₃ cv₃ t₃ c₄ oc₄ cv₄ t₄ h' tk', oc₃.data = .fields cv₃ → cv₃[1]? = some (.str (Str.ofString "_int2digits.<locals>.inner") t₃) → oc₄.data = .fields cv₄ → cv₄[1]? = some (.str (Str.ofString "_digits2int.<locals>.inner") t₄) → Fr h₀ L h' m →
    News h₀ L h' ((l, tupOf #[.int (x / b) t1, .int (x % b) t2]) :: (c₄, oc₄) :: (c₃, oc₃) :: (37, tabObj #[rawInt 47, rawInt 4, .ref c₄]) :: (30, tabObj #[rawInt 32, rawInt 4, .ref c₃]) :: rest) → (∀ p ∈ (37, tabObj #[]) :: (30, tabObj #[]) :: rest, p.1 < c₃) → @LT.lt Nat _ c₃ c₄ → @LT.lt Nat _ c₄ l → Q (.ref l) { s with heap := h', toks := tk' }) :
  wpAny (model PySem.Challenge.rw_mq0469_02.row.prog w) (ktrTop dp un gd cn cs L a ccd cl outer) (call (.ref 49) [.int x tx, .int b tb]) Q E s :=
  dm_fresh (g30 := fun o => (37, tabObj #[]) :: (30, o) :: rest) (g37 := fun o o' => (37, o') :: (30, o) :: rest) w B F X N T hk C30 C37 (.tail (by decide) (.head n30)) (fun o => .head (List.forall_mem_cons.mpr ⟨(show @Ne Nat 30 37 by decide), n37⟩)) hx0 hb hxb hbb hd hu hret
theorem namedT {o : Obj} {x : Int} {t : Tok} (_ : o.data = .cell (some (.int x t))) : ∃ (o' : Obj), o' = o := ⟨o, rfl⟩
structure J3 where
  c3 : Addr
  c4 : Addr
  oc3 : Obj
  oc4 : Obj
  rv : Option Value
def J3S (R : Int) (lr : Addr) (c : J3) : Prop := (∃ t, c.rv = some (.int R t)) ∧ (∃ cv t, c.oc3.data = .fields cv ∧ cv[1]? = some (.str (Str.ofString "_int2digits.<locals>.inner") t)) ∧ (∃ cv t, c.oc4.data = .fields cv ∧ cv[1]? = some (.str (Str.ofString "_digits2int.<locals>.inner") t)) ∧ @LT.lt Nat _ lr c.c3 ∧ @LT.lt Nat _ c.c3 c.c4
/-- what the law asks, of a row, its total T and its root R -/
structure Facts (row due : List Int) (z T R : Int) : Prop where
  b : 1 ≤ T ∧ T < 2 ^ 60 ∧ 0 ≤ R ∧ R < T
  div : (R * R + 1) / T = ko row * ko row + ko (row.drop 1) * ko (row.drop 1)
  mod : (R * R + 1) % T = 0
  euc1 : Euc due T R
  fil1 : (T :: R :: tailR due T R).filter (fun x => decide (x * x ≤ T)) = rs row
  euc2 : Euc ([1, z - 1] ++ due.drop 1) T (T - R)
  fil2 : (T :: (T - R) :: tailR ([1, z - 1] ++ due.drop 1) T (T - R)).filter (fun x => decide (x * x ≤ T)) = rs row
  head : due.getD 0 0 = z
  len : 1 ≤ due.length ∧ due.length ≤ 12
theorem law_facts {i : List Int} {z : Int} (hon : Ones i) (hz2 : 2 ≤ z) (h21 : In21 (i ++ [z])) (hl : (i ++ [z]).length ≤ 6) : ∃ (due : List Int) (T R : Int), (i ++ [z]).reverse ++ (i ++ [z]) = due ∧
    kk (i ++ [z]) * kk (i ++ [z]) + kk ((i ++ [z]).drop 1) * kk ((i ++ [z]).drop 1) = T ∧ kk (i ++ [z]) * ko (i ++ [z]) + kk ((i ++ [z]).drop 1) * ko ((i ++ [z]).drop 1) = R ∧ Facts (i ++ [z]) due z T R := by
  have hr := row2 hon hz2
  refine ⟨_, _, _, hr.due, hr.total, hr.root, ⟨⟨?_, ?_, ?_, ?_⟩, hr.div, hr.mod, hr.euc1, ?_, hr.euc2, ?_, rfl, ?_⟩⟩
  · refine (k_pos _ (fun x hx => ?_)).1
    rw [← hr.due] at hx
    rcases List.mem_append.mp hx with h | h
    · exact (h21 x (List.mem_reverse.mp h)).1
    · exact (h21 x h).1
  · have h2 : In21 (z :: (i.reverse ++ (i ++ [z]))) := fun x hx => by
      rw [← hr.due] at hx
      rcases List.mem_append.mp hx with h | h
      · exact h21 x (List.mem_reverse.mp h)
      · exact h21 x h
    have h3 := (kk_small (m := 12) h2 (by rw [← hr.due, List.length_append, List.length_reverse]; omega)).2
    have : (22 : Int) ^ 12 < 2 ^ 60 := by decide
    omega
  · have := hr.euc1.1; omega
  · have := hr.euc2.1; omega
  · rw [hr.rest1, hr.fil1]
  · exact (congrArg (List.filter fun x => decide (x * x ≤ kk (z :: (i.reverse ++ (i ++ [z]))))) hr.rest2).trans hr.fil2
  · have e := congrArg List.length hr.due
    rw [List.length_append, List.length_reverse] at e
    rw [← e]
    have : 1 ≤ (i ++ [z]).length := by rw [List.length_append, List.length_singleton]; omega
    omega
theorem Facts.dm {row due : List Int} {z T R : Int} (h : Facts row due z T R) : 1 ≤ T ∧ T < 2 ^ 60 ∧ 0 ≤ R ∧ R < T ∧ 0 ≤ R * R + 1 ∧ Builtin.Int.intBits (R * R + 1) ≤ 256 ∧ Builtin.Int.intBits T ≤ 256 := by
  obtain ⟨b1, b2, b3, b4⟩ := h.b
  have b5 : 0 ≤ R * R := Int.mul_nonneg b3 b3
  have b6 : R * R ≤ 2 ^ 60 * 2 ^ 60 := Int.mul_le_mul (by omega) (by omega) b3 (by decide)
  have b7 : (2 : Int) ^ 60 * 2 ^ 60 < 2 ^ 121 - 1 := by decide
  have k1 := bits_le (v := R * R + 1) (B := 121) (by omega) (by omega)
  have k2 := bits_le (v := T) (B := 60) (by omega) b2
  exact ⟨b1, b2, b3, b4, by omega, by omega, by omega⟩
/-- the continuants of the row's ends -/
theorem ends_eq : ∀ row : List Int, ((rangeKs 0 (row.length + 1)).map fun k => kk (row.drop k.toNat)) ++ [0] = rs row := by
  have e : ∀ row : List Int, ((rangeKs 0 (row.length + 1)).map fun k => kk (row.drop k.toNat)) = (List.range (row.length + 1)).map fun i => kk (row.drop i) := fun row => by
    unfold rangeKs
    rw [List.map_map]
    refine List.map_congr_left fun i _ => ?_
    show kk (List.drop (0 + (i : Int)).toNat row) = _
    rw [Int.zero_add, Int.toNat_natCast]
  intro row
  rw [e]
  induction row with
  | nil => rfl
  | cons q r ih =>
    rw [List.length_cons, List.range_succ_eq_map, List.map_cons, List.map_map]
    show kk (q :: r) :: (List.map (fun i => kk (List.drop i r)) (List.range (r.length + 1)) ++ [0]) = rs (q :: r)
    rw [ih]; rfl
/-- one turn of the law's filter -/
def pickT (T : Int) (l : List Int) (k : Int) : List Int := if k * k ≤ T then l ++ [k] else l
theorem pick_filter (T : Int) : ∀ (ks l : List Int), ks.foldl (pickT T) l = l ++ ks.filter (fun x => decide (x * x ≤ T))
  | [], l => by simp
  | k :: ks, l => by
    rw [List.foldl_cons, pick_filter T ks]
    by_cases h : k * k ≤ T
    · rw [pickT, if_pos h, List.filter_cons_of_pos (by simpa using h), List.append_assoc]; rfl
    · rw [pickT, if_neg h, List.filter_cons_of_neg (by simpa using h)]
theorem pick_grows (T : Int) : KPfGrows (pickT T) := by
  intro l k
  unfold pickT
  split <;> simp
theorem tailR_length : ∀ (qs : List Int) (x y : Int), (tailR qs x y).length = qs.length
  | [], _, _ => rfl
  | q :: qs, x, y => by rw [tailR, List.length_cons, List.length_cons, tailR_length]
theorem pick_yes {T k : Int} {l : List Int} (h : k * k ≤ T) : pickT T l k = l ++ [k] := if_pos h
theorem pick_no {T k : Int} {l : List Int} (h : ¬ k * k ≤ T) : pickT T l k = l := if_neg h
theorem tailR_bd : ∀ (qs : List Int) (x y : Int), Euc qs x y → ∀ v ∈ tailR qs x y, 0 ≤ v ∧ v ≤ y
  | [], _, _, _, v, hv => nomatch hv
  | q :: qs, x, y, h, v, hv => by
    obtain ⟨h1, _, _, h4⟩ := h
    have i1 := Int.emod_nonneg x (show y ≠ 0 by omega)
    have i2 := Int.emod_lt_of_pos x h1
    rcases List.mem_cons.mp hv with rfl | hv
    · omega
    · have := tailR_bd qs y (x % y) h4 v hv; omega
theorem rests_bd {qs : List Int} {x y : Int} (h : Euc qs x y) (hb : 0 ≤ x ∧ x < 2 ^ 60 ∧ 0 ≤ y ∧ y < 2 ^ 60) : ∀ v ∈ x :: y :: tailR qs x y, 0 ≤ v ∧ v < 2 ^ 60 := fun v hv => by
  rcases List.mem_cons.mp hv with rfl | hv
  · omega
  rcases List.mem_cons.mp hv with rfl | hv
  · omega
  · have := tailR_bd qs x y h v hv; omega
theorem rs_length : ∀ row : List Int, (rs row).length = row.length + 2
  | [] => rfl
  | q :: r => by rw [rs, List.length_cons, List.length_cons, rs_length]
theorem ends_length {es row : List Int} (h : es ++ [0] = rs row) : es.length = row.length + 1 := by
  have e := congrArg List.length h
  rw [List.length_append, List.length_singleton, rs_length] at e
  omega
end Mine
namespace Mine
/-- the body of the loop that stands as statement i in the def at f, and the def's scope -/
def loopAt (K : Frag) (f : Addr) (i : Nat) : Option (List Stmt × Scope) := match K.lookup f with
  | some ⟨_, _, .func fd, _⟩ => (match fd.body with
    | .stmts b => (match b[i]? with
      | some (.For _ _ body _ _) => some (body, fd.scope)
      | _ => none)
    | _ => none)
  | _ => none
section
local macro_rules | `(tactic| walk_at "call ref") => `(tactic| (k_here; k_dflt (refine hold_call ?_)))
local macro_rules | `(tactic| k_all) => `(tactic| first | with_reducible assumption | exact allNe_le (by with_reducible assumption) (by omega) | ((rename ∀ _, AllLt _ _ => hR9); exact allNe_le (hR9 _) (by omega)))
local macro_rules | `(tactic| k_updF) => `(tactic| with_reducible assumption)
local macro_rules | `(tactic| k_mem) => `(tactic| first | exact memOf (by with_reducible assumption) | exact memOf (AllMem.at (by with_reducible assumption)) | fail "no such entry")
local macro_rules | `(tactic| k_allIn) => `(tactic| (intro p9 hp9; k_ownIn))
local macro_rules | `(tactic| walk_at "ite") => `(tactic| (k_here; k_openite; first | (refine ite_pos (by first | omega | (simp only [decide_eq_true_eq, beq_iff_eq, bne_iff_ne, ne_eq]; omega)) ?_) | (refine ite_neg (by first | omega | (simp only [decide_eq_true_eq, beq_iff_eq, bne_iff_ne, ne_eq]; omega)) ?_)))
local macro_rules | `(tactic| walk_at "binaryOp Mult ref int") => `(tactic| (k_here; (with_reducible show wpAny _ _ (binaryOp Operator.Mult (Value.ref _) (Value.int _ _)) _ _ _); k_dflt (refine' mulOne ?F ?N ?l ?lo ?hi ?_; (case F => k_asm); (case N => k_asm); (case l => is_list); (case lo => first | assumption | omega); (case hi => first | assumption | omega); k_whole); intro D' h' vs' hi' F' N' l1; (try k_lt l1)))
local macro_rules | `(tactic| walk_at "call builtin:len") => `(tactic| (k_here; (with_reducible show wpAny _ _ (call (Value.builtin "len") [Value.ref _]) _ _ _); k_dflt (refine' lenInts ?N ?m ?i ?f ?_; (case N => k_asm); (case m => k_mem); (case i => with_reducible assumption); (case f => (first | omega | (simp only [List.length_replicate]; omega))); k_whole); intro t' tk'))
local macro_rules | `(tactic| walk_at "truthy ref") => `(tactic| (k_here; k_dflt (refine' truthyInts ?N ?m ?i ?f ?_; (case N => k_asm); (case m => k_mem); (case i => with_reducible assumption); (case f => omega); k_whole); intro tk'))
local macro_rules | `(tactic| walk_at "call builtin:list.append") => `(tactic| (k_here; (with_reducible show wpAny _ _ (call (Value.builtin _) [Value.ref _, Value.int _ _]) _ _ _); k_dflt (refine' appendInts ?F ?N ?U ?hi ?hz ?_; (case F => k_asm); (case N => k_asm); (case U => k_upd); (case hi => with_reducible assumption); (case hz => omega); k_whole); intro h' F' N' hi'))
local macro_rules | `(tactic| walk_at "call builtin:list.reverse") => `(tactic| (k_here; (with_reducible show wpAny _ _ (call (Value.builtin _) [Value.ref _]) _ _ _); k_dflt (refine' reverseInts ?F ?N ?U ?hi ?hz ?_; (case F => k_asm); (case N => k_asm); (case U => k_upd); (case hi => with_reducible assumption); (case hz => omega); k_whole); intro h' F' N' hi'))
local macro_rules | `(tactic| walk_at "binaryOp LShift int int") => `(tactic| (k_here; k_dflt (refine' lshift_int ?a ?b ?_; (case a => first | assumption | omega); (case b => first | assumption | omega); k_whole)))
local macro_rules | `(tactic| walk_at "call ref") => `(tactic| (k_here; (with_reducible show wpAny _ _ (call (Value.ref 56) [Value.ref _]) _ _ _); k_dflt (refine' pair_spec _ ?B ?F ?X ?N ?T ?hk ?ml ?hi ?hs ?hd ?_; (case B => k_asm); (case F => k_asm); (case X => k_asm); (case N => k_asm); (case T => k_asm); (case hk => exact rfl); (case ml => k_mem); (case hi => assumption); (case hs => assumption); (case hd => first | ktr_room | omega)); intro l' t1' t2' h' tk' F' N' l1; (try k_lt l1)))
local macro_rules | `(tactic| walk_at "subscriptTail Name UnaryOp ref int") => `(tactic| (k_here; (with_reducible show wpAny _ _ (subscriptTail _ _ (Value.ref _) (Value.int _ _)) _ _ _); k_dflt (refine' itemBack ?k1 ?k2 ?k3 ?k4 ?k5 ?k6 ?k8 ?_ ?k7 ?k9; (case k1 => k_asm); (case k2 => k_mem); (case k3 => with_reducible assumption); (case k4 => decide); (case k5 => (first | assumption | (simp only [List.length_append, List.length_cons, List.length_nil]; omega))); (case k6 => decide); (case k8 => assumption); (case k7 => with_unfolding_all rfl); (case k9 => (intro r9; with_unfolding_all rfl)); k_whole); intro t9))
local macro_rules | `(tactic| walk_at "call type:list") => `(tactic| (k_here; (with_reducible show wpAny _ _ (call (Value.type "list") [Value.ref _]) _ _ _); k_dflt (refine' listOfRev ?hh ?F ?N ?hm ?hi ?hof ?hz ?_; (case hh => exact rfl); (case F => k_asm); (case N => k_asm); (case hm => k_mem); (case hi => assumption); (case hof => (repeat (refine List.forall_mem_cons.mpr ⟨by (show @LT.lt Nat _ _ _; omega), ?_⟩)); exact List.forall_mem_nil _); (case hz => omega); k_whole); intro D' us' c' h' tk' F' N' l1 hI'; (try k_lt l1)))
local macro_rules | `(tactic| walk_at "CompSrc") => `(tactic| (refine holdP ?_))
local macro_rules | `(tactic| walk_at "subscriptTail Name Constant ref int") => `(tactic| (k_here; (with_reducible show wpAny _ _ (subscriptTail _ _ (Value.ref _) (Value.int _ _)) _ _ _); k_dflt (refine' itemFront ?k1 ?k2 ?k3 ?k4 ?k5 ?k6 ?k8 ?_ ?k7; (case k1 => k_asm); (case k2 => k_mem); (case k3 => with_reducible assumption); (case k4 => decide); (case k5 => omega); (case k6 => decide); (case k8 => assumption); (case k7 => with_unfolding_all rfl); k_whole); intro t9))
local macro_rules | `(tactic| walk_at "compareOp NotEq ref ref") => `(tactic| (k_here; (with_reducible show wpAny _ _ (compareOp CmpOp.NotEq (Value.ref _) (Value.ref _)) _ _ _); k_dflt (refine' neEq ?k1 ?k2 ?k3 ?k4 ?k5 ?e ?_; (case k1 => kmk_list); (case k2 => kmk_list); (case k3 => with_reducible assumption); (case k4 => with_reducible assumption); (case k5 => first | ktr_units | units_room); (case e => first | with_reducible assumption | with_reducible rfl); k_whole)))
local macro_rules | `(tactic| walk_at "eval ListComp") => `(tactic| (k_here; lct_look; k_dflt (refine LCt.ListComp_T (F₀ := by k_asm) (by with_unfolding_all rfl) (by decide) (by rfl) (by decide) (by rfl) ?_)))
local macro_rules | `(tactic| walk_at "CompSrcT") => `(tactic| (refine holdP ?_))
local macro_rules | `(tactic| walk_at "binaryOp Add ref ref") => `(tactic| (k_here; (with_reducible show wpAny _ _ (binaryOp _ (Value.ref _) (Value.ref _)) _ _ _); k_dflt (refine' kmk_add_ints ?F ?N ?a ?b ?i ?j ?_ ?z; (case F => k_asm); (case N => k_asm); (case a => kmk_list); (case b => kmk_list); (case i => with_reducible assumption); (case j => first | with_reducible assumption | exact IntsAre.cons _ _ IntsAre.nil); (case z => exact fits_of (by (try simp only [List.length_cons, List.length_nil, List.length_append, List.length_drop, List.length_reverse, tailR_length]); omega))); intro D' ws' h' F' N' l1 hI'; (try k_lt l1)))
set_option maxHeartbeats 2000000 in
theorem turn_spec (w : World) {p : Program} {loose : List Str} {mean : ExcName → Option Value} {mg mb : Str → Option Value}
  {dp un : Nat} {gd : Option (List Code)} {cn : Str} {cs : Scope} {a : Addr} {ccd : Value} {outer : List Env} {A₀ : Around} {base h₀ : Heap} {L : Addr} {m : Str → Option Value} {news : List (Addr × Obj)} {s : Shared} {Q : Flow → Shared → Prop} {E : Value → Shared → Prop} {body : List Stmt} {c₃ c₄ : Addr} {oc₃ oc₄ : Obj} {cv₃ cv₄ : Array Value} {t₃ t₄ : Tok} {qs es row : List Int} {T y : Int} {tT ty : Tok} {lt le : Addr} {ve vt : List Value} {ne nt : Nat} {ot : Obj}
  (hbody : loopAt (Mine.hd.heap_39 w.params) 68 10 = some (body, cs))
  (B : Below A₀ base outer h₀) (F : Fr h₀ L s.heap (fun z => if z = Str.ofString "told" then some (.ref lt) else if z = Str.ofString "start" then some (.int y ty) else if z = Str.ofString "ends" then some (.ref le) else m z)) (X : (Mine.hd.heap_39 w.params).In h₀) (N : News h₀ L s.heap news) (T₀ : Top p loose mean mg mb h₀)
  (C30 : CodeHd base 34 30) (C37 : CodeHd base 41 37) (m30 : (30, tabObj #[rawInt 32, rawInt 4, .ref c₃]) ∈ news) (mc3 : (c₃, oc₃) ∈ news) (hoc3 : oc₃.data = .fields cv₃) (hcv3 : cv₃[1]? = some (.str (Str.ofString "_int2digits.<locals>.inner") t₃)) (m37 : (37, tabObj #[rawInt 47, rawInt 4, .ref c₄]) ∈ news) (mc4 : (c₄, oc₄) ∈ news) (hoc4 : oc₄.data = .fields cv₄) (hcv4 : cv₄[1]? = some (.str (Str.ofString "_digits2int.<locals>.inner") t₄))
  (mT : (L + 1 + 1, ot) ∈ news) (hoT : ot.data = .cell (some (.int T tT))) (mt : (lt, listOf vt.toArray nt) ∈ news) (ht : IntsAre vt qs) (me : (le, listOf ve.toArray ne) ∈ news) (he : IntsAre ve es)
  (hE : es ++ [0] = rs row) (hEuc : Euc qs T y) (hfil : (T :: y :: tailR qs T y).filter (fun x => decide (x * x ≤ T)) = rs row) (hc : 0 ≤ T ∧ T < 2 ^ 60 ∧ 0 ≤ y ∧ y < 2 ^ 60) (hql : qs.length ≤ 20) (hel : es.length ≤ 20)
  (hd : dp + 20 < recursionLimit) (hu : un + 240 < cLine)
  (hret : ∀ vq vr h' tk', Fr h₀ L h' (fun z => if z = Str.ofString "rests" then some vr else if z = Str.ofString "quotients" then some vq else if z = Str.ofString "told" then some (.ref lt) else if z = Str.ofString "start" then some (.int y ty) else if z = Str.ofString "ends" then some (.ref le) else m z) → News h₀ L h' news → Q .next { s with heap := h', toks := tk' }) :
  wpAny (model PySem.Challenge.rw_mq0469_02.row.prog w) (ktrTop dp un gd cn cs L a ccd (cellsFrom (L + 1) cs.names []) outer) (execs body (envX cn cs L a ccd (cellsFrom (L + 1) cs.names []))) Q E s := by
  w_top off
  revert X; k_fill; intro X
  cases hbody
  have hcb : 0 ≤ T ∧ T < 2 ^ 100 ∧ 0 ≤ y ∧ y < 2 ^ 100 := by omega
  k_steps
  refine Hold.out ?_
  refine' run_spec _ ?qB ?qF ?qX ?qN ?qT ?qhk ?qC30 ?qC37 ?qm30 ?qmc3 ?qhoc3 ?qhcv3 ?qm37 ?qmc4 ?qhoc4 ?qhcv4 ?qhE ?qhb ?qhql ?qhd ?qhu ?_
  case qB => k_asm
  case qF => k_asm
  case qX => k_asm
  case qN => k_asm
  case qT => k_asm
  case qhk => exact rfl
  case qC30 => exact C30
  case qC37 => exact C37
  case qm30 => exact m30
  case qmc3 => exact mc3
  case qhoc3 => exact hoc3
  case qhcv3 => exact hcv3
  case qm37 => exact m37
  case qmc4 => exact mc4
  case qhoc4 => exact hoc4
  case qhcv4 => exact hcv4
  case qhE => exact hEuc
  case qhb => exact hcb
  case qhql => omega
  case qhd => omega
  case qhu => omega
  clear hcb
  intro l9 lq9 lr9 nq9 nr9 vq9 vr9 h9 tk9 hq9 hr9 F9 N9 la9 lb9 lc9
  have lR := allLt_of la9
  k_steps
  refine Hold.out ?_
  refine LCt.CompSrcT.ledger (by rfl) (by k_asm) (by k_asm) (by k_mem) (sizeInts hr9 (by rw [List.length_cons, List.length_cons, tailR_length]; omega)) ?_
  intro g9
  refine kci_list (pickT T) hr9 ?fturn ?ffin (pick_grows T)
  case fturn =>
    intro k' t' I' oI' C' oC' D' m' ys' l' h' tk' E' hk' hI' hC' hx' F' N' off' ne'
    (show KPfMark → _)
    intro hMark'
    have off0 := off'
    simp only [LCg.Off3] at off'
    obtain ⟨hk1, hk2⟩ := rests_bd hEuc hc k' hk'
    by_cases hle : k' * k' ≤ T
    · rw [pick_yes hle]
      k_steps
      exact LCg.CompEnd.intro (by k_asm) (by k_asm) _ (fun _ h => h) off0 (.inr ⟨_, .tail _ (.head _), rfl, _, rfl⟩) ⟨rfl, k', _, rfl, rfl⟩
    · rw [pick_no hle]
      k_steps
      exact LCg.CompEnd.intro (by k_asm) (by k_asm) _ (fun _ h => h) off0 (.inr ⟨_, .tail _ (.head _), rfl, _, rfl⟩) ⟨rfl, rfl⟩
  case ffin =>
    show ∀ ys, _ → _ → _
    intro ys9 hy9 _
    rw [pick_filter, List.nil_append, hfil, ← hE] at hy9
    k_steps
    rename IntsAre _ (qs ++ T :: _) => hs9
    refine Hold.out ?_
    refine LCt.CompSrcT.ledger (by rfl) (by k_asm) (by k_asm) (by k_mem) (sizeInts hs9 (by rw [List.length_append, List.length_cons, List.length_cons, tailR_length]; omega)) ?_
    intro g8
    refine compNone hs9 (by k_mem) ?cturn ?cfin
    case cturn =>
      intro z t I oI C oC D m₂ h tk E' hC hx F N off ne
      k_steps
      exact CTurn.intro (by k_asm) (by k_asm) (fun _ h => h)
    case cfin =>
      k_steps
      exact hret _ _ _ _ (by k_asm) (cb_drop (by k_asm) (by k_allIn))
end
end Mine
namespace Mine
/-- the statements of the def at f from the i-th on, and its scope -/
def stmtsFrom (K : Frag) (f : Addr) (i : Nat) : Option (List Stmt × Scope) := match K.lookup f with
  | some ⟨_, _, .func fd, _⟩ => (match fd.body with
    | .stmts b => some (b.drop i, fd.scope)
    | _ => none)
  | _ => none
theorem fr_ends {h₀ h : Heap} {L : Addr} {A B e : Option Value} {m : Str → Option Value} (F : Fr h₀ L h (fun z => if z = Str.ofString "told" then A else if z = Str.ofString "start" then B else m z)) (he : m (Str.ofString "ends") = e) : Fr h₀ L h (fun z => if z = Str.ofString "told" then A else if z = Str.ofString "start" then B else if z = Str.ofString "ends" then e else m z) := by
  have e1 : (fun z => if z = Str.ofString "told" then A else if z = Str.ofString "start" then B else if z = Str.ofString "ends" then e else m z) = (fun z => if z = Str.ofString "told" then A else if z = Str.ofString "start" then B else m z) := by
    funext z
    by_cases h : z = Str.ofString "ends"
    · subst h; rw [if_pos rfl, he]
    · rw [if_neg h]
  rw [e1]; exact F
section
local macro_rules | `(tactic| walk_at "call ref") => `(tactic| (k_here; k_dflt (refine hold_call ?_)))
local macro_rules | `(tactic| k_all) => `(tactic| first | with_reducible assumption | exact allNe_le (by with_reducible assumption) (by omega) | ((rename ∀ _, AllLt _ _ => hR9); exact allNe_le (hR9 _) (by omega)))
local macro_rules | `(tactic| k_updF) => `(tactic| with_reducible assumption)
local macro_rules | `(tactic| k_mem) => `(tactic| first | exact memOf (by with_reducible assumption) | exact memOf (AllMem.at (by with_reducible assumption)) | fail "no such entry")
local macro_rules | `(tactic| k_allIn) => `(tactic| (intro p9 hp9; k_ownIn))
local macro_rules | `(tactic| walk_at "ite") => `(tactic| (k_here; k_openite; first | (refine ite_pos (by first | omega | (simp only [decide_eq_true_eq, beq_iff_eq, bne_iff_ne, ne_eq]; omega)) ?_) | (refine ite_neg (by first | omega | (simp only [decide_eq_true_eq, beq_iff_eq, bne_iff_ne, ne_eq]; omega)) ?_)))
local macro_rules | `(tactic| walk_at "binaryOp Mult ref int") => `(tactic| (k_here; (with_reducible show wpAny _ _ (binaryOp Operator.Mult (Value.ref _) (Value.int _ _)) _ _ _); k_dflt (refine' mulOne ?F ?N ?l ?lo ?hi ?_; (case F => k_asm); (case N => k_asm); (case l => is_list); (case lo => first | assumption | omega); (case hi => first | assumption | omega); k_whole); intro D' h' vs' hi' F' N' l1; (try k_lt l1)))
local macro_rules | `(tactic| walk_at "call builtin:len") => `(tactic| (k_here; (with_reducible show wpAny _ _ (call (Value.builtin "len") [Value.ref _]) _ _ _); k_dflt (refine' lenInts ?N ?m ?i ?f ?_; (case N => k_asm); (case m => k_mem); (case i => with_reducible assumption); (case f => (first | omega | (simp only [List.length_replicate]; omega))); k_whole); intro t' tk'))
local macro_rules | `(tactic| walk_at "truthy ref") => `(tactic| (k_here; k_dflt (refine' truthyInts ?N ?m ?i ?f ?_; (case N => k_asm); (case m => k_mem); (case i => with_reducible assumption); (case f => omega); k_whole); intro tk'))
local macro_rules | `(tactic| walk_at "call builtin:list.append") => `(tactic| (k_here; (with_reducible show wpAny _ _ (call (Value.builtin _) [Value.ref _, Value.int _ _]) _ _ _); k_dflt (refine' appendInts ?F ?N ?U ?hi ?hz ?_; (case F => k_asm); (case N => k_asm); (case U => k_upd); (case hi => with_reducible assumption); (case hz => omega); k_whole); intro h' F' N' hi'))
local macro_rules | `(tactic| walk_at "call builtin:list.reverse") => `(tactic| (k_here; (with_reducible show wpAny _ _ (call (Value.builtin _) [Value.ref _]) _ _ _); k_dflt (refine' reverseInts ?F ?N ?U ?hi ?hz ?_; (case F => k_asm); (case N => k_asm); (case U => k_upd); (case hi => with_reducible assumption); (case hz => omega); k_whole); intro h' F' N' hi'))
local macro_rules | `(tactic| walk_at "binaryOp LShift int int") => `(tactic| (k_here; k_dflt (refine' lshift_int ?a ?b ?_; (case a => first | assumption | omega); (case b => first | assumption | omega); k_whole)))
local macro_rules | `(tactic| walk_at "call ref") => `(tactic| (k_here; (with_reducible show wpAny _ _ (call (Value.ref 56) [Value.ref _]) _ _ _); k_dflt (refine' pair_spec _ ?B ?F ?X ?N ?T ?hk ?ml ?hi ?hs ?hd ?_; (case B => k_asm); (case F => k_asm); (case X => k_asm); (case N => k_asm); (case T => k_asm); (case hk => exact rfl); (case ml => k_mem); (case hi => assumption); (case hs => assumption); (case hd => first | ktr_room | omega)); intro l' t1' t2' h' tk' F' N' l1; (try k_lt l1)))
local macro_rules | `(tactic| walk_at "subscriptTail Name UnaryOp ref int") => `(tactic| (k_here; (with_reducible show wpAny _ _ (subscriptTail _ _ (Value.ref _) (Value.int _ _)) _ _ _); k_dflt (refine' itemBack ?k1 ?k2 ?k3 ?k4 ?k5 ?k6 ?k8 ?_ ?k7 ?k9; (case k1 => k_asm); (case k2 => k_mem); (case k3 => with_reducible assumption); (case k4 => decide); (case k5 => (first | assumption | (simp only [List.length_append, List.length_cons, List.length_nil]; omega))); (case k6 => decide); (case k8 => assumption); (case k7 => with_unfolding_all rfl); (case k9 => (intro r9; with_unfolding_all rfl)); k_whole); intro t9))
local macro_rules | `(tactic| walk_at "call type:list") => `(tactic| (k_here; (with_reducible show wpAny _ _ (call (Value.type "list") [Value.ref _]) _ _ _); k_dflt (refine' listOfRev ?hh ?F ?N ?hm ?hi ?hof ?hz ?_; (case hh => exact rfl); (case F => k_asm); (case N => k_asm); (case hm => k_mem); (case hi => assumption); (case hof => (repeat (refine List.forall_mem_cons.mpr ⟨by (show @LT.lt Nat _ _ _; omega), ?_⟩)); exact List.forall_mem_nil _); (case hz => omega); k_whole); intro D' us' c' h' tk' F' N' l1 hI'; (try k_lt l1)))
local macro_rules | `(tactic| walk_at "CompSrc") => `(tactic| (refine holdP ?_))
local macro_rules | `(tactic| walk_at "subscriptTail Name Constant ref int") => `(tactic| (k_here; (with_reducible show wpAny _ _ (subscriptTail _ _ (Value.ref _) (Value.int _ _)) _ _ _); k_dflt (refine' itemFront ?k1 ?k2 ?k3 ?k4 ?k5 ?k6 ?k8 ?_ ?k7; (case k1 => k_asm); (case k2 => k_mem); (case k3 => with_reducible assumption); (case k4 => decide); (case k5 => omega); (case k6 => decide); (case k8 => assumption); (case k7 => with_unfolding_all rfl); k_whole); intro t9))
local macro_rules | `(tactic| walk_at "compareOp NotEq ref ref") => `(tactic| (k_here; (with_reducible show wpAny _ _ (compareOp CmpOp.NotEq (Value.ref _) (Value.ref _)) _ _ _); k_dflt (refine' neEq ?k1 ?k2 ?k3 ?k4 ?k5 ?e ?_; (case k1 => kmk_list); (case k2 => kmk_list); (case k3 => with_reducible assumption); (case k4 => with_reducible assumption); (case k5 => first | ktr_units | units_room); (case e => first | with_reducible assumption | with_reducible rfl); k_whole)))
local macro_rules | `(tactic| walk_at "eval ListComp") => `(tactic| (k_here; lct_look; k_dflt (refine LCt.ListComp_T (F₀ := by k_asm) (by with_unfolding_all rfl) (by decide) (by rfl) (by decide) (by rfl) ?_)))
local macro_rules | `(tactic| walk_at "CompSrcT") => `(tactic| (refine holdP ?_))
local macro_rules | `(tactic| walk_at "binaryOp Add ref ref") => `(tactic| (k_here; (with_reducible show wpAny _ _ (binaryOp _ (Value.ref _) (Value.ref _)) _ _ _); k_dflt (refine' kmk_add_ints ?F ?N ?a ?b ?i ?j ?_ ?z; (case F => k_asm); (case N => k_asm); (case a => kmk_list); (case b => kmk_list); (case i => with_reducible assumption); (case j => first | with_reducible assumption | exact IntsAre.cons _ _ IntsAre.nil); (case z => exact fits_of (by (try simp only [List.length_cons, List.length_nil, List.length_append, List.length_drop, List.length_reverse, tailR_length]); omega))); intro D' ws' h' F' N' l1 hI'; (try k_lt l1)))
local macro_rules | `(tactic| walk_at "exec For Tuple List cons nil") => `(tactic| (k_here; first | refine hold_flag 3 (by assumption) ?_ | fail))
local macro_rules | `(tactic| walk_at "execs cons") => `(tactic| (k_here; first | refine hold_flag 4 (by assumption) ?_ | fail))
local macro_rules | `(tactic| walk_at "CompSrc") => `(tactic| (refine holdP ?_))
set_option maxHeartbeats 2000000 in
theorem tail_spec (w : World) {p : Program} {loose : List Str} {mean : ExcName → Option Value} {mg mb : Str → Option Value}
  {dp un : Nat} {gd : Option (List Code)} {cn : Str} {cs : Scope} {a : Addr} {ccd : Value} {outer : List Env} {A₀ : Around} {base h₀ : Heap} {L : Addr} {m : Str → Option Value} {s : Shared} {Q : Flow → Shared → Prop} {E : Value → Shared → Prop} {rest : List Stmt} {c₃ c₄ : Addr} {oc₃ oc₄ : Obj} {cv₃ cv₄ : Array Value} {t₃ t₄ : Tok} {row due : List Int} {z T R : Int} {tT tR : Tok} {lr : Addr} {vr : List Value} {nr : Nat} {ot oc : Obj}
  (hbody : stmtsFrom (Mine.hd.heap_39 w.params) 68 8 = some (rest, cs))
  (B : Below A₀ base outer h₀) (F : Fr h₀ L s.heap (fun z => if z = Str.ofString "root" then some (.int R tR) else m z)) (X : (Mine.hd.heap_39 w.params).In h₀)
  (N : News h₀ L s.heap [(37, tabObj #[rawInt 47, rawInt 4, .ref c₄]), (c₄, oc₄), (30, tabObj #[rawInt 32, rawInt 4, .ref c₃]), (c₃, oc₃), (lr, listOf vr.toArray nr), (L + 1 + 1, ot), (L + 1, oc)])
  (T₀ : Top p loose mean mg mb h₀) (C30 : CodeHd base 34 30) (C37 : CodeHd base 41 37)
  (hoc3 : oc₃.data = .fields cv₃) (hcv3 : cv₃[1]? = some (.str (Str.ofString "_int2digits.<locals>.inner") t₃)) (hoc4 : oc₄.data = .fields cv₄) (hcv4 : cv₄[1]? = some (.str (Str.ofString "_digits2int.<locals>.inner") t₄))
  (hoR : oc.data = .cell (some (.ref lr))) (hr : IntsAre vr row) (hoT : ot.data = .cell (some (.int T tT)))
  (hL : @LT.lt Nat _ 37 L) (n1 : @LT.lt Nat _ (L + 1 + 1) lr) (m1 : @LT.lt Nat _ lr c₃) (m2 : @LT.lt Nat _ c₃ c₄)
  (hb0 : ∀ q ∈ row, 0 ≤ q ∧ q ≤ 1000) (hl7 : row.length ≤ 6) (hdue : row.reverse ++ row = due) (hf : Facts row due z T R)
  (hd : dp + 24 < recursionLimit) (hu : un + 300 < cLine)
  (hPE : PassesOwn (model PySem.Challenge.rw_mq0469_02.row.prog w) (ktrTop dp un gd cn cs L a ccd (cellsFrom (L + 1) cs.names []) outer) (envX cn cs L a ccd (cellsFrom (L + 1) cs.names [])) E)
  (hret : ∀ m' h' tk', Fr h₀ L h' m' → News h₀ L h' [(37, tabObj #[rawInt 47, rawInt 4, .ref c₄]), (c₄, oc₄), (30, tabObj #[rawInt 32, rawInt 4, .ref c₃]), (c₃, oc₃), (lr, listOf vr.toArray nr), (L + 1 + 1, ot), (L + 1, oc)] → Q (.ret (.bool true)) { s with heap := h', toks := tk' }) :
  wpAny (model PySem.Challenge.rw_mq0469_02.row.prog w) (ktrTop dp un gd cn cs L a ccd (cellsFrom (L + 1) cs.names []) outer) (execs rest (envX cn cs L a ccd (cellsFrom (L + 1) cs.names []))) Q E s := by
  w_top off
  revert X; k_fill; intro X
  cases hbody
  have hb0' : ∀ (k : Int), ∀ q ∈ List.drop k.toNat row, 0 ≤ q ∧ q ≤ 1000 := fun k q hq => hb0 q (List.mem_of_mem_drop hq)
  k_steps
  refine Hold.out ?_
  refine LCg.CompSrc.range (n := row.length + 1) (by rfl) (by k_asm) (by k_asm) (by assumption) (small_one (by decide) (by decide) (by omega) (by omega)) ((rangeSize_nat _ _).trans (congrArg Nat.cast (by omega))) (fits_of (by omega)) ?_
  intro g8
  refine kcf_range (fun k => kk (row.drop k.toNat)) ?dturn ?dfin
  case dturn =>
    intro k' t' I' oI' C' oC' D' m' ys' h' tk' E' hlo' hhi' hC' hx' F' N' off' ne' hMark'
    simp only [LCg.Off3, and_true] at off'
    have hbk := hb0' k'
    k_steps
  case dfin =>
    show ∀ ys, _ → _
    intro ys hys
    obtain ⟨es, hes, hE⟩ : ∃ es, IntsAre ys es ∧ es ++ [0] = rs row := ⟨_, hys, ends_eq row⟩
    clear hys
    have fl : Flag 3 := .on 3
    k_steps
    clear fl
    rename IntsAre _ (List.reverse _ ++ _) => hD
    rw [hdue] at hD
    have hd0 := hf.head
    have hdl := hf.len
    have hel := ends_length hE
    have hc1 : 0 ≤ T ∧ T < 2 ^ 60 ∧ 0 ≤ R ∧ R < 2 ^ 60 := by obtain ⟨b1, b2, b3, b4⟩ := hf.b; omega
    have hc2 : 0 ≤ T ∧ T < 2 ^ 60 ∧ 0 ≤ T - R ∧ T - R < 2 ^ 60 := by obtain ⟨b1, b2, b3, b4⟩ := hf.b; omega
    have hq1 : due.length ≤ 20 := by omega
    have hq2 : ([1, z - 1] ++ due.drop 1).length ≤ 20 := by rw [List.length_append, List.length_drop]; simp only [List.length_cons, List.length_nil]; omega
    have fl : Flag 4 := .on 4
    refine Hold.out ?_
    k_steps
    clear fl
    refine Hold.out ?_
    rename Fr _ _ _ _ => F9
    have F8 := fr_ends F9 rfl
    clear F9
    refine' turn_spec w ?hbody1 ?B1 ?F1 ?X1 ?N1 ?T1 ?C301 ?C371 ?m301 ?mc31 ?hoc31 ?hcv31 ?m371 ?mc41 ?hoc41 ?hcv41 ?mT1 ?hoT1 ?mt1 ?ht1 ?me1 ?he1 ?hE1 ?hEuc1 ?hfil1 ?hc1 ?hql1 ?hel1 ?hd1 ?hu1 ?hret1
    case hbody1 => exact rfl
    case B1 => k_asm
    case F1 => exact F8
    case X1 => k_asm
    case N1 => k_asm
    case T1 => k_asm
    case C301 => exact C30
    case C371 => exact C37
    case m301 => k_mem
    case mc31 => k_mem
    case hoc31 => exact hoc3
    case hcv31 => exact hcv3
    case m371 => k_mem
    case mc41 => k_mem
    case hoc41 => exact hoc4
    case hcv41 => exact hcv4
    case mT1 => k_mem
    case hoT1 => exact hoT
    case mt1 => k_mem
    case ht1 => exact hD
    case me1 => k_mem
    case he1 => exact hes
    case hE1 => exact hE
    case hEuc1 => exact hf.euc1
    case hfil1 => exact hf.fil1
    case hc1 => exact hc1
    case hql1 => exact hq1
    case hel1 => omega
    case hd1 => omega
    case hu1 => omega
    clear F8
    intro vq9 vr9 h9 tk9 F9 N9
    refine (fun (fl : Flag 4) => ?_) (.on 4)
    k_steps
    clear fl
    refine Hold.out ?_
    rename Fr _ _ _ _ => F9
    have F8 := fr_ends F9 rfl
    clear F9
    refine' turn_spec w ?hbody2 ?B2 ?F2 ?X2 ?N2 ?T2 ?C302 ?C372 ?m302 ?mc32 ?hoc32 ?hcv32 ?m372 ?mc42 ?hoc42 ?hcv42 ?mT2 ?hoT2 ?mt2 ?ht2 ?me2 ?he2 ?hE2 ?hEuc2 ?hfil2 ?hc2 ?hql2 ?hel2 ?hd2 ?hu2 ?hret2
    case hbody2 => exact rfl
    case B2 => k_asm
    case F2 => exact F8
    case X2 => k_asm
    case N2 => k_asm
    case T2 => k_asm
    case C302 => exact C30
    case C372 => exact C37
    case m302 => k_mem
    case mc32 => k_mem
    case hoc32 => exact hoc3
    case hcv32 => exact hcv3
    case m372 => k_mem
    case mc42 => k_mem
    case hoc42 => exact hoc4
    case hcv42 => exact hcv4
    case mT2 => k_mem
    case hoT2 => exact hoT
    case mt2 => k_mem
    case ht2 => assumption
    case me2 => k_mem
    case he2 => exact hes
    case hE2 => exact hE
    case hEuc2 => exact hf.euc2
    case hfil2 => exact hf.fil2
    case hc2 => exact hc2
    case hql2 => exact hq2
    case hel2 => omega
    case hd2 => omega
    case hu2 => omega
    clear F8
    intro vq9 vr9 h9 tk9 F9 N9
    k_steps
    exact hret _ _ _ (by k_asm) (cb_drop (by k_asm) (by k_allIn))
end
end Mine
namespace Mine
section
local macro_rules | `(tactic| walk_at "call ref") => `(tactic| (k_here; k_dflt (refine hold_call ?_)))
local macro_rules | `(tactic| k_all) => `(tactic| first | with_reducible assumption | exact allNe_le (by with_reducible assumption) (by omega) | ((rename ∀ _, AllLt _ _ => hR9); exact allNe_le (hR9 _) (by omega)))
local macro_rules | `(tactic| k_updF) => `(tactic| with_reducible assumption)
local macro_rules | `(tactic| k_mem) => `(tactic| first | exact memOf (by with_reducible assumption) | exact memOf (AllMem.at (by with_reducible assumption)) | fail "no such entry")
local macro_rules | `(tactic| k_allIn) => `(tactic| (intro p9 hp9; k_ownIn))
local macro_rules | `(tactic| walk_at "ite") => `(tactic| (k_here; k_openite; first | (refine ite_pos (by first | omega | (simp only [decide_eq_true_eq, beq_iff_eq, bne_iff_ne, ne_eq]; omega)) ?_) | (refine ite_neg (by first | omega | (simp only [decide_eq_true_eq, beq_iff_eq, bne_iff_ne, ne_eq]; omega)) ?_)))
local macro_rules | `(tactic| walk_at "binaryOp Mult ref int") => `(tactic| (k_here; (with_reducible show wpAny _ _ (binaryOp Operator.Mult (Value.ref _) (Value.int _ _)) _ _ _); k_dflt (refine' mulOne ?F ?N ?l ?lo ?hi ?_; (case F => k_asm); (case N => k_asm); (case l => is_list); (case lo => first | assumption | omega); (case hi => first | assumption | omega); k_whole); intro D' h' vs' hi' F' N' l1; (try k_lt l1)))
local macro_rules | `(tactic| walk_at "call builtin:len") => `(tactic| (k_here; (with_reducible show wpAny _ _ (call (Value.builtin "len") [Value.ref _]) _ _ _); k_dflt (refine' lenInts ?N ?m ?i ?f ?_; (case N => k_asm); (case m => k_mem); (case i => with_reducible assumption); (case f => (first | omega | (simp only [List.length_replicate]; omega))); k_whole); intro t' tk'))
local macro_rules | `(tactic| walk_at "truthy ref") => `(tactic| (k_here; k_dflt (refine' truthyInts ?N ?m ?i ?f ?_; (case N => k_asm); (case m => k_mem); (case i => with_reducible assumption); (case f => omega); k_whole); intro tk'))
local macro_rules | `(tactic| walk_at "call builtin:list.append") => `(tactic| (k_here; (with_reducible show wpAny _ _ (call (Value.builtin _) [Value.ref _, Value.int _ _]) _ _ _); k_dflt (refine' appendInts ?F ?N ?U ?hi ?hz ?_; (case F => k_asm); (case N => k_asm); (case U => k_upd); (case hi => with_reducible assumption); (case hz => omega); k_whole); intro h' F' N' hi'))
local macro_rules | `(tactic| walk_at "call builtin:list.reverse") => `(tactic| (k_here; (with_reducible show wpAny _ _ (call (Value.builtin _) [Value.ref _]) _ _ _); k_dflt (refine' reverseInts ?F ?N ?U ?hi ?hz ?_; (case F => k_asm); (case N => k_asm); (case U => k_upd); (case hi => with_reducible assumption); (case hz => omega); k_whole); intro h' F' N' hi'))
local macro_rules | `(tactic| walk_at "binaryOp LShift int int") => `(tactic| (k_here; k_dflt (refine' lshift_int ?a ?b ?_; (case a => first | assumption | omega); (case b => first | assumption | omega); k_whole)))
local macro_rules | `(tactic| walk_at "call ref") => `(tactic| (k_here; (with_reducible show wpAny _ _ (call (Value.ref 56) [Value.ref _]) _ _ _); k_dflt (refine' pair_spec _ ?B ?F ?X ?N ?T ?hk ?ml ?hi ?hs ?hd ?_; (case B => k_asm); (case F => k_asm); (case X => k_asm); (case N => k_asm); (case T => k_asm); (case hk => exact rfl); (case ml => k_mem); (case hi => assumption); (case hs => assumption); (case hd => first | ktr_room | omega)); intro l' t1' t2' h' tk' F' N' l1; (try k_lt l1)))
local macro_rules | `(tactic| walk_at "subscriptTail Name UnaryOp ref int") => `(tactic| (k_here; (with_reducible show wpAny _ _ (subscriptTail _ _ (Value.ref _) (Value.int _ _)) _ _ _); k_dflt (refine' itemBack ?k1 ?k2 ?k3 ?k4 ?k5 ?k6 ?k8 ?_ ?k7 ?k9; (case k1 => k_asm); (case k2 => k_mem); (case k3 => with_reducible assumption); (case k4 => decide); (case k5 => (first | assumption | (simp only [List.length_append, List.length_cons, List.length_nil]; omega))); (case k6 => decide); (case k8 => assumption); (case k7 => with_unfolding_all rfl); (case k9 => (intro r9; with_unfolding_all rfl)); k_whole); intro t9))
local macro_rules | `(tactic| walk_at "call type:list") => `(tactic| (k_here; (with_reducible show wpAny _ _ (call (Value.type "list") [Value.ref _]) _ _ _); k_dflt (refine' listOfRev ?hh ?F ?N ?hm ?hi ?hof ?hz ?_; (case hh => exact rfl); (case F => k_asm); (case N => k_asm); (case hm => k_mem); (case hi => assumption); (case hof => (repeat (refine List.forall_mem_cons.mpr ⟨by (show @LT.lt Nat _ _ _; omega), ?_⟩)); exact List.forall_mem_nil _); (case hz => omega); k_whole); intro D' us' c' h' tk' F' N' l1 hI'; (try k_lt l1)))
local macro_rules | `(tactic| walk_at "CompSrc") => `(tactic| (refine holdP ?_))
local macro_rules | `(tactic| walk_at "exec If") => `(tactic| (k_here; first | refine hold_flag 1 (by assumption) ?_ | fail))
local macro_rules | `(tactic| walk_at "exec Assign") => `(tactic| (k_here; first | refine hold_flag 2 (by assumption) ?_ | fail))
local macro_rules | `(tactic| walk_at "subscriptTail Name Constant ref int") => `(tactic| (k_here; (with_reducible show wpAny _ _ (subscriptTail _ _ (Value.ref _) (Value.int _ _)) _ _ _); k_dflt (refine' itemFront ?k1 ?k2 ?k3 ?k4 ?k5 ?k6 ?k8 ?_ ?k7; (case k1 => k_asm); (case k2 => k_mem); (case k3 => with_reducible assumption); (case k4 => decide); (case k5 => omega); (case k6 => decide); (case k8 => assumption); (case k7 => with_unfolding_all rfl); k_whole); intro t9))
local macro_rules | `(tactic| walk_at "compareOp NotEq ref ref") => `(tactic| (k_here; (with_reducible show wpAny _ _ (compareOp CmpOp.NotEq (Value.ref _) (Value.ref _)) _ _ _); k_dflt (refine' neEq ?k1 ?k2 ?k3 ?k4 ?k5 ?e ?_; (case k1 => kmk_list); (case k2 => kmk_list); (case k3 => with_reducible assumption); (case k4 => with_reducible assumption); (case k5 => first | ktr_units | units_room); (case e => first | with_reducible assumption | with_reducible rfl); k_whole)))
local macro_rules | `(tactic| walk_at "eval ListComp") => `(tactic| (k_here; lct_look; k_dflt (refine LCt.ListComp_T (F₀ := by k_asm) (by with_unfolding_all rfl) (by decide) (by rfl) (by decide) (by rfl) ?_)))
local macro_rules | `(tactic| walk_at "CompSrcT") => `(tactic| (refine holdP ?_))
local macro_rules | `(tactic| walk_at "binaryOp Add ref ref") => `(tactic| (k_here; (with_reducible show wpAny _ _ (binaryOp _ (Value.ref _) (Value.ref _)) _ _ _); k_dflt (refine' kmk_add_ints ?F ?N ?a ?b ?i ?j ?_ ?z; (case F => k_asm); (case N => k_asm); (case a => kmk_list); (case b => kmk_list); (case i => with_reducible assumption); (case j => first | with_reducible assumption | exact IntsAre.cons _ _ IntsAre.nil); (case z => exact fits_of (by (try simp only [List.length_cons, List.length_nil, List.length_append, List.length_drop, List.length_reverse, tailR_length]); omega))); intro D' ws' h' F' N' l1 hI'; (try k_lt l1)))
local macro_rules | `(tactic| walk_at "exec For Tuple List cons nil") => `(tactic| (k_here; first | refine hold_flag 3 (by assumption) ?_ | fail))
local macro_rules | `(tactic| walk_at "execs cons") => `(tactic| (k_here; first | refine hold_flag 4 (by assumption) ?_ | fail))
set_option maxHeartbeats 2000000 in
theorem law_holds : PySem.Challenge.rw_mq0469_02.Holds := hd (by
  k_go0
  all_goals try k_fold
  rename IntsAre _ _ => hI
  obtain ⟨vs0, ns0, rfl, rfl⟩ := namedV hI
  rename News _ _ _ _ => N0
  obtain ⟨h1, o1, o2, rfl, rfl, rfl⟩ := namedC N0
  have d1 : o1.data = .cell none := by assumption
  have d2 : o2.data = .cell none := by assumption
  rename TabsAt _ _ => hT9
  obtain ⟨s1, rfl⟩ := namedS hT9
  k_steps
  refine Hold.out ?_
  rename IntsAre _ (List.take 6 ns0) => hI6
  have hl6 : (List.take 6 ns0).length ≤ 6 := List.length_take_le 6 ns0
  refine LCg.CompSrc.ledger (by rfl) (by k_asm) (by k_asm) (by k_mem) (sizeInts hI6 (by omega)) ?_
  intro g9
  refine kcf_list rowf hI6 ?cturn ?cfin
  case cturn =>
    intro k' t' I' oI' C' oC' D' m' ys' h' tk' E' hk' hC' hx' F' N' off' ne' hMark'
    simp only [LCg.Off3, and_true] at off'
    k_steps
    exact ⟨rfl, _, rfl⟩
  case cfin =>
    show ∀ ys, _ → _
    intro ys hys
    have fl : Flag 1 := .on 1
    k_steps
    rename Fr _ _ _ _ => F9
    refine joinAt (σ := J1) F9 (fun c m z => m z) (fun c => [(c.lr, listOf c.vr.toArray c.nr), (s1.heap.objs.size + 1 + 1, o1), (s1.heap.objs.size + 1, c.oc), (37, tabObj #[]), (30, tabObj #[])]) (J1S s1.heap.objs.size) ?first ?rest
    case first =>
      clear fl
      k_steps
      · rename _ = Data.cell (some (Value.ref _)) => dR
        obtain ⟨lq, oq, rfl, rfl⟩ := namedD dR
        refine' TEnd.intro (fun _ => ⟨lq, _, _, [1, 3, 2], oq⟩) ?qF ?qN ?qsub (fun _ => rfl) ?qS
        case qF => k_asm
        case qN => k_asm
        case qsub => k_allIn
        case qS => exact ⟨by assumption, (by exact .cons _ _ (.cons _ _ (.cons _ _ .nil))), (show ([1, 3, 2] : List Int) ≠ [] by decide), (show ∀ q ∈ ([1, 3, 2] : List Int), 1 ≤ q ∧ q ≤ 20 by decide), (show ([1, 3, 2] : List Int).length ≤ 6 by decide), by refine ⟨?_, ?_, ?_, ?_⟩ <;> k_ne⟩
      · refine' TEnd.intro (fun _ => ⟨_, ys, _, (ns0.take 6).map rowf, _⟩) ?uF ?uN ?usub (fun _ => rfl) ?uS
        case uS => exact ⟨by assumption, hys, of_decide_eq_false (show decide ((ns0.take 6).map rowf = []) = false by assumption), row_bd _, (show ((ns0.take 6).map rowf).length ≤ 6 by rw [List.length_map]; exact hl6), by refine ⟨?_, ?_, ?_, ?_⟩ <;> k_ne⟩
        case uF => k_asm
        case uN => k_asm
        case usub => k_allIn
    case rest =>
      clear fl F9
      rintro ⟨lr, vr, nr, r, oc⟩ ⟨doc, hr, hne, hbd, hlen, n1, n2, n3, n4⟩ h tk F N
      dsimp only at doc hr hne hbd hlen n1 n2 n3 n4 F N
      have fl : Flag 2 := .on 2
      k_steps
      obtain ⟨i, z0, rfl⟩ : ∃ i z0, r = i ++ [z0] := ⟨r.dropLast, r.getLast hne, (List.dropLast_concat_getLast hne).symm⟩
      have g1 := back_last i z0
      refine joinAt (σ := J1) F (fun c m z => m z) (fun c => [(c.lr, listOf c.vr.toArray c.nr), (s1.heap.objs.size + 1 + 1, o1), (s1.heap.objs.size + 1, c.oc), (37, tabObj #[]), (30, tabObj #[])]) (J2S (i ++ [z0 + 1]) s1.heap.objs.size) ?first2 ?rest2
      case first2 =>
        clear fl
        k_steps
        all_goals try exact True.intro
        rename _ = Data.cell (some (Value.ref _)) => dR
        obtain ⟨lq, oq, rfl, rfl⟩ := namedD dR
        refine' TEnd.intro (fun _ => ⟨lq, _, _, [], oq⟩) ?vF ?vN ?vsub (fun _ => rfl) ?vS
        case vF => k_asm
        case vN => k_asm
        case vsub => k_allIn
        case vS =>
          refine ⟨by assumption, ?_, by (show @LT.lt Nat _ (s1.heap.objs.size + 1 + 1) lq; omega)⟩
          have e : List.take ((i ++ [z0]).length - 1) (i ++ [z0]) ++ [z0 + 1] = i ++ [z0 + 1] := by simp
          rw [← e]; assumption
      case rest2 =>
        clear fl F N hI6 hys hr g1 doc n1 n2 n3 n4 hI hne
        obtain ⟨z, hz⟩ : ∃ z, z = z0 + 1 := ⟨_, rfl⟩
        obtain ⟨hon, hz2, hz21, hb0, hb1, hl7⟩ := row_facts hbd hlen hz
        rw [← hz]
        have ho21 := row_21 hbd hz
        obtain ⟨k1, k2, k3, k4, k5, k6, k7, k8⟩ := row_bounds ho21 hl7
        clear hbd hlen
        rintro ⟨lr, vr, nr, r, oc⟩ ⟨doc, hr, n1⟩ h tk F N
        dsimp only at doc hr n1 F N
        have fl : Flag 1 := .on 1
        k_steps
        clear fl
        obtain ⟨due, T, R, hdue, hTv, hRv, hf⟩ := law_facts hon hz2 ho21 hl7
        rename News _ _ _ _ => N9
        rename Fr _ _ _ _ => F9
        rename _ = Data.cell (some (Value.int _ _)) => dT
        obtain ⟨ot, rfl⟩ := namedT dT
        obtain ⟨tT, dT'⟩ : ∃ t, ot.data = .cell (some (.int T t)) := ⟨_, by rw [← hTv]; exact dT⟩
        clear dT
        have N8 : News _ _ _ [(37, tabObj #[]), (30, tabObj #[]), (lr, listOf vr.toArray nr), (s1.heap.objs.size + 1 + 1, ot), (s1.heap.objs.size + 1, oc)] := cb_drop N9 (by k_allIn)
        clear N9
        refine joinAt (σ := J3) F9 (fun c m z => if z = Str.ofString "root" then c.rv else m z) (fun c => [(37, tabObj #[rawInt 47, rawInt 4, .ref c.c4]), (c.c4, c.oc4), (30, tabObj #[rawInt 32, rawInt 4, .ref c.c3]), (c.c3, c.oc3), (lr, listOf vr.toArray nr), (s1.heap.objs.size + 1 + 1, ot), (s1.heap.objs.size + 1, oc)]) (J3S R lr) ?first3 ?rest3
        case first3 =>
          obtain ⟨f1, f2, f3, f4, f5, f6, f7⟩ := hf.dm
          have hdiv := hf.div
          have hmod := hf.mod
          rw [← hRv] at f3 f4 f5 f6 hdiv hmod
          k_steps
          refine Hold.out ?_
          refine' dm_fresh2 _ ?B ?F ?X ?N ?T ?hk ?C30 ?C37 ?n30 ?n37 ?hx ?hb ?hxb ?hbb ?hd ?hu ?_
          case B => k_asm
          case F => k_asm
          case X => k_asm
          case N => k_asm
          case T => k_asm
          case hk => exact rfl
          case C30 => first | assumption | exact CodeHd.keeps (by assumption) (Below.stays (by assumption))
          case C37 => first | assumption | exact CodeHd.keeps (by assumption) (Below.stays (by assumption))
          case n30 => exact List.forall_mem_cons.mpr ⟨by k_ne, List.forall_mem_cons.mpr ⟨by k_ne, List.forall_mem_cons.mpr ⟨by k_ne, List.forall_mem_nil _⟩⟩⟩
          case n37 => exact List.forall_mem_cons.mpr ⟨by k_ne, List.forall_mem_cons.mpr ⟨by k_ne, List.forall_mem_cons.mpr ⟨by k_ne, List.forall_mem_nil _⟩⟩⟩
          case hx => exact f5
          case hb => exact f1
          case hxb => exact f6
          case hbb => exact f7
          case hd => first | ktr_room | omega
          case hu => first | ktr_units | omega
          clear f3 f4 f5 f6 f7
          rw [hdiv, hmod]
          clear hdiv hmod
          intro l' t1' t2' c3' oc3' cv3' t3' c4' oc4' cv4' t4' h' tk' d1' d2' d3' d4' F' N' l1 l2 l3
          k_steps
          refine' TEnd.intro (fun _ => ⟨c3', c4', oc3', oc4', some (.int R _)⟩) ?wF ?wN ?wsub ?whm ?wS
          case wF => k_asm
          case wN => k_asm
          case wsub => k_allIn
          case whm =>
            intro y
            by_cases h0 : y = Str.ofString "root"
            · subst h0; exact congrArg (fun x => some (Value.int x _)) hRv
            · simp only [h0, if_false]
          case wS => exact ⟨⟨_, rfl⟩, ⟨_, _, d1', d2'⟩, ⟨_, _, d3', d4'⟩, l1 (lr, _) (.tail _ (.tail _ (.head _))), l2⟩
        case rest3 =>
          clear F9 N8
          rintro ⟨c3, c4, oc3, oc4, rv⟩ ⟨⟨tR, hrv⟩, ⟨cv3, t3, e3, e3'⟩, ⟨cv4, t4, e4, e4'⟩, m1, m2⟩ h tk F N
          dsimp only at hrv e3 e4 m1 m2 F N
          subst hrv
          refine (fun (fl : Flag 4) => ?_) (.on 4)
          k_steps
          clear fl
          refine Hold.out ?_
          refine' tail_spec _ ?zbody ?zB ?zF ?zX ?zN ?zT ?zC30 ?zC37 ?zoc3 ?zcv3 ?zoc4 ?zcv4 ?zoR ?zr ?zoT ?zL ?zn1 ?zm1 ?zm2 ?zb0 ?zl7 ?zdue ?zf ?zd ?zu ?zPE ?zret
          case zbody => exact rfl
          case zB => k_asm
          case zF => k_asm
          case zX => k_asm
          case zN => k_asm
          case zT => k_asm
          case zC30 => first | assumption | exact CodeHd.keeps (by assumption) (Below.stays (by assumption))
          case zC37 => first | assumption | exact CodeHd.keeps (by assumption) (Below.stays (by assumption))
          case zoc3 => exact e3
          case zcv3 => exact e3'
          case zoc4 => exact e4
          case zcv4 => exact e4'
          case zoR => exact doc
          case zr => exact hr
          case zoT => exact dT'
          case zL => omega
          case zn1 => exact n1
          case zm1 => exact m1
          case zm2 => exact m2
          case zb0 => exact hb0
          case zl7 => exact hl7
          case zdue => exact hdue
          case zf => exact hf
          case zd => first | ktr_room | omega
          case zu => first | ktr_units | omega
          case zPE => passes_own
          intro m9 h9 tk9 F9 N9
          k_steps)
end
end Mine
theorem PySem.Challenge.cw_mq0469_02_holds : PySem.Challenge.rw_mq0469_02.Holds :=
  Mine.law_holds
