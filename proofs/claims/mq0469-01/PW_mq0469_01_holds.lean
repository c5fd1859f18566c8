import PyProof.Rows.All
import Wide.All
import OpenK.AllK
import Wide.FinOn
import PySem.Challenge.RW_mq0469_01
open PySem PySem.W PyProof.Rows
set_option Elab.async false
set_option linter.unusedVariables false
set_option maxRecDepth 100000
set_option maxHeartbeats 8000000
namespace Mine
open_top hd for PySem.Challenge.rw_mq0469_01
end Mine
namespace Mine
/-- the digit of x at place j, n bits a digit -/
def dig (x n j : Int) : Int := x / 2 ^ (n * j).toNat % 2 ^ n.toNat
def setR (ns : List Int) (n lo hi x : Int) : List Int := ns.mapIdx fun i v => if lo ≤ (i : Int) ∧ (i : Int) < hi then dig x n ((i : Int) - lo) else v

theorem setR_length (ns : List Int) (n lo hi x : Int) : (setR ns n lo hi x).length = ns.length := by simp [setR]

theorem nat_mod_div (X D a b : Nat) (h : a + b ≤ D) : X % 2 ^ D / 2 ^ a % 2 ^ b = X / 2 ^ a % 2 ^ b := by
  apply Nat.eq_of_testBit_eq
  intro i
  simp only [Nat.testBit_mod_two_pow, Nat.testBit_div_two_pow]
  by_cases hi : i < b
  · have : i + a < D := by omega
    simp [hi, this]
  · simp [hi]

theorem cast_div_pow (X k : Nat) : ((X : Int) / 2 ^ k) = ((X / 2 ^ k : Nat) : Int) := by
  rw [Int.natCast_ediv, Int.natCast_pow]; rfl
theorem cast_mod_pow (X k : Nat) : ((X : Int) % 2 ^ k) = ((X % 2 ^ k : Nat) : Int) := by
  rw [Int.natCast_emod, Int.natCast_pow]; rfl

theorem dig_low {x n d j : Int} (hx : 0 ≤ x) (hn : 0 ≤ n) (hj : 0 ≤ j) (hjd : j < d) : dig (x % 2 ^ (d * n).toNat) n j = dig x n j := by
  obtain ⟨X, rfl⟩ := Int.eq_ofNat_of_zero_le hx
  unfold dig
  rw [cast_mod_pow, cast_div_pow, cast_mod_pow, cast_div_pow, cast_mod_pow, nat_mod_div]
  have h1 : n * j + n ≤ d * n := by
    have : n * (j + 1) ≤ n * d := Int.mul_le_mul_of_nonneg_left (by omega) hn
    rw [Int.mul_add, Int.mul_one] at this
    rw [Int.mul_comm d n]; exact this
  have h2 : 0 ≤ n * j := Int.mul_nonneg hn hj
  omega

theorem dig_high {x n d j : Int} (hx : 0 ≤ x) (hn : 0 ≤ n) (hd : 0 ≤ d) (hj : 0 ≤ j) : dig (x / 2 ^ (d * n).toNat) n j = dig x n (j + d) := by
  obtain ⟨X, rfl⟩ := Int.eq_ofNat_of_zero_le hx
  unfold dig
  rw [cast_div_pow, cast_div_pow, cast_mod_pow, cast_div_pow, cast_mod_pow, Nat.div_div_eq_div_mul, ← Nat.pow_add]
  have h2 : 0 ≤ n * j := Int.mul_nonneg hn hj
  have h3 : 0 ≤ d * n := Int.mul_nonneg hd hn
  have h1 : n * (j + d) = n * j + d * n := by rw [Int.mul_add, Int.mul_comm n d]
  rw [h1]
  have : (n * j + d * n).toNat = (d * n).toNat + (n * j).toNat := by omega
  rw [this]

theorem xor_low {x : Int} (k : Nat) (hx : 0 ≤ x) : Builtin.bitXor x (x.fdiv (2 ^ k) * 2 ^ k) = x % 2 ^ k := by
  obtain ⟨X, rfl⟩ := Int.eq_ofNat_of_zero_le hx
  have hp : (0 : Int) ≤ 2 ^ k := Int.pow_nonneg (by decide)
  rw [Int.fdiv_eq_ediv_of_nonneg _ hp, cast_div_pow, cast_mod_pow]
  have e : (((X / 2 ^ k : Nat) : Int) * 2 ^ k) = ((X / 2 ^ k * 2 ^ k : Nat) : Int) := by rw [Int.natCast_mul, Int.natCast_pow]; rfl
  rw [e, bitXor_and, bitAnd_pp (by omega) (by omega)]
  have h1 : (X : Int).toNat &&& ((X / 2 ^ k * 2 ^ k : Nat) : Int).toNat = X / 2 ^ k * 2 ^ k := by
    simp only [Int.toNat_natCast]
    apply Nat.eq_of_testBit_eq
    intro i
    rw [Nat.testBit_and, Nat.testBit_mul_two_pow, Nat.testBit_div_two_pow]
    by_cases hi : k ≤ i
    · simp only [hi, decide_true, Bool.true_and]; rw [Nat.sub_add_cancel hi]; simp
    · simp [hi]
  rw [h1]
  have := Nat.div_add_mod X (2 ^ k)
  rw [Nat.mul_comm] at this
  omega
theorem fdiv_pow {x : Int} (k : Nat) : x.fdiv (2 ^ k) = x / 2 ^ k := Int.fdiv_eq_ediv_of_nonneg _ (Int.pow_nonneg (by decide))

theorem setR_join {ns : List Int} {n lo mid hi x : Int} (hn : 0 ≤ n) (hx : 0 ≤ x) (h1 : lo ≤ mid) (h2 : mid ≤ hi) :
    setR (setR ns n lo mid (x % 2 ^ ((mid - lo) * n).toNat)) n mid hi (x / 2 ^ ((mid - lo) * n).toNat) = setR ns n lo hi x := by
  unfold setR
  rw [List.mapIdx_mapIdx]
  congr 1
  funext i v
  by_cases a : mid ≤ (i : Int)
  · by_cases b : (i : Int) < hi
    · have c : lo ≤ (i : Int) := by omega
      simp only [Function.comp, a, b, c, and_self, if_true]
      rw [dig_high hx hn (by omega) (by omega)]
      congr 1; omega
    · have c : ¬ (i : Int) < mid := by omega
      simp [Function.comp, b, c]
  · by_cases c : lo ≤ (i : Int)
    · have d : (i : Int) < mid := by omega
      have e : (i : Int) < hi := by omega
      simp only [Function.comp, a, c, d, e, and_self, if_true, false_and, if_false]
      rw [dig_low hx hn (by omega) (by omega)]
    · simp [Function.comp, a, c]

theorem setR_one {ns : List Int} {n lo hi x : Int} (h0 : 0 ≤ lo) (hlt : lo < ns.length) (hh : hi = lo + 1) (hx : 0 ≤ x) (hx2 : x < 2 ^ n.toNat) : ns.set lo.toNat x = setR ns n lo hi x := by
  subst hh
  apply List.ext_getElem?
  intro i
  rw [List.getElem?_set]
  simp only [setR, List.getElem?_mapIdx]
  by_cases hi : lo.toNat = i
  · subst hi
    have : lo.toNat < ns.length := by omega
    simp only [this, if_true]
    rw [List.getElem?_eq_getElem this]
    simp only [Option.map_some]
    have a : lo ≤ (lo.toNat : Int) ∧ (lo.toNat : Int) < lo + 1 := by omega
    rw [if_pos a]
    congr 1
    unfold dig
    have b : (n * ((lo.toNat : Int) - lo)).toNat = 0 := by
      have : ((lo.toNat : Int) - lo) = 0 := by omega
      rw [this]; simp
    rw [b, Int.pow_zero, Int.ediv_one, Int.emod_eq_of_lt hx hx2]
  · simp only [hi, if_false]
    cases hq : ns[i]? with
    | none => rfl
    | some v =>
      simp only [Option.map_some]
      have a : ¬ (lo ≤ (i : Int) ∧ (i : Int) < lo + 1) := by omega
      rw [if_neg a]
end Mine
namespace Mine
theorem bits_le {v : Int} {B : Nat} (h0 : 0 ≤ v) (h : v < 2 ^ B) : Builtin.Int.intBits v ≤ B := by
  unfold Builtin.Int.intBits
  by_cases hv : v = 0
  · simp [hv]
  · have e : (v == 0) = false := by simpa using hv
    rw [e]
    simp only [Bool.false_eq_true, if_false]
    have hn : v.natAbs ≠ 0 := by omega
    have h1 : v.natAbs < 2 ^ B := by
      have : ((v.natAbs : Nat) : Int) < ((2 ^ B : Nat) : Int) := by
        rw [Int.natCast_pow]
        have : ((v.natAbs : Nat) : Int) = v := by omega
        rw [this]; exact h
      omega
    have := (Nat.log2_lt hn).mpr h1
    omega
theorem lt_bits {v : Int} (h0 : 0 ≤ v) : v < 2 ^ (Builtin.Int.intBits v) := by
  unfold Builtin.Int.intBits
  by_cases hv : v = 0
  · simp [hv]
  · have e : (v == 0) = false := by simpa using hv
    rw [e]
    simp only [Bool.false_eq_true, if_false]
    have hn : v.natAbs ≠ 0 := by omega
    have h1 : v.natAbs < 2 ^ (v.natAbs.log2 + 1) := (Nat.log2_lt hn).mp (Nat.lt_succ_self _)
    have h2 : ((v.natAbs : Nat) : Int) < ((2 ^ (v.natAbs.log2 + 1) : Nat) : Int) := by omega
    rw [Int.natCast_pow] at h2
    have h3 : ((v.natAbs : Nat) : Int) = v := by omega
    rw [h3] at h2; exact h2
theorem bits_pos {v : Int} (h0 : 0 < v) : 1 ≤ Builtin.Int.intBits v := by
  unfold Builtin.Int.intBits
  have e : (v == 0) = false := by simp; omega
  rw [e]; simp
theorem le_bits {v : Int} (h0 : 0 < v) : 2 ^ (Builtin.Int.intBits v - 1) ≤ v := by
  unfold Builtin.Int.intBits
  have e : (v == 0) = false := by simp; omega
  rw [e]
  simp only [Bool.false_eq_true, if_false, Nat.add_sub_cancel]
  have hn : v.natAbs ≠ 0 := by omega
  have h1 : 2 ^ v.natAbs.log2 ≤ v.natAbs := Nat.log2_self_le hn
  have h2 : ((2 ^ v.natAbs.log2 : Nat) : Int) ≤ ((v.natAbs : Nat) : Int) := by omega
  rw [Int.natCast_pow] at h2
  have h3 : ((v.natAbs : Nat) : Int) = v := by omega
  rw [h3] at h2; exact h2
theorem pow_pos2 (k : Nat) : (0 : Int) < 2 ^ k := Int.pow_pos (by decide)
theorem div_lt_pow {x : Int} {a b : Nat} (h : x < 2 ^ (a + b)) : x / 2 ^ a < 2 ^ b := by
  apply Int.ediv_lt_of_lt_mul (pow_pos2 a)
  rw [← Int.pow_add, Nat.add_comm b a]; exact h

/-- the halves of inner's range -/
structure Halves (n lo hi x M sh U W : Int) (k : Nat) : Prop where
  m1 : lo < M
  m2 : M < hi
  k1 : M - lo ≤ 2 ^ k
  k2 : hi - M ≤ 2 ^ k
  s0 : 0 ≤ sh
  s1 : sh ≤ 256000
  sz : (Builtin.Int.intBits U : Int) + sh ≤ 2 ^ 27
  u0 : 0 ≤ U
  u1 : U < 2 ^ (n * (hi - M)).toNat
  w0 : 0 ≤ W
  w1 : W < 2 ^ (n * (M - lo)).toNat
  we : W = x % 2 ^ ((M - lo) * n).toNat
  ue : U = x / 2 ^ ((M - lo) * n).toNat

theorem halves {n lo hi x : Int} {len k : Nat} (hb : 0 < n ∧ n ≤ 1000 ∧ 0 ≤ x ∧ 0 ≤ lo ∧ lo < hi ∧ hi ≤ len ∧ len ≤ 256) (hk : hi - lo ≤ 2 ^ (k + 1)) (hx : x < 2 ^ (n * (hi - lo)).toNat) (h1 : lo + 1 ≠ hi) :
    Halves n lo hi x ((lo + hi).fdiv (2 ^ Int.toNat 1)) (((lo + hi).fdiv (2 ^ Int.toNat 1) - lo) * n) (x.fdiv (2 ^ (((lo + hi).fdiv (2 ^ Int.toNat 1) - lo) * n).toNat))
      (Builtin.bitXor x (x.fdiv (2 ^ (((lo + hi).fdiv (2 ^ Int.toNat 1) - lo) * n).toNat) * 2 ^ (((lo + hi).fdiv (2 ^ Int.toNat 1) - lo) * n).toNat)) k := by
  obtain ⟨hn, hn2, hx0, hl0, hlh, hhl, hlen⟩ := hb
  have eM : (lo + hi).fdiv (2 ^ Int.toNat 1) = (lo + hi) / 2 := by
    rw [fdiv_pow]; rfl
  rw [eM, fdiv_pow, ← fdiv_pow, xor_low _ hx0, fdiv_pow]
  have m1 : lo < (lo + hi) / 2 := by omega
  have m2 : (lo + hi) / 2 < hi := by omega
  generalize hM : (lo + hi) / 2 = M at *
  have hk' : hi - lo ≤ 2 * 2 ^ k := by rw [Int.pow_succ] at hk; omega
  have s0 : 0 ≤ (M - lo) * n := Int.mul_nonneg (by omega) (by omega)
  have s1 : (M - lo) * n ≤ 256 * 1000 := Int.mul_le_mul (by omega) hn2 (by omega) (by omega)
  have t0 : 0 ≤ n * (hi - M) := Int.mul_nonneg (by omega) (by omega)
  have t1 : n * (hi - M) ≤ 1000 * 256 := Int.mul_le_mul hn2 (by omega) (by omega) (by omega)
  have e1 : n * (hi - lo) = (M - lo) * n + n * (hi - M) := by
    rw [Int.mul_comm (M - lo) n, ← Int.mul_add]; congr 1; omega
  have e2 : (n * (hi - lo)).toNat = ((M - lo) * n).toNat + (n * (hi - M)).toNat := by omega
  rw [e2] at hx
  have u1 := div_lt_pow hx
  have u0 : 0 ≤ x / 2 ^ ((M - lo) * n).toNat := Int.ediv_nonneg hx0 (Int.le_of_lt (pow_pos2 _))
  have bb := bits_le u0 u1
  refine ⟨m1, m2, by omega, by omega, s0, by omega, by omega, u0, u1, Int.emod_nonneg _ (Int.ne_of_gt (pow_pos2 _)), ?_, rfl, rfl⟩
  rw [Int.mul_comm n (M - lo)]
  exact Int.emod_lt_of_pos _ (pow_pos2 _)
end Mine
namespace Mine
theorem pow_le2 {a b : Nat} (h : a ≤ b) : (2 : Int) ^ a ≤ 2 ^ b := by
  have h1 : (2 : Nat) ^ a ≤ 2 ^ b := Nat.pow_le_pow_right (by decide) h
  have h2 : ((2 ^ a : Nat) : Int) ≤ ((2 ^ b : Nat) : Int) := by omega
  rw [Int.natCast_pow, Int.natCast_pow] at h2; exact h2
/-- how many digits of n bits -/
def nd (x n : Int) : Int := ((Builtin.Int.intBits x : Int) + n - 1).fdiv n
/-- the row that _int2digits gives -/
def dg (x n : Int) : List Int := setR (List.replicate (nd x n).toNat 0) n 0 (List.replicate (nd x n).toNat (0 : Int)).length x
theorem dg_eq (x n : Int) : dg x n = (List.range (nd x n).toNat).map fun (j : Nat) => dig x n (j : Int) := by
  unfold dg setR
  apply List.ext_getElem
  · simp
  · intro i h1 h2
    simp at h1
    simp
    intro h; omega
theorem nd_facts {x n : Int} (hx : 0 ≤ x) (hn : 0 < n) : 0 ≤ nd x n ∧ (Builtin.Int.intBits x : Int) ≤ n * nd x n ∧ n * nd x n ≤ Builtin.Int.intBits x + n - 1 := by
  unfold nd
  rw [Int.fdiv_eq_ediv_of_nonneg _ (by omega)]
  have h1 := Int.mul_ediv_add_emod ((Builtin.Int.intBits x : Int) + n - 1) n
  have h2 := Int.emod_lt_of_pos ((Builtin.Int.intBits x : Int) + n - 1) hn
  have h3 := Int.emod_nonneg ((Builtin.Int.intBits x : Int) + n - 1) (Int.ne_of_gt hn)
  refine ⟨Int.ediv_nonneg (by omega) (by omega), by omega, by omega⟩
theorem nd_lt {x n : Int} (hx : 0 ≤ x) (hn : 0 < n) : x < 2 ^ (n * nd x n).toNat := by
  obtain ⟨h0, h1, h2⟩ := nd_facts hx hn
  refine Int.lt_of_lt_of_le (lt_bits hx) ?_
  exact pow_le2 (by omega)
theorem nd_zero {n : Int} (hn : 0 < n) : nd 0 n = 0 := by
  obtain ⟨h0, h1, h2⟩ := nd_facts (x := 0) (by decide) hn
  have e : (Builtin.Int.intBits 0 : Int) = 0 := by decide
  rw [e] at h2
  by_cases h : nd 0 n = 0
  · exact h
  · exfalso
    have : 1 ≤ nd 0 n := by omega
    have := Int.mul_le_mul_of_nonneg_left this (Int.le_of_lt hn)
    omega
theorem nd_pos {x n : Int} (hx : 0 < x) (hn : 0 < n) : 1 ≤ nd x n := by
  obtain ⟨h0, h1, h2⟩ := nd_facts (Int.le_of_lt hx) hn
  have := bits_pos hx
  by_cases h : nd x n = 0
  · rw [h] at h1; omega
  · omega
theorem dg_zero {n : Int} (hn : 0 < n) : dg 0 n = [] := by rw [dg_eq, nd_zero hn]; rfl
theorem dg_length (x n : Int) : (dg x n).length = (nd x n).toNat := by rw [dg_eq]; simp
/-- the facts that a first call of inner wants -/
theorem dg_first {x n : Int} (hx : 0 ≤ x) (hx1 : x ≠ 0) (hn : 0 < n) (hn2 : n ≤ 1000) (h256 : nd x n ≤ 256) :
    (0 < n ∧ n ≤ 1000 ∧ 0 ≤ x ∧ (0 : Int) ≤ 0 ∧ (0 : Int) < ((List.replicate (nd x n).toNat (0 : Int)).length : Int) ∧ ((List.replicate (nd x n).toNat (0 : Int)).length : Int) ≤ ((List.replicate (nd x n).toNat (0 : Int)).length : Int) ∧ (List.replicate (nd x n).toNat (0 : Int)).length ≤ 256) ∧
    ((List.replicate (nd x n).toNat (0 : Int)).length : Int) - 0 ≤ 2 ^ 8 ∧ x < 2 ^ (n * (((List.replicate (nd x n).toNat (0 : Int)).length : Int) - 0)).toNat := by
  have h1 := nd_pos (x := x) (by omega) hn
  have h2 := nd_lt hx hn
  have e : ((List.replicate (nd x n).toNat (0 : Int)).length : Int) = nd x n := by rw [List.length_replicate]; omega
  rw [e, Int.sub_zero]
  refine ⟨⟨hn, hn2, hx, by omega, by omega, by omega, by rw [List.length_replicate]; omega⟩, by omega, h2⟩
end Mine
namespace Mine
/-- the number that a row of digits says, the lowest first -/
def vl (n : Int) : List Int → Int
  | [] => 0
  | d :: r => d + 2 ^ n.toNat * vl n r
theorem vl_append (n : Int) : ∀ a b : List Int, vl n (a ++ b) = vl n a + 2 ^ (n.toNat * a.length) * vl n b
  | [], b => by simp [vl]
  | d :: r, b => by
    have e : n.toNat * (r.length + 1) = n.toNat + n.toNat * r.length := by rw [Nat.mul_add, Nat.mul_one, Nat.add_comm]
    rw [List.cons_append, vl, vl, vl_append n r b, List.length_cons, e, Int.pow_add, Int.mul_add, Int.mul_assoc]
    omega
def Digs (n : Int) (ds : List Int) : Prop := ∀ d ∈ ds, 0 ≤ d ∧ d < 2 ^ n.toNat
theorem vl_bounds (n : Int) : ∀ ds : List Int, Digs n ds → 0 ≤ vl n ds ∧ vl n ds < 2 ^ (n.toNat * ds.length)
  | [], _ => by simp [vl]
  | d :: r, h => by
    have h1 := h d (.head _)
    obtain ⟨h2, h3⟩ := vl_bounds n r fun x hx => h x (.tail _ hx)
    have e : n.toNat * (r.length + 1) = n.toNat + n.toNat * r.length := by rw [Nat.mul_add, Nat.mul_one, Nat.add_comm]
    rw [vl, List.length_cons, e, Int.pow_add]
    have hp := pow_pos2 n.toNat
    refine ⟨Int.add_nonneg h1.1 (Int.mul_nonneg (Int.le_of_lt hp) h2), ?_⟩
    have h4 : 2 ^ n.toNat * (vl n r + 1) ≤ 2 ^ n.toNat * 2 ^ (n.toNat * r.length) := Int.mul_le_mul_of_nonneg_left (by omega) (Int.le_of_lt hp)
    rw [Int.mul_add, Int.mul_one] at h4
    omega
def slice (ns : List Int) (lo hi : Int) : List Int := (ns.drop lo.toNat).take (hi - lo).toNat
theorem slice_length {ns : List Int} {lo hi : Int} (h0 : 0 ≤ lo) (h1 : lo ≤ hi) (h2 : hi ≤ ns.length) : (slice ns lo hi).length = (hi - lo).toNat := by
  unfold slice; rw [List.length_take, List.length_drop]; omega
theorem slice_join {ns : List Int} {lo mid hi : Int} (h0 : 0 ≤ lo) (h1 : lo ≤ mid) (h2 : mid ≤ hi) : slice ns lo mid ++ slice ns mid hi = slice ns lo hi := by
  unfold slice
  have e1 : (hi - lo).toNat = (mid - lo).toNat + (hi - mid).toNat := by omega
  have e2 : mid.toNat = lo.toNat + (mid - lo).toNat := by omega
  rw [e1, List.take_add, e2, ← List.drop_drop]
theorem slice_all (ns : List Int) : slice ns 0 ns.length = ns := by
  unfold slice; simp
theorem slice_one {ns : List Int} {lo hi : Int} (h0 : 0 ≤ lo) (h1 : hi = lo + 1) (h2 : hi ≤ ns.length) : slice ns lo hi = [ns.getD lo.toNat 0] := by
  subst h1
  unfold slice
  have e1 : (lo + 1 - lo).toNat = 1 := by omega
  have h3 : lo.toNat < ns.length := by omega
  rw [e1, List.drop_eq_getElem_cons h3, List.take_succ_cons, List.take_zero, List.getD_eq_getElem?_getD, List.getElem?_eq_getElem h3]
  rfl
theorem slice_digs {n : Int} {ns : List Int} (h : Digs n ns) (lo hi : Int) : Digs n (slice ns lo hi) := fun d hd => h d (List.mem_of_mem_drop (List.mem_of_mem_take hd))
theorem vl_one {n : Int} {ns : List Int} {lo hi : Int} (h0 : 0 ≤ lo) (h1 : lo + 1 = hi) (h2 : hi ≤ ns.length) : vl n (slice ns lo hi) = ns.getD lo.toNat 0 := by
  rw [slice_one h0 h1.symm h2, vl, vl]; omega

structure HalvesB (n : Int) (ns : List Int) (lo hi M sh : Int) (k : Nat) : Prop where
  m1 : lo < M
  m2 : M < hi
  k1 : M - lo ≤ 2 ^ k
  k2 : hi - M ≤ 2 ^ k
  s0 : 0 ≤ sh
  s1 : sh ≤ 256000
  sz : (Builtin.Int.intBits (vl n (slice ns M hi)) : Int) + sh ≤ 2 ^ 27
  ev : vl n (slice ns M hi) * 2 ^ sh.toNat + vl n (slice ns lo M) = vl n (slice ns lo hi)

theorem halvesB {n lo hi : Int} {ns : List Int} {k : Nat} (hb : 0 < n ∧ n ≤ 1000 ∧ 0 ≤ lo ∧ lo < hi ∧ hi ≤ ns.length ∧ ns.length ≤ 256) (hk : hi - lo ≤ 2 ^ (k + 1)) (hD : Digs n ns) (h1 : lo + 1 ≠ hi) :
    HalvesB n ns lo hi ((lo + hi).fdiv (2 ^ Int.toNat 1)) (((lo + hi).fdiv (2 ^ Int.toNat 1) - lo) * n) k := by
  obtain ⟨hn, hn2, hl0, hlh, hhl, hlen⟩ := hb
  have eM : (lo + hi).fdiv (2 ^ Int.toNat 1) = (lo + hi) / 2 := by
    rw [fdiv_pow]; rfl
  rw [eM]
  have m1 : lo < (lo + hi) / 2 := by omega
  have m2 : (lo + hi) / 2 < hi := by omega
  generalize hM : (lo + hi) / 2 = M at *
  have hk' : hi - lo ≤ 2 * 2 ^ k := by rw [Int.pow_succ] at hk; omega
  have s0 : 0 ≤ (M - lo) * n := Int.mul_nonneg (by omega) (by omega)
  have s1 : (M - lo) * n ≤ 256 * 1000 := Int.mul_le_mul (by omega) hn2 (by omega) (by omega)
  obtain ⟨u0, u1⟩ := vl_bounds n _ (slice_digs hD M hi)
  rw [slice_length (by omega) (by omega) hhl] at u1
  have bb := bits_le u0 u1
  have t1 : n.toNat * (hi - M).toNat ≤ 1000 * 256 := Nat.mul_le_mul (by omega) (by omega)
  refine ⟨m1, m2, by omega, by omega, s0, by omega, by omega, ?_⟩
  have ej := slice_join (ns := ns) hl0 (Int.le_of_lt m1) (Int.le_of_lt m2)
  rw [← ej, vl_append, slice_length hl0 (Int.le_of_lt m1) (by omega)]
  have e2 : n.toNat * (M - lo).toNat = ((M - lo) * n).toNat := by
    obtain ⟨a, ha⟩ := Int.eq_ofNat_of_zero_le (show 0 ≤ M - lo by omega)
    obtain ⟨b, hb⟩ := Int.eq_ofNat_of_zero_le (show 0 ≤ n by omega)
    rw [ha, hb, ← Int.natCast_mul]
    simp only [Int.toNat_natCast]
    exact Nat.mul_comm _ _
  rw [e2, Int.mul_comm (2 ^ _) _, Int.add_comm]
end Mine
namespace Mine
theorem dg_digs (x n : Int) : Digs n (dg x n) := by
  rw [dg_eq]
  intro d hd
  obtain ⟨j, _, rfl⟩ := List.mem_map.mp hd
  exact ⟨Int.emod_nonneg _ (Int.ne_of_gt (pow_pos2 _)), Int.emod_lt_of_pos _ (pow_pos2 _)⟩
theorem vl_digs {x n : Int} (hx : 0 ≤ x) (hn : 0 ≤ n) : ∀ k : Nat, vl n ((List.range k).map fun (j : Nat) => dig x n (j : Int)) = x % 2 ^ (n.toNat * k)
  | 0 => by simp [vl, Int.emod_one]
  | k + 1 => by
    rw [List.range_succ, List.map_append, vl_append, vl_digs hx hn k]
    simp only [List.map_cons, List.map_nil, List.length_map, List.length_range, vl, Int.mul_zero, Int.add_zero]
    unfold dig
    obtain ⟨X, rfl⟩ := Int.eq_ofNat_of_zero_le hx
    obtain ⟨N, rfl⟩ := Int.eq_ofNat_of_zero_le hn
    have e1 : ((N : Int) * (k : Int)).toNat = N * k := by rw [← Int.natCast_mul, Int.toNat_natCast]
    rw [e1]
    simp only [Int.toNat_natCast]
    rw [cast_mod_pow, cast_div_pow, cast_mod_pow, cast_mod_pow]
    have e2 : ((2 : Int) ^ (N * k)) = ((2 ^ (N * k) : Nat) : Int) := by rw [Int.natCast_pow]; rfl
    rw [e2, ← Int.natCast_mul, ← Int.natCast_add]
    congr 1
    rw [Nat.mul_add, Nat.mul_one, Nat.pow_add]
    exact (Nat.mod_mul).symm
theorem vl_dg {x n : Int} (hx : 0 ≤ x) (hn : 0 < n) : vl n (dg x n) = x := by
  rw [dg_eq, vl_digs hx (Int.le_of_lt hn)]
  have h := nd_lt hx hn
  have h0 := (nd_facts hx hn).1
  have e : (n * nd x n).toNat = n.toNat * (nd x n).toNat := by
    obtain ⟨a, ha⟩ := Int.eq_ofNat_of_zero_le h0
    obtain ⟨b, hb⟩ := Int.eq_ofNat_of_zero_le (Int.le_of_lt hn)
    rw [ha, hb, ← Int.natCast_mul]; simp only [Int.toNat_natCast]
  rw [e] at h
  exact Int.emod_eq_of_lt hx h

theorem nd_le {x n : Int} {B : Nat} (hx : 0 ≤ x) (hn : 0 < n) (hB : Builtin.Int.intBits x ≤ B) : nd x n ≤ B := by
  obtain ⟨h0, h1, h2⟩ := nd_facts hx hn
  by_cases h : nd x n ≤ B
  · exact h
  · exfalso
    have h3 : (B : Int) + 1 ≤ nd x n := by omega
    have h4 := Int.mul_le_mul_of_nonneg_left h3 (Int.le_of_lt hn)
    have h5 : 1 * (B : Int) ≤ n * B := Int.mul_le_mul_of_nonneg_right (by omega) (by omega)
    rw [Int.mul_add, Int.mul_one] at h4
    omega
/-- the long division: so far the value V, its rest r, the quotient's digits from the top -/
structure Dv (b n : Int) (V r : Int) (qs : List Int) : Prop where
  V0 : 0 ≤ V
  rest : r = V % b
  digs : Digs n qs
  quot : vl n qs.reverse = V / b
theorem Dv.start {b n : Int} : Dv b n 0 0 [] := ⟨by decide, by simp, (fun _ h => (nomatch h)), by simp [vl]⟩
theorem Dv.step {b n V r d : Int} {qs : List Int} (D : Dv b n V r qs) (hb : 0 < b) (hd : 0 ≤ d ∧ d < 2 ^ n.toNat) :
    Dv b n (d + 2 ^ n.toNat * V) ((r * 2 ^ n.toNat + d) % b) (qs ++ [(r * 2 ^ n.toNat + d) / b]) := by
  obtain ⟨V0, hr, hq, hv⟩ := D
  have hp := pow_pos2 n.toNat
  have r0 : 0 ≤ r := hr ▸ Int.emod_nonneg _ (Int.ne_of_gt hb)
  have r1 : r < b := hr ▸ Int.emod_lt_of_pos _ hb
  have eV : V = b * (V / b) + r := by rw [hr]; exact (Int.mul_ediv_add_emod V b).symm
  have e1 : d + 2 ^ n.toNat * V = (r * 2 ^ n.toNat + d) + b * (2 ^ n.toNat * (V / b)) := by
    have e2 : 2 ^ n.toNat * V = 2 ^ n.toNat * (b * (V / b)) + 2 ^ n.toNat * r := by rw [← Int.mul_add, ← eV]
    have e3 : 2 ^ n.toNat * (b * (V / b)) = b * (2 ^ n.toNat * (V / b)) := by rw [← Int.mul_assoc, Int.mul_comm (2 ^ n.toNat) b, Int.mul_assoc]
    have e4 : 2 ^ n.toNat * r = r * 2 ^ n.toNat := Int.mul_comm _ _
    omega
  have z0 : 0 ≤ r * 2 ^ n.toNat + d := Int.add_nonneg (Int.mul_nonneg r0 (Int.le_of_lt hp)) hd.1
  refine ⟨Int.add_nonneg hd.1 (Int.mul_nonneg (Int.le_of_lt hp) V0), ?_, ?_, ?_⟩
  · rw [e1, Int.add_mul_emod_self_left]
  · intro q hq'
    rcases List.mem_append.mp hq' with h | h
    · exact hq q h
    · rw [List.mem_singleton.mp h]
      refine ⟨Int.ediv_nonneg z0 (Int.le_of_lt hb), Int.ediv_lt_of_lt_mul hb ?_⟩
      have : (r + 1) * 2 ^ n.toNat ≤ b * 2 ^ n.toNat := Int.mul_le_mul_of_nonneg_right (by omega) (Int.le_of_lt hp)
      rw [Int.add_mul, Int.one_mul] at this
      rw [Int.mul_comm (2 ^ n.toNat) b]
      omega
  · rw [List.reverse_append, List.reverse_cons, List.reverse_nil, List.nil_append, List.singleton_append, vl, hv, e1, Int.add_mul_ediv_left _ _ (Int.ne_of_gt hb)]
/-- what the body of the loop wants to know -/
theorem Dv.facts {b n V r d : Int} {qs : List Int} (D : Dv b n V r qs) (hb : 0 < b) (hn : n = Builtin.Int.intBits b) (hn2 : n ≤ 1000) (hd : 0 ≤ d ∧ d < 2 ^ n.toNat) :
    0 ≤ r ∧ (Builtin.Int.intBits r : Int) + n ≤ 2 ^ 27 ∧ 0 ≤ r * 2 ^ n.toNat + d ∧ (Builtin.Int.intBits (r * 2 ^ n.toNat + d) : Int) - n ≤ 4000 := by
  obtain ⟨V0, hr, _, _⟩ := D
  have hp := pow_pos2 n.toNat
  have r0 : 0 ≤ r := hr ▸ Int.emod_nonneg _ (Int.ne_of_gt hb)
  have r1 : r < b := hr ▸ Int.emod_lt_of_pos _ hb
  have b1 := lt_bits (Int.le_of_lt hb)
  have en : n.toNat = Builtin.Int.intBits b := by omega
  rw [en] at hd hp ⊢
  have h1 := bits_le r0 (Int.lt_trans r1 b1)
  have z0 : 0 ≤ r * 2 ^ Builtin.Int.intBits b + d := Int.add_nonneg (Int.mul_nonneg r0 (Int.le_of_lt hp)) hd.1
  have z1 : r * 2 ^ Builtin.Int.intBits b + d < 2 ^ (Builtin.Int.intBits b + Builtin.Int.intBits b) := by
    rw [Int.pow_add]
    have : (r + 1) * 2 ^ Builtin.Int.intBits b ≤ 2 ^ Builtin.Int.intBits b * 2 ^ Builtin.Int.intBits b := Int.mul_le_mul_of_nonneg_right (by omega) (Int.le_of_lt hp)
    rw [Int.add_mul, Int.one_mul] at this
    omega
  have h2 := bits_le z0 z1
  exact ⟨r0, by omega, z0, by omega⟩
theorem vl_foldl (n : Int) : ∀ (ds : List Int), ds.reverse.foldl (fun V d => d + 2 ^ n.toNat * V) 0 = vl n ds
  | [] => rfl
  | d :: r => by rw [List.reverse_cons, List.foldl_append, vl_foldl n r]; rfl
theorem ints_rev : ∀ {vs : List Value} {ns : List Int}, IntsAre vs ns → IntsAre vs.reverse ns.reverse := by
  have app : ∀ {a b : List Value} {c d : List Int}, IntsAre a c → IntsAre b d → IntsAre (a ++ b) (c ++ d) := by
    intro a b c d h1 h2
    induction h1 with
    | nil => exact h2
    | cons n t _ ih => exact .cons n t ih
  intro vs ns h
  induction h with
  | nil => exact .nil
  | cons n t _ ih => rw [List.reverse_cons, List.reverse_cons]; exact app ih (.cons n t .nil)
theorem ints_append {a b : List Value} {c d : List Int} (h1 : IntsAre a c) (h2 : IntsAre b d) : IntsAre (a ++ b) (c ++ d) := by
  induction h1 with
  | nil => exact h2
  | cons n t _ ih => exact .cons n t ih
end Mine
namespace Mine
theorem allNe_of {d : Addr} {rest : List (Addr × Obj)} (h : AllLt d rest) : ∀ p ∈ rest, p.1 ≠ d := by
  induction rest with
  | nil => intro p hp; cases hp
  | cons q r ih => intro p hp; cases hp with
    | head => exact Nat.ne_of_lt h.1
    | tail _ hp => exact ih h.2 p hp
theorem AllLt.all {d : Addr} {rest : List (Addr × Obj)} (h : AllLt d rest) : ∀ p ∈ rest, p.1 < d := by
  induction rest with
  | nil => intro p hp; cases hp
  | cons q r ih => intro p hp; cases hp with
    | head => exact h.1
    | tail _ hp => exact ih h.2 p hp
theorem allLt_le {d e : Addr} {rest : List (Addr × Obj)} (h : AllLt e rest) (hle : @LE.le Nat _ e d) : ∀ p ∈ rest, p.1 < d := fun p hp =>
  Nat.lt_of_lt_of_le (AllLt.all h p hp) hle
theorem allNe_le {d e : Addr} {rest : List (Addr × Obj)} (h : AllLt e rest) (hle : @LE.le Nat _ e d) : ∀ p ∈ rest, p.1 ≠ d := fun p hp =>
  Nat.ne_of_lt (Nat.lt_of_lt_of_le (AllLt.all h p hp) hle)

theorem flat_rep (k : Nat) (v : Value) : (List.replicate k [v]).flatten = List.replicate k v := by
  induction k with
  | zero => rfl
  | succ k ih => rw [List.replicate_succ, List.flatten_cons, ih]; rfl
theorem ints_rep (z : Int) (t : Tok) : ∀ k : Nat, IntsAre (List.replicate k (.int z t)) (List.replicate k z)
  | 0 => .nil
  | k + 1 => .cons z t (ints_rep z t k)
section
variable {prog : Program} {w : World} {A : Around} {E : Value → Shared → Prop} {s : Shared} {h₀ : Heap} {L : Addr} {m : Str → Option Value} {news : List (Addr × Obj)} {l : Addr} {z : Int} {tz : Tok} {x : Int} {u : Tok} {Q : Value → Shared → Prop}
/-- a list of one int, so many times -/
theorem mulOne (Fm : Fr h₀ L s.heap m) (N : News h₀ L s.heap news) (hl : s.heap.IsList l [.int z tz].toArray) (hlo : 0 ≤ x) (hhi : x ≤ 256)
    (h : ∀ D h' vs, IntsAre vs (List.replicate x.toNat z) → Fr h₀ L h' m → News h₀ L h' ((D, listOf vs.toArray 0) :: news) → (∀ p ∈ news, p.1 < D) → Q (.ref D) { s with heap := h' }) : wpAny (model prog w) A (binaryOp .Mult (.ref l) (.int x u)) Q E s :=
  KMa.mul Fm N hl (by omega) (by omega) (by simp only [List.length_cons, List.length_nil]; omega) (flat_rep _ _) fun D h' => h D h' _ (ints_rep _ _ _)
/-- the length of a list of ints that the ledger bears -/
theorem lenInts {vs : List Value} {ns : List Int} {nn : Nat} (N : News h₀ L s.heap news) (hm : (l, listOf vs.toArray nn) ∈ news) (hi : IntsAre vs ns) (hfit : ns.length < 2 ^ 62)
    (h : ∀ t tk, Q (.int (ns.length : Int) t) { s with toks := tk }) : wpAny (model prog w) A (call (.builtin "len") [.ref l]) Q E s := by
  have e : vs.toArray.size = ns.length := by rw [List.size_toArray]; exact hi.length
  refine len_list (PySem.IsL.isList (n := nn) (N _ hm).1) (by rw [e]; omega) ?_
  rw [e]; exact h _ _
end
section
variable {prog : Program} {w : World} {A A₀ : Around} {E : Value → Shared → Prop} {s : Shared} {K : Frag} {L : Addr} {h₀ base : Heap} {m mg mb : Str → Option Value} {news : List (Addr × Obj)} {p : Program} {loose : List Str} {mean : ExcName → Option Value}
/-- a list of ints is true where it holds one -/
theorem truthyInts {h₀ : Heap} {L l : Addr} {news : List (Addr × Obj)} {vs : List Value} {ns : List Int} {nn : Nat} {Q : Bool → Shared → Prop} (N : News h₀ L s.heap news) (hm : (l, listOf vs.toArray nn) ∈ news) (hi : IntsAre vs ns) (hfit : ns.length < 2 ^ 62)
    (h : ∀ tk, Q (decide (0 < ns.length)) { s with toks := tk }) : wpAny (model prog w) A (truthy (.ref l)) Q E s := by
  have e : vs.toArray.size = ns.length := by rw [List.size_toArray]; exact hi.length
  refine wpAny_truthy_list (PySem.IsL.isList (n := nn) (N _ hm).1) (by rw [e]; omega) ?_
  have e2 : (!vs.toArray.isEmpty) = decide (0 < ns.length) := by
    cases hi with
    | nil => rfl
    | cons _ _ => simp
  rw [e2]; exact h _
/-- a def of the text's, without cells; what was made lies below its frame -/
theorem code_defL {env : Env} {outer : List Env} {R : Result → Shared → Prop} {name qual : Str} {params : Arguments} {body : List Stmt} {scope : Scope} {dV kV doc pm cdv ct oc : Value} {an od : Option Addr} {osl : Array (Option Value)} {f : Addr} {args : Args} {binds : List (Str × Value)}
    (B : Below A₀ base outer h₀) (F : Fr h₀ L s.heap m) (X₀ : K.In h₀) (N : News h₀ L s.heap news) (T : Top p loose mean mg mb h₀) (hA : A.frames = some (env :: outer)) (hf : env.frame = some L) (hke : env.scope.kind = .function)
    (ho : K.lookup f = some ⟨oc, od, .func (fnOf name qual params body scope dV kV doc pm an cdv ct), osl⟩) (hcd : codeIn K cdv qual = true) (hroom : A.depth < recursionLimit)
    (hbind : BindsTo s (fnOf name qual params body scope dV kV doc pm an cdv ct) args binds) (hloc : ∀ y ∈ binds, scope.names.lookup y.1 = some .local)
    (h : ∀ g L' h₁, Fr h₀ L g m → Fr g L' h₁ (fun y => binds.reverse.lookup y) → News g L' h₁ news → Below A base (env :: outer) g → K.In g → Top p loose mean mg mb g → (∀ p ∈ news, p.1 < L') →
      wpAny (model prog w) (A.deeper (envOf qual scope L' f cdv)) (execs body (envOf qual scope L' f cdv))
        (fun fl s' => LeaveK h₀ L m g R (match fl with | .ret v => v | _ => .none) s')
        (fun e s' => wpAny (model prog w) (A.deeper (envOf qual scope L' f cdv)) (leaving (envOf qual scope L' f cdv) e) (fun _ s'' => R (.error e) s'') (fun e' s'' => R (.error e') s'') s')
        { s with heap := h₁, toks := s.toks + binds.length })
    (hco : scope.isCoroutine = false) (hgen : scope.isGenerator = false) (hk : scope.kind = .function)
    (hcell : ∀ x ∈ scope.names, x.2 ≠ .cell) : codeAny (model prog w) A (.call (.ref f) args) R s :=
  callX_plain (cl := []) B F N T.nolimit hA hf hke ((X₀.keeps F.keep) _ _ ho) rfl (codeRec_of (X₀.keeps F.keep) hcd) hroom hbind hloc (fun g L' h₁ FG F' N' B' st l => h g L' h₁ FG F' N' B' (X₀.keeps st) (T.keeps st) l) hcell hco hgen hk
/-- a def that a def has made -/
theorem code_nestL {env : Env} {outer : List Env} {R : Result → Shared → Prop} {name qual : Str} {params : Arguments} {body : List Stmt} {scope : Scope} {cl : List (Str × Addr)} {doc pm ctv : Value} {c' : Addr} {f : Addr} {args : Args} {binds : List (Str × Value)}
    (B : Below A₀ base outer h₀) (F : Fr h₀ L s.heap m) (X₀ : K.In h₀) (N : News h₀ L s.heap news) (T : Top p loose mean mg mb h₀) (hA : A.frames = some (env :: outer)) (hf : env.frame = some L) (hke : env.scope.kind = .function)
    (ho : (f, fnMade name qual params body scope cl doc pm c' ctv) ∈ news) (hcd : s.heap.CodeRec (.ref c') qual) (hroom : A.depth < recursionLimit)
    (hbind : BindsTo s (fnX name qual params body scope cl .none .none doc pm none (.ref c') ctv) args binds) (hloc : ∀ y ∈ binds, scope.names.lookup y.1 = some .local)
    (h : ∀ g L' h₁, Fr h₀ L g m → Fr g L' h₁ (fun y => binds.reverse.lookup y) → News g L' h₁ news → Below A base (env :: outer) g → K.In g → Top p loose mean mg mb g → (∀ p ∈ news, p.1 < L') →
      wpAny (model prog w) (A.deeper (envX qual scope L' f (.ref c') cl)) (execs body (envX qual scope L' f (.ref c') cl))
        (fun fl s' => LeaveK h₀ L m g R (match fl with | .ret v => v | _ => .none) s')
        (fun e s' => wpAny (model prog w) (A.deeper (envX qual scope L' f (.ref c') cl)) (leaving (envX qual scope L' f (.ref c') cl) e) (fun _ s'' => R (.error e) s'') (fun e' s'' => R (.error e') s'') s')
        { s with heap := h₁, toks := s.toks + binds.length })
    (hco : scope.isCoroutine = false) (hgen : scope.isGenerator = false) (hk : scope.kind = .function)
    (hcell : ∀ x ∈ scope.names, x.2 ≠ .cell) : codeAny (model prog w) A (.call (.ref f) args) R s :=
  callX_plain (cl := cl) B F N T.nolimit hA hf hke (N _ ho).1 rfl hcd hroom hbind hloc (fun g L' h₁ FG F' N' B' st l => h g L' h₁ FG F' N' B' (X₀.keeps st) (T.keeps st) l) hcell hco hgen hk
end
theorem memOf {q : Addr × Obj} {l : List (Addr × Obj)} (h : q ∈ l) : List.Mem q l := h
abbrev tupOf (its : Array Value) : Obj := { cls := .type "tuple", data := .seq its }
theorem noPy {x b : Int} (hb : 0 < b) (h : Builtin.Int.intBits b ≤ 1000) : Builtin.divisionGoesByPylong x b = false := by
  refine PyProof.noPylong_of_log2 ?_
  unfold Builtin.Int.intBits at h
  have e : (b == 0) = false := by simp; omega
  rw [e] at h
  simp only [Bool.false_eq_true, if_false] at h
  omega
theorem divmodK {prog : Program} {w : World} {A : Around} {E : Value → Shared → Prop} {s : Shared} {a b : Int} {t u : Tok} {Q : Value → Shared → Prop} {h₀ : Heap} {L : Addr} {m : Str → Option Value} {news : List (Addr × Obj)} (F : Fr h₀ L s.heap m) (N : News h₀ L s.heap news) (hb : b ≠ 0) (hp : ∀ {x : Int}, Builtin.divisionGoesByPylong x b = false)
    (h : ∀ D t1 t2 h' tk', Fr h₀ L h' m → News h₀ L h' ((D, tupOf #[.int (a.fdiv b) t1, .int (a.fmod b) t2]) :: news) → (∀ p ∈ news, p.1 < D) → Q (.ref D) { s with heap := h', toks := tk' }) :
    wpAny (model prog w) A (call (.builtin "divmod") [.int a t, .int b u]) Q E s :=
  divmod_N F N hb (fun h' F' N' => h _ _ _ h' _ F' N' fun p hp => Heap.lt_size (N p hp).1) (Or.inl hp)
/-- (a, ob) lies in the ledger whatever lies at the changing place -/
def AllMem (g : Obj → List (Addr × Obj)) (a : Addr) (ob : Obj) : Prop := ∀ o, (a, ob) ∈ g o
theorem AllMem.at {g : Obj → List (Addr × Obj)} {a : Addr} {ob o : Obj} (h : AllMem g a ob) : (a, ob) ∈ g o := h o
theorem UpdF.upd {d : Addr} {o : Obj} {l : List (Addr × Obj)} {g : Obj → List (Addr × Obj)} (U : UpdF d o l g) : ∀ o', Upd d o o' l (g o') := by
  induction U with
  | head h => intro o'; exact .head h
  | tail h _ ih => intro o'; exact .tail h (ih o')
theorem UpdF.anew {d : Addr} {o : Obj} {l : List (Addr × Obj)} {g : Obj → List (Addr × Obj)} (U : UpdF d o l g) : g o = l ∧ ∀ o', UpdF d o' (g o') g := by
  induction U with
  | head h => exact ⟨rfl, fun o' => .head h⟩
  | tail h _ ih => exact ⟨congrArg _ ih.1, fun o' => .tail h (ih.2 o')⟩
theorem AllLt.upd {d e : Addr} {o : Obj} {l : List (Addr × Obj)} {g : Obj → List (Addr × Obj)} (U : UpdF d o l g) (h : AllLt e l) : ∀ o', AllLt e (g o') := by
  induction U with
  | head _ => exact fun o' => ⟨h.1, h.2⟩
  | tail _ _ ih => exact fun o' => ⟨h.1, ih h.2 o'⟩
theorem UpdF.mem {d : Addr} {o : Obj} {l : List (Addr × Obj)} {g : Obj → List (Addr × Obj)} (U : UpdF d o l g) : (d, o) ∈ l := by
  induction U with
  | head _ => exact .head _
  | tail _ _ ih => exact .tail _ ih
/-- the def that stands as statement i in the def at f -/
def defAt (K : Frag) (f : Addr) (i : Nat) : Option (Str × Arguments × List Stmt × Scope) := match K.lookup f with
  | some ⟨_, _, .func fd, _⟩ => (match fd.body with
    | .stmts b => (match b[i]? with
      | some (.FunctionDef name args body _ _ _ scope _ _ _) => some (name, args, body, scope)
      | _ => none)
    | _ => none)
  | _ => none
end Mine
namespace Mine
section
variable {prog : Program} {w : World} {A : Around} {E : Value → Shared → Prop} {s : Shared} {env : Env} {h₀ : Heap} {x : Str} {body : List Stmt} {Q : Flow → Shared → Prop}
/-- the end of a turn: a frame and a ledger that the next state c' says -/
def TEnd {σ : Type} (h₀ : Heap) (L : Addr) (M : σ → Str → Option Value) (Ld : σ → List (Addr × Obj)) (S : σ → Prop) (s s₂ : Shared) : Prop :=
  ∃ c' h' tk' m', s₂ = { s with heap := h', toks := tk' } ∧ Fr h₀ L h' m' ∧ (∀ z, m' z = M c' z) ∧ News h₀ L h' (Ld c') ∧ S c'
def TPost {σ : Type} (h₀ : Heap) (L : Addr) (M : σ → Str → Option Value) (Ld : σ → List (Addr × Obj)) (S : σ → Prop) (s : Shared) (Q : Flow → Shared → Prop) (f : Flow) (s₂ : Shared) : Prop :=
  match f with
  | .ret v => Q (.ret v) s₂
  | .brk => Q .next s₂
  | _ => TEnd h₀ L M Ld S s s₂
theorem TEnd.intro {σ : Type} {L : Addr} {M : σ → Str → Option Value} {Ld : σ → List (Addr × Obj)} {S : σ → Prop} {h' : Heap} {tk' : Nat} {m' : Str → Option Value} {all : List (Addr × Obj)} (mk : (Str → Option Value) → σ) (F : Fr h₀ L h' m') (N : News h₀ L h' all)
    (sub : ∀ p ∈ Ld (mk m'), p ∈ all) (hm : ∀ z, m' z = M (mk m') z) (r : S (mk m')) : TEnd h₀ L M Ld S s { s with heap := h', toks := tk' } := ⟨mk m', h', tk', m', rfl, F, hm, fun p hp => N p (sub p hp), r⟩

theorem offI_of {I : Addr} {it : Obj} : ∀ {l : List (Addr × Obj)}, (∀ p ∈ l, p.1 ≠ I) → OffI I it l
  | [], _ => trivial
  | _ :: _, h => ⟨.inl (h _ (.head _)), offI_of fun p hp => h p (.tail _ hp)⟩
/-- a loop over a list from behind -/
theorem revInd {σ : Type} (M : σ → Str → Option Value) (Ld : σ → List (Addr × Obj)) (S : List Int → σ → Prop) {I : Addr} {lp : Addr × Obj} (hI : ∀ c, ∀ p ∈ Ld c, p.1 ≠ I) (hl : ∀ c, lp ∈ Ld c)
    (nil : ∀ c, S [] c → ∀ h tk, Fr h₀ env.locals h (M c) → News h₀ env.locals h (Ld c) → Q .next { s with heap := h, toks := tk })
    (cons : ∀ d t rs c, S (d :: rs) c → ∀ it h tk, Fr h₀ env.locals h (fun y => if y = x then some (.int d t) else M c y) → News h₀ env.locals h ((I, it) :: Ld c) →
      wpAny (model prog w) A (execs body env) (TPost h₀ env.locals M (fun c => (I, it) :: Ld c) (S rs) s Q) E { s with heap := h, toks := tk }) :
    ∀ rvs rs, IntsAre rvs rs → ∀ c, S rs c → ∀ m, (∀ z, m z = M c z) → RevRest prog w A E h₀ env x body Q s I lp rvs m (Ld c) := by
  intro rvs rs hi
  induction hi with
  | nil =>
    intro c hS m hm
    have e : m = M c := funext hm
    subst e
    exact RevRest.zero (nil c hS)
  | @cons d t vs' ns' _ ih =>
    intro c hS m hm
    have e : m = M c := funext hm
    subst e
    refine RevRest.succ fun it h tk _ F N => wpAny_mono (cons d t _ c hS it h tk F N) (fun f s₂ hp => ?_) fun _ _ e => e
    have fin : TEnd h₀ env.locals M (fun c => (I, it) :: Ld c) (S ns') s s₂ → UnrEnd h₀ env.locals { s with heap := h, toks := tk } I it (fun m' n' => lp ∈ n' ∧ RevRest prog w A E h₀ env x body Q s I lp vs' m' n') s₂ := by
      rintro ⟨c', h', tk', m', rfl, F', hm', N', hS'⟩
      exact ⟨h', tk', m', Ld c', rfl, F', N', hI c', hl c', ih c' hS' m' hm'⟩
    cases f with
    | ret v => exact hp
    | brk => exact hp
    | next => exact fin hp
    | cont => exact fin hp

/-- a loop over a list -/
theorem listInd {σ : Type} (M : σ → Str → Option Value) (Ld : σ → List (Addr × Obj)) (S : List Int → σ → Prop) {I : Addr} {lp : Addr × Obj} (hI : ∀ c, ∀ p ∈ Ld c, p.1 ≠ I) (hl : ∀ c, lp ∈ Ld c)
    (nil : ∀ c, S [] c → ∀ h tk, Fr h₀ env.locals h (M c) → News h₀ env.locals h (Ld c) → Q .next { s with heap := h, toks := tk })
    (cons : ∀ d t rs c, S (d :: rs) c → ∀ it h tk, Fr h₀ env.locals h (fun y => if y = x then some (.int d t) else M c y) → News h₀ env.locals h ((I, it) :: Ld c) →
      wpAny (model prog w) A (execs body env) (TPost h₀ env.locals M (fun c => (I, it) :: Ld c) (S rs) s Q) E { s with heap := h, toks := tk }) :
    ∀ rvs rs, IntsAre rvs rs → ∀ c, S rs c → ∀ m, (∀ z, m z = M c z) → ListRest prog w A E h₀ env x body Q s I lp rvs m (Ld c) := by
  intro rvs rs hi
  induction hi with
  | nil =>
    intro c hS m hm
    have e : m = M c := funext hm
    subst e
    exact ListRest.zero (nil c hS)
  | @cons d t vs' ns' _ ih =>
    intro c hS m hm
    have e : m = M c := funext hm
    subst e
    refine ListRest.succ fun it h tk _ F N => wpAny_mono (cons d t _ c hS it h tk F N) (fun f s₂ hp => ?_) fun _ _ e => e
    have fin : TEnd h₀ env.locals M (fun c => (I, it) :: Ld c) (S ns') s s₂ → UnrEnd h₀ env.locals { s with heap := h, toks := tk } I it (fun m' n' => lp ∈ n' ∧ ListRest prog w A E h₀ env x body Q s I lp vs' m' n') s₂ := by
      rintro ⟨c', h', tk', m', rfl, F', hm', N', hS'⟩
      exact ⟨h', tk', m', Ld c', rfl, F', N', hI c', hl c', ih c' hS' m' hm'⟩
    cases f with
    | ret v => exact hp
    | brk => exact hp
    | next => exact fin hp
    | cont => exact fin hp

/-- a while by a measure -/
theorem whileInd {σ : Type} {L : Addr} {test : PySem.Expr} {orelse : List Stmt} (M : σ → Str → Option Value) (Ld : σ → List (Addr × Obj)) (S : σ → Prop) (μ : σ → Nat) (hE : PassesOwn (model prog w) A env E)
    (turn : ∀ c, S c → ∀ h tk, Fr h₀ L h (M c) → News h₀ L h (Ld c) →
      wpAny (model prog w) A (isTrue test env (eval test env)) (fun b s₂ => WhlIf b (wpAny (model prog w) A (execs body env) (TPost h₀ L M Ld (fun c' => S c' ∧ μ c' < μ c) s Q) E s₂) (wpAny (model prog w) A (execs orelse env) Q E s₂)) E { s with heap := h, toks := tk }) :
    ∀ n c, μ c < n → S c → ∀ h tk m, (∀ z, m z = M c z) → Fr h₀ L h m → News h₀ L h (Ld c) → WhlRest prog w A E env test body orelse Q 0 { s with heap := h, toks := tk } := by
  intro n
  induction n with
  | zero => intro c h; exact absurd h (Nat.not_lt_zero _)
  | succ n ih =>
    intro c hμ hS h tk m hm F N
    have e : m = M c := funext hm
    subst e
    refine whl_turn (k := 0) hE (wpAny_mono (turn c hS h tk F N) (fun b s₂ hb => ?_) fun _ _ e => e)
    cases b with
    | false => exact hb
    | true =>
      refine WhlIf.yes rfl (wpAny_mono (show wpAny _ _ _ _ _ _ from hb) (fun f s₃ hp => ?_) fun _ _ e => e)
      have fin : TEnd h₀ L M Ld (fun c' => S c' ∧ μ c' < μ c) s s₃ → WhlRest prog w A E env test body orelse Q 0 s₃ := by
        rintro ⟨c', h', tk', m', rfl, F', hm', N', hS', hμ'⟩
        exact ih c' (by omega) hS' h' tk' m' hm' F' N'
      cases f with
      | ret v => exact hp
      | brk => exact hp
      | next => exact fin hp
      | cont => exact fin hp
end
section
variable {prog : Program} {w : World} {A : Around} {E : Value → Shared → Prop} {s : Shared} {h₀ : Heap} {L D : Addr} {m : Str → Option Value} {news news' : List (Addr × Obj)} {vs ws : List Value} {ns ks : List Int} {n k : Nat} {Q : Value → Shared → Prop}
theorem fits_of {a : Nat} (h : a < 100000) : a ≤ sizeLine := by rw [sizeLine_eq]; omega
theorem appendInts {x : Int} {t : Tok} (F : Fr h₀ L s.heap m) (N : News h₀ L s.heap news) (U : Upd D (listOf vs.toArray n) (listOf (vs ++ [Value.int x t]).toArray (n + 1)) news news') (hi : IntsAre vs ns) (hz : ns.length < 100000)
    (h : ∀ h', Fr h₀ L h' m → News h₀ L h' news' → IntsAre (vs ++ [Value.int x t]) (ns ++ [x]) → Q .none { s with heap := h' }) : wpAny (model prog w) A (call (.builtin "list.append") [.ref D, .int x t]) Q E s := by
  refine append_K F N (n := n) (its := vs.toArray) ?_ (fun h' F' N' => h h' F' N' (ints_append hi (.cons x t .nil))) (by rw [List.size_toArray, hi.length]; exact fits_of hz)
  have e : vs.toArray.push (Value.int x t) = (vs ++ [Value.int x t]).toArray := by simp
  rw [e]; exact U
theorem reverseInts (F : Fr h₀ L s.heap m) (N : News h₀ L s.heap news) (U : Upd D (listOf vs.toArray n) (listOf vs.reverse.toArray n) news news') (hi : IntsAre vs ns) (hz : ns.length < 100000)
    (h : ∀ h', Fr h₀ L h' m → News h₀ L h' news' → IntsAre vs.reverse ns.reverse → Q .none { s with heap := h' }) : wpAny (model prog w) A (call (.builtin "list.reverse") [.ref D]) Q E s :=
  kl_reverse F N rfl U (by show vs.length ≤ sizeLine; rw [hi.length]; exact fits_of hz) fun h' F' N' => h h' F' N' (ints_rev hi)
theorem extendInts {b : Addr} (F : Fr h₀ L s.heap m) (N : News h₀ L s.heap news) (hb : (b, listOf ws.toArray k) ∈ news) (U : Upd D (listOf vs.toArray n) (listOf (vs ++ ws).toArray (n + 1)) news news') (hi : IntsAre vs ns) (hj : IntsAre ws ks) (hne : ks.length ≠ 0) (hz : ns.length + ks.length < 100000)
    (h : ∀ h', Fr h₀ L h' m → News h₀ L h' news' → IntsAre (vs ++ ws) (ns ++ ks) → Q .none { s with heap := h' }) : wpAny (model prog w) A (call (.builtin "list.extend") [.ref D, .ref b]) Q E s := by
  have e1 := hi.length
  have e2 := hj.length
  have f1 := fits_of (a := ns.length + ks.length) hz
  refine kl_extend F N hb rfl (by show ws.length ≠ 0; rw [e2]; exact hne) U ?_ (by show vs.length ≤ sizeLine; omega) (by rw [List.size_toArray, List.size_toArray]; omega) fun h' F' N' => h h' F' N' (ints_append hi hj)
  simp only [List.size_toArray, Builtin.List.listTooLong, Bool.and_eq_true, decide_eq_true_eq, not_and]
  intro _
  omega
end
section
variable {prog : Program} {w : World} {A : Around} {E : Value → Shared → Prop} {s : Shared} {env : Env} {h₀ : Heap} {x : Str} {body : List Stmt} {Q : Flow → Shared → Prop}
/-- a place where the walk stands still -/
def Hold (P : Prop) : Prop := P
theorem hold_call {f : Value} {as : List Value} {kw : List (Str × Value)} {Q : Value → Shared → Prop} (h : Hold (wpAny (model prog w) A (call f as kw) Q E s)) : wpAny (model prog w) A (call f as kw) Q E s := h
theorem Hold.out {P : Prop} (h : P) : Hold P := h
theorem whl_hold {test : PySem.Expr} {orelse : List Stmt} {pos : Pos} (h : Hold (WhlRest prog w A E env test body orelse Q 0 s)) : wpAny (model prog w) A (exec (.While test body orelse pos) env) Q E s := whl_start 0 h
theorem whileLoop {σ : Type} {L : Addr} {m₀ : Str → Option Value} {news : List (Addr × Obj)} {test : PySem.Expr} {orelse : List Stmt} (ov : σ → (Str → Option Value) → Str → Option Value) (Ld : σ → List (Addr × Obj)) (S : σ → Prop) (μ : σ → Nat) (mk : (Str → Option Value) → σ)
    (F : Fr h₀ L s.heap m₀) (N : News h₀ L s.heap news) (sub : ∀ p ∈ Ld (mk m₀), p ∈ news) (h0 : ∀ z, m₀ z = ov (mk m₀) m₀ z) (hS : S (mk m₀)) (hE : PassesOwn (model prog w) A env E)
    (turn : ∀ c, S c → ∀ h tk, Fr h₀ L h (ov c m₀) → News h₀ L h (Ld c) →
      wpAny (model prog w) A (isTrue test env (eval test env)) (fun b s₂ => WhlIf b (wpAny (model prog w) A (execs body env) (TPost h₀ L (fun c => ov c m₀) Ld (fun c' => S c' ∧ μ c' < μ c) s Q) E s₂) (wpAny (model prog w) A (execs orelse env) Q E s₂)) E { s with heap := h, toks := tk }) :
    Hold (WhlRest prog w A E env test body orelse Q 0 s) :=
  whileInd (s := s) (fun c => ov c m₀) Ld S μ hE turn _ (mk m₀) (Nat.lt_succ_self _) hS s.heap s.toks m₀ h0 F (fun p hp => N p (sub p hp))
theorem revLoop {σ : Type} {m₀ : Str → Option Value} {I l : Addr} {vs : List Value} {ns : List Int} {nn : Nat} {news : List (Addr × Obj)} (ov : σ → (Str → Option Value) → Str → Option Value) (Ld : σ → List (Addr × Obj)) (S : List Int → σ → Prop) (mk : (Str → Option Value) → σ)
    (hh : A.handled = none) (F : Fr h₀ env.locals s.heap m₀) (N : News h₀ env.locals s.heap news) (sub : ∀ p ∈ (I, revObj l ((vs.length : Int) - 1)) :: Ld (mk m₀), p ∈ news) (hI : ∀ c, ∀ p ∈ Ld c, p.1 ≠ I) (hl : ∀ c, (l, listOf vs.toArray nn) ∈ Ld c) (hi : IntsAre vs ns) (h0 : ∀ z, m₀ z = ov (mk m₀) m₀ z) (hS : S ns.reverse (mk m₀))
    (nil : ∀ c, S [] c → ∀ h tk, Fr h₀ env.locals h (ov c m₀) → News h₀ env.locals h (Ld c) → Q .next { s with heap := h, toks := tk })
    (cons : ∀ d t rs c, S (d :: rs) c → ∀ it h tk, Fr h₀ env.locals h (fun y => if y = x then some (.int d t) else ov c m₀ y) → News h₀ env.locals h ((I, it) :: Ld c) →
      wpAny (model prog w) A (execs body env) (TPost h₀ env.locals (fun c => ov c m₀) (fun c => (I, it) :: Ld c) (S rs) s Q) E { s with heap := h, toks := tk }) :
    wpAny (model prog w) A (pyIter (.ref I)) (fun it s₂ => LoopAtV prog w A h₀ env x body Q E it s₂) E s :=
  iter_revUnr (lo := listOf vs.toArray nn) (news := Ld (mk m₀)) hh F (fun p hp => N p (sub p hp)) (offI_of (hI (mk m₀))) (hl (mk m₀)) rfl rfl
    (revInd (fun c => ov c m₀) Ld S hI hl nil cons _ _ (ints_rev hi) (mk m₀) hS m₀ h0)
theorem listLoop {σ : Type} {m₀ : Str → Option Value} {l : Addr} {vs : List Value} {ns : List Int} {nn : Nat} {news : List (Addr × Obj)} (ov : σ → (Str → Option Value) → Str → Option Value) (Ld : σ → List (Addr × Obj)) (S : List Int → σ → Prop) (mk : (Str → Option Value) → σ)
    (hh : A.handled = none) (F : Fr h₀ env.locals s.heap m₀) (N : News h₀ env.locals s.heap news) (sub : ∀ p ∈ Ld (mk m₀), p ∈ news) (adr : ∀ c, (Ld c).map (·.1) = (Ld (mk m₀)).map (·.1)) (hl : ∀ c, (l, listOf vs.toArray nn) ∈ Ld c) (hi : IntsAre vs ns) (h0 : ∀ z, m₀ z = ov (mk m₀) m₀ z) (hS : S ns (mk m₀))
    (nil : ∀ c, S [] c → ∀ h tk, Fr h₀ env.locals h (ov c m₀) → News h₀ env.locals h (Ld c) → Q .next { s with heap := h, toks := tk })
    (cons : ∀ I d t rs c, (∀ p ∈ Ld c, p.1 < I) → S (d :: rs) c → ∀ it h tk, Fr h₀ env.locals h (fun y => if y = x then some (.int d t) else ov c m₀ y) → News h₀ env.locals h ((I, it) :: Ld c) →
      wpAny (model prog w) A (execs body env) (TPost h₀ env.locals (fun c => ov c m₀) (fun c => (I, it) :: Ld c) (S rs) s Q) E { s with heap := h, toks := tk }) :
    wpAny (model prog w) A (pyIter (.ref l)) (fun it s₂ => LoopAtV prog w A h₀ env x body Q E it s₂) E s := by
  refine iter_listUnr (lo := listOf vs.toArray nn) (news := Ld (mk m₀)) hh F (fun p hp => N p (sub p hp)) (hl (mk m₀)) rfl rfl fun I hlt => ?_
  have lt : ∀ c, ∀ p ∈ Ld c, p.1 < I := fun c p hp => by
    have h1 : p.1 ∈ (Ld c).map (·.1) := List.mem_map_of_mem hp
    rw [adr c] at h1
    obtain ⟨q, hq, e⟩ := List.mem_map.mp h1
    exact e ▸ hlt q hq
  exact listInd (fun c => ov c m₀) Ld S (fun c p hp => Nat.ne_of_lt (lt c p hp)) hl nil (fun d t rs c hS' it h tk => cons I d t rs c (lt c) hS' it h tk) _ _ hi (mk m₀) hS m₀ h0
end
theorem named {α : Sort _} (a : α) : ∃ b : α, b = a := ⟨a, rfl⟩
theorem named5 {g h : Heap} {L D lq l : Addr} {vs : List Value} {nn : Nat} {k : Int} {o : Obj} {r : List (Addr × Obj)} (_ : News g L h ((D, revObj l k) :: (lq, o) :: (l, listOf vs.toArray nn) :: r)) : ∃ (D' lq' l' : Addr) (vs' : List Value) (nn' : Nat), D' = D ∧ lq' = lq ∧ l' = l ∧ vs' = vs ∧ nn' = nn := ⟨D, lq, l, vs, nn, rfl, rfl, rfl, rfl, rfl⟩
theorem named1 {g h : Heap} {L l : Addr} {o : Obj} {r : List (Addr × Obj)} (_ : News g L h ((l, o) :: r)) : ∃ l', l' = l := ⟨l, rfl⟩
theorem namedN {i k : Nat} (_ : i < k) : ∃ j, j = i := ⟨i, rfl⟩
end Mine
namespace Mine
/-- the bits of a number, the lowest first -/
def bitsN (n : Nat) : List Int := if h : n = 0 then [] else ((n % 2 : Nat) : Int) :: bitsN (n / 2)
termination_by n
decreasing_by omega
theorem bitsN_zero : bitsN 0 = [] := by rw [bitsN]; rfl
theorem bitsN_pos {n : Nat} (h : n ≠ 0) : bitsN n = ((n % 2 : Nat) : Int) :: bitsN (n / 2) := by rw [bitsN, dif_neg h]
theorem bitsN_even {m : Nat} (h : m ≠ 0) : bitsN (2 * m) = 0 :: bitsN m := by
  rw [bitsN_pos (by omega)]
  have e1 : 2 * m % 2 = 0 := by omega
  have e2 : 2 * m / 2 = m := by omega
  rw [e1, e2]; rfl
theorem bitsN_odd (m : Nat) : bitsN (2 * m + 1) = 1 :: bitsN m := by
  rw [bitsN_pos (by omega)]
  have e1 : (2 * m + 1) % 2 = 1 := by omega
  have e2 : (2 * m + 1) / 2 = m := by omega
  rw [e1, e2]; rfl
/-- one turn of the count -/
def wstep (s : Int × Int) (bit : Int) : Int × Int := if bit = 0 then (s.1, s.1 + s.2) else (s.1 + s.2, s.2)
def ways (bits : List Int) : Int := (bits.foldl wstep (1, 0)).1
def fw (n : Nat) : Int := ways (bitsN n)
theorem wlin (bits : List Int) : ∀ u v : Int, (bits.foldl wstep (u, v)).1 = u * (bits.foldl wstep (1, 0)).1 + v * (bits.foldl wstep (0, 1)).1 := by
  induction bits with
  | nil => intro u v; simp
  | cons b r ih =>
    intro u v
    simp only [List.foldl_cons]
    by_cases hb : b = 0
    · simp only [wstep, hb, if_true]
      rw [ih u (u + v), ih 1 (1 + 0), ih 0 (0 + 1)]
      simp only [Int.add_mul, Int.mul_add, Int.one_mul, Int.zero_mul, Int.add_zero, Int.zero_add]
      omega
    · simp only [wstep, hb, if_false]
      rw [ih (u + v) v, ih (1 + 0) 0, ih (0 + 1) 1]
      simp only [Int.add_mul, Int.mul_add, Int.one_mul, Int.zero_mul, Int.add_zero, Int.zero_add]
      omega
def gw (n : Nat) : Int := ((bitsN n).foldl wstep (0, 1)).1
theorem F_zero : fw 0 = 1 := by unfold fw; rw [bitsN_zero]; rfl
theorem G_zero : gw 0 = 0 := by unfold gw; rw [bitsN_zero]; rfl
theorem F_odd (m : Nat) : fw (2 * m + 1) = fw m := by
  unfold fw ways
  rw [bitsN_odd, List.foldl_cons]
  rfl
theorem G_odd (m : Nat) : gw (2 * m + 1) = fw m + gw m := by
  unfold fw gw ways
  rw [bitsN_odd, List.foldl_cons]
  show ((bitsN m).foldl wstep (0 + 1, 1)).1 = _
  rw [wlin]; omega
theorem F_even {m : Nat} (h : m ≠ 0) : fw (2 * m) = fw m + gw m := by
  unfold fw gw ways
  rw [bitsN_even h, List.foldl_cons]
  show ((bitsN m).foldl wstep (1, 1 + 0)).1 = _
  rw [wlin]; omega
theorem G_even {m : Nat} (h : m ≠ 0) : gw (2 * m) = gw m := by
  unfold gw
  rw [bitsN_even h, List.foldl_cons]
  rfl
theorem G_succ : ∀ n : Nat, gw (n + 1) = fw n := by
  intro n
  induction n using Nat.strongRecOn with
  | ind n ih =>
    by_cases h : n % 2 = 0
    · obtain ⟨m, rfl⟩ : ∃ m, n = 2 * m := ⟨n / 2, by omega⟩
      rw [G_odd]
      by_cases hm : m = 0
      · subst hm; rw [G_zero, show 2 * 0 = 0 from rfl, F_zero]; rfl
      · rw [F_even hm]
    · obtain ⟨m, rfl⟩ : ∃ m, n = 2 * m + 1 := ⟨n / 2, by omega⟩
      rw [show 2 * m + 1 + 1 = 2 * (m + 1) by omega, G_even (by omega), F_odd, ih m (by omega)]
theorem F_even' (m : Nat) : fw (2 * (m + 1)) = fw (m + 1) + fw m := by rw [F_even (by omega), G_succ]
theorem F_pos : ∀ n : Nat, 1 ≤ fw n := by
  intro n
  induction n using Nat.strongRecOn with
  | ind n ih =>
    by_cases h0 : n = 0
    · subst h0; rw [F_zero]; decide
    by_cases h : n % 2 = 0
    · obtain ⟨m, rfl⟩ : ∃ m, n = 2 * (m + 1) := ⟨n / 2 - 1, by omega⟩
      rw [F_even']
      have := ih (m + 1) (by omega); have := ih m (by omega); omega
    · obtain ⟨m, rfl⟩ : ∃ m, n = 2 * m + 1 := ⟨n / 2, by omega⟩
      rw [F_odd]; exact ih m (by omega)
theorem F_le : ∀ n : Nat, fw n ≤ n + 1 := by
  intro n
  induction n using Nat.strongRecOn with
  | ind n ih =>
    by_cases h0 : n = 0
    · subst h0; rw [F_zero]; decide
    by_cases h : n % 2 = 0
    · obtain ⟨m, rfl⟩ : ∃ m, n = 2 * (m + 1) := ⟨n / 2 - 1, by omega⟩
      rw [F_even']
      have := ih (m + 1) (by omega); have := ih m (by omega); omega
    · obtain ⟨m, rfl⟩ : ∃ m, n = 2 * m + 1 := ⟨n / 2, by omega⟩
      rw [F_odd]; have := ih m (by omega); omega
/-- two neighbours' counts are one only at 0, 1 -/
theorem F_eq {n : Nat} (h : fw n = fw (n + 1)) : n = 0 := by
  by_cases h0 : n = 0
  · exact h0
  exfalso
  by_cases h1 : n % 2 = 0
  · obtain ⟨m, rfl⟩ : ∃ m, n = 2 * (m + 1) := ⟨n / 2 - 1, by omega⟩
    rw [F_odd, F_even'] at h
    have := F_pos m; omega
  · obtain ⟨m, rfl⟩ : ∃ m, n = 2 * m + 1 := ⟨n / 2, by omega⟩
    rw [F_odd, show 2 * m + 1 + 1 = 2 * (m + 1) by omega, F_even'] at h
    have := F_pos (m + 1); omega
/-- Newman: the next count -/
theorem newman : ∀ n : Nat, fw (n + 2) = (fw n / fw (n + 1) + 1) * fw (n + 1) - fw n % fw (n + 1) := by
  intro n
  induction n using Nat.strongRecOn with
  | ind n ih =>
    by_cases h0 : n = 0
    · subst h0
      have e1 : fw 1 = 1 := by rw [show 1 = 2 * 0 + 1 from rfl, F_odd, F_zero]
      have e2 : fw 2 = 2 := by rw [show 2 = 2 * (0 + 1) from rfl, F_even', e1, F_zero]; rfl
      rw [show 0 + 2 = 2 from rfl, show 0 + 1 = 1 from rfl, e2, e1, F_zero]; decide
    by_cases h1 : n % 2 = 0
    · obtain ⟨m, rfl⟩ : ∃ m, n = 2 * (m + 1) := ⟨n / 2 - 1, by omega⟩
      rw [show 2 * (m + 1) + 2 = 2 * (m + 1 + 1) by omega, F_even', F_odd, F_even', ih m (by omega)]
      have hp := F_pos (m + 1)
      rw [show fw (m + 1) + fw m = fw m + fw (m + 1) * 1 by omega, Int.add_mul_ediv_left _ _ (by omega), Int.add_mul_emod_self_left]
      simp only [Int.add_mul, Int.one_mul]; omega
    · obtain ⟨m, rfl⟩ : ∃ m, n = 2 * m + 1 := ⟨n / 2, by omega⟩
      have hp := F_pos (m + 1)
      have hq := F_pos m
      rw [show 2 * m + 1 + 2 = 2 * (m + 1) + 1 by omega, show 2 * m + 1 + 1 = 2 * (m + 1) by omega, F_odd, F_odd, F_even', Int.ediv_eq_zero_of_lt (by omega) (by omega), Int.emod_eq_of_lt (by omega) (by omega)]
      omega
/-- the ones at the low end -/
theorem strip1 : ∀ n : Nat, ∃ k : Nat, bitsN (n + 1) = List.replicate ((fw n - 1) / fw (n + 1)).toNat 1 ++ bitsN (k + 1) ∧ fw k = (fw n - 1) % fw (n + 1) + 1 ∧ fw (k + 1) = fw (n + 1) ∧ k ≤ n ∧ (fw (n + 1) < fw n → k < n) := by
  intro n
  induction n using Nat.strongRecOn with
  | ind n ih =>
    have hp := F_pos n
    have hq := F_pos (n + 1)
    by_cases hlt : fw n ≤ fw (n + 1)
    · refine ⟨n, ?_, ?_, rfl, Nat.le_refl _, fun h => absurd h (by omega)⟩
      · rw [Int.ediv_eq_zero_of_lt (by omega) (by omega)]; rfl
      · rw [Int.emod_eq_of_lt (by omega) (by omega)]; omega
    · have h1 : n % 2 = 0 := by
        by_cases h1 : n % 2 = 0
        · exact h1
        · exfalso
          obtain ⟨m, rfl⟩ : ∃ m, n = 2 * m + 1 := ⟨n / 2, by omega⟩
          rw [F_odd, show 2 * m + 1 + 1 = 2 * (m + 1) by omega, F_even'] at hlt
          have := F_pos (m + 1); omega
      have h0 : n ≠ 0 := by
        intro h0; subst h0
        apply hlt
        rw [show 0 + 1 = 2 * 0 + 1 from rfl, F_odd]; exact Int.le_refl _
      obtain ⟨m, rfl⟩ : ∃ m, n = 2 * (m + 1) := ⟨n / 2 - 1, by omega⟩
      obtain ⟨k, e1, e2, e3, e4, e5⟩ := ih m (by omega)
      rw [F_odd] at hq ⊢
      rw [F_even', bitsN_odd]
      have q1 : (fw (m + 1) + fw m - 1) / fw (m + 1) = (fw m - 1) / fw (m + 1) + 1 := by
        rw [show fw (m + 1) + fw m - 1 = (fw m - 1) + fw (m + 1) * 1 by omega, Int.add_mul_ediv_left _ _ (by omega)]
      have q2 : (fw (m + 1) + fw m - 1) % fw (m + 1) = (fw m - 1) % fw (m + 1) := by
        rw [show fw (m + 1) + fw m - 1 = (fw m - 1) + fw (m + 1) * 1 by omega, Int.add_mul_emod_self_left]
      have q3 : 0 ≤ (fw m - 1) / fw (m + 1) := Int.ediv_nonneg (by have := F_pos m; omega) (by omega)
      refine ⟨k, ?_, ?_, e3, by omega, fun _ => by omega⟩
      · rw [q1, show ((fw m - 1) / fw (m + 1) + 1).toNat = ((fw m - 1) / fw (m + 1)).toNat + 1 by omega, List.replicate_succ, List.cons_append, ← e1]
      · rw [q2]; exact e2
/-- the noughts at the low end -/
theorem strip0 : ∀ n : Nat, ∃ k : Nat, bitsN (n + 1) = List.replicate ((fw (n + 1) - 1) / fw n).toNat 0 ++ bitsN (k + 1) ∧ fw (k + 1) = (fw (n + 1) - 1) % fw n + 1 ∧ fw k = fw n ∧ k ≤ n ∧ (fw n < fw (n + 1) → k < n) := by
  intro n
  induction n using Nat.strongRecOn with
  | ind n ih =>
    have hp := F_pos n
    have hq := F_pos (n + 1)
    by_cases hlt : fw (n + 1) ≤ fw n
    · refine ⟨n, ?_, ?_, rfl, Nat.le_refl _, fun h => absurd h (by omega)⟩
      · rw [Int.ediv_eq_zero_of_lt (by omega) (by omega)]; rfl
      · rw [Int.emod_eq_of_lt (by omega) (by omega)]; omega
    · have h1 : n % 2 = 1 := by
        by_cases h1 : n % 2 = 1
        · exact h1
        · exfalso
          by_cases h0 : n = 0
          · subst h0
            apply hlt
            rw [show 0 + 1 = 2 * 0 + 1 from rfl, F_odd]; exact Int.le_refl _
          obtain ⟨m, rfl⟩ : ∃ m, n = 2 * (m + 1) := ⟨n / 2 - 1, by omega⟩
          rw [F_odd, F_even'] at hlt
          have := F_pos m; omega
      obtain ⟨m, rfl⟩ : ∃ m, n = 2 * m + 1 := ⟨n / 2, by omega⟩
      obtain ⟨k, e1, e2, e3, e4, e5⟩ := ih m (by omega)
      rw [F_odd] at hp ⊢
      rw [show 2 * m + 1 + 1 = 2 * (m + 1) by omega, F_even', bitsN_even (by omega)]
      have q1 : (fw (m + 1) + fw m - 1) / fw m = (fw (m + 1) - 1) / fw m + 1 := by
        rw [show fw (m + 1) + fw m - 1 = (fw (m + 1) - 1) + fw m * 1 by omega, Int.add_mul_ediv_left _ _ (by omega)]
      have q2 : (fw (m + 1) + fw m - 1) % fw m = (fw (m + 1) - 1) % fw m := by
        rw [show fw (m + 1) + fw m - 1 = (fw (m + 1) - 1) + fw m * 1 by omega, Int.add_mul_emod_self_left]
      have q3 : 0 ≤ (fw (m + 1) - 1) / fw m := Int.ediv_nonneg (by have := F_pos (m + 1); omega) (by omega)
      refine ⟨k, ?_, ?_, e3, by omega, fun _ => by omega⟩
      · rw [q1, show ((fw (m + 1) - 1) / fw m + 1).toNat = ((fw (m + 1) - 1) / fw m).toNat + 1 by omega, List.replicate_succ, List.cons_append, ← e1]
      · rw [q2]; exact e2
/-- what _int2digits gives by one bit -/
theorem bits_half {n : Nat} (h : n ≠ 0) : Builtin.Int.intBits (n : Int) = Builtin.Int.intBits ((n / 2 : Nat) : Int) + 1 := by
  unfold Builtin.Int.intBits
  have e : ((n : Int) == 0) = false := by simp; omega
  rw [e]
  simp only [Bool.false_eq_true, if_false, Int.natAbs_natCast]
  by_cases h2 : n / 2 = 0
  · have h3 : n = 1 := by omega
    subst h3; decide
  · have e2 : (((n / 2 : Nat) : Int) == 0) = false := by simp; omega
    rw [e2]
    simp only [Bool.false_eq_true, if_false]
    rw [Nat.log2_def, if_pos (by omega)]
theorem nd_one (x : Int) : nd x 1 = Builtin.Int.intBits x := by
  unfold nd
  rw [Int.fdiv_one]; omega
theorem dg_one (n : Nat) : dg (n : Int) 1 = bitsN n := by
  rw [dg_eq, nd_one]
  simp only [Int.toNat_natCast]
  induction n using Nat.strongRecOn with
  | ind n ih =>
    by_cases h : n = 0
    · subst h; rw [bitsN_zero]; rfl
    · rw [bitsN_pos h, bits_half h, List.range_succ_eq_map, List.map_cons, List.map_map, ← ih (n / 2) (by omega)]
      congr 1
      · unfold dig
        rw [show ((1 : Int) * ((0 : Nat) : Int)).toNat = 0 by decide, show (1 : Int).toNat = 1 by decide, cast_div_pow, cast_mod_pow]
        simp
      apply List.map_congr_left
      intro j _
      show dig (n : Int) 1 ((j + 1 : Nat) : Int) = dig ((n / 2 : Nat) : Int) 1 (j : Int)
      unfold dig
      rw [show ((1 : Int) * ((j + 1 : Nat) : Int)).toNat = 1 + j by omega, show ((1 : Int) * (j : Int)).toNat = j by omega]
      rw [cast_div_pow, cast_div_pow]
      congr 2
      rw [Nat.pow_add, ← Nat.div_div_eq_div_mul]
theorem bitsN_digs (n : Nat) : Digs 1 (bitsN n) := by rw [← dg_one]; exact dg_digs _ _
theorem bitsN_vl (n : Nat) : vl 1 (bitsN n) = n := by rw [← dg_one]; exact vl_dg (by omega) (by decide)
theorem bitsN_length {n : Nat} (h : n < 2 ^ 30) : (bitsN n).length ≤ 30 := by
  rw [← dg_one, dg_length, nd_one]
  have : (n : Int) < 2 ^ 30 := by omega
  have := bits_le (v := n) (B := 30) (by omega) this
  omega
theorem bitsN_last {n : Nat} (h : n ≠ 0) : (bitsN n).getLast? = some 1 := by
  induction n using Nat.strongRecOn with
  | ind n ih =>
    rw [bitsN_pos h]
    by_cases h2 : n / 2 = 0
    · have : n = 1 := by omega
      subst this
      rw [show 1 / 2 = 0 from rfl, bitsN_zero]; rfl
    · rw [List.getLast?_cons, ih (n / 2) (by omega) h2]; rfl
theorem small_bits {v : Int} (h0 : 0 ≤ v) (h : v < 2 ^ 40) : Builtin.Int.intBits v ≤ 256 := Nat.le_trans (bits_le (B := 40) h0 h) (by decide)
/-- what a turn of _law_found wants to know where the upper one is greater -/
theorem found1 {n k : Nat} {done : List Int} (hn : n < 2 ^ 29) (hk : k ≤ n) (hd : done ++ bitsN (k + 1) = bitsN (n + 1)) (hlt : fw (k + 1) < fw k) :
    0 ≤ fw k - 1 ∧ 0 < fw (k + 1) ∧ Builtin.Int.intBits (fw k - 1) ≤ 256 ∧ Builtin.Int.intBits (fw (k + 1)) ≤ 256 ∧ 0 ≤ (fw k - 1) / fw (k + 1) ∧ (fw k - 1) / fw (k + 1) ≤ 256 ∧
    (List.replicate ((fw k - 1) / fw (k + 1)).toNat (1 : Int)).length ≠ 0 ∧ done.length + (List.replicate ((fw k - 1) / fw (k + 1)).toNat (1 : Int)).length < 100000 ∧
    ∃ k', fw k' = (fw k - 1) % fw (k + 1) + 1 ∧ fw (k' + 1) = fw (k + 1) ∧ k' < k ∧ (done ++ List.replicate ((fw k - 1) / fw (k + 1)).toNat 1) ++ bitsN (k' + 1) = bitsN (n + 1) := by
  obtain ⟨k', e1, e2, e3, e4, e5⟩ := strip1 k
  have p1 := F_pos k
  have p2 := F_pos (k + 1)
  have l1 := F_le k
  have l2 := F_le (k + 1)
  have q0 : 0 ≤ (fw k - 1) / fw (k + 1) := Int.ediv_nonneg (by omega) (by omega)
  have q1 : 1 ≤ (fw k - 1) / fw (k + 1) := Int.le_ediv_of_mul_le (by omega) (by omega)
  have hlen := bitsN_length (n := n + 1) (by omega)
  have hl2 : done.length + (List.replicate ((fw k - 1) / fw (k + 1)).toNat (1 : Int)).length ≤ 30 := by
    rw [← hd, e1, List.length_append, List.length_append] at hlen; omega
  rw [List.length_replicate] at hl2 ⊢
  refine ⟨by omega, by omega, small_bits (by omega) (by omega), small_bits (by omega) (by omega), q0, by omega, by omega, by omega, k', e2, e3, e5 hlt, ?_⟩
  rw [List.append_assoc, ← e1, hd]
theorem found0 {n k : Nat} {done : List Int} (hn : n < 2 ^ 29) (hk : k ≤ n) (hd : done ++ bitsN (k + 1) = bitsN (n + 1)) (hlt : fw k < fw (k + 1)) :
    0 ≤ fw (k + 1) - 1 ∧ 0 < fw k ∧ Builtin.Int.intBits (fw (k + 1) - 1) ≤ 256 ∧ Builtin.Int.intBits (fw k) ≤ 256 ∧ 0 ≤ (fw (k + 1) - 1) / fw k ∧ (fw (k + 1) - 1) / fw k ≤ 256 ∧
    (List.replicate ((fw (k + 1) - 1) / fw k).toNat (0 : Int)).length ≠ 0 ∧ done.length + (List.replicate ((fw (k + 1) - 1) / fw k).toNat (0 : Int)).length < 100000 ∧
    ∃ k', fw (k' + 1) = (fw (k + 1) - 1) % fw k + 1 ∧ fw k' = fw k ∧ k' < k ∧ (done ++ List.replicate ((fw (k + 1) - 1) / fw k).toNat 0) ++ bitsN (k' + 1) = bitsN (n + 1) := by
  obtain ⟨k', e1, e2, e3, e4, e5⟩ := strip0 k
  have p1 := F_pos k
  have p2 := F_pos (k + 1)
  have l1 := F_le k
  have l2 := F_le (k + 1)
  have q0 : 0 ≤ (fw (k + 1) - 1) / fw k := Int.ediv_nonneg (by omega) (by omega)
  have q1 : 1 ≤ (fw (k + 1) - 1) / fw k := Int.le_ediv_of_mul_le (by omega) (by omega)
  have hlen := bitsN_length (n := n + 1) (by omega)
  have hl2 : done.length + (List.replicate ((fw (k + 1) - 1) / fw k).toNat (0 : Int)).length ≤ 30 := by
    rw [← hd, e1, List.length_append, List.length_append] at hlen; omega
  rw [List.length_replicate] at hl2 ⊢
  refine ⟨by omega, by omega, small_bits (by omega) (by omega), small_bits (by omega) (by omega), q0, by omega, by omega, by omega, k', e2, e3, e5 hlt, ?_⟩
  rw [List.append_assoc, ← e1, hd]
theorem foundE {n k : Nat} {done : List Int} (hn : n < 2 ^ 29) (hd : done ++ bitsN (k + 1) = bitsN (n + 1)) (he : fw k = fw (k + 1)) : done ++ [1] = bitsN (n + 1) ∧ done.length < 100000 := by
  have := F_eq he
  subst this
  have e : bitsN (0 + 1) = [1] := by rw [show 0 + 1 = 2 * 0 + 1 from rfl, bitsN_odd, bitsN_zero]
  rw [e] at hd
  have hlen := bitsN_length (n := n + 1) (by omega)
  rw [← hd, List.length_append] at hlen
  exact ⟨hd, by omega⟩
end Mine
namespace Mine
theorem mod24 {prog : Program} {w : World} {A : Around} {E : Value → Shared → Prop} {s : Shared} {a : Int} {t u : Tok} {Q : Value → Shared → Prop} (h : ∀ i : Nat, i < 2 ^ 24 → ∀ t' tk', Q (.int (i : Int) t') { s with toks := tk' }) :
    wpAny (model prog w) A (binaryOp .Mod (.int a t) (.int (2 ^ Int.toNat 24) u)) Q E s := by
  refine mod_int' (by decide) ?_
  have e : a.fmod (2 ^ Int.toNat 24) = (((a % 16777216).toNat : Nat) : Int) := by
    rw [Int.fmod_eq_emod_of_nonneg _ (by decide)]
    have : (2 : Int) ^ Int.toNat 24 = 16777216 := by decide
    rw [this]; omega
  rw [e]
  exact h _ (by omega) _ _
theorem small_nd {k : Nat} (h : k < 2 ^ 30) : nd (k : Int) 1 ≤ 256 := by
  rw [nd_one]
  have := bits_le (v := (k : Int)) (B := 30) (by omega) (by omega)
  omega
theorem neEq {prog : Program} {w : World} {A : Around} {E : Value → Shared → Prop} {s : Shared} {a b : Addr} {vs us : List Value} {ns ms : List Int} {Q : Value → Shared → Prop} (hl : s.heap.IsList a vs.toArray) (hl' : s.heap.IsList b us.toArray) (hi : IntsAre vs ns) (hi' : IntsAre us ms) (hu : A.units + 64 < cLine) (e : ns = ms)
    (h : Q (.bool false) s) : wpAny (model prog w) A (compareOp .NotEq (.ref a) (.ref b)) Q E s :=
  ne_intsK hl hi hl' hi' hu (by rw [decide_eq_true e]; exact h)
theorem drop_last : ∀ (l : List Int) (a : Int), l.getLast? = some a → l.drop (l.length - 1) = [a]
  | [], _, h => by cases h
  | [x], a, h => by cases h; rfl
  | x :: y :: r, a, h => by
    have h' : (y :: r).getLast? = some a := by rw [List.getLast?_cons_cons] at h; exact h
    have := drop_last (y :: r) a h'
    show List.drop (r.length + 1 + 1 - 1) (x :: y :: r) = [a]
    rw [show r.length + 1 + 1 - 1 = (r.length + 1 - 1) + 1 by omega, List.drop_succ_cons]
    exact this
theorem last_bit {n : Nat} : (bitsN n).drop ((bitsN n).length - 1) = List.take (1 + (n : Int) - 1).toNat [1] := by
  have e : (1 + (n : Int) - 1).toNat = n := by omega
  rw [e]
  by_cases h : n = 0
  · subst h; rw [bitsN_zero]; rfl
  · have h1 := bitsN_last h
    rw [drop_last _ _ h1]
    cases n with
    | zero => exact absurd rfl h
    | succ k => rw [List.take_succ_cons, List.take_nil]
theorem hold_any {M : Model} {A : Around} {α : Type} {tr : Sem α} {Q : α → Shared → Prop} {E : Value → Shared → Prop} {s : Shared} (h : Hold (wpAny M A tr Q E s)) : wpAny M A tr Q E s := h
theorem sliceAny {prog : Program} {w : World} {A : Around} {E : Value → Shared → Prop} {s : Shared} {h₀ : Heap} {L l : Addr} {m : Str → Option Value} {news : List (Addr × Obj)} {vs : List Value} {ns : List Int} {value slice : PySem.Expr} {vl vu : Value} {lo hi : Option Int} {Q : Value → Shared → Prop} {ms : List Int} {c : Nat} (F : Fr h₀ L s.heap m) (N : News h₀ L s.heap news) (hl : s.heap.IsList l vs.toArray) (pl : IsPart vl lo) (pu : IsPart vu hi) (hi' : IntsAre vs ns) (hm : IntsAre (slicePick vs.toArray lo hi none).toList ms) (hc : ms.length = c)
    (h : ∀ D ws h', Fr h₀ L h' m → News h₀ L h' ((D, listOf (List.toArray ws) 0) :: news) → (∀ p ∈ news, p.1 < D) → IntsAre ws ms → ms.length = c → ms.length ≤ ns.length → Q (.ref D) { s with heap := h' })
    (hs : subscripted slice false (.ref l) (.ref s.heap.objs.size) = operate [.ref s.heap.objs.size, .ref l] (getItem (.ref l) (.ref s.heap.objs.size))) (hz : vs.toArray.size ≤ sizeLine) :
    wpAny (model prog w) A (subscriptTail value slice (.ref l) (.ref s.heap.objs.size)) Q E { s with heap := s.heap.push { cls := .type "slice", data := .fields #[vl, vu, .none] } } :=
  kba_turn (value' := PySem.Expr.Name (PySem.Str.ofString "a") ⟨0, 0, 0, 0⟩) (fun _ => rfl) (kmk_slice_ints F N hl pl pu hi' hm hc h hs (fun _ => rfl) hz)
theorem holdP {P : Prop} (h : Hold P) : P := h
section
variable {prog : Program} {w : World} {A : Around} {E : Value → Shared → Prop} {s : Shared} {env : Env} {h₀ : Heap} {x : Str} {body : List Stmt} {Q : Flow → Shared → Prop}
theorem rangeInd {σ : Type} {I : Addr} {a : Int} {n : Nat} (M : σ → Str → Option Value) (Ld : σ → List (Addr × Obj)) (S : Nat → σ → Prop) (hI : ∀ c, ∀ p ∈ Ld c, p.1 ≠ I)
    (nil : ∀ c, S n c → ∀ h tk, Fr h₀ env.locals h (M c) → News h₀ env.locals h (Ld c) → Q .next { s with heap := h, toks := tk })
    (cons : ∀ i c, i < n → S i c → ∀ t it h tk, Fr h₀ env.locals h (fun y => if y = x then some (.int (a + (i : Int)) t) else M c y) → News h₀ env.locals h ((I, it) :: Ld c) →
      wpAny (model prog w) A (execs body env) (TPost h₀ env.locals M (fun c => (I, it) :: Ld c) (S (i + 1)) s Q) E { s with heap := h, toks := tk }) :
    ∀ k i c, i + k = n → S i c → ∀ m news, (∀ z, m z = M c z) → (∀ p ∈ Ld c, p ∈ news) → RangeRest prog w A E h₀ env x body Q s I a n k i m news := by
  intro k
  induction k with
  | zero =>
    intro i c hik hS m news hm hsub
    have e : m = M c := funext hm
    subst e
    have e2 : i = n := by omega
    subst e2
    exact RangeRest.zero fun h tk F N => nil c hS h tk F fun p hp => N p (hsub p hp)
  | succ k ih =>
    intro i c hik hS m news hm hsub
    have e : m = M c := funext hm
    subst e
    refine RangeRest.succ fun t h tk F N => ?_
    have N' : News h₀ env.locals h ((I, itR (a + ((i + 1 : Nat) : Int)) ((n : Int) - ((i + 1 : Nat) : Int))) :: Ld c) := fun p hp => by
      rcases List.mem_cons.mp hp with rfl | hp
      · exact N _ (.head _)
      · exact N _ (.tail _ (hsub p hp))
    refine wpAny_mono (cons i c (by omega) hS t _ h tk F N') (fun f s₂ hp => ?_) fun _ _ e => e
    have fin : TEnd h₀ env.locals M (fun c => (I, itR (a + ((i + 1 : Nat) : Int)) ((n : Int) - ((i + 1 : Nat) : Int))) :: Ld c) (S (i + 1)) s s₂ → UnrEnd h₀ env.locals { s with heap := h, toks := tk } I (itR (a + ((i + 1 : Nat) : Int)) ((n : Int) - ((i + 1 : Nat) : Int))) (RangeRest prog w A E h₀ env x body Q s I a n k (i + 1)) s₂ := by
      rintro ⟨c', h', tk', m', rfl, F', hm', N', hS'⟩
      exact ⟨h', tk', m', Ld c', rfl, F', N', hI c', ih (i + 1) c' (by omega) hS' m' (Ld c') hm' fun _ h => h⟩
    cases f with
    | ret v => exact hp
    | brk => exact hp
    | next => exact fin hp
    | cont => exact fin hp
theorem rangeLoop {σ : Type} {I : Addr} {a : Int} {n : Nat} {m₀ : Str → Option Value} {news : List (Addr × Obj)} (ov : σ → (Str → Option Value) → Str → Option Value) (Ld : List (Addr × Obj)) (S : Nat → σ → Prop) (mk : (Str → Option Value) → σ)
    (sub : ∀ p ∈ Ld, p ∈ news) (hI : ∀ p ∈ Ld, p.1 ≠ I) (h0 : ∀ z, m₀ z = ov (mk m₀) m₀ z) (hS : S 0 (mk m₀))
    (nil : ∀ c, S n c → ∀ h tk, Fr h₀ env.locals h (ov c m₀) → News h₀ env.locals h Ld → Q .next { s with heap := h, toks := tk })
    (cons : ∀ i c, i < n → S i c → ∀ t it h tk, Fr h₀ env.locals h (fun y => if y = x then some (.int (a + (i : Int)) t) else ov c m₀ y) → News h₀ env.locals h ((I, it) :: Ld) →
      wpAny (model prog w) A (execs body env) (TPost h₀ env.locals (fun c => ov c m₀) (fun _ => (I, it) :: Ld) (S (i + 1)) s Q) E { s with heap := h, toks := tk }) :
    Hold (RangeRest prog w A E h₀ env x body Q s I a n n 0 m₀ news) :=
  rangeInd (fun c => ov c m₀) (fun _ => Ld) S (fun _ => hI) nil cons n 0 (mk m₀) (by omega) hS m₀ news h0 sub
end
theorem law_next {j : Nat} : (fw j / fw (j + 1) + 1) * fw (j + 1) - fw j % fw (j + 1) = ways (bitsN (j + 2)) := (newman j).symm
/-- the end of a turn of a comprehension whose test made nothing that lasts -/
def CTurn (h₀ : Heap) (L : Addr) (m : Str → Option Value) (s : Shared) (led : List (Addr × Obj)) (s' : Shared) : Prop := ∃ h' tk', s' = { s with heap := h', toks := tk' } ∧ Fr h₀ L h' m ∧ News h₀ L h' led
theorem CTurn.intro {h₀ : Heap} {L : Addr} {m : Str → Option Value} {s : Shared} {led all : List (Addr × Obj)} {h' : Heap} {tk' : Nat} (F : Fr h₀ L h' m) (N : News h₀ L h' all) (sub : ∀ p ∈ led, p ∈ all) : CTurn h₀ L m s led { s with heap := h', toks := tk' } := ⟨h', tk', rfl, F, fun p hp => N p (sub p hp)⟩
section
open LCg
variable {prog : Program} {w : World} {A : Around} {s : Shared} {h₀ : Heap} {L : Addr} {m : Str → Option Value} {env : Env} {ct elt : PySem.Expr} {x : Str} {scope : Scope} {cl : List (Str × Addr)} {ax : Addr} {vs : List Value} {ns : List Int} {news : List (Addr × Obj)} {Fin : List Value → List (Addr × Obj) → Prop}
/-- a comprehension that takes no int -/
theorem compNone {k : Nat} (hi : IntsAre vs ns) (hm : (ax, ({ cls := .type "list", data := .seq vs.toArray k } : Obj)) ∈ news)
    (turn : ∀ z t I oI C oC D m₂ h tk (E' : Value → Shared → Prop), NsObj oC m₂ → m₂ x = some (.int z t) → Fr h₀ L h m → News h₀ L h ((I, oI) :: (C, oC) :: (D, lst []) :: news) → Off3 I C D news → ((@Ne Nat I C) ∧ (@Ne Nat I D) ∧ (@Ne Nat C D)) →
      wpAny (model prog w) A (isTrue ct (compEnvC scope cl C env) (eval ct (compEnvC scope cl C env))) (fun ok s' => ok = false ∧ CTurn h₀ L m s ((I, oI) :: (C, oC) :: (D, lst []) :: news) s') E' { s with heap := h, toks := tk })
    (fin : Fin [] news) : Hold (LCt.CompRestT prog w A h₀ L m env ct elt x scope cl s (SrcAt h₀ ax vs.toArray) (fun i v => vs.toArray[i]? = some v) Fin vs.toArray.size 0 [] news) := by
  suffices H : ∀ k i, LCt.CompRestT prog w A h₀ L m env ct elt x scope cl s (SrcAt h₀ ax vs.toArray) (fun i v => vs.toArray[i]? = some v) Fin k i [] news from H _ _
  intro k
  induction k with
  | zero => intro i; exact LCt.CompRestT.zero fin
  | succ k ih =>
    intro i
    refine LCt.CompRestT.succ fun v I oI C oC D m₂ h tk E' hP hC hx F N off ne => ?_
    have hP' : vs[i]? = some v := by simpa using hP
    obtain ⟨z, t, rfl⟩ : ∃ z t, v = .int z t := by
      have hlt : i < vs.length := (List.getElem?_eq_some_iff.mp hP').1
      have hlt2 : i < ns.length := by rw [← hi.length]; exact hlt
      obtain ⟨t, hx'⟩ := hi.get i ns[i] (List.getElem?_eq_getElem hlt2)
      rw [hP'] at hx'
      exact ⟨_, _, Option.some.inj hx'⟩
    refine wpAny_mono (turn z t I oI C oC D m₂ h tk E' hC hx F N off ne) (fun ok s' hok => ?_) fun _ _ e => e
    obtain ⟨rfl, h', tk', rfl, F', N'⟩ := hok
    simp only [Bool.false_eq_true, if_false]
    exact ⟨h', tk', news, rfl, F', N', off, .inr ⟨_, hm, rfl, _, rfl⟩, ih (i + 1)⟩
end
theorem sizeInts {vs : List Value} {ns : List Int} (hi : IntsAre vs ns) (h : ns.length < 100000) : vs.toArray.size ≤ sizeLine := by
  rw [List.size_toArray, hi.length]; exact fits_of h
end Mine
namespace Mine
/-- what a call of the def inner of _int2digits does, down to 2 ^ k places -/
def InA (prog : Program) (w : World) (K : Frag) (p : Program) (loose : List Str) (mean : ExcName → Option Value) (mg mb : Str → Option Value) (qual : Str) (params : Arguments) (body : List Stmt) (scope : Scope) (k : Nat) : Prop :=
  ∀ (dp un : Nat) (gd : Option (List Code)) (cn : Str) (cs : Scope) (a : Addr) (ccd : Value) (cl : List (Str × Addr)) (outer : List Env) (A₀ : Around) (base h₀ : Heap) (L : Addr) (m : Str → Option Value) (s : Shared) (Q E : Value → Shared → Prop)
    (f c' ca ci cw l : Addr) (oc oa oi ow : Obj) (cvs : Array Value) (t : Tok) (doc pm ctv : Value) (n : Int) (tn : Tok) (vs : List Value) (ns : List Int) (nn : Nat) (g : Obj → List (Addr × Obj)) (x lo hi : Int) (tx tl th : Tok),
    Below A₀ base outer h₀ → CodeHd base 34 30 → Fr h₀ L s.heap m → K.In h₀ → News h₀ L s.heap (g (listOf vs.toArray nn)) →
    Top p loose mean mg mb h₀ → cs.kind = .function →
    (∀ o', UpdF l o' (g o') g) → AllMem g f (fnMade (Str.ofString "inner") qual params body scope [(Str.ofString "n", cw), (Str.ofString "inner", ci), (Str.ofString "a_digits", ca)] doc pm c' ctv) → AllMem g c' oc → AllMem g ca oa → AllMem g ci oi → AllMem g cw ow →
    oc.data = .fields cvs → cvs[1]? = some (.str qual t) → oa.data = .cell (some (.ref l)) → oi.data = .cell (some (.ref f)) → ow.data = .cell (some (.int n tn)) →
    IntsAre vs ns →
    (0 < n ∧ n ≤ 1000 ∧ 0 ≤ x ∧ 0 ≤ lo ∧ lo < hi ∧ hi ≤ ns.length ∧ ns.length ≤ 256) → hi - lo ≤ 2 ^ k → x < 2 ^ (n * (hi - lo)).toNat →
    dp + k + 1 < recursionLimit → un + 8 * (k + 1) < cLine →
    (∀ vs' nn' h' tk', IntsAre vs' (setR ns n lo hi x) → Fr h₀ L h' m → News h₀ L h' (g (listOf vs'.toArray nn')) → Q .none { s with heap := h', toks := tk' }) →
    wpAny (model prog w) (ktrTop dp un gd cn cs L a ccd cl outer) (call (.ref f) [.int x tx, .int lo tl, .int hi th]) Q E s

theorem InA.use {prog : Program} {w : World} {K : Frag} {p : Program} {loose : List Str} {mean : ExcName → Option Value} {mg mb : Str → Option Value} {qual : Str} {params : Arguments} {body : List Stmt} {scope : Scope} {k : Nat}
    (I : InA prog w K p loose mean mg mb qual params body scope k)
    {dp un : Nat} {gd : Option (List Code)} {cn : Str} {cs : Scope} {a : Addr} {ccd : Value} {cl : List (Str × Addr)} {outer : List Env} {A₀ : Around} {base h₀ : Heap} {L : Addr} {m : Str → Option Value} {s : Shared} {Q E : Value → Shared → Prop}
    {f c' ca ci cw l : Addr} {oc oa oi ow : Obj} {cvs : Array Value} {t : Tok} {doc pm ctv : Value} {n : Int} {tn : Tok} {vs : List Value} {ns : List Int} {nn : Nat} {news : List (Addr × Obj)} {g : Obj → List (Addr × Obj)} {x lo hi : Int} {tx tl th : Tok}
    (B : Below A₀ base outer h₀) (C30 : CodeHd base 34 30) (F : Fr h₀ L s.heap m) (X : K.In h₀) (N : News h₀ L s.heap news)
    (T : Top p loose mean mg mb h₀) (hk : cs.kind = .function)
    (hf : (f, (fnMade (Str.ofString "inner") qual params body scope [(Str.ofString "n", cw), (Str.ofString "inner", ci), (Str.ofString "a_digits", ca)] doc pm c' ctv)) ∈ news) (hca : (ca, oa) ∈ news) (hoa : oa.data = .cell (some (.ref l)))
    (U : UpdF l (listOf vs.toArray nn) news g) (mf : AllMem g f (fnMade (Str.ofString "inner") qual params body scope [(Str.ofString "n", cw), (Str.ofString "inner", ci), (Str.ofString "a_digits", ca)] doc pm c' ctv)) (mc : AllMem g c' oc) (ma : AllMem g ca oa) (mi : AllMem g ci oi) (mw : AllMem g cw ow)
    (hoc : oc.data = .fields cvs) (hq : cvs[1]? = some (.str qual t)) (hoi : oi.data = .cell (some (.ref f))) (how : ow.data = .cell (some (.int n tn)))
    (hi' : IntsAre vs ns)
    (hb : 0 < n ∧ n ≤ 1000 ∧ 0 ≤ x ∧ 0 ≤ lo ∧ lo < hi ∧ hi ≤ ns.length ∧ ns.length ≤ 256) (hk2 : hi - lo ≤ 2 ^ k) (hx : x < 2 ^ (n * (hi - lo)).toNat)
    (hd : dp + k + 1 < recursionLimit) (hu : un + 8 * (k + 1) < cLine)
    (hret : ∀ vs' nn' h' tk', IntsAre vs' (setR ns n lo hi x) → Fr h₀ L h' m → News h₀ L h' (g (listOf vs'.toArray nn')) → Q .none { s with heap := h', toks := tk' }) :
    wpAny (model prog w) (ktrTop dp un gd cn cs L a ccd cl outer) (call (.ref f) [.int x tx, .int lo tl, .int hi th]) Q E s :=
  have _ := hf
  have _ := hca
  I _ _ _ _ _ _ _ _ _ _ _ _ _ _ _ _ _ _ _ _ _ _ _ _ _ _ _ _ _ _ _ _ _ _ _ _ _ _ _ _ _ _ _ _ B C30 F X ((UpdF.anew U).1 ▸ N) T hk (UpdF.anew U).2 mf mc ma mi mw hoc hq hoa hoi how hi' hb hk2 hx hd hu hret

section
local macro_rules | `(tactic| k_all) => `(tactic| first | with_reducible assumption | exact allNe_le (by with_reducible assumption) (by omega) | ((rename ∀ _, AllLt _ _ => hR9); exact allNe_le (hR9 _) (by omega)))
local macro_rules | `(tactic| k_updF) => `(tactic| with_reducible assumption)
local macro_rules | `(tactic| k_mem) => `(tactic| first | exact memOf (by with_reducible assumption) | exact memOf (AllMem.at (by with_reducible assumption)) | fail "no such entry")
local macro_rules | `(tactic| k_allIn) => `(tactic| (intro p9 hp9; k_ownIn))
local macro_rules | `(tactic| walk_at "ite") => `(tactic| (k_here; k_openite; first | (refine ite_pos (by first | omega | (simp only [decide_eq_true_eq, beq_iff_eq, bne_iff_ne, ne_eq]; omega)) ?_) | (refine ite_neg (by first | omega | (simp only [decide_eq_true_eq, beq_iff_eq, bne_iff_ne, ne_eq]; omega)) ?_)))
local macro_rules | `(tactic| walk_at "binaryOp Mult ref int") => `(tactic| (k_here; (with_reducible show wpAny _ _ (binaryOp Operator.Mult (Value.ref _) (Value.int _ _)) _ _ _); k_dflt (refine' mulOne ?F ?N ?l ?lo ?hi ?_; (case F => k_asm); (case N => k_asm); (case l => is_list); (case lo => first | assumption | omega); (case hi => first | assumption | omega); k_whole); intro D' h' vs' hi' F' N' l1; (try k_lt l1)))
local macro_rules | `(tactic| walk_at "call builtin:len") => `(tactic| (k_here; (with_reducible show wpAny _ _ (call (Value.builtin "len") [Value.ref _]) _ _ _); k_dflt (refine' lenInts ?N ?m ?i ?f ?_; (case N => k_asm); (case m => k_mem); (case i => with_reducible assumption); (case f => (first | omega | (simp only [List.length_replicate]; omega))); k_whole); intro t' tk'))
local macro_rules | `(tactic| walk_at "truthy ref") => `(tactic| (k_here; k_dflt (refine' truthyInts ?N ?m ?i ?f ?_; (case N => k_asm); (case m => k_mem); (case i => with_reducible assumption); (case f => omega); k_whole); intro tk'))
local macro_rules | `(tactic| walk_at "call builtin:list.append") => `(tactic| (k_here; (with_reducible show wpAny _ _ (call (Value.builtin _) [Value.ref _, Value.int _ _]) _ _ _); k_dflt (refine' appendInts ?F ?N ?U ?hi ?hz ?_; (case F => k_asm); (case N => k_asm); (case U => k_upd); (case hi => with_reducible assumption); (case hz => omega); k_whole); intro h' F' N' hi'))
local macro_rules | `(tactic| walk_at "call builtin:list.reverse") => `(tactic| (k_here; (with_reducible show wpAny _ _ (call (Value.builtin _) [Value.ref _]) _ _ _); k_dflt (refine' reverseInts ?F ?N ?U ?hi ?hz ?_; (case F => k_asm); (case N => k_asm); (case U => k_upd); (case hi => with_reducible assumption); (case hz => omega); k_whole); intro h' F' N' hi'))
local macro_rules | `(tactic| walk_at "binaryOp LShift int int") => `(tactic| (k_here; k_dflt (refine' lshift_int ?a ?b ?_; (case a => first | assumption | omega); (case b => first | assumption | omega); k_whole)))
local macro_rules | `(tactic| k_mem) => `(tactic| first | exact AllMem.at (by with_reducible assumption) | fail "no such entry")
local macro_rules | `(tactic| walk_at "setItem ref int") => `(tactic| (k_here; (with_reducible show wpAny _ _ (setItem (Value.ref _) (Value.int _ _) (Value.int _ _)) _ _ _); (rename ∀ o', UpdF _ o' _ _ => hU); k_dflt (refine' ksa_set ?k1 ?k2 ?k3 ?k4 ?k5 ?k6 ?k7 ?_; (case k1 => k_asm); (case k2 => k_asm); (case k3 => exact UpdF.upd (hU _) _); (case k4 => with_reducible assumption); (case k5 => omega); (case k6 => omega); (case k7 => omega); k_whole); intro h' F' N' hi' hl' hs'))
local macro_rules | `(tactic| walk_at "call ref") => `(tactic| (k_here; (rename InA _ _ _ _ _ _ _ _ _ _ _ _ _ => IHn); (rename ∀ o', UpdF _ o' _ _ => hU); k_dflt (refine' InA.use IHn ?B ?C ?F ?X ?N ?T ?hk ?hf ?hca ?hoa ?U ?mf ?mc ?ma ?mi ?mw ?hoc ?hq ?hoi ?how ?hi ?hb ?hk2 ?hx ?hd ?hu ?_; (case B => k_asm); (case C => k_asm); (case F => k_asm); (case X => k_asm); (case N => k_asm); (case T => k_asm); (case hk => exact rfl); (case hf => k_mem); (case hca => k_mem); (case hoa => assumption); (case U => exact hU _); (case mf => assumption); (case mc => assumption); (case ma => assumption); (case mi => assumption); (case mw => assumption); (case hoc => assumption); (case hq => assumption); (case hoi => assumption); (case how => assumption); (case hi => assumption); (case hb => refine ⟨?_, ?_, ?_, ?_, ?_, ?_, ?_⟩ <;> first | assumption | omega); (case hk2 => assumption); (case hx => assumption); (case hd => ktr_room); (case hu => ktr_units)); intro vs' nn' h' tk' hi' F' N'))

theorem inA_step (w : World) (p : Program) (loose : List Str) (mean : ExcName → Option Value) (mg mb : Str → Option Value) (qual nm : Str) (params : Arguments) (body : List Stmt) (scope : Scope)
   (hA : defAt (Mine.hd.heap_39 w.params) 35 1 = some (nm, params, body, scope)) (k : Nat)
   (IH : ∀ j, k = j + 1 → InA PySem.Challenge.rw_mq0469_01.row.prog w (Mine.hd.heap_39 w.params) p loose mean mg mb qual params body scope j) : InA PySem.Challenge.rw_mq0469_01.row.prog w (Mine.hd.heap_39 w.params) p loose mean mg mb qual params body scope k := by
  w_top off
  k_fill
  unfold InA
  intro dp un gd cn cs a ccd cl outer A₀ base h₀ L m s Q E f c' ca ci cw l oc oa oi ow cvs t doc pm ctv n tn vs ns nn g x lo hi tx tl th B C30 F X N T hk hU mf mc ma mi mw hoc hq hoa hoi how hi' hb hk2 hx hd hu hret
  cases hA
  refine wpAny_call ?_
  k_dflt (refine' code_nestL ?k1 ?k2 ?k3 ?k4 ?k5 ?kA ?kF ?kK ?k6 ?k7 ?k8 ?k9 ?kB ?_ ?c2 ?c3 ?c4 ?c5; (case kA => exact rfl); (case kF => exact rfl); (case kK => assumption); (case k1 => k_asm); (case k2 => k_asm); (case k3 => k_asm); (case k4 => k_asm); (case k5 => k_asm); (case k6 => k_mem); (case k7 => exact codeRec_news (by k_asm) (by k_mem) (by assumption) (by assumption)); (case k8 => exact (by omega : dp < recursionLimit)); (case k9 => exact BindsTo.of_eq rfl); (case c5 => decide); (case kB => exact locs rfl); (case c2 => exact rfl); (case c3 => exact rfl); (case c4 => exact rfl); k_whole; intro g' L' h' FG' F' N' B' X' T' l1; (try dsimp only); (try k_lift B'); (try k_fold))
  clear l1
  by_cases h1 : lo + 1 = hi
  · have hb' := hb
    obtain ⟨hn1, hn2, hx0, hl0, hlh, hhl, hlen⟩ := hb'
    have hx1 : x < 2 ^ n.toNat := by
      have : n * (hi - lo) = n := by rw [show hi - lo = 1 by omega, Int.mul_one]
      rw [this] at hx; exact hx
    have e1 := setR_one (ns := ns) (n := n) (hi := hi) hl0 (by omega) h1.symm hx0 hx1
    clear IH
    k_steps
    refine hret _ _ _ _ ?_ (by k_asm) (by k_asm)
    rw [← e1]; assumption
  · cases k with
    | zero => exfalso; omega
    | succ k =>
    have IHk := IH k rfl
    clear IH
    obtain ⟨m1, m2, k1, k2, s0, s1, sz, u0, u1, w0, w1, we, ue⟩ := halves hb hk2 hx h1
    have hb' := hb
    obtain ⟨hn1, hn2, hx0, hl0, hlh, hhl, hlen⟩ := hb'
    have sl' := setR_length ns n lo ((lo + hi).fdiv (2 ^ Int.toNat 1)) (Builtin.bitXor x (x.fdiv (2 ^ (((lo + hi).fdiv (2 ^ Int.toNat 1) - lo) * n).toNat) * 2 ^ (((lo + hi).fdiv (2 ^ Int.toNat 1) - lo) * n).toNat))
    have ej := setR_join (ns := ns) (n := n) (x := x) (lo := lo) (mid := (lo + hi).fdiv (2 ^ Int.toNat 1)) (hi := hi) (by omega) hx0 (by omega) (by omega)
    rw [← we, ← ue] at ej
    k_steps
    refine hret _ _ _ _ ?_ (by k_asm) (by k_asm)
    rw [← ej]; assumption
end
theorem inA_all (w : World) (p : Program) (loose : List Str) (mean : ExcName → Option Value) (mg mb : Str → Option Value) (qual nm : Str) (params : Arguments) (body : List Stmt) (scope : Scope)
   (hA : defAt (Mine.hd.heap_39 w.params) 35 1 = some (nm, params, body, scope)) : ∀ k : Nat, InA PySem.Challenge.rw_mq0469_01.row.prog w (Mine.hd.heap_39 w.params) p loose mean mg mb qual params body scope k
  | 0 => inA_step w p loose mean mg mb qual nm params body scope hA 0 (fun j h => nomatch h)
  | k + 1 => inA_step w p loose mean mg mb qual nm params body scope hA (k + 1) (fun j h => by cases h; exact inA_all w p loose mean mg mb qual nm params body scope hA k)

section
local macro_rules | `(tactic| k_all) => `(tactic| first | with_reducible assumption | exact allNe_le (by with_reducible assumption) (by omega) | ((rename ∀ _, AllLt _ _ => hR9); exact allNe_le (hR9 _) (by omega)))
local macro_rules | `(tactic| k_updF) => `(tactic| with_reducible assumption)
local macro_rules | `(tactic| k_mem) => `(tactic| first | exact memOf (by with_reducible assumption) | exact memOf (AllMem.at (by with_reducible assumption)) | fail "no such entry")
local macro_rules | `(tactic| k_allIn) => `(tactic| (intro p9 hp9; k_ownIn))
local macro_rules | `(tactic| walk_at "ite") => `(tactic| (k_here; k_openite; first | (refine ite_pos (by first | omega | (simp only [decide_eq_true_eq, beq_iff_eq, bne_iff_ne, ne_eq]; omega)) ?_) | (refine ite_neg (by first | omega | (simp only [decide_eq_true_eq, beq_iff_eq, bne_iff_ne, ne_eq]; omega)) ?_)))
local macro_rules | `(tactic| walk_at "binaryOp Mult ref int") => `(tactic| (k_here; (with_reducible show wpAny _ _ (binaryOp Operator.Mult (Value.ref _) (Value.int _ _)) _ _ _); k_dflt (refine' mulOne ?F ?N ?l ?lo ?hi ?_; (case F => k_asm); (case N => k_asm); (case l => is_list); (case lo => first | assumption | omega); (case hi => first | assumption | omega); k_whole); intro D' h' vs' hi' F' N' l1; (try k_lt l1)))
local macro_rules | `(tactic| walk_at "call builtin:len") => `(tactic| (k_here; (with_reducible show wpAny _ _ (call (Value.builtin "len") [Value.ref _]) _ _ _); k_dflt (refine' lenInts ?N ?m ?i ?f ?_; (case N => k_asm); (case m => k_mem); (case i => with_reducible assumption); (case f => (first | omega | (simp only [List.length_replicate]; omega))); k_whole); intro t' tk'))
local macro_rules | `(tactic| walk_at "truthy ref") => `(tactic| (k_here; k_dflt (refine' truthyInts ?N ?m ?i ?f ?_; (case N => k_asm); (case m => k_mem); (case i => with_reducible assumption); (case f => omega); k_whole); intro tk'))
local macro_rules | `(tactic| walk_at "call builtin:list.append") => `(tactic| (k_here; (with_reducible show wpAny _ _ (call (Value.builtin _) [Value.ref _, Value.int _ _]) _ _ _); k_dflt (refine' appendInts ?F ?N ?U ?hi ?hz ?_; (case F => k_asm); (case N => k_asm); (case U => k_upd); (case hi => with_reducible assumption); (case hz => omega); k_whole); intro h' F' N' hi'))
local macro_rules | `(tactic| walk_at "call builtin:list.reverse") => `(tactic| (k_here; (with_reducible show wpAny _ _ (call (Value.builtin _) [Value.ref _]) _ _ _); k_dflt (refine' reverseInts ?F ?N ?U ?hi ?hz ?_; (case F => k_asm); (case N => k_asm); (case U => k_upd); (case hi => with_reducible assumption); (case hz => omega); k_whole); intro h' F' N' hi'))
local macro_rules | `(tactic| walk_at "binaryOp LShift int int") => `(tactic| (k_here; k_dflt (refine' lshift_int ?a ?b ?_; (case a => first | assumption | omega); (case b => first | assumption | omega); k_whole)))

theorem i2d_fresh (w : World) {p : Program} {loose : List Str} {mean : ExcName → Option Value} {mg mb : Str → Option Value}
  {dp un : Nat} {gd : Option (List Code)} {cn : Str} {cs : Scope} {a : Addr} {ccd : Value} {cl : List (Str × Addr)} {outer : List Env} {A₀ : Around} {base h₀ : Heap} {L : Addr} {m : Str → Option Value} {news : List (Addr × Obj)} {s : Shared} {Q E : Value → Shared → Prop} {g : Obj → List (Addr × Obj)} {x n : Int} {tx tn : Tok}
  (B : Below A₀ base outer h₀) (F : Fr h₀ L s.heap m) (X : (Mine.hd.heap_39 w.params).In h₀) (N : News h₀ L s.heap news) (T : Top p loose mean mg mb h₀) (hk : cs.kind = .function) (C30 : CodeHd base 34 30)
  (U30 : UpdF 30 (tabObj #[]) news g) (hx0 : 0 ≤ x) (hn : 0 < n) (hn2 : n ≤ 1000) (h256 : nd x n ≤ 256)
  (hd : dp + 12 < recursionLimit) (hu : un + 100 < cLine)
  (hret : ∀ l nn vs c' oc cvs t h' tk', IntsAre vs (dg x n) → oc.data = .fields cvs → cvs[1]? = some (.str (Str.ofString "_int2digits.<locals>.inner") t) → Fr h₀ L h' m → News h₀ L h' ((l, listOf vs.toArray nn) :: (c', oc) :: g (tabObj #[rawInt 32, rawInt 4, .ref c'])) → (∀ p ∈ news, p.1 < l) → @LT.lt Nat _ l c' → Q (.ref l) { s with heap := h', toks := tk' }) :
  wpAny (model PySem.Challenge.rw_mq0469_01.row.prog w) (ktrTop dp un gd cn cs L a ccd cl outer) (call (.ref 35) [.int x tx, .int n tn]) Q E s := by
  w_top off
  revert X; k_fill; intro X
  refine wpAny_call ?_
  k_dflt (refine' code_defC ?k1 ?k2 ?k3 ?k4 ?k5 ?kA ?kF ?kK ?k6 ?k7 ?k8 ?k9 ?kB ?kD ?_ ?c2 ?c3 ?c4; (case kA => exact rfl); (case kF => exact rfl); (case kK => assumption); (case k1 => k_asm); (case k2 => k_asm); (case k3 => k_asm); (case k4 => k_asm); (case k5 => k_asm); (case k6 => k_is); (case k7 => k_is); (case k8 => exact (by omega : dp < recursionLimit)); (case k9 => exact BindsTo.of_eq rfl); (case kB => exact rfl); (case kD => decide +kernel); (case c2 => exact rfl); (case c3 => exact rfl); (case c4 => exact rfl); k_whole; intro g' L' h' tk' cells' FG' F' N' Y' B' X' T' l1; obtain ⟨o1, o2, o3, hE', d1', d2', d3'⟩ := PyProof.Rows.CellsAre.three Y'; subst hE'; clear Y'; (try simp only [List.cons_append, List.nil_append] at N'); (try dsimp only); (try k_lift B'); (try k_fold))
  have l30 : @LT.lt Nat _ 30 L' := l1 _ (UpdF.mem U30)
  have lR := allLt_of l1
  have hb0 := (nd_facts hx0 hn).1
  have e0 : ((Builtin.Int.intBits x : Int) + n - 1).fdiv n = nd x n := rfl
  have hb1 : ((Builtin.Int.intBits x : Int) + n - 1).fdiv n ≤ 256 := h256
  have hb2 : 0 ≤ ((Builtin.Int.intBits x : Int) + n - 1).fdiv n := hb0
  replace d3' : o3.data = .cell (some (.int n tn)) := d3'
  replace d2' : o2.data = .cell none := d2'
  replace d1' : o1.data = .cell none := d1'
  have lRg := AllLt.upd U30 lR
  clear l1
  k_steps
  · rename x ≠ 0 => hx1
    obtain ⟨q1, q2, q3⟩ := dg_first hx0 hx1 hn hn2 h256
    rw [← e0] at q1 q2 q3
    k_dflt (refine' InA.use (inA_all w _ _ _ _ _ _ _ _ _ _ ?hA 8) ?B ?C ?F ?X ?N ?T ?hk ?hf ?hca ?hoa ?U ?mf ?mc ?ma ?mi ?mw ?hoc ?hq ?hoi ?how ?hi ?hb ?hk2 ?hx ?hd ?hu ?_; (case B => k_asm); (case C => k_asm); (case F => k_asm); (case X => k_asm); (case N => k_asm); (case T => k_asm); (case hk => exact rfl); (case hf => k_mem); (case hA => exact rfl); (case hca => k_mem); (case hoa => assumption); (case U => k_updF); (case mf => (intro o9; dsimp only; k_mem)); (case mc => (intro o9; dsimp only; k_mem)); (case ma => (intro o9; dsimp only; k_mem)); (case mi => (intro o9; dsimp only; k_mem)); (case mw => (intro o9; dsimp only; k_mem)); (case hoc => assumption); (case hq => assumption); (case hoi => assumption); (case how => assumption); (case hi => assumption); (case hb => exact q1); (case hk2 => exact q2); (case hx => exact q3); (case hd => ktr_room); (case hu => ktr_units))
    intro vs' nn' h' tk' hi' F' N'
    try dsimp only at N'
    k_steps
    exact hret _ _ _ _ _ _ _ _ _ (by assumption) (by assumption) (by assumption) (by k_asm) (cb_drop (by k_asm) (by k_allIn)) (allLt_le lR (by omega)) (by omega)
  · rename x = 0 => hx1
    subst hx1
    have e1 : List.replicate (((Builtin.Int.intBits 0 : Int) + n - 1).fdiv n).toNat 0 = dg 0 n := by rw [dg_zero hn, e0, nd_zero hn]; rfl
    exact hret _ _ _ _ _ _ _ _ _ (by rw [← e1]; assumption) (by assumption) (by assumption) (by k_asm) (cb_drop (by k_asm) (by k_allIn)) (allLt_le lR (by omega)) (by omega)

theorem i2d_hit (w : World) {p : Program} {loose : List Str} {mean : ExcName → Option Value} {mg mb : Str → Option Value}
  {dp un : Nat} {gd : Option (List Code)} {cn : Str} {cs : Scope} {a : Addr} {ccd : Value} {cl : List (Str × Addr)} {outer : List Env} {A₀ : Around} {base h₀ : Heap} {L : Addr} {m : Str → Option Value} {news : List (Addr × Obj)} {s : Shared} {Q E : Value → Shared → Prop} {x n : Int} {tx tn : Tok} {c₀ : Addr} {oc₀ : Obj} {cv₀ : Array Value} {t₀ : Tok}
  (B : Below A₀ base outer h₀) (F : Fr h₀ L s.heap m) (X : (Mine.hd.heap_39 w.params).In h₀) (N : News h₀ L s.heap news) (T : Top p loose mean mg mb h₀) (hk : cs.kind = .function) (C30 : CodeHd base 34 30)
  (m30 : (30, tabObj #[rawInt 32, rawInt 4, .ref c₀]) ∈ news) (mc0 : (c₀, oc₀) ∈ news) (hoc0 : oc₀.data = .fields cv₀) (hcv0 : cv₀[1]? = some (.str (Str.ofString "_int2digits.<locals>.inner") t₀)) (hx0 : 0 ≤ x) (hn : 0 < n) (hn2 : n ≤ 1000) (h256 : nd x n ≤ 256)
  (hd : dp + 12 < recursionLimit) (hu : un + 100 < cLine)
  (hret : ∀ l nn vs h' tk', IntsAre vs (dg x n) → Fr h₀ L h' m → News h₀ L h' ((l, listOf vs.toArray nn) :: news) → (∀ p ∈ news, p.1 < l) → Q (.ref l) { s with heap := h', toks := tk' }) :
  wpAny (model PySem.Challenge.rw_mq0469_01.row.prog w) (ktrTop dp un gd cn cs L a ccd cl outer) (call (.ref 35) [.int x tx, .int n tn]) Q E s := by
  w_top off
  revert X; k_fill; intro X
  refine wpAny_call ?_
  k_dflt (refine' code_defC ?k1 ?k2 ?k3 ?k4 ?k5 ?kA ?kF ?kK ?k6 ?k7 ?k8 ?k9 ?kB ?kD ?_ ?c2 ?c3 ?c4; (case kA => exact rfl); (case kF => exact rfl); (case kK => assumption); (case k1 => k_asm); (case k2 => k_asm); (case k3 => k_asm); (case k4 => k_asm); (case k5 => k_asm); (case k6 => k_is); (case k7 => k_is); (case k8 => exact (by omega : dp < recursionLimit)); (case k9 => exact BindsTo.of_eq rfl); (case kB => exact rfl); (case kD => decide +kernel); (case c2 => exact rfl); (case c3 => exact rfl); (case c4 => exact rfl); k_whole; intro g' L' h' tk' cells' FG' F' N' Y' B' X' T' l1; obtain ⟨o1, o2, o3, hE', d1', d2', d3'⟩ := PyProof.Rows.CellsAre.three Y'; subst hE'; clear Y'; (try simp only [List.cons_append, List.nil_append] at N'); (try dsimp only); (try k_lift B'); (try k_fold))
  skip
  have lR := allLt_of l1
  have hb0 := (nd_facts hx0 hn).1
  have e0 : ((Builtin.Int.intBits x : Int) + n - 1).fdiv n = nd x n := rfl
  have hb1 : ((Builtin.Int.intBits x : Int) + n - 1).fdiv n ≤ 256 := h256
  have hb2 : 0 ≤ ((Builtin.Int.intBits x : Int) + n - 1).fdiv n := hb0
  replace d3' : o3.data = .cell (some (.int n tn)) := d3'
  replace d2' : o2.data = .cell none := d2'
  replace d1' : o1.data = .cell none := d1'
  skip
  clear l1
  k_steps
  · rename x ≠ 0 => hx1
    obtain ⟨q1, q2, q3⟩ := dg_first hx0 hx1 hn hn2 h256
    rw [← e0] at q1 q2 q3
    k_dflt (refine' InA.use (inA_all w _ _ _ _ _ _ _ _ _ _ ?hA 8) ?B ?C ?F ?X ?N ?T ?hk ?hf ?hca ?hoa ?U ?mf ?mc ?ma ?mi ?mw ?hoc ?hq ?hoi ?how ?hi ?hb ?hk2 ?hx ?hd ?hu ?_; (case B => k_asm); (case C => k_asm); (case F => k_asm); (case X => k_asm); (case N => k_asm); (case T => k_asm); (case hk => exact rfl); (case hf => k_mem); (case hA => exact rfl); (case hca => k_mem); (case hoa => assumption); (case U => k_updF); (case mf => (intro o9; dsimp only; k_mem)); (case mc => (intro o9; dsimp only; k_mem)); (case ma => (intro o9; dsimp only; k_mem)); (case mi => (intro o9; dsimp only; k_mem)); (case mw => (intro o9; dsimp only; k_mem)); (case hoc => assumption); (case hq => assumption); (case hoi => assumption); (case how => assumption); (case hi => assumption); (case hb => exact q1); (case hk2 => exact q2); (case hx => exact q3); (case hd => ktr_room); (case hu => ktr_units))
    intro vs' nn' h' tk' hi' F' N'
    try dsimp only at N'
    k_steps
    exact hret _ _ _ _ _ (by assumption) (by k_asm) (cb_drop (by k_asm) (by k_allIn)) (allLt_le lR (by omega))
  · rename x = 0 => hx1
    subst hx1
    have e1 : List.replicate (((Builtin.Int.intBits 0 : Int) + n - 1).fdiv n).toNat 0 = dg 0 n := by rw [dg_zero hn, e0, nd_zero hn]; rfl
    exact hret _ _ _ _ _ (by rw [← e1]; assumption) (by k_asm) (cb_drop (by k_asm) (by k_allIn)) (allLt_le lR (by omega))
end
end Mine
namespace Mine
/-- what a call of the def inner of _digits2int does, down to 2 ^ k places -/
def InB (prog : Program) (w : World) (K : Frag) (p : Program) (loose : List Str) (mean : ExcName → Option Value) (mg mb : Str → Option Value) (qual : Str) (params : Arguments) (body : List Stmt) (scope : Scope) (k : Nat) : Prop :=
  ∀ (dp un : Nat) (gd : Option (List Code)) (cn : Str) (cs : Scope) (a : Addr) (ccd : Value) (cl : List (Str × Addr)) (outer : List Env) (A₀ : Around) (base h₀ : Heap) (L : Addr) (m : Str → Option Value) (s : Shared) (Q E : Value → Shared → Prop)
    (f c' ca ci cw l : Addr) (oc oa oi ow : Obj) (cvs : Array Value) (t : Tok) (doc pm ctv : Value) (n : Int) (tn : Tok) (vs : List Value) (ns : List Int) (nn : Nat) (news : List (Addr × Obj)) (lo hi : Int) (tl th : Tok),
    Below A₀ base outer h₀ → CodeHd base 41 37 → Fr h₀ L s.heap m → K.In h₀ → News h₀ L s.heap news →
    Top p loose mean mg mb h₀ → cs.kind = .function →
    (f, (fnMade (Str.ofString "inner") qual params body scope [(Str.ofString "n", cw), (Str.ofString "inner", ci), (Str.ofString "digits", ca)] doc pm c' ctv)) ∈ news → (c', oc) ∈ news → (ca, oa) ∈ news → (ci, oi) ∈ news → (cw, ow) ∈ news → (l, listOf vs.toArray nn) ∈ news →
    oc.data = .fields cvs → cvs[1]? = some (.str qual t) → oa.data = .cell (some (.ref l)) → oi.data = .cell (some (.ref f)) → ow.data = .cell (some (.int n tn)) →
    IntsAre vs ns →
    (0 < n ∧ n ≤ 1000 ∧ 0 ≤ lo ∧ lo < hi ∧ hi ≤ ns.length ∧ ns.length ≤ 256) → hi - lo ≤ 2 ^ k → Digs n ns →
    dp + k + 1 < recursionLimit → un + 8 * (k + 1) < cLine →
    (∀ t' h' tk', Fr h₀ L h' m → News h₀ L h' news → Q (.int (vl n (slice ns lo hi)) t') { s with heap := h', toks := tk' }) →
    wpAny (model prog w) (ktrTop dp un gd cn cs L a ccd cl outer) (call (.ref f) [.int lo tl, .int hi th]) Q E s

theorem InB.use {prog : Program} {w : World} {K : Frag} {p : Program} {loose : List Str} {mean : ExcName → Option Value} {mg mb : Str → Option Value} {qual : Str} {params : Arguments} {body : List Stmt} {scope : Scope} {k : Nat}
    (I : InB prog w K p loose mean mg mb qual params body scope k)
    {dp un : Nat} {gd : Option (List Code)} {cn : Str} {cs : Scope} {a : Addr} {ccd : Value} {cl : List (Str × Addr)} {outer : List Env} {A₀ : Around} {base h₀ : Heap} {L : Addr} {m : Str → Option Value} {s : Shared} {Q E : Value → Shared → Prop}
    {f c' ca ci cw l : Addr} {oc oa oi ow : Obj} {cvs : Array Value} {t : Tok} {doc pm ctv : Value} {n : Int} {tn : Tok} {vs : List Value} {ns : List Int} {nn : Nat} {news : List (Addr × Obj)} {lo hi : Int} {tl th : Tok}
    (B : Below A₀ base outer h₀) (C37 : CodeHd base 41 37) (F : Fr h₀ L s.heap m) (X : K.In h₀) (N : News h₀ L s.heap news)
    (T : Top p loose mean mg mb h₀) (hk : cs.kind = .function)
    (mf : (f, (fnMade (Str.ofString "inner") qual params body scope [(Str.ofString "n", cw), (Str.ofString "inner", ci), (Str.ofString "digits", ca)] doc pm c' ctv)) ∈ news) (ma : (ca, oa) ∈ news) (hoa : oa.data = .cell (some (.ref l))) (mc : (c', oc) ∈ news) (mi : (ci, oi) ∈ news) (mw : (cw, ow) ∈ news) (ml : (l, listOf vs.toArray nn) ∈ news)
    (hoc : oc.data = .fields cvs) (hq : cvs[1]? = some (.str qual t)) (hoi : oi.data = .cell (some (.ref f))) (how : ow.data = .cell (some (.int n tn)))
    (hi' : IntsAre vs ns)
    (hb : 0 < n ∧ n ≤ 1000 ∧ 0 ≤ lo ∧ lo < hi ∧ hi ≤ ns.length ∧ ns.length ≤ 256) (hk2 : hi - lo ≤ 2 ^ k) (hD : Digs n ns)
    (hd : dp + k + 1 < recursionLimit) (hu : un + 8 * (k + 1) < cLine)
    (hret : ∀ t' h' tk', Fr h₀ L h' m → News h₀ L h' news → Q (.int (vl n (slice ns lo hi)) t') { s with heap := h', toks := tk' }) :
    wpAny (model prog w) (ktrTop dp un gd cn cs L a ccd cl outer) (call (.ref f) [.int lo tl, .int hi th]) Q E s :=
  I _ _ _ _ _ _ _ _ _ _ _ _ _ _ _ _ _ _ _ _ _ _ _ _ _ _ _ _ _ _ _ _ _ _ _ _ _ _ _ _ _ _ B C37 F X N T hk mf mc ma mi mw ml hoc hq hoa hoi how hi' hb hk2 hD hd hu hret

section
local macro_rules | `(tactic| k_all) => `(tactic| first | with_reducible assumption | exact allNe_le (by with_reducible assumption) (by omega) | ((rename ∀ _, AllLt _ _ => hR9); exact allNe_le (hR9 _) (by omega)))
local macro_rules | `(tactic| k_updF) => `(tactic| with_reducible assumption)
local macro_rules | `(tactic| k_mem) => `(tactic| first | exact memOf (by with_reducible assumption) | exact memOf (AllMem.at (by with_reducible assumption)) | fail "no such entry")
local macro_rules | `(tactic| k_allIn) => `(tactic| (intro p9 hp9; k_ownIn))
local macro_rules | `(tactic| walk_at "ite") => `(tactic| (k_here; k_openite; first | (refine ite_pos (by first | omega | (simp only [decide_eq_true_eq, beq_iff_eq, bne_iff_ne, ne_eq]; omega)) ?_) | (refine ite_neg (by first | omega | (simp only [decide_eq_true_eq, beq_iff_eq, bne_iff_ne, ne_eq]; omega)) ?_)))
local macro_rules | `(tactic| walk_at "binaryOp Mult ref int") => `(tactic| (k_here; (with_reducible show wpAny _ _ (binaryOp Operator.Mult (Value.ref _) (Value.int _ _)) _ _ _); k_dflt (refine' mulOne ?F ?N ?l ?lo ?hi ?_; (case F => k_asm); (case N => k_asm); (case l => is_list); (case lo => first | assumption | omega); (case hi => first | assumption | omega); k_whole); intro D' h' vs' hi' F' N' l1; (try k_lt l1)))
local macro_rules | `(tactic| walk_at "call builtin:len") => `(tactic| (k_here; (with_reducible show wpAny _ _ (call (Value.builtin "len") [Value.ref _]) _ _ _); k_dflt (refine' lenInts ?N ?m ?i ?f ?_; (case N => k_asm); (case m => k_mem); (case i => with_reducible assumption); (case f => (first | omega | (simp only [List.length_replicate]; omega))); k_whole); intro t' tk'))
local macro_rules | `(tactic| walk_at "truthy ref") => `(tactic| (k_here; k_dflt (refine' truthyInts ?N ?m ?i ?f ?_; (case N => k_asm); (case m => k_mem); (case i => with_reducible assumption); (case f => omega); k_whole); intro tk'))
local macro_rules | `(tactic| walk_at "call builtin:list.append") => `(tactic| (k_here; (with_reducible show wpAny _ _ (call (Value.builtin _) [Value.ref _, Value.int _ _]) _ _ _); k_dflt (refine' appendInts ?F ?N ?U ?hi ?hz ?_; (case F => k_asm); (case N => k_asm); (case U => k_upd); (case hi => with_reducible assumption); (case hz => omega); k_whole); intro h' F' N' hi'))
local macro_rules | `(tactic| walk_at "call builtin:list.reverse") => `(tactic| (k_here; (with_reducible show wpAny _ _ (call (Value.builtin _) [Value.ref _]) _ _ _); k_dflt (refine' reverseInts ?F ?N ?U ?hi ?hz ?_; (case F => k_asm); (case N => k_asm); (case U => k_upd); (case hi => with_reducible assumption); (case hz => omega); k_whole); intro h' F' N' hi'))
local macro_rules | `(tactic| walk_at "binaryOp LShift int int") => `(tactic| (k_here; k_dflt (refine' lshift_int ?a ?b ?_; (case a => first | assumption | omega); (case b => first | assumption | omega); k_whole)))
local macro_rules | `(tactic| walk_at "subscriptTail") => `(tactic| (k_here; (with_reducible show wpAny _ _ (subscriptTail _ _ (Value.ref _) (Value.int _ _)) _ _ _); k_dflt (refine' ksa_sub ?k1 ?k2 ?k3 ?k4 ?k5 ?k6 ?_ ?k7; (case k1 => k_asm); (case k2 => k_mem); (case k3 => with_reducible assumption); (case k4 => omega); (case k5 => omega); (case k6 => omega); (case k7 => with_unfolding_all rfl); k_whole); intro t9))
local macro_rules | `(tactic| walk_at "call ref") => `(tactic| (k_here; (rename InB _ _ _ _ _ _ _ _ _ _ _ _ _ => IHn); k_dflt (refine' InB.use IHn ?B ?C ?F ?X ?N ?T ?hk ?mf ?ma ?hoa ?mc ?mi ?mw ?ml ?hoc ?hq ?hoi ?how ?hi ?hb ?hk2 ?hD ?hd ?hu ?_; (case B => k_asm); (case C => k_asm); (case F => k_asm); (case X => k_asm); (case N => k_asm); (case T => k_asm); (case hk => exact rfl); (case mf => k_mem); (case ma => k_mem); (case hoa => assumption); (case mc => k_mem); (case mi => k_mem); (case mw => k_mem); (case ml => k_mem); (case hoc => assumption); (case hq => assumption); (case hoi => assumption); (case how => assumption); (case hi => assumption); (case hb => refine ⟨?_, ?_, ?_, ?_, ?_, ?_⟩ <;> first | assumption | omega); (case hk2 => first | assumption | omega); (case hD => assumption); (case hd => ktr_room); (case hu => ktr_units)); intro t' h' tk' F' N'))

theorem inB_step (w : World) (p : Program) (loose : List Str) (mean : ExcName → Option Value) (mg mb : Str → Option Value) (qual nm : Str) (params : Arguments) (body : List Stmt) (scope : Scope)
   (hA : defAt (Mine.hd.heap_39 w.params) 42 0 = some (nm, params, body, scope)) (k : Nat)
   (IH : ∀ j, k = j + 1 → InB PySem.Challenge.rw_mq0469_01.row.prog w (Mine.hd.heap_39 w.params) p loose mean mg mb qual params body scope j) : InB PySem.Challenge.rw_mq0469_01.row.prog w (Mine.hd.heap_39 w.params) p loose mean mg mb qual params body scope k := by
  w_top off
  k_fill
  unfold InB
  intro dp un gd cn cs a ccd cl outer A₀ base h₀ L m s Q E f c' ca ci cw l oc oa oi ow cvs t doc pm ctv n tn vs ns nn news lo hi tl th B C37 F X N T hk mf mc ma mi mw ml hoc hq hoa hoi how hi' hb hk2 hD hd hu hret
  cases hA
  refine wpAny_call ?_
  k_dflt (refine' code_nestL ?k1 ?k2 ?k3 ?k4 ?k5 ?kA ?kF ?kK ?k6 ?k7 ?k8 ?k9 ?kB ?_ ?c2 ?c3 ?c4 ?c5; (case kA => exact rfl); (case kF => exact rfl); (case kK => assumption); (case k1 => k_asm); (case k2 => k_asm); (case k3 => k_asm); (case k4 => k_asm); (case k5 => k_asm); (case k6 => k_mem); (case k7 => exact codeRec_news (by k_asm) (by k_mem) (by assumption) (by assumption)); (case k8 => exact (by omega : dp < recursionLimit)); (case k9 => exact BindsTo.of_eq rfl); (case c5 => decide); (case kB => exact locs rfl); (case c2 => exact rfl); (case c3 => exact rfl); (case c4 => exact rfl); k_whole; intro g' L' h' FG' F' N' B' X' T' l1; (try dsimp only); (try k_lift B'); (try k_fold))
  clear l1
  have hb' := hb
  obtain ⟨hn1, hn2, hl0, hlh, hhl, hlen⟩ := hb'
  by_cases h1 : lo + 1 = hi
  · have e1 := vl_one (ns := ns) (n := n) hl0 h1 hhl
    clear IH
    rw [e1] at hret
    k_steps
    exact hret _ _ _ (by k_asm) (by k_asm)
  · cases k with
    | zero => exfalso; omega
    | succ k =>
    have IHk := IH k rfl
    clear IH
    obtain ⟨m1, m2, k1, k2, s0, s1, sz, ev⟩ := halvesB hb hk2 hD h1
    rw [← ev] at hret
    k_steps
    exact hret _ _ _ (by k_asm) (by k_asm)
end
theorem inB_all (w : World) (p : Program) (loose : List Str) (mean : ExcName → Option Value) (mg mb : Str → Option Value) (qual nm : Str) (params : Arguments) (body : List Stmt) (scope : Scope)
   (hA : defAt (Mine.hd.heap_39 w.params) 42 0 = some (nm, params, body, scope)) : ∀ k : Nat, InB PySem.Challenge.rw_mq0469_01.row.prog w (Mine.hd.heap_39 w.params) p loose mean mg mb qual params body scope k
  | 0 => inB_step w p loose mean mg mb qual nm params body scope hA 0 (fun j h => nomatch h)
  | k + 1 => inB_step w p loose mean mg mb qual nm params body scope hA (k + 1) (fun j h => by cases h; exact inB_all w p loose mean mg mb qual nm params body scope hA k)

section
local macro_rules | `(tactic| k_all) => `(tactic| first | with_reducible assumption | exact allNe_le (by with_reducible assumption) (by omega) | ((rename ∀ _, AllLt _ _ => hR9); exact allNe_le (hR9 _) (by omega)))
local macro_rules | `(tactic| k_updF) => `(tactic| with_reducible assumption)
local macro_rules | `(tactic| k_mem) => `(tactic| first | exact memOf (by with_reducible assumption) | exact memOf (AllMem.at (by with_reducible assumption)) | fail "no such entry")
local macro_rules | `(tactic| k_allIn) => `(tactic| (intro p9 hp9; k_ownIn))
local macro_rules | `(tactic| walk_at "ite") => `(tactic| (k_here; k_openite; first | (refine ite_pos (by first | omega | (simp only [decide_eq_true_eq, beq_iff_eq, bne_iff_ne, ne_eq]; omega)) ?_) | (refine ite_neg (by first | omega | (simp only [decide_eq_true_eq, beq_iff_eq, bne_iff_ne, ne_eq]; omega)) ?_)))
local macro_rules | `(tactic| walk_at "binaryOp Mult ref int") => `(tactic| (k_here; (with_reducible show wpAny _ _ (binaryOp Operator.Mult (Value.ref _) (Value.int _ _)) _ _ _); k_dflt (refine' mulOne ?F ?N ?l ?lo ?hi ?_; (case F => k_asm); (case N => k_asm); (case l => is_list); (case lo => first | assumption | omega); (case hi => first | assumption | omega); k_whole); intro D' h' vs' hi' F' N' l1; (try k_lt l1)))
local macro_rules | `(tactic| walk_at "call builtin:len") => `(tactic| (k_here; (with_reducible show wpAny _ _ (call (Value.builtin "len") [Value.ref _]) _ _ _); k_dflt (refine' lenInts ?N ?m ?i ?f ?_; (case N => k_asm); (case m => k_mem); (case i => with_reducible assumption); (case f => (first | omega | (simp only [List.length_replicate]; omega))); k_whole); intro t' tk'))
local macro_rules | `(tactic| walk_at "truthy ref") => `(tactic| (k_here; k_dflt (refine' truthyInts ?N ?m ?i ?f ?_; (case N => k_asm); (case m => k_mem); (case i => with_reducible assumption); (case f => omega); k_whole); intro tk'))
local macro_rules | `(tactic| walk_at "call builtin:list.append") => `(tactic| (k_here; (with_reducible show wpAny _ _ (call (Value.builtin _) [Value.ref _, Value.int _ _]) _ _ _); k_dflt (refine' appendInts ?F ?N ?U ?hi ?hz ?_; (case F => k_asm); (case N => k_asm); (case U => k_upd); (case hi => with_reducible assumption); (case hz => omega); k_whole); intro h' F' N' hi'))
local macro_rules | `(tactic| walk_at "call builtin:list.reverse") => `(tactic| (k_here; (with_reducible show wpAny _ _ (call (Value.builtin _) [Value.ref _]) _ _ _); k_dflt (refine' reverseInts ?F ?N ?U ?hi ?hz ?_; (case F => k_asm); (case N => k_asm); (case U => k_upd); (case hi => with_reducible assumption); (case hz => omega); k_whole); intro h' F' N' hi'))
local macro_rules | `(tactic| walk_at "binaryOp LShift int int") => `(tactic| (k_here; k_dflt (refine' lshift_int ?a ?b ?_; (case a => first | assumption | omega); (case b => first | assumption | omega); k_whole)))
local macro_rules | `(tactic| walk_at "subscriptTail") => `(tactic| (k_here; (with_reducible show wpAny _ _ (subscriptTail _ _ (Value.ref _) (Value.int _ _)) _ _ _); k_dflt (refine' ksa_sub ?k1 ?k2 ?k3 ?k4 ?k5 ?k6 ?_ ?k7; (case k1 => k_asm); (case k2 => k_mem); (case k3 => with_reducible assumption); (case k4 => omega); (case k5 => omega); (case k6 => omega); (case k7 => with_unfolding_all rfl); k_whole); intro t9))

theorem d2i_fresh (w : World) {p : Program} {loose : List Str} {mean : ExcName → Option Value} {mg mb : Str → Option Value}
  {dp un : Nat} {gd : Option (List Code)} {cn : Str} {cs : Scope} {a : Addr} {ccd : Value} {cl : List (Str × Addr)} {outer : List Env} {A₀ : Around} {base h₀ : Heap} {L : Addr} {m : Str → Option Value} {news : List (Addr × Obj)} {s : Shared} {Q E : Value → Shared → Prop} {g : Obj → List (Addr × Obj)} {ld : Addr} {vs : List Value} {ns : List Int} {nn : Nat} {n : Int} {tn : Tok}
  (B : Below A₀ base outer h₀) (F : Fr h₀ L s.heap m) (X : (Mine.hd.heap_39 w.params).In h₀) (N : News h₀ L s.heap news) (T : Top p loose mean mg mb h₀) (hk : cs.kind = .function) (C37 : CodeHd base 41 37)
  (U37 : UpdF 37 (tabObj #[]) news g) (ml' : AllMem g ld (listOf vs.toArray nn)) (hi' : IntsAre vs ns) (hn : 0 < n) (hn2 : n ≤ 1000) (h256 : ns.length ≤ 256) (hD : Digs n ns)
  (hd : dp + 12 < recursionLimit) (hu : un + 100 < cLine)
  (hret : ∀ c' oc cvs t t' h' tk', oc.data = .fields cvs → cvs[1]? = some (.str (Str.ofString "_digits2int.<locals>.inner") t) → Fr h₀ L h' m → News h₀ L h' ((c', oc) :: g (tabObj #[rawInt 47, rawInt 4, .ref c'])) → (∀ p ∈ news, p.1 < c') → Q (.int (vl n ns) t') { s with heap := h', toks := tk' }) :
  wpAny (model PySem.Challenge.rw_mq0469_01.row.prog w) (ktrTop dp un gd cn cs L a ccd cl outer) (call (.ref 42) [.ref ld, .int n tn]) Q E s := by
  w_top off
  revert X; k_fill; intro X
  refine wpAny_call ?_
  k_dflt (refine' code_defC ?k1 ?k2 ?k3 ?k4 ?k5 ?kA ?kF ?kK ?k6 ?k7 ?k8 ?k9 ?kB ?kD ?_ ?c2 ?c3 ?c4; (case kA => exact rfl); (case kF => exact rfl); (case kK => assumption); (case k1 => k_asm); (case k2 => k_asm); (case k3 => k_asm); (case k4 => k_asm); (case k5 => k_asm); (case k6 => k_is); (case k7 => k_is); (case k8 => exact (by omega : dp < recursionLimit)); (case k9 => exact BindsTo.of_eq rfl); (case kB => exact rfl); (case kD => decide +kernel); (case c2 => exact rfl); (case c3 => exact rfl); (case c4 => exact rfl); k_whole; intro g' L' h' tk' cells' FG' F' N' Y' B' X' T' l1; obtain ⟨o1, o2, o3, hE', d1', d2', d3'⟩ := PyProof.Rows.CellsAre.three Y'; subst hE'; clear Y'; (try simp only [List.cons_append, List.nil_append] at N'); (try dsimp only); (try k_lift B'); (try k_fold))
  have l37 : @LT.lt Nat _ 37 L' := l1 _ (UpdF.mem U37)
  have lR := allLt_of l1
  replace d3' : o3.data = .cell (some (.ref ld)) := d3'
  replace d2' : o2.data = .cell (some (.int n tn)) := d2'
  replace d1' : o1.data = .cell none := d1'
  have lRg := AllLt.upd U37 lR
  clear l1
  by_cases hz : ns.length = 0
  · have e0 : vl n ns = 0 := by rw [List.eq_nil_of_length_eq_zero hz]; rfl
    rw [e0] at hret
    k_steps
    exact hret _ _ _ _ _ _ _ (by assumption) (by assumption) (by k_asm) (cb_drop (by k_asm) (by k_allIn)) (allLt_le lR (by omega))
  · have hz1 : 0 < ns.length := Nat.pos_of_ne_zero hz
    k_steps
    k_dflt (refine' InB.use (inB_all w _ _ _ _ _ _ _ _ _ _ ?hA 8) ?B ?C ?F ?X ?N ?T ?hk ?mf ?ma ?hoa ?mc ?mi ?mw ?ml ?hoc ?hq ?hoi ?how ?hi ?hb ?hk2 ?hD ?hd ?hu ?_; (case B => k_asm); (case C => k_asm); (case F => k_asm); (case X => k_asm); (case N => k_asm); (case T => k_asm); (case hk => exact rfl); (case mf => k_mem); (case hA => exact rfl); (case ma => k_mem); (case hoa => assumption); (case mc => k_mem); (case mi => k_mem); (case mw => k_mem); (case ml => k_mem); (case hoc => assumption); (case hq => assumption); (case hoi => assumption); (case how => assumption); (case hi => assumption); (case hb => refine ⟨?_, ?_, ?_, ?_, ?_, ?_⟩ <;> first | assumption | omega); (case hk2 => first | assumption | omega); (case hD => assumption); (case hd => ktr_room); (case hu => ktr_units))
    intro t' h' tk' F' N'
    rw [slice_all]
    k_steps
    exact hret _ _ _ _ _ _ _ (by assumption) (by assumption) (by k_asm) (cb_drop (by k_asm) (by k_allIn)) (allLt_le lR (by omega))

theorem d2i_hit (w : World) {p : Program} {loose : List Str} {mean : ExcName → Option Value} {mg mb : Str → Option Value}
  {dp un : Nat} {gd : Option (List Code)} {cn : Str} {cs : Scope} {a : Addr} {ccd : Value} {cl : List (Str × Addr)} {outer : List Env} {A₀ : Around} {base h₀ : Heap} {L : Addr} {m : Str → Option Value} {news : List (Addr × Obj)} {s : Shared} {Q E : Value → Shared → Prop} {ld : Addr} {vs : List Value} {ns : List Int} {nn : Nat} {n : Int} {tn : Tok} {c₀ : Addr} {oc₀ : Obj} {cv₀ : Array Value} {t₀ : Tok}
  (B : Below A₀ base outer h₀) (F : Fr h₀ L s.heap m) (X : (Mine.hd.heap_39 w.params).In h₀) (N : News h₀ L s.heap news) (T : Top p loose mean mg mb h₀) (hk : cs.kind = .function) (C37 : CodeHd base 41 37)
  (m37 : (37, tabObj #[rawInt 47, rawInt 4, .ref c₀]) ∈ news) (mc0 : (c₀, oc₀) ∈ news) (hoc0 : oc₀.data = .fields cv₀) (hcv0 : cv₀[1]? = some (.str (Str.ofString "_digits2int.<locals>.inner") t₀)) (ml : (ld, listOf vs.toArray nn) ∈ news) (hi' : IntsAre vs ns) (hn : 0 < n) (hn2 : n ≤ 1000) (h256 : ns.length ≤ 256) (hD : Digs n ns)
  (hd : dp + 12 < recursionLimit) (hu : un + 100 < cLine)
  (hret : ∀ t' h' tk', Fr h₀ L h' m → News h₀ L h' news → Q (.int (vl n ns) t') { s with heap := h', toks := tk' }) :
  wpAny (model PySem.Challenge.rw_mq0469_01.row.prog w) (ktrTop dp un gd cn cs L a ccd cl outer) (call (.ref 42) [.ref ld, .int n tn]) Q E s := by
  w_top off
  revert X; k_fill; intro X
  refine wpAny_call ?_
  k_dflt (refine' code_defC ?k1 ?k2 ?k3 ?k4 ?k5 ?kA ?kF ?kK ?k6 ?k7 ?k8 ?k9 ?kB ?kD ?_ ?c2 ?c3 ?c4; (case kA => exact rfl); (case kF => exact rfl); (case kK => assumption); (case k1 => k_asm); (case k2 => k_asm); (case k3 => k_asm); (case k4 => k_asm); (case k5 => k_asm); (case k6 => k_is); (case k7 => k_is); (case k8 => exact (by omega : dp < recursionLimit)); (case k9 => exact BindsTo.of_eq rfl); (case kB => exact rfl); (case kD => decide +kernel); (case c2 => exact rfl); (case c3 => exact rfl); (case c4 => exact rfl); k_whole; intro g' L' h' tk' cells' FG' F' N' Y' B' X' T' l1; obtain ⟨o1, o2, o3, hE', d1', d2', d3'⟩ := PyProof.Rows.CellsAre.three Y'; subst hE'; clear Y'; (try simp only [List.cons_append, List.nil_append] at N'); (try dsimp only); (try k_lift B'); (try k_fold))
  skip
  have lR := allLt_of l1
  replace d3' : o3.data = .cell (some (.ref ld)) := d3'
  replace d2' : o2.data = .cell (some (.int n tn)) := d2'
  replace d1' : o1.data = .cell none := d1'
  skip
  clear l1
  by_cases hz : ns.length = 0
  · have e0 : vl n ns = 0 := by rw [List.eq_nil_of_length_eq_zero hz]; rfl
    rw [e0] at hret
    k_steps
    exact hret _ _ _ (by k_asm) (cb_drop (by k_asm) (by k_allIn))
  · have hz1 : 0 < ns.length := Nat.pos_of_ne_zero hz
    k_steps
    k_dflt (refine' InB.use (inB_all w _ _ _ _ _ _ _ _ _ _ ?hA 8) ?B ?C ?F ?X ?N ?T ?hk ?mf ?ma ?hoa ?mc ?mi ?mw ?ml ?hoc ?hq ?hoi ?how ?hi ?hb ?hk2 ?hD ?hd ?hu ?_; (case B => k_asm); (case C => k_asm); (case F => k_asm); (case X => k_asm); (case N => k_asm); (case T => k_asm); (case hk => exact rfl); (case mf => k_mem); (case hA => exact rfl); (case ma => k_mem); (case hoa => assumption); (case mc => k_mem); (case mi => k_mem); (case mw => k_mem); (case ml => k_mem); (case hoc => assumption); (case hq => assumption); (case hoi => assumption); (case how => assumption); (case hi => assumption); (case hb => refine ⟨?_, ?_, ?_, ?_, ?_, ?_⟩ <;> first | assumption | omega); (case hk2 => first | assumption | omega); (case hD => assumption); (case hd => ktr_room); (case hu => ktr_units))
    intro t' h' tk' F' N'
    rw [slice_all]
    k_steps
    exact hret _ _ _ (by k_asm) (cb_drop (by k_asm) (by k_allIn))
end
end Mine
namespace Mine
section
local macro_rules | `(tactic| k_all) => `(tactic| first | with_reducible assumption | exact allNe_le (by with_reducible assumption) (by omega) | ((rename ∀ _, AllLt _ _ => hR9); exact allNe_le (hR9 _) (by omega)))
local macro_rules | `(tactic| k_updF) => `(tactic| with_reducible assumption)
local macro_rules | `(tactic| k_mem) => `(tactic| first | exact memOf (by with_reducible assumption) | exact memOf (AllMem.at (by with_reducible assumption)) | fail "no such entry")
local macro_rules | `(tactic| k_allIn) => `(tactic| (intro p9 hp9; k_ownIn))
local macro_rules | `(tactic| walk_at "ite") => `(tactic| (k_here; k_openite; first | (refine ite_pos (by first | omega | (simp only [decide_eq_true_eq, beq_iff_eq, bne_iff_ne, ne_eq]; omega)) ?_) | (refine ite_neg (by first | omega | (simp only [decide_eq_true_eq, beq_iff_eq, bne_iff_ne, ne_eq]; omega)) ?_)))
local macro_rules | `(tactic| walk_at "binaryOp Mult ref int") => `(tactic| (k_here; (with_reducible show wpAny _ _ (binaryOp Operator.Mult (Value.ref _) (Value.int _ _)) _ _ _); k_dflt (refine' mulOne ?F ?N ?l ?lo ?hi ?_; (case F => k_asm); (case N => k_asm); (case l => is_list); (case lo => first | assumption | omega); (case hi => first | assumption | omega); k_whole); intro D' h' vs' hi' F' N' l1; (try k_lt l1)))
local macro_rules | `(tactic| walk_at "call builtin:len") => `(tactic| (k_here; (with_reducible show wpAny _ _ (call (Value.builtin "len") [Value.ref _]) _ _ _); k_dflt (refine' lenInts ?N ?m ?i ?f ?_; (case N => k_asm); (case m => k_mem); (case i => with_reducible assumption); (case f => (first | omega | (simp only [List.length_replicate]; omega))); k_whole); intro t' tk'))
local macro_rules | `(tactic| walk_at "truthy ref") => `(tactic| (k_here; k_dflt (refine' truthyInts ?N ?m ?i ?f ?_; (case N => k_asm); (case m => k_mem); (case i => with_reducible assumption); (case f => omega); k_whole); intro tk'))
local macro_rules | `(tactic| walk_at "call builtin:list.append") => `(tactic| (k_here; (with_reducible show wpAny _ _ (call (Value.builtin _) [Value.ref _, Value.int _ _]) _ _ _); k_dflt (refine' appendInts ?F ?N ?U ?hi ?hz ?_; (case F => k_asm); (case N => k_asm); (case U => k_upd); (case hi => with_reducible assumption); (case hz => omega); k_whole); intro h' F' N' hi'))
local macro_rules | `(tactic| walk_at "call builtin:list.reverse") => `(tactic| (k_here; (with_reducible show wpAny _ _ (call (Value.builtin _) [Value.ref _]) _ _ _); k_dflt (refine' reverseInts ?F ?N ?U ?hi ?hz ?_; (case F => k_asm); (case N => k_asm); (case U => k_upd); (case hi => with_reducible assumption); (case hz => omega); k_whole); intro h' F' N' hi'))
local macro_rules | `(tactic| walk_at "binaryOp LShift int int") => `(tactic| (k_here; k_dflt (refine' lshift_int ?a ?b ?_; (case a => first | assumption | omega); (case b => first | assumption | omega); k_whole)))
local macro_rules | `(tactic| walk_at "call builtin:divmod") => `(tactic| (k_here; (with_reducible show wpAny _ _ (call (Value.builtin _) [Value.int _ _, Value.int _ _]) _ _ _); k_dflt (refine' divmodK ?F ?N ?b ?p ?_; (case F => k_asm); (case N => k_asm); (case b => omega); (case p => assumption); k_whole); intro D' t1' t2' h' tk' F' N' l1; (try k_lt l1)))

theorem div_spec (w : World) {p : Program} {loose : List Str} {mean : ExcName → Option Value} {mg mb : Str → Option Value}
  {dp un : Nat} {gd : Option (List Code)} {cn : Str} {cs : Scope} {a : Addr} {ccd : Value} {cl : List (Str × Addr)} {outer : List Env} {A₀ : Around} {base h₀ : Heap} {L : Addr} {m : Str → Option Value} {news : List (Addr × Obj)} {s : Shared} {Q E : Value → Shared → Prop} {x b n : Int} {tx tb tn : Tok}
  (B : Below A₀ base outer h₀) (F : Fr h₀ L s.heap m) (X : (Mine.hd.heap_39 w.params).In h₀) (N : News h₀ L s.heap news) (T : Top p loose mean mg mb h₀) (hk : cs.kind = .function)
  (hb : 0 < b) (hbb : Builtin.Int.intBits b ≤ 1000) (hxb : (Builtin.Int.intBits x : Int) - n ≤ 4000)
  (hd : dp + 1 < recursionLimit)
  (hret : ∀ l t1 t2 h' tk', Fr h₀ L h' m → News h₀ L h' ((l, tupOf #[.int (x / b) t1, .int (x % b) t2]) :: news) → (∀ p ∈ news, p.1 < l) → Q (.ref l) { s with heap := h', toks := tk' }) :
  wpAny (model PySem.Challenge.rw_mq0469_01.row.prog w) (ktrTop dp un gd cn cs L a ccd cl outer) (call (.ref 21) [.int x tx, .int b tb, .int n tn]) Q E s := by
  w_top off
  revert X; k_fill; intro X
  refine wpAny_call ?_
  k_dflt (refine' code_defL ?k1 ?k2 ?k3 ?k4 ?k5 ?kA ?kF ?kK ?k6 ?k7 ?k8 ?k9 ?kB ?_ ?c2 ?c3 ?c4 ?c5; (case kA => exact rfl); (case kF => exact rfl); (case kK => assumption); (case k1 => k_asm); (case k2 => k_asm); (case k3 => k_asm); (case k4 => k_asm); (case k5 => k_asm); (case k6 => k_is); (case k7 => k_is); (case k8 => exact (by omega : dp < recursionLimit)); (case k9 => exact BindsTo.of_eq rfl); (case c5 => decide); (case kB => exact locs rfl); (case c2 => exact rfl); (case c3 => exact rfl); (case c4 => exact rfl); k_whole; intro g' L' h' FG' F' N' B' X' T' l1; (try dsimp only); (try k_lift B'); (try k_fold))
  have hnp : ∀ {x : Int}, Builtin.divisionGoesByPylong x b = false := noPy hb hbb
  have lR := allLt_of l1
  clear l1
  rw [← Int.fdiv_eq_ediv_of_nonneg _ (Int.le_of_lt hb), ← Int.fmod_eq_emod_of_nonneg _ (Int.le_of_lt hb)] at hret
  k_steps
  exact hret _ _ _ _ _ (by k_asm) (by k_asm) (by assumption)
end
end Mine
namespace Mine
/-- the state of _divmod_pos between two turns -/
structure DC where
  r : Int
  V : Int
  qs : List Int
  rv : Option Value
  q : Option Value
  a : Option Value
  vq : List Value
  nq : Nat
def DS (b n x : Int) (rs : List Int) (c : DC) : Prop := (∃ t, c.rv = some (.int c.r t)) ∧ Dv b n c.V c.r c.qs ∧ IntsAre c.vq c.qs ∧ (∀ d ∈ rs, 0 ≤ d ∧ d < 2 ^ n.toNat) ∧ rs.foldl (fun V d => d + 2 ^ n.toNat * V) c.V = x ∧ c.qs.length + rs.length ≤ 256
section
local macro_rules | `(tactic| k_all) => `(tactic| first | with_reducible assumption | exact allNe_le (by with_reducible assumption) (by omega) | ((rename ∀ _, AllLt _ _ => hR9); exact allNe_le (hR9 _) (by omega)))
local macro_rules | `(tactic| k_updF) => `(tactic| with_reducible assumption)
local macro_rules | `(tactic| k_mem) => `(tactic| first | exact memOf (by with_reducible assumption) | exact memOf (AllMem.at (by with_reducible assumption)) | fail "no such entry")
local macro_rules | `(tactic| k_allIn) => `(tactic| (intro p9 hp9; k_ownIn))
local macro_rules | `(tactic| walk_at "ite") => `(tactic| (k_here; k_openite; first | (refine ite_pos (by first | omega | (simp only [decide_eq_true_eq, beq_iff_eq, bne_iff_ne, ne_eq]; omega)) ?_) | (refine ite_neg (by first | omega | (simp only [decide_eq_true_eq, beq_iff_eq, bne_iff_ne, ne_eq]; omega)) ?_)))
local macro_rules | `(tactic| walk_at "binaryOp Mult ref int") => `(tactic| (k_here; (with_reducible show wpAny _ _ (binaryOp Operator.Mult (Value.ref _) (Value.int _ _)) _ _ _); k_dflt (refine' mulOne ?F ?N ?l ?lo ?hi ?_; (case F => k_asm); (case N => k_asm); (case l => is_list); (case lo => first | assumption | omega); (case hi => first | assumption | omega); k_whole); intro D' h' vs' hi' F' N' l1; (try k_lt l1)))
local macro_rules | `(tactic| walk_at "call builtin:len") => `(tactic| (k_here; (with_reducible show wpAny _ _ (call (Value.builtin "len") [Value.ref _]) _ _ _); k_dflt (refine' lenInts ?N ?m ?i ?f ?_; (case N => k_asm); (case m => k_mem); (case i => with_reducible assumption); (case f => (first | omega | (simp only [List.length_replicate]; omega))); k_whole); intro t' tk'))
local macro_rules | `(tactic| walk_at "truthy ref") => `(tactic| (k_here; k_dflt (refine' truthyInts ?N ?m ?i ?f ?_; (case N => k_asm); (case m => k_mem); (case i => with_reducible assumption); (case f => omega); k_whole); intro tk'))
local macro_rules | `(tactic| walk_at "call builtin:list.append") => `(tactic| (k_here; (with_reducible show wpAny _ _ (call (Value.builtin _) [Value.ref _, Value.int _ _]) _ _ _); k_dflt (refine' appendInts ?F ?N ?U ?hi ?hz ?_; (case F => k_asm); (case N => k_asm); (case U => k_upd); (case hi => with_reducible assumption); (case hz => omega); k_whole); intro h' F' N' hi'))
local macro_rules | `(tactic| walk_at "call builtin:list.reverse") => `(tactic| (k_here; (with_reducible show wpAny _ _ (call (Value.builtin _) [Value.ref _]) _ _ _); k_dflt (refine' reverseInts ?F ?N ?U ?hi ?hz ?_; (case F => k_asm); (case N => k_asm); (case U => k_upd); (case hi => with_reducible assumption); (case hz => omega); k_whole); intro h' F' N' hi'))
local macro_rules | `(tactic| walk_at "binaryOp LShift int int") => `(tactic| (k_here; k_dflt (refine' lshift_int ?a ?b ?_; (case a => first | assumption | omega); (case b => first | assumption | omega); k_whole)))
local macro_rules | `(tactic| walk_at "call ref") => `(tactic| (k_here; (with_reducible show wpAny _ _ (call (Value.ref 35) [Value.int _ _, Value.int _ _]) _ _ _); k_dflt (refine' i2d_hit _ ?B ?F ?X ?N ?T ?hk ?C ?m30 ?mc0 ?hoc ?hcv ?hx ?hn ?hn2 ?h256 ?hd ?hu ?_; (case B => k_asm); (case F => k_asm); (case X => k_asm); (case N => k_asm); (case T => k_asm); (case hk => exact rfl); (case C => first | assumption | exact CodeHd.keeps (by assumption) (Below.stays (by assumption))); (case m30 => k_mem); (case mc0 => k_mem); (case hoc => assumption); (case hcv => assumption); (case hx => first | assumption | omega); (case hn => first | assumption | omega); (case hn2 => first | assumption | omega); (case h256 => first | assumption | omega);(case hd => first | ktr_room | omega); (case hu => first | ktr_units | omega)); intro l' nn' vs' h' tk' hi' F' N' l1; (try k_lt l1)))
local macro_rules | `(tactic| walk_at "call ref") => `(tactic| (k_here; (with_reducible show wpAny _ _ (call (Value.ref 42) [Value.ref _, Value.int _ _]) _ _ _); k_dflt (refine' d2i_hit _ ?B ?F ?X ?N ?T ?hk ?C ?m37 ?mc0 ?hoc ?hcv ?ml ?hi ?hn ?hn2 ?h256 ?hD ?hd ?hu ?_; (case B => k_asm); (case F => k_asm); (case X => k_asm); (case N => k_asm); (case T => k_asm); (case hk => exact rfl); (case C => first | assumption | exact CodeHd.keeps (by assumption) (Below.stays (by assumption))); (case m37 => k_mem); (case mc0 => k_mem); (case hoc => assumption); (case hcv => assumption); (case ml => k_mem); (case hi => assumption); (case hn => first | assumption | omega); (case hn2 => first | assumption | omega); (case h256 => first | assumption | omega);(case hD => assumption); (case hd => first | ktr_room | omega); (case hu => first | ktr_units | omega)); intro t' h' tk' F' N'))
local macro_rules | `(tactic| walk_at "call ref") => `(tactic| (k_here; (with_reducible show wpAny _ _ (call (Value.ref 21) [Value.int _ _, Value.int _ _, Value.int _ _]) _ _ _); k_dflt (refine' div_spec _ ?B ?F ?X ?N ?T ?hk ?hb ?hbb ?hxb ?hd ?_; (case B => k_asm); (case F => k_asm); (case X => k_asm); (case N => k_asm); (case T => k_asm); (case hk => exact rfl); (case hb => first | assumption | omega); (case hbb => first | assumption | omega); (case hxb => first | assumption | omega);(case hd => first | ktr_room | omega)); intro l' t1' t2' h' tk' F' N' l1; (try k_lt l1)))
local macro_rules | `(tactic| walk_at "exec For Name Call cons nil") => `(tactic| (k_here; (rename Fr _ _ _ _ => lF'); (with_unfolding_all refine' For_invVF lF' ?k1 ?k2 ?_; (case k1 => exact rfl); (case k2 => exact rfl); k_whole)))
local macro_rules | `(tactic| walk_at "exec For Name Name cons nil") => `(tactic| (k_here; (rename Fr _ _ _ _ => lF'); (with_unfolding_all refine' For_invVF lF' ?k1 ?k2 ?_; (case k1 => exact rfl); (case k2 => exact rfl); k_whole)))
local macro_rules | `(tactic| walk_at "exec While Compare cons nil") => `(tactic| (k_here; k_dflt (refine whl_hold ?_)))

theorem dm_hit (w : World) {p : Program} {loose : List Str} {mean : ExcName → Option Value} {mg mb : Str → Option Value}
  {dp un : Nat} {gd : Option (List Code)} {cn : Str} {cs : Scope} {a : Addr} {ccd : Value} {cl : List (Str × Addr)} {outer : List Env} {A₀ : Around} {base h₀ : Heap} {L : Addr} {m : Str → Option Value} {news : List (Addr × Obj)} {s : Shared} {Q E : Value → Shared → Prop} {x b : Int} {tx tb : Tok} {c₃ c₄ : Addr} {oc₃ oc₄ : Obj} {cv₃ cv₄ : Array Value} {t₃ t₄ : Tok}
  (B : Below A₀ base outer h₀) (F : Fr h₀ L s.heap m) (X : (Mine.hd.heap_39 w.params).In h₀) (N : News h₀ L s.heap news) (T : Top p loose mean mg mb h₀) (hk : cs.kind = .function) (C30 : CodeHd base 34 30) (C37 : CodeHd base 41 37) (m30 : (30, tabObj #[rawInt 32, rawInt 4, .ref c₃]) ∈ news) (mc3 : (c₃, oc₃) ∈ news) (hoc3 : oc₃.data = .fields cv₃) (hcv3 : cv₃[1]? = some (.str (Str.ofString "_int2digits.<locals>.inner") t₃)) (m37 : (37, tabObj #[rawInt 47, rawInt 4, .ref c₄]) ∈ news) (mc4 : (c₄, oc₄) ∈ news) (hoc4 : oc₄.data = .fields cv₄) (hcv4 : cv₄[1]? = some (.str (Str.ofString "_digits2int.<locals>.inner") t₄))
  (hx0 : 0 ≤ x) (hb : 0 < b) (hxb : Builtin.Int.intBits x ≤ 256) (hbb : Builtin.Int.intBits b ≤ 256)
  (hd : dp + 14 < recursionLimit) (hu : un + 120 < cLine)
  (hret : ∀ l t1 t2 h' tk', Fr h₀ L h' m → News h₀ L h' ((l, tupOf #[.int (x / b) t1, .int (x % b) t2]) :: news) → (∀ p ∈ news, p.1 < l) → Q (.ref l) { s with heap := h', toks := tk' }) :
  wpAny (model PySem.Challenge.rw_mq0469_01.row.prog w) (ktrTop dp un gd cn cs L a ccd cl outer) (call (.ref 49) [.int x tx, .int b tb]) Q E s := by
  w_top off
  revert X; k_fill; intro X
  refine wpAny_call ?_
  k_dflt (refine' code_defL ?k1 ?k2 ?k3 ?k4 ?k5 ?kA ?kF ?kK ?k6 ?k7 ?k8 ?k9 ?kB ?_ ?c2 ?c3 ?c4 ?c5; (case kA => exact rfl); (case kF => exact rfl); (case kK => assumption); (case k1 => k_asm); (case k2 => k_asm); (case k3 => k_asm); (case k4 => k_asm); (case k5 => k_asm); (case k6 => k_is); (case k7 => k_is); (case k8 => exact (by omega : dp < recursionLimit)); (case k9 => exact BindsTo.of_eq rfl); (case c5 => decide); (case kB => exact locs rfl); (case c2 => exact rfl); (case c3 => exact rfl); (case c4 => exact rfl); k_whole; intro g' L' h' FG' F' N' B' X' T' l1; (try dsimp only); (try k_lift B'); (try k_fold))
  have lR := allLt_of l1
  clear l1
  have hb1 := bits_pos hb
  have hn : 0 < (Builtin.Int.intBits b : Int) := by omega
  have h256 := nd_le hx0 hn hxb
  k_steps
  rename Fr _ _ _ _ => F9
  rename News _ _ _ ((_, revObj _ _) :: _) => N9
  obtain ⟨D, lq, l, vs, nn, rfl, rfl, rfl, rfl, rfl⟩ := named5 N9
  have hi : IntsAre vs (dg x (Builtin.Int.intBits b)) := by assumption
  have la : ∀ p ∈ news, p.1 < l := by assumption
  have lb : @LT.lt Nat _ l lq ∧ AllLt lq news := by assumption
  have lc : @LT.lt Nat _ lq D ∧ @LT.lt Nat _ l D ∧ AllLt D news := by assumption
  have hmem := fun (c : DC) => (show (l, listOf vs.toArray nn) ∈ (lq, listOf c.vq.toArray c.nq) :: (l, listOf vs.toArray nn) :: news from .tail _ (.head _))
  refine revLoop (σ := DC) (fun c m z => if z = Str.ofString "r" then c.rv else if z = Str.ofString "q_digit" then c.q else if z = Str.ofString "a_digit" then c.a else m z) (fun c => (lq, listOf c.vq.toArray c.nq) :: (l, listOf vs.toArray nn) :: news) (DS b (Builtin.Int.intBits b) x) (fun m => ⟨0, 0, [], m (Str.ofString "r"), m (Str.ofString "q_digit"), m (Str.ofString "a_digit"), [], 0⟩) rfl F9 N9 ?sub ?hI hmem hi ?h0 ?hS ?nil ?cons
  case sub => k_allIn
  case hI => exact fun c => List.forall_mem_cons.mpr ⟨Nat.ne_of_lt lc.1, List.forall_mem_cons.mpr ⟨Nat.ne_of_lt lc.2.1, allNe_of lc.2.2⟩⟩
  case h0 =>
    intro z
    by_cases h0 : z = Str.ofString "r"
    · subst h0; rfl
    by_cases h1 : z = Str.ofString "q_digit"
    · subst h1; rfl
    by_cases h2 : z = Str.ofString "a_digit"
    · subst h2; rfl
    simp only [h0, h1, h2, if_false]
  case hS => exact ⟨⟨_, rfl⟩, Dv.start, .nil, fun d hd => dg_digs x _ d (List.mem_reverse.mp hd), (vl_foldl _ _).trans (vl_dg hx0 hn), by rw [List.length_reverse, dg_length]; show 0 + _ ≤ 256; omega⟩
  case nil =>
    clear F9 N9
    rintro ⟨r, V, qs, rv, q, a', vq, nq⟩ ⟨⟨tr, hrv⟩, hD, hvq, hds, hfold, hlen⟩ h tk F N
    dsimp only at hrv hD hvq hds hfold hlen F N
    subst hrv
    have hfold' : V = x := hfold
    subst hfold'
    have hDr : Digs (Builtin.Int.intBits b) qs.reverse := fun d hd => hD.digs d (List.mem_reverse.mp hd)
    have hlr : qs.reverse.length ≤ 256 := by rw [List.length_reverse]; exact hlen
    have hlq : qs.length < 100000 := by have : qs.length + 0 ≤ 256 := hlen; omega
    rw [← hD.quot, ← hD.rest] at hret
    k_steps
    exact hret _ _ _ _ _ (by k_asm) (cb_drop (by k_asm) (by k_allIn)) (allLt_le lb.2 (by omega))
  case cons =>
    clear F9 N9
    rintro d t rs ⟨r, V, qs, rv, q, a', vq, nq⟩ ⟨⟨tr, hrv⟩, hD, hvq, hds, hfold, hlen⟩ it h tk F N
    dsimp only at hrv hD hvq hds hfold hlen F N
    subst hrv
    have hd' := hds d (.head _)
    obtain ⟨f1, f2, f3, f4⟩ := Dv.facts hD hb rfl (by omega) hd'
    have hst := Dv.step hD hb hd'
    have hlq : qs.length + (rs.length + 1) ≤ 256 := hlen
    k_steps
    dsimp only [TPost]
    refine' TEnd.intro (fun m => ⟨(r * 2 ^ (Builtin.Int.intBits b : Int).toNat + d) % b, d + 2 ^ (Builtin.Int.intBits b : Int).toNat * V, qs ++ [(r * 2 ^ (Builtin.Int.intBits b : Int).toNat + d) / b], m (Str.ofString "r"), m (Str.ofString "q_digit"), m (Str.ofString "a_digit"), _, _⟩) ?F ?N ?sub ?hm ?S
    case F => k_asm
    case N => k_asm
    case sub => ((try dsimp only); k_allIn)
    case hm =>
      intro z
      by_cases h0 : z = Str.ofString "r"
      · subst h0; rfl
      by_cases h1 : z = Str.ofString "q_digit"
      · subst h1; rfl
      by_cases h2 : z = Str.ofString "a_digit"
      · subst h2; rfl
      simp only [h0, h1, h2, if_false]
    case S => exact ⟨⟨_, rfl⟩, hst, by assumption, fun e he => hds e (.tail _ he), hfold, by rw [List.length_append, List.length_singleton]; omega⟩
end
end Mine
namespace Mine
/-- the state of _law_ways between two turns -/
structure WC where
  f : Int
  c : Int
  fv : Option Value
  cv : Option Value
  bv : Option Value
def WS (r : Int) (rs : List Int) (c : WC) : Prop := (∃ t, c.fv = some (.int c.f t)) ∧ (∃ t, c.cv = some (.int c.c t)) ∧ (rs.foldl wstep (c.f, c.c)).1 = r
section
local macro_rules | `(tactic| k_all) => `(tactic| first | with_reducible assumption | exact allNe_le (by with_reducible assumption) (by omega) | ((rename ∀ _, AllLt _ _ => hR9); exact allNe_le (hR9 _) (by omega)))
local macro_rules | `(tactic| k_updF) => `(tactic| with_reducible assumption)
local macro_rules | `(tactic| k_mem) => `(tactic| first | exact memOf (by with_reducible assumption) | exact memOf (AllMem.at (by with_reducible assumption)) | fail "no such entry")
local macro_rules | `(tactic| k_allIn) => `(tactic| (intro p9 hp9; k_ownIn))
local macro_rules | `(tactic| walk_at "ite") => `(tactic| (k_here; k_openite; first | (refine ite_pos (by first | omega | (simp only [decide_eq_true_eq, beq_iff_eq, bne_iff_ne, ne_eq]; omega)) ?_) | (refine ite_neg (by first | omega | (simp only [decide_eq_true_eq, beq_iff_eq, bne_iff_ne, ne_eq]; omega)) ?_)))
local macro_rules | `(tactic| walk_at "binaryOp Mult ref int") => `(tactic| (k_here; (with_reducible show wpAny _ _ (binaryOp Operator.Mult (Value.ref _) (Value.int _ _)) _ _ _); k_dflt (refine' mulOne ?F ?N ?l ?lo ?hi ?_; (case F => k_asm); (case N => k_asm); (case l => is_list); (case lo => first | assumption | omega); (case hi => first | assumption | omega); k_whole); intro D' h' vs' hi' F' N' l1; (try k_lt l1)))
local macro_rules | `(tactic| walk_at "call builtin:len") => `(tactic| (k_here; (with_reducible show wpAny _ _ (call (Value.builtin "len") [Value.ref _]) _ _ _); k_dflt (refine' lenInts ?N ?m ?i ?f ?_; (case N => k_asm); (case m => k_mem); (case i => with_reducible assumption); (case f => (first | omega | (simp only [List.length_replicate]; omega))); k_whole); intro t' tk'))
local macro_rules | `(tactic| walk_at "truthy ref") => `(tactic| (k_here; k_dflt (refine' truthyInts ?N ?m ?i ?f ?_; (case N => k_asm); (case m => k_mem); (case i => with_reducible assumption); (case f => omega); k_whole); intro tk'))
local macro_rules | `(tactic| walk_at "call builtin:list.append") => `(tactic| (k_here; (with_reducible show wpAny _ _ (call (Value.builtin _) [Value.ref _, Value.int _ _]) _ _ _); k_dflt (refine' appendInts ?F ?N ?U ?hi ?hz ?_; (case F => k_asm); (case N => k_asm); (case U => k_upd); (case hi => with_reducible assumption); (case hz => omega); k_whole); intro h' F' N' hi'))
local macro_rules | `(tactic| walk_at "call builtin:list.reverse") => `(tactic| (k_here; (with_reducible show wpAny _ _ (call (Value.builtin _) [Value.ref _]) _ _ _); k_dflt (refine' reverseInts ?F ?N ?U ?hi ?hz ?_; (case F => k_asm); (case N => k_asm); (case U => k_upd); (case hi => with_reducible assumption); (case hz => omega); k_whole); intro h' F' N' hi'))
local macro_rules | `(tactic| walk_at "binaryOp LShift int int") => `(tactic| (k_here; k_dflt (refine' lshift_int ?a ?b ?_; (case a => first | assumption | omega); (case b => first | assumption | omega); k_whole)))
local macro_rules | `(tactic| walk_at "exec For Name Call cons nil") => `(tactic| (k_here; (rename Fr _ _ _ _ => lF'); (with_unfolding_all refine' For_invVF lF' ?k1 ?k2 ?_; (case k1 => exact rfl); (case k2 => exact rfl); k_whole)))
local macro_rules | `(tactic| walk_at "exec For Name Name cons nil") => `(tactic| (k_here; (rename Fr _ _ _ _ => lF'); (with_unfolding_all refine' For_invVF lF' ?k1 ?k2 ?_; (case k1 => exact rfl); (case k2 => exact rfl); k_whole)))
local macro_rules | `(tactic| walk_at "exec While Compare cons nil") => `(tactic| (k_here; k_dflt (refine whl_hold ?_)))

theorem ways_spec (w : World) {p : Program} {loose : List Str} {mean : ExcName → Option Value} {mg mb : Str → Option Value}
  {dp un : Nat} {gd : Option (List Code)} {cn : Str} {cs : Scope} {a : Addr} {ccd : Value} {cl : List (Str × Addr)} {outer : List Env} {A₀ : Around} {base h₀ : Heap} {L : Addr} {m : Str → Option Value} {news : List (Addr × Obj)} {s : Shared} {Q E : Value → Shared → Prop} {lb : Addr} {vs : List Value} {ns : List Int} {nn : Nat}
  (B : Below A₀ base outer h₀) (F : Fr h₀ L s.heap m) (X : (Mine.hd.heap_39 w.params).In h₀) (N : News h₀ L s.heap news) (T : Top p loose mean mg mb h₀) (hk : cs.kind = .function) (ml : (lb, listOf vs.toArray nn) ∈ news) (hi : IntsAre vs ns)
  (hd : dp + 2 < recursionLimit)
  (hret : ∀ t' h' tk', Fr h₀ L h' m → News h₀ L h' news → Q (.int (ways ns) t') { s with heap := h', toks := tk' }) :
  wpAny (model PySem.Challenge.rw_mq0469_01.row.prog w) (ktrTop dp un gd cn cs L a ccd cl outer) (call (.ref 56) [.ref lb]) Q E s := by
  w_top off
  revert X; k_fill; intro X
  refine wpAny_call ?_
  k_dflt (refine' code_defL ?k1 ?k2 ?k3 ?k4 ?k5 ?kA ?kF ?kK ?k6 ?k7 ?k8 ?k9 ?kB ?_ ?c2 ?c3 ?c4 ?c5; (case kA => exact rfl); (case kF => exact rfl); (case kK => assumption); (case k1 => k_asm); (case k2 => k_asm); (case k3 => k_asm); (case k4 => k_asm); (case k5 => k_asm); (case k6 => k_is); (case k7 => k_is); (case k8 => exact (by omega : dp < recursionLimit)); (case k9 => exact BindsTo.of_eq rfl); (case c5 => decide); (case kB => exact locs rfl); (case c2 => exact rfl); (case c3 => exact rfl); (case c4 => exact rfl); k_whole; intro g' L' h' FG' F' N' B' X' T' l1; (try dsimp only); (try k_lift B'); (try k_fold))
  have lR := allLt_of l1
  clear l1
  k_steps
  rename Fr _ _ _ _ => F9
  rename News _ _ _ _ => N9
  refine listLoop (σ := WC) (fun c m z => if z = Str.ofString "free" then c.fv else if z = Str.ofString "carried" then c.cv else if z = Str.ofString "bit" then c.bv else m z) (fun _ => news) (WS (ways ns)) (fun m => ⟨1, 0, m (Str.ofString "free"), m (Str.ofString "carried"), m (Str.ofString "bit")⟩) rfl F9 N9 ?sub (fun _ => rfl) (fun _ => ml) hi ?h0 ?hS ?nil ?cons
  case sub => exact fun _ h => h
  case h0 =>
    intro z
    by_cases h0 : z = Str.ofString "free"
    · subst h0; rfl
    by_cases h1 : z = Str.ofString "carried"
    · subst h1; rfl
    by_cases h2 : z = Str.ofString "bit"
    · subst h2; rfl
    simp only [h0, h1, h2, if_false]
  case hS => exact ⟨⟨_, rfl⟩, ⟨_, rfl⟩, rfl⟩
  case nil =>
    clear F9 N9
    rintro ⟨f, c, fv, cv, bv⟩ ⟨⟨tf, hf⟩, ⟨tc, hc⟩, hr⟩ h tk F N
    dsimp only at hf hc hr F N
    subst hf hc
    rw [← hr] at hret
    k_steps
    exact hret _ _ _ (by k_asm) (cb_drop (by k_asm) (by k_allIn))
  case cons =>
    clear F9 N9
    rintro I d t rs ⟨f, c, fv, cv, bv⟩ hlt ⟨⟨tf, hf⟩, ⟨tc, hc⟩, hr⟩ it h tk F N
    dsimp only at hf hc hr F N
    subst hf hc
    by_cases h1 : d = 0
    · have e1 : wstep (f, c) d = (f, f + c) := by rw [wstep, if_pos h1]
      rw [List.foldl_cons, e1] at hr
      k_steps
      dsimp only [TPost]
      refine' TEnd.intro (fun m => ⟨f, f + c, m (Str.ofString "free"), m (Str.ofString "carried"), m (Str.ofString "bit")⟩) ?F ?N ?sub ?hm ?S
      case F => k_asm
      case N => k_asm
      case sub => ((try dsimp only); k_allIn)
      case hm =>
        intro z
        by_cases h0 : z = Str.ofString "free"
        · subst h0; rfl
        by_cases h1 : z = Str.ofString "carried"
        · subst h1; rfl
        by_cases h2 : z = Str.ofString "bit"
        · subst h2; rfl
        simp only [h0, h1, h2, if_false]
      case S => exact ⟨⟨_, rfl⟩, ⟨_, rfl⟩, hr⟩
    · have e1 : wstep (f, c) d = (f + c, c) := by rw [wstep, if_neg h1]
      rw [List.foldl_cons, e1] at hr
      k_steps
      dsimp only [TPost]
      refine' TEnd.intro (fun m => ⟨f + c, c, m (Str.ofString "free"), m (Str.ofString "carried"), m (Str.ofString "bit")⟩) ?F ?N ?sub ?hm ?S
      case F => k_asm
      case N => k_asm
      case sub => ((try dsimp only); k_allIn)
      case hm =>
        intro z
        by_cases h0 : z = Str.ofString "free"
        · subst h0; rfl
        by_cases h1 : z = Str.ofString "carried"
        · subst h1; rfl
        by_cases h2 : z = Str.ofString "bit"
        · subst h2; rfl
        simp only [h0, h1, h2, if_false]
      case S => exact ⟨⟨_, rfl⟩, ⟨_, rfl⟩, hr⟩
end
end Mine
namespace Mine
/-- the state of _law_found between two turns -/
structure FC where
  k : Nat
  done : List Int
  uv : Option Value
  lv : Option Value
  sv : Option Value
  rv : Option Value
  vb : List Value
  nb : Nat
def FS (n : Nat) (c : FC) : Prop := (∃ t, c.uv = some (.int (fw c.k) t)) ∧ (∃ t, c.lv = some (.int (fw (c.k + 1)) t)) ∧ IntsAre c.vb c.done ∧ c.done ++ bitsN (c.k + 1) = bitsN (n + 1) ∧ c.k ≤ n
section
local macro_rules | `(tactic| k_all) => `(tactic| first | with_reducible assumption | exact allNe_le (by with_reducible assumption) (by omega) | ((rename ∀ _, AllLt _ _ => hR9); exact allNe_le (hR9 _) (by omega)))
local macro_rules | `(tactic| k_updF) => `(tactic| with_reducible assumption)
local macro_rules | `(tactic| k_mem) => `(tactic| first | exact memOf (by with_reducible assumption) | exact memOf (AllMem.at (by with_reducible assumption)) | fail "no such entry")
local macro_rules | `(tactic| k_allIn) => `(tactic| (intro p9 hp9; k_ownIn))
local macro_rules | `(tactic| walk_at "ite") => `(tactic| (k_here; k_openite; first | (refine ite_pos (by first | omega | (simp only [decide_eq_true_eq, beq_iff_eq, bne_iff_ne, ne_eq]; omega)) ?_) | (refine ite_neg (by first | omega | (simp only [decide_eq_true_eq, beq_iff_eq, bne_iff_ne, ne_eq]; omega)) ?_)))
local macro_rules | `(tactic| walk_at "binaryOp Mult ref int") => `(tactic| (k_here; (with_reducible show wpAny _ _ (binaryOp Operator.Mult (Value.ref _) (Value.int _ _)) _ _ _); k_dflt (refine' mulOne ?F ?N ?l ?lo ?hi ?_; (case F => k_asm); (case N => k_asm); (case l => is_list); (case lo => first | assumption | omega); (case hi => first | assumption | omega); k_whole); intro D' h' vs' hi' F' N' l1; (try k_lt l1)))
local macro_rules | `(tactic| walk_at "call builtin:len") => `(tactic| (k_here; (with_reducible show wpAny _ _ (call (Value.builtin "len") [Value.ref _]) _ _ _); k_dflt (refine' lenInts ?N ?m ?i ?f ?_; (case N => k_asm); (case m => k_mem); (case i => with_reducible assumption); (case f => (first | omega | (simp only [List.length_replicate]; omega))); k_whole); intro t' tk'))
local macro_rules | `(tactic| walk_at "truthy ref") => `(tactic| (k_here; k_dflt (refine' truthyInts ?N ?m ?i ?f ?_; (case N => k_asm); (case m => k_mem); (case i => with_reducible assumption); (case f => omega); k_whole); intro tk'))
local macro_rules | `(tactic| walk_at "call builtin:list.append") => `(tactic| (k_here; (with_reducible show wpAny _ _ (call (Value.builtin _) [Value.ref _, Value.int _ _]) _ _ _); k_dflt (refine' appendInts ?F ?N ?U ?hi ?hz ?_; (case F => k_asm); (case N => k_asm); (case U => k_upd); (case hi => with_reducible assumption); (case hz => omega); k_whole); intro h' F' N' hi'))
local macro_rules | `(tactic| walk_at "call builtin:list.reverse") => `(tactic| (k_here; (with_reducible show wpAny _ _ (call (Value.builtin _) [Value.ref _]) _ _ _); k_dflt (refine' reverseInts ?F ?N ?U ?hi ?hz ?_; (case F => k_asm); (case N => k_asm); (case U => k_upd); (case hi => with_reducible assumption); (case hz => omega); k_whole); intro h' F' N' hi'))
local macro_rules | `(tactic| walk_at "binaryOp LShift int int") => `(tactic| (k_here; k_dflt (refine' lshift_int ?a ?b ?_; (case a => first | assumption | omega); (case b => first | assumption | omega); k_whole)))
local macro_rules | `(tactic| walk_at "exec For Name Call cons nil") => `(tactic| (k_here; (rename Fr _ _ _ _ => lF'); (with_unfolding_all refine' For_invVF lF' ?k1 ?k2 ?_; (case k1 => exact rfl); (case k2 => exact rfl); k_whole)))
local macro_rules | `(tactic| walk_at "exec For Name Name cons nil") => `(tactic| (k_here; (rename Fr _ _ _ _ => lF'); (with_unfolding_all refine' For_invVF lF' ?k1 ?k2 ?_; (case k1 => exact rfl); (case k2 => exact rfl); k_whole)))
local macro_rules | `(tactic| walk_at "exec While Compare cons nil") => `(tactic| (k_here; k_dflt (refine whl_hold ?_)))
local macro_rules | `(tactic| walk_at "call ref") => `(tactic| (k_here; (with_reducible show wpAny _ _ (call (Value.ref 49) [Value.int _ _, Value.int _ _]) _ _ _); k_dflt (refine' dm_hit _ ?B ?F ?X ?N ?T ?hk ?C30 ?C37 ?m30 ?mc3 ?hoc3 ?hcv3 ?m37 ?mc4 ?hoc4 ?hcv4 ?hx ?hb ?hxb ?hbb ?hd ?hu ?_; (case B => k_asm); (case F => k_asm); (case X => k_asm); (case N => k_asm); (case T => k_asm); (case hk => exact rfl); (case C30 => first | assumption | exact CodeHd.keeps (by assumption) (Below.stays (by assumption))); (case C37 => first | assumption | exact CodeHd.keeps (by assumption) (Below.stays (by assumption))); (case m30 => k_mem); (case mc3 => k_mem); (case m37 => k_mem); (case mc4 => k_mem); (case hoc3 => assumption); (case hcv3 => assumption); (case hoc4 => assumption); (case hcv4 => assumption); (case hx => first | assumption | omega); (case hb => first | assumption | omega); (case hxb => first | assumption | omega); (case hbb => first | assumption | omega);(case hd => first | ktr_room | omega); (case hu => first | ktr_units | omega)); intro l' t1' t2' h' tk' F' N' l1; (try k_lt l1)))
local macro_rules | `(tactic| walk_at "call builtin:list.extend") => `(tactic| (k_here; (with_reducible show wpAny _ _ (call (Value.builtin _) [Value.ref _, Value.ref _]) _ _ _); k_dflt (refine' extendInts ?F ?N ?hb ?U ?hi ?hj ?hne ?hz ?_; (case F => k_asm); (case N => k_asm); (case hb => k_mem); (case U => k_upd); (case hi => with_reducible assumption); (case hj => with_reducible assumption); (case hne => assumption); (case hz => assumption); k_whole); intro h' F' N' hi'))
local macro_rules | `(tactic| walk_at "WhlIf") => `(tactic| first | (refine WhlIf.yes (by first | assumption | (simp only [decide_eq_true_eq, bne_iff_ne, ne_eq, Bool.not_eq_true', decide_eq_false_iff_not, beq_eq_false_iff_ne]; omega)) ?_) | (refine WhlIf.no (by first | assumption | (simp only [decide_eq_false_iff_not, bne_eq_false_iff_eq, ne_eq, Bool.not_eq_false', decide_eq_true_eq, beq_iff_eq]; omega)) ?_))

theorem found_spec (w : World) {p : Program} {loose : List Str} {mean : ExcName → Option Value} {mg mb : Str → Option Value}
  {dp un : Nat} {gd : Option (List Code)} {cn : Str} {cs : Scope} {a : Addr} {ccd : Value} {cl : List (Str × Addr)} {outer : List Env} {A₀ : Around} {base h₀ : Heap} {L : Addr} {m : Str → Option Value} {news : List (Addr × Obj)} {s : Shared} {Q E : Value → Shared → Prop} {n : Nat} {u l : Int} {tu tl : Tok} {c₃ c₄ : Addr} {oc₃ oc₄ : Obj} {cv₃ cv₄ : Array Value} {t₃ t₄ : Tok}
  (B : Below A₀ base outer h₀) (F : Fr h₀ L s.heap m) (X : (Mine.hd.heap_39 w.params).In h₀) (N : News h₀ L s.heap news) (T : Top p loose mean mg mb h₀) (hk : cs.kind = .function) (C30 : CodeHd base 34 30) (C37 : CodeHd base 41 37) (m30 : (30, tabObj #[rawInt 32, rawInt 4, .ref c₃]) ∈ news) (mc3 : (c₃, oc₃) ∈ news) (hoc3 : oc₃.data = .fields cv₃) (hcv3 : cv₃[1]? = some (.str (Str.ofString "_int2digits.<locals>.inner") t₃)) (m37 : (37, tabObj #[rawInt 47, rawInt 4, .ref c₄]) ∈ news) (mc4 : (c₄, oc₄) ∈ news) (hoc4 : oc₄.data = .fields cv₄) (hcv4 : cv₄[1]? = some (.str (Str.ofString "_digits2int.<locals>.inner") t₄))
  (hn : n < 2 ^ 29) (hU : u = fw n) (hL : l = fw (n + 1)) (hd : dp + 16 < recursionLimit) (hu : un + 140 < cLine)
  (hret : ∀ lb nn vs h' tk', IntsAre vs (bitsN (n + 1)) → Fr h₀ L h' m → News h₀ L h' ((lb, listOf vs.toArray nn) :: news) → (∀ p ∈ news, p.1 < lb) → Q (.ref lb) { s with heap := h', toks := tk' }) :
  wpAny (model PySem.Challenge.rw_mq0469_01.row.prog w) (ktrTop dp un gd cn cs L a ccd cl outer) (call (.ref 63) [.int u tu, .int l tl]) Q E s := by
  w_top off
  revert X; k_fill; intro X
  subst hU hL
  refine wpAny_call ?_
  k_dflt (refine' code_defL ?k1 ?k2 ?k3 ?k4 ?k5 ?kA ?kF ?kK ?k6 ?k7 ?k8 ?k9 ?kB ?_ ?c2 ?c3 ?c4 ?c5; (case kA => exact rfl); (case kF => exact rfl); (case kK => assumption); (case k1 => k_asm); (case k2 => k_asm); (case k3 => k_asm); (case k4 => k_asm); (case k5 => k_asm); (case k6 => k_is); (case k7 => k_is); (case k8 => exact (by omega : dp < recursionLimit)); (case k9 => exact BindsTo.of_eq rfl); (case c5 => decide); (case kB => exact locs rfl); (case c2 => exact rfl); (case c3 => exact rfl); (case c4 => exact rfl); k_whole; intro g' L' h' FG' F' N' B' X' T' l1; (try dsimp only); (try k_lift B'); (try k_fold))
  have lR := allLt_of l1
  clear l1
  k_steps
  rename Fr _ _ _ _ => F9
  rename News _ _ _ (_ :: _) => N9
  obtain ⟨lb, rfl⟩ := named1 N9
  have hlb : ∀ p ∈ news, p.1 < lb := by assumption
  refine whileLoop (σ := FC) (fun c m z => if z = Str.ofString "upper" then c.uv else if z = Str.ofString "lower" then c.lv else if z = Str.ofString "steps" then c.sv else if z = Str.ofString "rest" then c.rv else m z) (fun c => (lb, listOf c.vb.toArray c.nb) :: news) (FS n) (fun c => c.k) (fun m => ⟨n, [], m (Str.ofString "upper"), m (Str.ofString "lower"), m (Str.ofString "steps"), m (Str.ofString "rest"), [], 0⟩) F9 N9 ?sub ?h0 ?hS ?hE ?turn
  case sub => ((try dsimp only); k_allIn)
  case h0 =>
    intro z
    by_cases h0 : z = Str.ofString "upper"
    · subst h0; rfl
    by_cases h1 : z = Str.ofString "lower"
    · subst h1; rfl
    by_cases h2 : z = Str.ofString "steps"
    · subst h2; rfl
    by_cases h3 : z = Str.ofString "rest"
    · subst h3; rfl
    simp only [h0, h1, h2, h3, if_false]
  case hS => exact ⟨⟨_, rfl⟩, ⟨_, rfl⟩, .nil, rfl, Nat.le_refl _⟩
  case hE => passes_own
  case turn =>
    clear F9 N9
    have hlb2 := allLt_of hlb
    rintro ⟨k, done, uv, lv, sv, rv, vb, nb⟩ ⟨⟨tu', hu'⟩, ⟨tl', hl'⟩, hvb, hdone, hkn⟩ h tk F N
    dsimp only at hu' hl' hvb hdone hkn F N
    subst hu' hl'
    by_cases he : fw k = fw (k + 1)
    · obtain ⟨e1, e2⟩ := foundE hn hdone he
      k_steps
      exact hret _ _ _ _ _ (by rw [← e1]; assumption) (by k_asm) (cb_drop (by k_asm) (by k_allIn)) hlb
    by_cases hlt : fw (k + 1) < fw k
    · obtain ⟨f1, f2, f3, f4, f5, f6, f7, f8, k', e2, e3, ek, ed⟩ := found1 hn hkn hdone hlt
      k_steps
      dsimp only [TPost]
      refine' TEnd.intro (fun m => ⟨k', done ++ List.replicate ((fw k - 1) / fw (k + 1)).toNat 1, m (Str.ofString "upper"), m (Str.ofString "lower"), m (Str.ofString "steps"), m (Str.ofString "rest"), _, _⟩) ?F ?N ?sub ?hm ?S
      case F => k_asm
      case N => k_asm
      case sub => ((try dsimp only); k_allIn)
      case hm =>
        intro z
        by_cases h0 : z = Str.ofString "upper"
        · subst h0; rfl
        by_cases h1 : z = Str.ofString "lower"
        · subst h1; rfl
        by_cases h2 : z = Str.ofString "steps"
        · subst h2; rfl
        by_cases h3 : z = Str.ofString "rest"
        · subst h3; rfl
        simp only [h0, h1, h2, h3, if_false]
      case S => exact ⟨⟨⟨_, by rw [e2]; rfl⟩, ⟨_, by rw [e3]; rfl⟩, by assumption, ed, Nat.le_trans (Nat.le_of_lt ek) hkn⟩, ek⟩
    · have hlt' : fw k < fw (k + 1) := by omega
      obtain ⟨f1, f2, f3, f4, f5, f6, f7, f8, k', e2, e3, ek, ed⟩ := found0 hn hkn hdone hlt'
      k_steps
      dsimp only [TPost]
      refine' TEnd.intro (fun m => ⟨k', done ++ List.replicate ((fw (k + 1) - 1) / fw k).toNat 0, m (Str.ofString "upper"), m (Str.ofString "lower"), m (Str.ofString "steps"), m (Str.ofString "rest"), _, _⟩) ?F ?N ?sub ?hm ?S
      case F => k_asm
      case N => k_asm
      case sub => ((try dsimp only); k_allIn)
      case hm =>
        intro z
        by_cases h0 : z = Str.ofString "upper"
        · subst h0; rfl
        by_cases h1 : z = Str.ofString "lower"
        · subst h1; rfl
        by_cases h2 : z = Str.ofString "steps"
        · subst h2; rfl
        by_cases h3 : z = Str.ofString "rest"
        · subst h3; rfl
        simp only [h0, h1, h2, h3, if_false]
      case S => exact ⟨⟨⟨_, by rw [e3]; rfl⟩, ⟨_, by rw [e2]; rfl⟩, by assumption, ed, Nat.le_trans (Nat.le_of_lt ek) hkn⟩, ek⟩
end
end Mine
namespace Mine
/-- the statements of the def at f from the i-th on, and its scope -/
def stmtsFrom (K : Frag) (f : Addr) (i : Nat) : Option (List Stmt × Scope) := match K.lookup f with
  | some ⟨_, _, .func fd, _⟩ => (match fd.body with
    | .stmts b => some (b.drop i, fd.scope)
    | _ => none)
  | _ => none
/-- the state of the law between two turns -/
structure LC where
  j : Nat
  tv : Option Value
  bv : Option Value
  fv : Option Value
  dv : Option Value
  uv : Option Value
  lv : Option Value
  iv : Option Value
def LS (i : Nat) (c : LC) : Prop := (∃ t, c.uv = some (.int (fw c.j) t)) ∧ (∃ t, c.lv = some (.int (fw (c.j + 1)) t)) ∧ (∃ t, c.iv = some (.int ((c.j + 1 : Nat) : Int) t)) ∧ c.j < 2 ^ 24 + i
theorem i2d1_fresh (w : World) {p : Program} {loose : List Str} {mean : ExcName → Option Value} {mg mb : Str → Option Value}
  {dp un : Nat} {gd : Option (List Code)} {cn : Str} {cs : Scope} {a : Addr} {ccd : Value} {cl : List (Str × Addr)} {outer : List Env} {A₀ : Around} {base h₀ : Heap} {L : Addr} {m : Str → Option Value} {news : List (Addr × Obj)} {s : Shared} {Q E : Value → Shared → Prop} {g : Obj → List (Addr × Obj)} {x : Int} {tx tn : Tok} {k : Nat}
  (B : Below A₀ base outer h₀) (F : Fr h₀ L s.heap m) (X : (Mine.hd.heap_39 w.params).In h₀) (N : News h₀ L s.heap news) (T : Top p loose mean mg mb h₀) (hk : cs.kind = .function) (C30 : CodeHd base 34 30)
  (U30 : UpdF 30 (tabObj #[]) news g) (hxk : x = (k : Int)) (hk30 : k < 2 ^ 30)
  (hd : dp + 12 < recursionLimit) (hu : un + 100 < cLine)
  (hret : ∀ l nn vs c' oc cvs t h' tk', IntsAre vs (bitsN k) → oc.data = .fields cvs → cvs[1]? = some (.str (Str.ofString "_int2digits.<locals>.inner") t) → Fr h₀ L h' m → News h₀ L h' ((l, listOf vs.toArray nn) :: (c', oc) :: g (tabObj #[rawInt 32, rawInt 4, .ref c'])) → (∀ p ∈ news, p.1 < l) → @LT.lt Nat _ l c' → Q (.ref l) { s with heap := h', toks := tk' }) :
  wpAny (model PySem.Challenge.rw_mq0469_01.row.prog w) (ktrTop dp un gd cn cs L a ccd cl outer) (call (.ref 35) [.int x tx, .int 1 tn]) Q E s := by
  subst hxk
  exact i2d_fresh w B F X N T hk C30 U30 (by omega) (by decide) (by decide) (small_nd hk30) hd hu fun l nn vs c' oc cvs t h' tk' hi => hret l nn vs c' oc cvs t h' tk' (dg_one k ▸ hi)
theorem i2d1_hit (w : World) {p : Program} {loose : List Str} {mean : ExcName → Option Value} {mg mb : Str → Option Value}
  {dp un : Nat} {gd : Option (List Code)} {cn : Str} {cs : Scope} {a : Addr} {ccd : Value} {cl : List (Str × Addr)} {outer : List Env} {A₀ : Around} {base h₀ : Heap} {L : Addr} {m : Str → Option Value} {news : List (Addr × Obj)} {s : Shared} {Q E : Value → Shared → Prop} {x : Int} {tx tn : Tok} {k : Nat} {c₀ : Addr} {oc₀ : Obj} {cv₀ : Array Value} {t₀ : Tok}
  (B : Below A₀ base outer h₀) (F : Fr h₀ L s.heap m) (X : (Mine.hd.heap_39 w.params).In h₀) (N : News h₀ L s.heap news) (T : Top p loose mean mg mb h₀) (hk : cs.kind = .function) (C30 : CodeHd base 34 30)
  (m30 : (30, tabObj #[rawInt 32, rawInt 4, .ref c₀]) ∈ news) (mc0 : (c₀, oc₀) ∈ news) (hoc0 : oc₀.data = .fields cv₀) (hcv0 : cv₀[1]? = some (.str (Str.ofString "_int2digits.<locals>.inner") t₀)) (hxk : x = (k : Int)) (hk30 : k < 2 ^ 30)
  (hd : dp + 12 < recursionLimit) (hu : un + 100 < cLine)
  (hret : ∀ l nn vs h' tk', IntsAre vs (bitsN k) → Fr h₀ L h' m → News h₀ L h' ((l, listOf vs.toArray nn) :: news) → (∀ p ∈ news, p.1 < l) → Q (.ref l) { s with heap := h', toks := tk' }) :
  wpAny (model PySem.Challenge.rw_mq0469_01.row.prog w) (ktrTop dp un gd cn cs L a ccd cl outer) (call (.ref 35) [.int x tx, .int 1 tn]) Q E s := by
  subst hxk
  exact i2d_hit w B F X N T hk C30 m30 mc0 hoc0 hcv0 (by omega) (by decide) (by decide) (small_nd hk30) hd hu fun l nn vs h' tk' hi => hret l nn vs h' tk' (dg_one k ▸ hi)
section
local macro_rules | `(tactic| walk_at "call ref") => `(tactic| (k_here; k_dflt (refine hold_call ?_)))
local macro_rules | `(tactic| k_all) => `(tactic| first | with_reducible assumption | exact allNe_le (by with_reducible assumption) (by omega) | ((rename ∀ _, AllLt _ _ => hR9); exact allNe_le (hR9 _) (by omega)))
local macro_rules | `(tactic| k_updF) => `(tactic| with_reducible assumption)
local macro_rules | `(tactic| k_mem) => `(tactic| first | exact memOf (by with_reducible assumption) | exact memOf (AllMem.at (by with_reducible assumption)) | fail "no such entry")
local macro_rules | `(tactic| k_allIn) => `(tactic| (intro p9 hp9; k_ownIn))
local macro_rules | `(tactic| walk_at "ite") => `(tactic| (k_here; k_openite; first | (refine ite_pos (by first | omega | (simp only [decide_eq_true_eq, beq_iff_eq, bne_iff_ne, ne_eq]; omega)) ?_) | (refine ite_neg (by first | omega | (simp only [decide_eq_true_eq, beq_iff_eq, bne_iff_ne, ne_eq]; omega)) ?_)))
local macro_rules | `(tactic| walk_at "binaryOp Mult ref int") => `(tactic| (k_here; (with_reducible show wpAny _ _ (binaryOp Operator.Mult (Value.ref _) (Value.int _ _)) _ _ _); k_dflt (refine' mulOne ?F ?N ?l ?lo ?hi ?_; (case F => k_asm); (case N => k_asm); (case l => is_list); (case lo => first | assumption | omega); (case hi => first | assumption | omega); k_whole); intro D' h' vs' hi' F' N' l1; (try k_lt l1)))
local macro_rules | `(tactic| walk_at "call builtin:len") => `(tactic| (k_here; (with_reducible show wpAny _ _ (call (Value.builtin "len") [Value.ref _]) _ _ _); k_dflt (refine' lenInts ?N ?m ?i ?f ?_; (case N => k_asm); (case m => k_mem); (case i => with_reducible assumption); (case f => (first | omega | (simp only [List.length_replicate]; omega))); k_whole); intro t' tk'))
local macro_rules | `(tactic| walk_at "truthy ref") => `(tactic| (k_here; k_dflt (refine' truthyInts ?N ?m ?i ?f ?_; (case N => k_asm); (case m => k_mem); (case i => with_reducible assumption); (case f => omega); k_whole); intro tk'))
local macro_rules | `(tactic| walk_at "call builtin:list.append") => `(tactic| (k_here; (with_reducible show wpAny _ _ (call (Value.builtin _) [Value.ref _, Value.int _ _]) _ _ _); k_dflt (refine' appendInts ?F ?N ?U ?hi ?hz ?_; (case F => k_asm); (case N => k_asm); (case U => k_upd); (case hi => with_reducible assumption); (case hz => omega); k_whole); intro h' F' N' hi'))
local macro_rules | `(tactic| walk_at "call builtin:list.reverse") => `(tactic| (k_here; (with_reducible show wpAny _ _ (call (Value.builtin _) [Value.ref _]) _ _ _); k_dflt (refine' reverseInts ?F ?N ?U ?hi ?hz ?_; (case F => k_asm); (case N => k_asm); (case U => k_upd); (case hi => with_reducible assumption); (case hz => omega); k_whole); intro h' F' N' hi'))
local macro_rules | `(tactic| walk_at "binaryOp LShift int int") => `(tactic| (k_here; k_dflt (refine' lshift_int ?a ?b ?_; (case a => first | assumption | omega); (case b => first | assumption | omega); k_whole)))
local macro_rules | `(tactic| walk_at "exec For Name Call cons nil") => `(tactic| (k_here; (rename Fr _ _ _ _ => lF'); (with_unfolding_all refine' For_invVF lF' ?k1 ?k2 ?_; (case k1 => exact rfl); (case k2 => exact rfl); k_whole)))
local macro_rules | `(tactic| walk_at "exec For Name Name cons nil") => `(tactic| (k_here; (rename Fr _ _ _ _ => lF'); (with_unfolding_all refine' For_invVF lF' ?k1 ?k2 ?_; (case k1 => exact rfl); (case k2 => exact rfl); k_whole)))
local macro_rules | `(tactic| walk_at "exec While Compare cons nil") => `(tactic| (k_here; k_dflt (refine whl_hold ?_)))
local macro_rules | `(tactic| walk_at "call ref") => `(tactic| (k_here; (with_reducible show wpAny _ _ (call (Value.ref 42) [Value.ref _, Value.int _ _]) _ _ _); k_dflt (refine' d2i_fresh _ ?B ?F ?X ?N ?T ?hk ?C ?U ?ml ?hi ?hn ?hn2 ?h256 ?hD ?hd ?hu ?_; (case B => k_asm); (case F => k_asm); (case X => k_asm); (case N => k_asm); (case T => k_asm); (case hk => exact rfl); (case C => first | assumption | exact CodeHd.keeps (by assumption) (Below.stays (by assumption))); (case U => k_updF); (case ml => (intro o9; (try dsimp only); k_mem)); (case hi => assumption); (case hn => first | assumption | omega); (case hn2 => first | assumption | omega); (case h256 => first | assumption | omega);(case hD => assumption); (case hd => first | ktr_room | omega); (case hu => first | ktr_units | omega)); intro c' oc' cv' t' t'' h' tk' d1' d2' F' N' l1; (try dsimp only at N'); (try k_lt l1)))
local macro_rules | `(tactic| walk_at "call ref") => `(tactic| (k_here; (with_reducible show wpAny _ _ (call (Value.ref 42) [Value.ref _, Value.int _ _]) _ _ _); k_dflt (refine' d2i_hit _ ?B ?F ?X ?N ?T ?hk ?C ?m37 ?mc0 ?hoc ?hcv ?ml ?hi ?hn ?hn2 ?h256 ?hD ?hd ?hu ?_; (case B => k_asm); (case F => k_asm); (case X => k_asm); (case N => k_asm); (case T => k_asm); (case hk => exact rfl); (case C => first | assumption | exact CodeHd.keeps (by assumption) (Below.stays (by assumption))); (case m37 => k_mem); (case mc0 => k_mem); (case hoc => assumption); (case hcv => assumption); (case ml => k_mem); (case hi => assumption); (case hn => first | assumption | omega); (case hn2 => first | assumption | omega); (case h256 => first | assumption | omega);(case hD => assumption); (case hd => first | ktr_room | omega); (case hu => first | ktr_units | omega)); intro t' h' tk' F' N'))
local macro_rules | `(tactic| walk_at "call ref") => `(tactic| (k_here; (with_reducible show wpAny _ _ (call (Value.ref 35) [Value.int _ _, Value.int _ _]) _ _ _); k_dflt (refine' i2d1_fresh _ ?B ?F ?X ?N ?T ?hk ?C ?U ?hxk ?hk30 ?hd ?hu ?_; (case B => k_asm); (case F => k_asm); (case X => k_asm); (case N => k_asm); (case T => k_asm); (case hk => exact rfl); (case C => first | assumption | exact CodeHd.keeps (by assumption) (Below.stays (by assumption))); (case U => k_updF); (case hxk => first | assumption | exact rfl); (case hk30 => omega);(case hd => first | ktr_room | omega); (case hu => first | ktr_units | omega)); intro l' nn' vs' c' oc' cv' t' h' tk' hi' d1' d2' F' N' l1 l2; (try dsimp only at N'); (try k_lt l1)))
local macro_rules | `(tactic| walk_at "call ref") => `(tactic| (k_here; (with_reducible show wpAny _ _ (call (Value.ref 35) [Value.int _ _, Value.int _ _]) _ _ _); k_dflt (refine' i2d1_hit _ ?B ?F ?X ?N ?T ?hk ?C ?m30 ?mc0 ?hoc ?hcv ?hxk ?hk30 ?hd ?hu ?_; (case B => k_asm); (case F => k_asm); (case X => k_asm); (case N => k_asm); (case T => k_asm); (case hk => exact rfl); (case C => first | assumption | exact CodeHd.keeps (by assumption) (Below.stays (by assumption))); (case m30 => k_mem); (case mc0 => k_mem); (case hoc => assumption); (case hcv => assumption); (case hxk => first | assumption | exact rfl); (case hk30 => omega);(case hd => first | ktr_room | omega); (case hu => first | ktr_units | omega)); intro l' nn' vs' h' tk' hi' F' N' l1; (try k_lt l1)))
local macro_rules | `(tactic| walk_at "call ref") => `(tactic| (k_here; (with_reducible show wpAny _ _ (call (Value.ref 49) [Value.int _ _, Value.int _ _]) _ _ _); k_dflt (refine' dm_hit _ ?B ?F ?X ?N ?T ?hk ?C30 ?C37 ?m30 ?mc3 ?hoc3 ?hcv3 ?m37 ?mc4 ?hoc4 ?hcv4 ?hx ?hb ?hxb ?hbb ?hd ?hu ?_; (case B => k_asm); (case F => k_asm); (case X => k_asm); (case N => k_asm); (case T => k_asm); (case hk => exact rfl); (case C30 => first | assumption | exact CodeHd.keeps (by assumption) (Below.stays (by assumption))); (case C37 => first | assumption | exact CodeHd.keeps (by assumption) (Below.stays (by assumption))); (case m30 => k_mem); (case mc3 => k_mem); (case m37 => k_mem); (case mc4 => k_mem); (case hoc3 => assumption); (case hcv3 => assumption); (case hoc4 => assumption); (case hcv4 => assumption); (case hx => first | assumption | omega); (case hb => first | assumption | omega); (case hxb => first | assumption | omega); (case hbb => first | assumption | omega);(case hd => first | ktr_room | omega); (case hu => first | ktr_units | omega)); intro l' t1' t2' h' tk' F' N' l1; (try k_lt l1)))
local macro_rules | `(tactic| walk_at "call ref") => `(tactic| (k_here; (with_reducible show wpAny _ _ (call (Value.ref 56) [Value.ref _]) _ _ _); k_dflt (refine' ways_spec _ ?B ?F ?X ?N ?T ?hk ?ml ?hi ?hd ?_; (case B => k_asm); (case F => k_asm); (case X => k_asm); (case N => k_asm); (case T => k_asm); (case hk => exact rfl); (case ml => k_mem); (case hi => assumption); (case hd => first | ktr_room | omega)); intro t' h' tk' F' N'))
local macro_rules | `(tactic| walk_at "call ref") => `(tactic| (k_here; (with_reducible show wpAny _ _ (call (Value.ref 63) [Value.int _ _, Value.int _ _]) _ _ _); k_dflt (refine' found_spec _ ?B ?F ?X ?N ?T ?hk ?C ?C37 ?m30 ?mc3 ?hoc3 ?hcv3 ?m37 ?mc4 ?hoc4 ?hcv4 ?hn ?hU ?hL ?hd ?hu ?_; (case B => k_asm); (case F => k_asm); (case X => k_asm); (case N => k_asm); (case T => k_asm); (case hk => exact rfl); (case C => first | assumption | exact CodeHd.keeps (by assumption) (Below.stays (by assumption)));(case C37 => first | assumption | exact CodeHd.keeps (by assumption) (Below.stays (by assumption))); (case hU => first | assumption | exact rfl); (case hL => first | assumption | exact rfl); (case m30 => k_mem); (case mc3 => k_mem); (case m37 => k_mem); (case mc4 => k_mem); (case hoc3 => assumption); (case hcv3 => assumption); (case hoc4 => assumption); (case hcv4 => assumption); (case hn => omega);(case hd => first | ktr_room | omega); (case hu => first | ktr_units | omega)); intro l' nn' vs' h' tk' hi' F' N' l1; (try k_lt l1)))
local macro_rules | `(tactic| walk_at "binaryOp Mod int int") => `(tactic| (k_here; k_dflt (refine' mod24 ?_; k_whole); intro i' hi' t' tk'))
local macro_rules | `(tactic| walk_at "subscriptTail") => `(tactic| (k_here; (with_reducible show wpAny _ _ (subscriptTail (PySem.Expr.List _ _) (PySem.Expr.Slice _ _ none _) (Value.ref _) (Value.ref _)) _ _ _); k_dflt (refine' sliceAny ?F ?N ?l ?p ?q ?i ?m ?c ?_ ?s ?z; (case F => k_asm); (case N => k_asm); (case l => kmk_list); (case p => kmk_part); (case q => kmk_part); (case i => exact IntsAre.cons _ _ IntsAre.nil); (case m => exact kmk_upto (IntsAre.cons _ _ IntsAre.nil) (by omega)); (case c => exact rfl); (case s => with_unfolding_all rfl); (case z => kmk_size)); intro D' ws' h' F' N' l1 hI' hC' hL'; (try k_lt l1)))
local macro_rules | `(tactic| walk_at "compareOp NotEq ref ref") => `(tactic| (k_here; (with_reducible show wpAny _ _ (compareOp CmpOp.NotEq (Value.ref _) (Value.ref _)) _ _ _); k_dflt (refine' neEq ?k1 ?k2 ?k3 ?k4 ?k5 ?e ?_; (case k1 => kmk_list); (case k2 => kmk_list); (case k3 => with_reducible assumption); (case k4 => with_reducible assumption); (case k5 => first | ktr_units | units_room); (case e => assumption); k_whole)))
local macro_rules | `(tactic| walk_at "eval ListComp") => `(tactic| (k_here; lct_look; k_dflt (refine LCt.ListComp_T (F₀ := by k_asm) (by with_unfolding_all rfl) (by decide) (by rfl) (by decide) (by rfl) ?_)))
local macro_rules | `(tactic| walk_at "CompSrcT") => `(tactic| (k_here; k_dflt (refine' LCt.CompSrcT.ledger ?h1 ?h2 ?h3 ?h4 ?h5 ?_; (case h1 => exact rfl); (case h2 => k_asm); (case h3 => k_asm); (case h4 => k_mem); (case h5 => exact sizeInts (by assumption) (by omega)); k_whole); intro g'; (refine holdP ?_)))

local macro_rules | `(tactic| walk_at "ite") => `(tactic| (k_here; k_openite; first | (refine ite_pos (by first | (simp; done) | (simp; omega)) ?_) | (refine ite_neg (by first | (simp; done) | (simp; omega)) ?_)))
local macro_rules | `(tactic| walk_at "ite") => `(tactic| (k_here; k_openite; first | (refine ite_neg (by (simp only [bne_iff_ne, ne_eq, Decidable.not_not]; assumption)) ?_)))
local macro_rules | `(tactic| walk_at "RangeRest") => `(tactic| refine holdP ?_)
set_option maxHeartbeats 4000000 in
theorem law_rest (w : World) {p : Program} {loose : List Str} {mean : ExcName → Option Value} {mg mb : Str → Option Value}
  {dp un : Nat} {gd : Option (List Code)} {cn : Str} {cs : Scope} {a : Addr} {ccd : Value} {outer : List Env} {A₀ : Around} {base h₀ : Heap} {L : Addr} {m : Str → Option Value} {s : Shared} {Q : Flow → Shared → Prop} {E : Value → Shared → Prop} {rest : List Stmt} {i : Nat} {ti : Tok}
  (hbody : stmtsFrom (Mine.hd.heap_39 w.params) 68 3 = some (rest, cs))
  (B : Below A₀ base outer h₀) (F : Fr h₀ L s.heap (fun z => if z = Str.ofString "index" then some (.int (1 + (i : Int)) ti) else m z)) (X : (Mine.hd.heap_39 w.params).In h₀)
  (N : News h₀ L s.heap [(37, tabObj #[]), (30, tabObj #[])])
  (T₀ : Top p loose mean mg mb h₀) (C30 : CodeHd base 34 30) (C37 : CodeHd base 41 37)
  (hL : @LT.lt Nat _ 37 L) (hi24 : i < 2 ^ 24)
  (hd : dp + 24 < recursionLimit) (hu : un + 300 < cLine)
  (hPE : PassesOwn (model PySem.Challenge.rw_mq0469_01.row.prog w) (ktrTop dp un gd cn cs L a ccd [] outer) (envX cn cs L a ccd []) E)
  (hret : ∀ m' c3 o3 c4 o4 h' tk', Fr h₀ L h' m' → News h₀ L h' [(37, tabObj #[rawInt 47, rawInt 4, .ref c4]), (c4, o4), (30, tabObj #[rawInt 32, rawInt 4, .ref c3]), (c3, o3)] → Q (.ret (.bool true)) { s with heap := h', toks := tk' }) :
  wpAny (model PySem.Challenge.rw_mq0469_01.row.prog w) (ktrTop dp un gd cn cs L a ccd [] outer) (execs rest (envX cn cs L a ccd [])) Q E s := by
  w_top off
  revert X; k_fill; intro X
  cases hbody
  have hA : 1 + (i : Int) - 1 = (i : Int) := by omega
  have hB : 1 + (i : Int) = ((i + 1 : Nat) : Int) := by omega
  have hlen := bitsN_length (n := i) (by omega)
  have hlen1 := bitsN_length (n := i + 1) (by omega)
  have hD := bitsN_digs i
  have hD1 := bitsN_digs (i + 1)
  have hV := bitsN_vl i
  have hV1 := bitsN_vl (i + 1)
  have hS := last_bit (n := i)
  k_steps
  refine Hold.out ?_
  k_steps
  refine' rangeLoop (σ := LC) (fun c m z => if z = Str.ofString "turn" then c.tv else if z = Str.ofString "bits" then c.bv else if z = Str.ofString "found" then c.fv else if z = Str.ofString "told" then c.dv else if z = Str.ofString "upper" then c.uv else if z = Str.ofString "lower" then c.lv else if z = Str.ofString "index" then c.iv else m z) [(37, tabObj #[rawInt 47, rawInt 4, .ref ?qc4]), (?qc4, ?qo4), (30, tabObj #[rawInt 32, rawInt 4, .ref ?qc3]), (?qc3, ?qo3)] LS (fun m => ⟨i, m (Str.ofString "turn"), m (Str.ofString "bits"), m (Str.ofString "found"), m (Str.ofString "told"), m (Str.ofString "upper"), m (Str.ofString "lower"), m (Str.ofString "index")⟩) ?qsub ?qI ?qh0 ?qS ?qnil ?qcons
  case qsub => k_allIn
  case qI => exact List.forall_mem_cons.mpr ⟨by k_ne, List.forall_mem_cons.mpr ⟨by k_ne, List.forall_mem_cons.mpr ⟨by k_ne, List.forall_mem_cons.mpr ⟨by k_ne, List.forall_mem_nil _⟩⟩⟩⟩
  case qh0 =>
    intro z
    by_cases h0 : z = Str.ofString "turn"
    · subst h0; rfl
    by_cases h1 : z = Str.ofString "bits"
    · subst h1; rfl
    by_cases h2 : z = Str.ofString "found"
    · subst h2; rfl
    by_cases h3 : z = Str.ofString "told"
    · subst h3; rfl
    by_cases h4 : z = Str.ofString "upper"
    · subst h4; rfl
    by_cases h5 : z = Str.ofString "lower"
    · subst h5; rfl
    by_cases h6 : z = Str.ofString "index"
    · subst h6; rfl
    simp only [h0, h1, h2, h3, h4, h5, h6, if_false]
  case qS => exact ⟨⟨_, rfl⟩, ⟨_, rfl⟩, ⟨_, by rw [← hB]; rfl⟩, by omega⟩
  case qnil =>
    rintro ⟨j, tv, bv, fv, dv, uv, lv, iv⟩ ⟨⟨tu, hu'⟩, ⟨tl, hl'⟩, ⟨ti, hi'⟩, hj⟩ h tk F N
    dsimp only at hu' hl' hi' hj F N
    subst hu' hl' hi'
    k_steps
    exact hret _ _ _ _ _ _ _ (by k_asm) (by k_asm)
  case qcons =>
    clear hA hB hlen hlen1 hD hD1 hV hV1 hS
    rintro i' ⟨j, tv, bv, fv, dv, uv, lv, iv⟩ hi3 ⟨⟨tu, hu'⟩, ⟨tl, hl'⟩, ⟨ti, hi'⟩, hj⟩ tt it h tk F N
    dsimp only at hu' hl' hi' hj F N
    subst hu' hl' hi'
    have hB : ((j + 1 : Nat) : Int) + 1 = ((j + 2 : Nat) : Int) := by omega
    have hlen := bitsN_length (n := j + 1) (by omega)
    have hD := bitsN_digs (j + 1)
    have hV := bitsN_vl (j + 1)
    have hN := law_next (j := j)
    have p0 := F_pos j
    have p1 := F_pos (j + 1)
    have p2 := F_le j
    have p3 := F_le (j + 1)
    have p4 : 0 ≤ fw j := by omega
    have p5 : 0 < fw (j + 1) := by omega
    have p6 := small_bits (v := fw j) (by omega) (by omega)
    have p7 := small_bits (v := fw (j + 1)) (by omega) (by omega)
    k_steps
    refine compNone (by assumption) (by k_mem) ?cturn ?cfin
    case cturn =>
      intro z t I oI C oC D m₂ h tk E' hC hx F N off ne
      k_steps
      exact CTurn.intro (by k_asm) (by k_asm) (fun _ h => h)
    case cfin =>
      k_steps
      dsimp only [TPost]
      refine' TEnd.intro (fun m => ⟨j + 1, m (Str.ofString "turn"), m (Str.ofString "bits"), m (Str.ofString "found"), m (Str.ofString "told"), m (Str.ofString "upper"), m (Str.ofString "lower"), m (Str.ofString "index")⟩) ?eF ?eN ?esub ?ehm ?eS
      case eF => k_asm
      case eN => k_asm
      case esub => k_allIn
      case ehm =>
        intro z
        by_cases h0 : z = Str.ofString "turn"
        · subst h0; rfl
        by_cases h1 : z = Str.ofString "bits"
        · subst h1; rfl
        by_cases h2 : z = Str.ofString "found"
        · subst h2; rfl
        by_cases h3 : z = Str.ofString "told"
        · subst h3; rfl
        by_cases h4 : z = Str.ofString "upper"
        · subst h4; rfl
        by_cases h5 : z = Str.ofString "lower"
        · subst h5; rfl
        by_cases h6 : z = Str.ofString "index"
        · subst h6; rfl
        simp only [h0, h1, h2, h3, h4, h5, h6, if_false]
      case eS => exact ⟨⟨_, rfl⟩, ⟨_, by rw [show fw (j + 1 + 1) = _ from hN.symm]; rfl⟩, ⟨_, by rw [show ((j + 1 + 1 : Nat) : Int) = ((j + 1 : Nat) : Int) + 1 from hB.symm]; rfl⟩, (show j + 1 < 2 ^ 24 + (i' + 1) by omega)⟩
end
end Mine
namespace Mine
section
local macro_rules | `(tactic| k_all) => `(tactic| first | with_reducible assumption | exact allNe_le (by with_reducible assumption) (by omega) | ((rename ∀ _, AllLt _ _ => hR9); exact allNe_le (hR9 _) (by omega)))
local macro_rules | `(tactic| k_updF) => `(tactic| with_reducible assumption)
local macro_rules | `(tactic| k_mem) => `(tactic| first | exact memOf (by with_reducible assumption) | exact memOf (AllMem.at (by with_reducible assumption)) | fail "no such entry")
local macro_rules | `(tactic| k_allIn) => `(tactic| (intro p9 hp9; k_ownIn))
local macro_rules | `(tactic| walk_at "ite") => `(tactic| (k_here; k_openite; first | (refine ite_pos (by first | omega | (simp only [decide_eq_true_eq, beq_iff_eq, bne_iff_ne, ne_eq]; omega)) ?_) | (refine ite_neg (by first | omega | (simp only [decide_eq_true_eq, beq_iff_eq, bne_iff_ne, ne_eq]; omega)) ?_)))
local macro_rules | `(tactic| walk_at "binaryOp Mult ref int") => `(tactic| (k_here; (with_reducible show wpAny _ _ (binaryOp Operator.Mult (Value.ref _) (Value.int _ _)) _ _ _); k_dflt (refine' mulOne ?F ?N ?l ?lo ?hi ?_; (case F => k_asm); (case N => k_asm); (case l => is_list); (case lo => first | assumption | omega); (case hi => first | assumption | omega); k_whole); intro D' h' vs' hi' F' N' l1; (try k_lt l1)))
local macro_rules | `(tactic| walk_at "call builtin:len") => `(tactic| (k_here; (with_reducible show wpAny _ _ (call (Value.builtin "len") [Value.ref _]) _ _ _); k_dflt (refine' lenInts ?N ?m ?i ?f ?_; (case N => k_asm); (case m => k_mem); (case i => with_reducible assumption); (case f => (first | omega | (simp only [List.length_replicate]; omega))); k_whole); intro t' tk'))
local macro_rules | `(tactic| walk_at "truthy ref") => `(tactic| (k_here; k_dflt (refine' truthyInts ?N ?m ?i ?f ?_; (case N => k_asm); (case m => k_mem); (case i => with_reducible assumption); (case f => omega); k_whole); intro tk'))
local macro_rules | `(tactic| walk_at "call builtin:list.append") => `(tactic| (k_here; (with_reducible show wpAny _ _ (call (Value.builtin _) [Value.ref _, Value.int _ _]) _ _ _); k_dflt (refine' appendInts ?F ?N ?U ?hi ?hz ?_; (case F => k_asm); (case N => k_asm); (case U => k_upd); (case hi => with_reducible assumption); (case hz => omega); k_whole); intro h' F' N' hi'))
local macro_rules | `(tactic| walk_at "call builtin:list.reverse") => `(tactic| (k_here; (with_reducible show wpAny _ _ (call (Value.builtin _) [Value.ref _]) _ _ _); k_dflt (refine' reverseInts ?F ?N ?U ?hi ?hz ?_; (case F => k_asm); (case N => k_asm); (case U => k_upd); (case hi => with_reducible assumption); (case hz => omega); k_whole); intro h' F' N' hi'))
local macro_rules | `(tactic| walk_at "binaryOp LShift int int") => `(tactic| (k_here; k_dflt (refine' lshift_int ?a ?b ?_; (case a => first | assumption | omega); (case b => first | assumption | omega); k_whole)))
local macro_rules | `(tactic| walk_at "binaryOp Mod int int") => `(tactic| (k_here; k_dflt (refine' mod24 ?_; k_whole); intro i' hi' t' tk'))
local macro_rules | `(tactic| walk_at "execs cons") => `(tactic| (k_here; (rename _ < 2 ^ 24 => h24); refine hold_any ?_))
local macro_rules | `(tactic| walk_at "ite") => `(tactic| (k_here; k_openite; first | (refine ite_pos (by first | (simp; done) | (simp; omega)) ?_) | (refine ite_neg (by first | (simp; done) | (simp; omega)) ?_)))

set_option maxHeartbeats 4000000 in
theorem law_holds : PySem.Challenge.rw_mq0469_01.Holds := hd (by
  k_go0
  all_goals try k_fold
  rename IntsAre _ _ => hI
  cases hI
  all_goals k_steps
  · rename _ < 2 ^ 24 => hi24
    refine Hold.out ?_
    refine' law_rest _ ?zbody1 ?zB1 ?zF1 ?zX1 ?zN1 ?zT1 ?zC301 ?zC371 ?zL1 ?zi1 ?zd1 ?zu1 ?zPE1 ?zret1
    case zbody1 => exact rfl
    case zB1 => k_asm
    case zF1 => k_asm
    case zN1 => exact cb_drop (by k_asm) (by k_allIn)
    case zX1 => k_asm
    case zT1 => k_asm
    case zC301 => first | assumption | exact CodeHd.keeps (by assumption) (Below.stays (by assumption))
    case zC371 => first | assumption | exact CodeHd.keeps (by assumption) (Below.stays (by assumption))
    case zL1 => omega
    case zi1 => exact hi24
    case zd1 => first | ktr_room | omega
    case zu1 => first | ktr_units | omega
    case zPE1 => passes_own
    intro m9 c3 o3 c4 o4 h9 tk9 F9 N9
    k_steps
  · rename _ < 2 ^ 24 => hi24
    refine Hold.out ?_
    refine' law_rest _ ?zbody2 ?zB2 ?zF2 ?zX2 ?zN2 ?zT2 ?zC302 ?zC372 ?zL2 ?zi2 ?zd2 ?zu2 ?zPE2 ?zret2
    case zbody2 => exact rfl
    case zB2 => k_asm
    case zF2 => k_asm
    case zN2 => exact cb_drop (by k_asm) (by k_allIn)
    case zX2 => k_asm
    case zT2 => k_asm
    case zC302 => first | assumption | exact CodeHd.keeps (by assumption) (Below.stays (by assumption))
    case zC372 => first | assumption | exact CodeHd.keeps (by assumption) (Below.stays (by assumption))
    case zL2 => omega
    case zi2 => exact hi24
    case zd2 => first | ktr_room | omega
    case zu2 => first | ktr_units | omega
    case zPE2 => passes_own
    intro m9 c3 o3 c4 o4 h9 tk9 F9 N9
    k_steps)
end
end Mine
theorem PySem.Challenge.cw_mq0469_01_holds : PySem.Challenge.rw_mq0469_01.Holds :=
  Mine.law_holds
