import PyProof.Rows.All
import Wide.All
import OpenK.AllK
import Wide.FinOn
import PySem.Challenge.RW_fq0033_02
open PySem PySem.W PySem.Calls PyProof.Rows
set_option Elab.async false
set_option maxRecDepth 100000
set_option maxHeartbeats 8000000
set_option linter.unusedVariables false
set_option linter.unusedSimpArgs false
namespace Mine
open_top hd02 for PySem.Challenge.rw_fq0033_02
/-- sets the walk back to what it is in a fresh text -/
theorem calm : True := by
  w_top off
  trivial
end Mine
open PySem PySem.W PySem.Calls PyProof.Rows
set_option maxRecDepth 100000
set_option maxHeartbeats 4000000
set_option linter.unusedVariables false
namespace Mine
/-- the turn of the curve's piece: o, the way it lies; q, its quarter in order -/
def hO (o q : Nat) : Nat := if q = 0 then o ^^^ 1 else if q = 3 then o ^^^ 3 else o
def ijq (o q : Nat) : Nat := ([0, 1, 3, 2, 0, 2, 3, 1, 3, 2, 0, 1, 3, 1, 0, 2] : List Nat).getD (4 * o + q) 0
def qij (o x : Nat) : Nat := ([0, 1, 3, 2, 0, 3, 1, 2, 2, 3, 1, 0, 2, 1, 3, 0] : List Nat).getD (4 * o + x) 0
def stepP (r : Nat × Nat) (x : Nat) : Nat × Nat := (4 * r.1 + qij r.2 x, hO r.2 (qij r.2 x))
def stepI (r : Nat × Nat × Nat) (q : Nat) : Nat × Nat × Nat := (2 * r.1 + ijq r.2.2 q / 2, 2 * r.2.1 + ijq r.2.2 q % 2, hO r.2.2 q)
/-- four steps at once, packed as the tables have them -/
def posA (n : Nat) : Nat :=
  let i := n / 64
  let j := n / 4 % 16
  let r := stepP (stepP (stepP (stepP (0, n % 4) (2 * (i / 8 % 2) + j / 8 % 2)) (2 * (i / 4 % 2) + j / 4 % 2)) (2 * (i / 2 % 2) + j / 2 % 2)) (2 * (i % 2) + j % 2)
  4 * r.1 + r.2
def ijA (n : Nat) : Nat :=
  let p := n / 4
  let r := stepI (stepI (stepI (stepI (0, 0, n % 4) (p / 64 % 4)) (p / 16 % 4)) (p / 4 % 4)) (p % 4)
  64 * r.1 + 4 * r.2.1 + r.2.2
theorem posA_lt : ∀ n < 1024, posA n < 1024 := by decide +kernel
theorem ijA_lt : ∀ n < 1024, ijA n < 1024 := by decide +kernel
end Mine
open PySem PySem.W PySem.Calls PyProof.Rows
set_option maxRecDepth 100000
set_option linter.unusedVariables false
namespace Mine
def enc : Nat → Nat → Nat → Nat → Nat × Nat
  | 0, o, _, _ => (0, o)
  | l + 1, o, i, j => stepP (enc l o (i / 2) (j / 2)) (2 * (i % 2) + j % 2)
theorem qij_lt : ∀ o < 4, ∀ x < 4, qij o x < 4 := by decide
theorem hO_lt : ∀ o < 4, ∀ q < 4, hO o q < 4 := by decide
theorem enc_o (l : Nat) : ∀ o i j, o < 4 → (enc l o i j).2 < 4 := by
  induction l with
  | zero => intro o i j h; exact h
  | succ l ih =>
    intro o i j h
    have h1 := ih o (i / 2) (j / 2) h
    exact hO_lt _ h1 _ (qij_lt _ h1 _ (by omega))
theorem enc_p (l : Nat) : ∀ o i j, o < 4 → (enc l o i j).1 < 4 ^ l := by
  induction l with
  | zero => intro o i j h; exact Nat.one_pos
  | succ l ih =>
    intro o i j h
    have h1 := ih o (i / 2) (j / 2) h
    have h2 := qij_lt _ (enc_o l o (i / 2) (j / 2) h) (2 * (i % 2) + j % 2) (by omega)
    show 4 * (enc l o (i / 2) (j / 2)).1 + qij _ _ < 4 ^ l * 4
    omega
theorem stepP_lin (r : Nat × Nat) (x : Nat) : stepP r x = (4 * r.1 + (stepP (0, r.2) x).1, (stepP (0, r.2) x).2) := by
  unfold stepP; simp
theorem posA_spec : ∀ a < 16, ∀ b < 16, ∀ o < 4,
    stepP (stepP (stepP (stepP (0, o) (2 * (a / 8 % 2) + b / 8 % 2)) (2 * (a / 4 % 2) + b / 4 % 2)) (2 * (a / 2 % 2) + b / 2 % 2)) (2 * (a % 2) + b % 2) = (posA (64 * a + 4 * b + o) / 4, posA (64 * a + 4 * b + o) % 4) := by decide +kernel
theorem stepP4 (r : Nat × Nat) (w x y z : Nat) : stepP (stepP (stepP (stepP r w) x) y) z = (256 * r.1 + (stepP (stepP (stepP (stepP (0, r.2) w) x) y) z).1, (stepP (stepP (stepP (stepP (0, r.2) w) x) y) z).2) := by
  simp only [stepP]
  refine Prod.ext ?_ rfl
  simp only
  omega
theorem enc4 (l o i j : Nat) (ho : o < 4) : enc (l + 4) o i j = (256 * (enc l o (i / 16) (j / 16)).1 + posA (64 * (i % 16) + 4 * (j % 16) + (enc l o (i / 16) (j / 16)).2) / 4, posA (64 * (i % 16) + 4 * (j % 16) + (enc l o (i / 16) (j / 16)).2) % 4) := by
  have h := posA_spec (i % 16) (by omega) (j % 16) (by omega) _ (enc_o l o (i / 16) (j / 16) ho)
  show stepP (stepP (stepP (stepP (enc l o (i / 2 / 2 / 2 / 2) (j / 2 / 2 / 2 / 2)) _) _) _) _ = _
  rw [stepP4]
  have e1 : i / 2 / 2 / 2 / 2 = i / 16 := by omega
  have e2 : j / 2 / 2 / 2 / 2 = j / 16 := by omega
  rw [e1, e2]
  have f1 : 2 * (i / 2 / 2 / 2 % 2) + j / 2 / 2 / 2 % 2 = 2 * (i % 16 / 8 % 2) + j % 16 / 8 % 2 := by omega
  have f2 : 2 * (i / 2 / 2 % 2) + j / 2 / 2 % 2 = 2 * (i % 16 / 4 % 2) + j % 16 / 4 % 2 := by omega
  have f3 : 2 * (i / 2 % 2) + j / 2 % 2 = 2 * (i % 16 / 2 % 2) + j % 16 / 2 % 2 := by omega
  have f4 : 2 * (i % 2) + j % 2 = 2 * (i % 16 % 2) + j % 16 % 2 := by omega
  rw [f1, f2, f3, f4, h]
/-- two parts: the upper a levels, then b more -/
theorem enc_add (a b : Nat) : ∀ o i j, enc (a + b) o i j = ((enc a o (i / 2 ^ b) (j / 2 ^ b)).1 * 4 ^ b + (enc b (enc a o (i / 2 ^ b) (j / 2 ^ b)).2 i j).1, (enc b (enc a o (i / 2 ^ b) (j / 2 ^ b)).2 i j).2) := by
  induction b with
  | zero => intro o i j; simp [enc]
  | succ b ih =>
    intro o i j
    have e1 : i / 2 / 2 ^ b = i / 2 ^ (b + 1) := by rw [Nat.div_div_eq_div_mul, Nat.pow_succ, Nat.mul_comm]
    have e2 : j / 2 / 2 ^ b = j / 2 ^ (b + 1) := by rw [Nat.div_div_eq_div_mul, Nat.pow_succ, Nat.mul_comm]
    show stepP (enc (a + b) o (i / 2) (j / 2)) _ = _
    rw [ih o (i / 2) (j / 2), e1, e2]
    show _ = (_ * 4 ^ (b + 1) + (stepP (enc b _ (i / 2) (j / 2)) _).1, (stepP (enc b _ (i / 2) (j / 2)) _).2)
    simp only [stepP]
    refine Prod.ext ?_ rfl
    simp only
    generalize (enc a o (i / 2 ^ (b + 1)) (j / 2 ^ (b + 1))) = ra
    rw [Nat.pow_succ 4 b, ← Nat.mul_assoc]
    omega
/-- only the last bits count -/
theorem enc_mod (b : Nat) : ∀ o i j, enc b o (i % 2 ^ b) (j % 2 ^ b) = enc b o i j := by
  induction b with
  | zero => intro o i j; rfl
  | succ b ih =>
    intro o i j
    have e : ∀ x : Nat, x % 2 ^ (b + 1) / 2 = x / 2 % 2 ^ b := by
      intro x
      rw [Nat.pow_succ, Nat.mul_comm, Nat.mod_mul_right_div_self]
    have f : ∀ x : Nat, x % 2 ^ (b + 1) % 2 = x % 2 := by
      intro x
      rw [Nat.pow_succ, Nat.mul_comm, Nat.mod_mul_right_mod]
    show stepP (enc b o (i % 2 ^ (b + 1) / 2) (j % 2 ^ (b + 1) / 2)) (2 * (i % 2 ^ (b + 1) % 2) + j % 2 ^ (b + 1) % 2) = stepP (enc b o (i / 2) (j / 2)) (2 * (i % 2) + j % 2)
    rw [e, e, f, f, ih]
/-- i and j exchanged: the same place on the curve -/
theorem swap_step : ∀ o < 4, ∀ a < 2, ∀ b < 2, qij (o ^^^ 1) (2 * b + a) = qij o (2 * a + b) := by decide
theorem hO_swap : ∀ o < 4, ∀ q < 4, hO (o ^^^ 1) q = hO o q ^^^ 1 := by decide
theorem xor1_lt : ∀ o < 4, o ^^^ 1 < 4 := by decide
theorem enc_swap (l : Nat) : ∀ o i j, o < 4 → enc l (o ^^^ 1) j i = ((enc l o i j).1, (enc l o i j).2 ^^^ 1) := by
  induction l with
  | zero => intro o i j h; rfl
  | succ l ih =>
    intro o i j h
    have h1 := enc_o l o (i / 2) (j / 2) h
    show stepP (enc l (o ^^^ 1) (j / 2) (i / 2)) (2 * (j % 2) + i % 2) = _
    rw [ih o (i / 2) (j / 2) h]
    show (4 * (enc l o (i / 2) (j / 2)).1 + qij ((enc l o (i / 2) (j / 2)).2 ^^^ 1) (2 * (j % 2) + i % 2), hO ((enc l o (i / 2) (j / 2)).2 ^^^ 1) (qij ((enc l o (i / 2) (j / 2)).2 ^^^ 1) (2 * (j % 2) + i % 2))) = _
    rw [swap_step _ h1 _ (by omega) _ (by omega), hO_swap _ h1 _ (qij_lt _ h1 _ (by omega))]
    rfl
theorem enc_zero2 : ∀ o < 2, enc 2 o 0 0 = (0, o) := by decide
theorem enc32 (o i j : Nat) (ho : o < 2) (hi : i < 1073741824) (hj : j < 1073741824) : enc 32 o i j = enc 30 o i j := by
  have h := enc_add 2 30 o i j
  have e1 : i / 2 ^ 30 = 0 := by omega
  have e2 : j / 2 ^ 30 = 0 := by omega
  rw [e1, e2, enc_zero2 o ho] at h
  rw [h]
  simp
theorem bitOr_add {a b : Int} (k : Nat) (ha : 0 ≤ a) (hb : 0 ≤ b) (h : a % 2 ^ k = 0) (hb2 : b < 2 ^ k) : Builtin.bitOr a b = a + b := by
  obtain ⟨x, rfl⟩ := Int.eq_ofNat_of_zero_le ha
  obtain ⟨y, rfl⟩ := Int.eq_ofNat_of_zero_le hb
  rw [bitOr_and, bitAnd_pp ha hb]
  have hc := kbt_cast k
  have hy : y < 2 ^ k := by omega
  have hx : x % 2 ^ k = 0 := by
    rw [← hc] at h
    omega
  have e : x = 2 ^ k * (x / 2 ^ k) := by
    have := Nat.div_add_mod x (2 ^ k)
    omega
  have z : (x : Int).toNat &&& (y : Int).toNat = 0 := by
    show x &&& y = 0
    rw [e]
    refine Nat.eq_of_testBit_eq fun i => ?_
    rw [Nat.testBit_and, Nat.zero_testBit, Nat.testBit_two_pow_mul]
    by_cases hi : k ≤ i
    · rw [Nat.testBit_lt_two_pow (Nat.lt_of_lt_of_le hy (Nat.pow_le_pow_right (by decide) hi)), Bool.and_false]
    · simp [hi]
  rw [z]
  omega
end Mine
open PySem PySem.W PySem.Calls PyProof.Rows
set_option maxRecDepth 100000
set_option maxHeartbeats 4000000
set_option linter.unusedVariables false
namespace Mine

/-- the number of the leaf (i, j) of face f -/
def lid (f i j : Int) : Int := (((f.toNat * 4 ^ 30 + (enc 30 (f.toNat % 2) i.toNat j.toNat).1) * 2 + 1 : Nat) : Int)
theorem turnP {l o : Nat} {F n n' b b1 b2 t t2 b' M xi xj : Int} {X Y : Nat} (K : Nat) (ho : o < 4) (hxi : 0 ≤ xi) (hxj : 0 ≤ xj) (hX : xi.toNat / 16 = X) (hY : xj.toNat / 16 = Y) (hM : 256 * M = 2 ^ K) (hF : 0 ≤ F) (hFK : F % 2 ^ K = 0)
    (hn : n = F + ((enc l o X Y).1 : Int) * (256 * M)) (hb : b = ((enc l o X Y).2 : Int)) (h1 : b1 = b + xi % 16 * 64) (h2 : b2 = b1 + xj % 16 * 4) (h3 : t = (posA (b2 / 128 * 128 + b2 % 128).toNat : Nat)) (h4 : t2 = t) (h5 : n' = Builtin.bitOr n (t2 / 4 * M)) (h6 : b' = t2 % 4) :
    n' = F + ((enc (l + 4) o xi.toNat xj.toNat).1 : Int) * M ∧ b' = ((enc (l + 4) o xi.toNat xj.toNat).2 : Int) := by
  have hp := kbt_pos K
  have hM0 : 0 < M := by omega
  have hr := enc_o l o X Y ho
  have e := enc4 l o xi.toNat xj.toNat ho
  rw [hX, hY] at e
  have hidx : (b2 / 128 * 128 + b2 % 128).toNat = 64 * (xi.toNat % 16) + 4 * (xj.toNat % 16) + (enc l o X Y).2 := by omega
  rw [hidx] at h3
  have hlt := posA_lt (64 * (xi.toNat % 16) + 4 * (xj.toNat % 16) + (enc l o X Y).2) (by omega)
  rw [e]
  generalize posA (64 * (xi.toNat % 16) + 4 * (xj.toNat % 16) + (enc l o X Y).2) = v at h3 hlt ⊢
  generalize (enc l o X Y).1 = p at hn ⊢
  subst h4 h3
  have hq : ((v : Int) / 4) * M < 2 ^ K := by
    rw [← hM]
    exact Int.mul_lt_mul_of_pos_right (by omega) hM0
  have hpn : (0 : Int) ≤ (p : Int) * (256 * M) := Int.mul_nonneg (by omega) (by omega)
  have hn2 : n % 2 ^ K = 0 := by
    rw [hn, Int.add_emod, hFK, hM, Int.mul_emod_left]
    simp
  rw [bitOr_add K (by omega) (Int.mul_nonneg (by omega) (by omega)) hn2 hq] at h5
  refine ⟨?_, by omega⟩
  rw [h5, hn]
  push_cast
  rw [Int.add_mul, Int.mul_comm 256 (p : Int), Int.mul_assoc (p : Int) 256 M]
  omega
theorem posA_top : ∀ a < 4, ∀ b < 4, ∀ o < 2, posA (64 * a + 4 * b + o) / 4 < 16 := by decide +kernel
theorem turnP0 {o : Nat} {F n n' b b1 b2 t t2 b' M xi xj : Int} (ho : o < 2) (hxi : 0 ≤ xi) (hxj : 0 ≤ xj) (hxi4 : xi < 4) (hxj4 : xj < 4) (hM : M = 72057594037927936) (hF : 0 ≤ F) (hFK : F % 1152921504606846976 = 0)
    (hn : n = F) (hb : b = (o : Int)) (h1 : b1 = b + xi % 16 * 64) (h2 : b2 = b1 + xj % 16 * 4) (h3 : t = (posA (b2 / 128 * 128 + b2 % 128).toNat : Nat)) (h4 : t2 = t) (h5 : n' = Builtin.bitOr n (t2 / 4 * M)) (h6 : b' = t2 % 4) :
    n' = F + ((enc 4 o xi.toNat xj.toNat).1 : Int) * M ∧ b' = ((enc 4 o xi.toNat xj.toNat).2 : Int) := by
  have e := enc4 0 o xi.toNat xj.toNat (by omega)
  have hidx : (b2 / 128 * 128 + b2 % 128).toNat = 64 * (xi.toNat % 16) + 4 * (xj.toNat % 16) + o := by omega
  rw [hidx] at h3
  have e1 : xi.toNat % 16 = xi.toNat := by omega
  have e2 : xj.toNat % 16 = xj.toNat := by omega
  have hlt := posA_top xi.toNat (by omega) xj.toNat (by omega) o ho
  rw [e1, e2] at h3
  have e0 : enc 0 o (xi.toNat / 16) (xj.toNat / 16) = (0, o) := rfl
  rw [e0, e1, e2] at e
  show n' = F + ((enc (0 + 4) o xi.toNat xj.toNat).1 : Int) * M ∧ b' = ((enc (0 + 4) o xi.toNat xj.toNat).2 : Int)
  rw [e]
  generalize posA (64 * xi.toNat + 4 * xj.toNat + o) = v at h3 hlt ⊢
  subst h4 h3 hM
  rw [bitOr_add 60 (by omega) (by omega) (by omega) (by omega)] at h5
  simp only
  exact ⟨by omega, by omega⟩
theorem tn16 {i c c' : Int} (hi : 0 ≤ i) (hc : 0 < c) (e : c * 16 = c') : (i / c).toNat / 16 = (i / c').toNat := by
  rw [← e, ← Int.ediv_ediv_of_nonneg (Int.le_of_lt hc)]
  have := Int.ediv_nonneg hi (Int.le_of_lt hc)
  omega
theorem fmodK {face : Int} {K : Nat} (h : K ≤ 60) : face * 1152921504606846976 % 2 ^ K = 0 := by
  have e : (1152921504606846976 : Int) = 2 ^ (60 - K) * 2 ^ K := by
    rw [← Int.pow_add, Nat.sub_add_cancel h]
    rfl
  rw [e, ← Int.mul_assoc, Int.mul_emod_left]
theorem lt4 {i : Int} (h : i < 1073741824) : i / 268435456 < 4 := by omega
theorem fpar {face : Int} (h : 0 ≤ face) : face % 2 = ((face.toNat % 2 : Nat) : Int) := by omega
theorem ffij_fin {face n0 : Int} {p : Nat} (hf : 0 ≤ face) (hf' : face < 6) (hp : p < 4 ^ 30) (e : n0 = face * 1152921504606846976 + (p : Int) * 1) : (n0 * 2 + 1) % 18446744073709551615 = (((face.toNat * 4 ^ 30 + p) * 2 + 1 : Nat) : Int) := by
  omega
theorem ffij_end {face i j n8 b8 x0 y0 t0 u0 n0 x1 y1 t1 u1 n1 b1 x2 y2 t2 u2 n2 b2 x3 y3 t3 u3 n3 b3 x4 y4 t4 u4 n4 b4 x5 y5 t5 u5 n5 b5 x6 y6 t6 u6 n6 b6 x7 y7 t7 u7 n7 b7 : Int} (hf : 0 ≤ face) (hf' : face < 6) (hi : 0 ≤ i) (hi' : i < 1073741824) (hj : 0 ≤ j) (hj' : j < 1073741824)
    (hn0 : n0 = Builtin.bitOr n1 (u0 / 4 * 1)) (hu0 : u0 = t0) (ht0 : t0 = (posA (y0 / 128 * 128 + y0 % 128).toNat : Nat)) (hy0 : y0 = x0 + j / 1 % 16 * 4) (hx0 : x0 = b1 + i / 1 % 16 * 64) (hb1 : b1 = u1 % 4) 
    (hn1 : n1 = Builtin.bitOr n2 (u1 / 4 * 256)) (hu1 : u1 = t1) (ht1 : t1 = (posA (y1 / 128 * 128 + y1 % 128).toNat : Nat)) (hy1 : y1 = x1 + j / 16 % 16 * 4) (hx1 : x1 = b2 + i / 16 % 16 * 64) (hb2 : b2 = u2 % 4) 
    (hn2 : n2 = Builtin.bitOr n3 (u2 / 4 * 65536)) (hu2 : u2 = t2) (ht2 : t2 = (posA (y2 / 128 * 128 + y2 % 128).toNat : Nat)) (hy2 : y2 = x2 + j / 256 % 16 * 4) (hx2 : x2 = b3 + i / 256 % 16 * 64) (hb3 : b3 = u3 % 4) 
    (hn3 : n3 = Builtin.bitOr n4 (u3 / 4 * 16777216)) (hu3 : u3 = t3) (ht3 : t3 = (posA (y3 / 128 * 128 + y3 % 128).toNat : Nat)) (hy3 : y3 = x3 + j / 4096 % 16 * 4) (hx3 : x3 = b4 + i / 4096 % 16 * 64) (hb4 : b4 = u4 % 4) 
    (hn4 : n4 = Builtin.bitOr n5 (u4 / 4 * 4294967296)) (hu4 : u4 = t4) (ht4 : t4 = (posA (y4 / 128 * 128 + y4 % 128).toNat : Nat)) (hy4 : y4 = x4 + j / 65536 % 16 * 4) (hx4 : x4 = b5 + i / 65536 % 16 * 64) (hb5 : b5 = u5 % 4) 
    (hn5 : n5 = Builtin.bitOr n6 (u5 / 4 * 1099511627776)) (hu5 : u5 = t5) (ht5 : t5 = (posA (y5 / 128 * 128 + y5 % 128).toNat : Nat)) (hy5 : y5 = x5 + j / 1048576 % 16 * 4) (hx5 : x5 = b6 + i / 1048576 % 16 * 64) (hb6 : b6 = u6 % 4) 
    (hn6 : n6 = Builtin.bitOr n7 (u6 / 4 * 281474976710656)) (hu6 : u6 = t6) (ht6 : t6 = (posA (y6 / 128 * 128 + y6 % 128).toNat : Nat)) (hy6 : y6 = x6 + j / 16777216 % 16 * 4) (hx6 : x6 = b7 + i / 16777216 % 16 * 64) (hb7 : b7 = u7 % 4) 
    (hn7 : n7 = Builtin.bitOr n8 (u7 / 4 * 72057594037927936)) (hu7 : u7 = t7) (ht7 : t7 = (posA (y7 / 128 * 128 + y7 % 128).toNat : Nat)) (hy7 : y7 = x7 + j / 268435456 % 16 * 4) (hx7 : x7 = b8 + i / 268435456 % 16 * 64) 
    (hb8 : b8 = face % 2) (hn8 : n8 = face * 1152921504606846976) : (n0 * 2 + 1) % 18446744073709551615 = lid face i j := by
  have ho : face.toNat % 2 < 2 := Nat.mod_lt _ (by decide)
  have ho4 : face.toNat % 2 < 4 := Nat.lt_of_lt_of_le ho (by decide)
  have hF0 : 0 ≤ face * 1152921504606846976 := Int.mul_nonneg hf (by decide)
  have nn : ∀ {x c : Int}, 0 ≤ x → 0 ≤ c → 0 ≤ x / c := fun h1 h2 => Int.ediv_nonneg h1 h2
  have q7 := turnP0 (o := face.toNat % 2) (F := face * 1152921504606846976) ho (nn hi (by decide)) (nn hj (by decide)) (lt4 hi') (lt4 hj') rfl hF0 (fmodK (K := 60) (by decide)) hn8 (hb8.trans (fpar hf)) hx7 hy7 ht7 hu7 hn7 rfl
  have q6 := turnP (l := 4) (o := face.toNat % 2) (F := face * 1152921504606846976) 56 ho4 (nn hi (by decide)) (nn hj (by decide)) (tn16 hi (by decide) (by decide)) (tn16 hj (by decide) (by decide)) (by decide) hF0 (fmodK (by decide)) q7.1 (hb7.trans q7.2) hx6 hy6 ht6 hu6 hn6 rfl
  have q5 := turnP (l := 8) (o := face.toNat % 2) (F := face * 1152921504606846976) 48 ho4 (nn hi (by decide)) (nn hj (by decide)) (tn16 hi (by decide) (by decide)) (tn16 hj (by decide) (by decide)) (by decide) hF0 (fmodK (by decide)) q6.1 (hb6.trans q6.2) hx5 hy5 ht5 hu5 hn5 rfl
  have q4 := turnP (l := 12) (o := face.toNat % 2) (F := face * 1152921504606846976) 40 ho4 (nn hi (by decide)) (nn hj (by decide)) (tn16 hi (by decide) (by decide)) (tn16 hj (by decide) (by decide)) (by decide) hF0 (fmodK (by decide)) q5.1 (hb5.trans q5.2) hx4 hy4 ht4 hu4 hn4 rfl
  have q3 := turnP (l := 16) (o := face.toNat % 2) (F := face * 1152921504606846976) 32 ho4 (nn hi (by decide)) (nn hj (by decide)) (tn16 hi (by decide) (by decide)) (tn16 hj (by decide) (by decide)) (by decide) hF0 (fmodK (by decide)) q4.1 (hb4.trans q4.2) hx3 hy3 ht3 hu3 hn3 rfl
  have q2 := turnP (l := 20) (o := face.toNat % 2) (F := face * 1152921504606846976) 24 ho4 (nn hi (by decide)) (nn hj (by decide)) (tn16 hi (by decide) (by decide)) (tn16 hj (by decide) (by decide)) (by decide) hF0 (fmodK (by decide)) q3.1 (hb3.trans q3.2) hx2 hy2 ht2 hu2 hn2 rfl
  have q1 := turnP (l := 24) (o := face.toNat % 2) (F := face * 1152921504606846976) 16 ho4 (nn hi (by decide)) (nn hj (by decide)) (tn16 hi (by decide) (by decide)) (tn16 hj (by decide) (by decide)) (by decide) hF0 (fmodK (by decide)) q2.1 (hb2.trans q2.2) hx1 hy1 ht1 hu1 hn1 rfl
  have q0 := turnP (l := 28) (o := face.toNat % 2) (F := face * 1152921504606846976) 8 ho4 (nn hi (by decide)) (nn hj (by decide)) (tn16 hi (by decide) (by decide)) (tn16 hj (by decide) (by decide)) (by decide) hF0 (fmodK (by decide)) q1.1 (hb1.trans q1.2) hx0 hy0 ht0 hu0 hn0 rfl
  have e : n0 = face * 1152921504606846976 + ((enc 32 (face.toNat % 2) (i / 1).toNat (j / 1).toNat).1 : Int) * 1 := q0.1
  have hti : ∀ {x : Int}, x < 1073741824 → x.toNat < 1073741824 := fun h => by omega
  rw [Int.ediv_one, Int.ediv_one, enc32 _ _ _ ho (hti hi') (hti hj')] at e
  exact ffij_fin hf hf' (enc_p 30 (face.toNat % 2) i.toNat j.toNat ho4) e
end Mine
open PySem PySem.W PySem.Calls PyProof.Rows
set_option maxRecDepth 100000
set_option maxHeartbeats 4000000
set_option linter.unusedVariables false
namespace Mine
def dec : Nat → Nat → Nat → Nat × Nat × Nat
  | 0, o, _ => (0, 0, o)
  | l + 1, o, p => stepI (dec l o (p / 4)) (p % 4)
theorem ijq_lt : ∀ o < 4, ∀ x < 4, ijq o x < 4 := by decide
theorem ijq_qij : ∀ o < 4, ∀ x < 4, ijq o (qij o x) = x := by decide
theorem qij_ijq : ∀ o < 4, ∀ x < 4, qij o (ijq o x) = x := by decide
theorem dec_o (l : Nat) : ∀ o p, o < 4 → (dec l o p).2.2 < 4 := by
  induction l with
  | zero => intro o p h; exact h
  | succ l ih =>
    intro o p h
    exact hO_lt _ (ih o (p / 4) h) _ (by omega)
theorem dec_enc (l : Nat) : ∀ o i j, o < 4 → i < 2 ^ l → j < 2 ^ l → dec l o (enc l o i j).1 = (i, j, (enc l o i j).2) := by
  induction l with
  | zero => intro o i j h hi hj; simp only [dec, enc]; have h1 : i = 0 := by omega
            have h2 : j = 0 := by omega
            rw [h1, h2]
  | succ l ih =>
    intro o i j h hi hj
    have hp := enc_o l o (i / 2) (j / 2) h
    have hi' : i / 2 < 2 ^ l := by rw [Nat.pow_succ] at hi; omega
    have hj' : j / 2 < 2 ^ l := by rw [Nat.pow_succ] at hj; omega
    have ih' := ih o (i / 2) (j / 2) h hi' hj'
    have hq := qij_lt _ hp (2 * (i % 2) + j % 2) (by omega)
    have hx := ijq_qij _ hp (2 * (i % 2) + j % 2) (by omega)
    show stepI (dec l o ((stepP (enc l o (i / 2) (j / 2)) (2 * (i % 2) + j % 2)).1 / 4)) ((stepP (enc l o (i / 2) (j / 2)) (2 * (i % 2) + j % 2)).1 % 4) = (i, j, (stepP (enc l o (i / 2) (j / 2)) (2 * (i % 2) + j % 2)).2)
    simp only [stepP]
    have e1 : (4 * (enc l o (i / 2) (j / 2)).1 + qij (enc l o (i / 2) (j / 2)).2 (2 * (i % 2) + j % 2)) / 4 = (enc l o (i / 2) (j / 2)).1 := by omega
    have e2 : (4 * (enc l o (i / 2) (j / 2)).1 + qij (enc l o (i / 2) (j / 2)).2 (2 * (i % 2) + j % 2)) % 4 = qij (enc l o (i / 2) (j / 2)).2 (2 * (i % 2) + j % 2) := by omega
    rw [e1, e2, ih']
    simp only [stepI, hx]
    refine Prod.ext (by simp only; omega) (Prod.ext (by simp only; omega) rfl)
theorem enc_dec (l : Nat) : ∀ o p, o < 4 → enc l o (dec l o p).1 (dec l o p).2.1 = (p % 4 ^ l, (dec l o p).2.2) := by
  induction l with
  | zero => intro o p h; simp only [enc, dec]; refine Prod.ext ?_ rfl; simp only [Nat.pow_zero]; omega
  | succ l ih =>
    intro o p h
    have hp := dec_o l o (p / 4) h
    have ih' := ih o (p / 4) h
    have hx := ijq_lt _ hp (p % 4) (by omega)
    have hq := qij_ijq _ hp (p % 4) (by omega)
    show stepP (enc l o ((stepI (dec l o (p / 4)) (p % 4)).1 / 2) ((stepI (dec l o (p / 4)) (p % 4)).2.1 / 2)) (2 * ((stepI (dec l o (p / 4)) (p % 4)).1 % 2) + (stepI (dec l o (p / 4)) (p % 4)).2.1 % 2) = _
    simp only [stepI]
    have e1 : (2 * (dec l o (p / 4)).1 + ijq (dec l o (p / 4)).2.2 (p % 4) / 2) / 2 = (dec l o (p / 4)).1 := by omega
    have e2 : (2 * (dec l o (p / 4)).2.1 + ijq (dec l o (p / 4)).2.2 (p % 4) % 2) / 2 = (dec l o (p / 4)).2.1 := by omega
    have e3 : 2 * ((2 * (dec l o (p / 4)).1 + ijq (dec l o (p / 4)).2.2 (p % 4) / 2) % 2) + (2 * (dec l o (p / 4)).2.1 + ijq (dec l o (p / 4)).2.2 (p % 4) % 2) % 2 = ijq (dec l o (p / 4)).2.2 (p % 4) := by omega
    rw [e1, e2, e3, ih']
    simp only [stepP, hq]
    refine Prod.ext ?_ rfl
    simp only
    have e4 : p % 4 ^ (l + 1) = 4 * (p / 4 % 4 ^ l) + p % 4 := by
      rw [Nat.pow_succ, Nat.mul_comm (4 ^ l) 4, Nat.mod_mul]
      omega
    rw [e4]
theorem dec_bound (l : Nat) : ∀ o p, o < 4 → (dec l o p).1 < 2 ^ l ∧ (dec l o p).2.1 < 2 ^ l := by
  induction l with
  | zero => intro o p h; exact ⟨Nat.one_pos, Nat.one_pos⟩
  | succ l ih =>
    intro o p h
    have h1 := ih o (p / 4) h
    have h2 := ijq_lt _ (dec_o l o (p / 4) h) (p % 4) (by omega)
    show 2 * _ + _ / 2 < 2 ^ l * 2 ∧ 2 * _ + _ % 2 < 2 ^ l * 2
    omega
theorem dec_add (a b : Nat) : ∀ o p, dec (a + b) o p = ((dec a o (p / 4 ^ b)).1 * 2 ^ b + (dec b (dec a o (p / 4 ^ b)).2.2 p).1, (dec a o (p / 4 ^ b)).2.1 * 2 ^ b + (dec b (dec a o (p / 4 ^ b)).2.2 p).2.1, (dec b (dec a o (p / 4 ^ b)).2.2 p).2.2) := by
  induction b with
  | zero => intro o p; simp [dec]
  | succ b ih =>
    intro o p
    have e1 : p / 4 / 4 ^ b = p / 4 ^ (b + 1) := by rw [Nat.div_div_eq_div_mul, Nat.pow_succ, Nat.mul_comm]
    show stepI (dec (a + b) o (p / 4)) _ = (_, _, (stepI (dec b _ (p / 4)) (p % 4)).2.2)
    rw [ih o (p / 4), e1]
    show _ = (_ + (stepI (dec b _ (p / 4)) (p % 4)).1, _ + (stepI (dec b _ (p / 4)) (p % 4)).2.1, _)
    simp only [stepI]
    generalize (dec a o (p / 4 ^ (b + 1))) = ra
    have h2 : ∀ x : Nat, x * 2 ^ (b + 1) = 2 * (x * 2 ^ b) := by intro x; rw [Nat.pow_succ, ← Nat.mul_assoc, Nat.mul_comm]
    rw [h2, h2]
    refine Prod.ext (by simp only; omega) (Prod.ext (by simp only; omega) rfl)
theorem dec_mod (b : Nat) : ∀ o p, dec b o (p % 4 ^ b) = dec b o p := by
  induction b with
  | zero => intro o p; rfl
  | succ b ih =>
    intro o p
    have e : p % 4 ^ (b + 1) / 4 = p / 4 % 4 ^ b := by rw [Nat.pow_succ, Nat.mul_comm, Nat.mod_mul_right_div_self]
    have f : p % 4 ^ (b + 1) % 4 = p % 4 := by rw [Nat.pow_succ, Nat.mul_comm, Nat.mod_mul_right_mod]
    show stepI (dec b o (p % 4 ^ (b + 1) / 4)) (p % 4 ^ (b + 1) % 4) = stepI (dec b o (p / 4)) (p % 4)
    rw [e, f, ih]
theorem ijA_spec : ∀ p < 256, ∀ o < 4, stepI (stepI (stepI (stepI (0, 0, o) (p / 64 % 4)) (p / 16 % 4)) (p / 4 % 4)) (p % 4) = (ijA (4 * p + o) / 64, ijA (4 * p + o) / 4 % 16, ijA (4 * p + o) % 4) := by decide +kernel
theorem stepI4 (r : Nat × Nat × Nat) (w x y z : Nat) : stepI (stepI (stepI (stepI r w) x) y) z = (16 * r.1 + (stepI (stepI (stepI (stepI (0, 0, r.2.2) w) x) y) z).1, 16 * r.2.1 + (stepI (stepI (stepI (stepI (0, 0, r.2.2) w) x) y) z).2.1, (stepI (stepI (stepI (stepI (0, 0, r.2.2) w) x) y) z).2.2) := by
  simp only [stepI]
  refine Prod.ext (by simp only; omega) (Prod.ext (by simp only; omega) rfl)
theorem dec4 (l o p : Nat) (ho : o < 4) : dec (l + 4) o p = (16 * (dec l o (p / 256)).1 + ijA (4 * (p % 256) + (dec l o (p / 256)).2.2) / 64, 16 * (dec l o (p / 256)).2.1 + ijA (4 * (p % 256) + (dec l o (p / 256)).2.2) / 4 % 16, ijA (4 * (p % 256) + (dec l o (p / 256)).2.2) % 4) := by
  have h := ijA_spec (p % 256) (by omega) _ (dec_o l o (p / 256) ho)
  show stepI (stepI (stepI (stepI (dec l o (p / 4 / 4 / 4 / 4)) _) _) _) _ = _
  rw [stepI4]
  have e1 : p / 4 / 4 / 4 / 4 = p / 256 := by omega
  have f1 : p / 4 / 4 / 4 % 4 = p % 256 / 64 % 4 := by omega
  have f2 : p / 4 / 4 % 4 = p % 256 / 16 % 4 := by omega
  have f3 : p / 4 % 4 = p % 256 / 4 % 4 := by omega
  have f4 : p % 4 = p % 256 % 4 := by omega
  rw [e1, f1, f2, f3, f4, h]
theorem dec_zero2 : ∀ o < 2, dec 2 o 0 = (0, 0, o) := by decide
theorem dec32 (o p : Nat) (ho : o < 2) (hp : p < 4 ^ 30) : dec 32 o p = dec 30 o p := by
  have h := dec_add 2 30 o p
  have e1 : p / 4 ^ 30 = 0 := by omega
  rw [e1, dec_zero2 o ho] at h
  rw [h]
  simp
/-- the cell (row I, column J) of level l on face f -/
def cid (l f I J : Nat) : Int := (((f * 4 ^ l + (enc l (f % 2) I J).1) * 2 + 1) * 4 ^ (30 - l) : Nat)
theorem lid_cid (f i j : Nat) : lid f i j = cid 30 f i j := by
  unfold lid cid
  simp
def near (m o : Nat) : Nat := if m = 0 then 0 else if o < 2 then 2 ^ (m - 1) else 2 ^ (m - 1) - 1
theorem dec_zeros (m : Nat) : ∀ o < 4, dec m o 0 = (if o < 2 then 0 else 2 ^ m - 1, if o < 2 then 0 else 2 ^ m - 1, if m % 2 = 0 then o else o ^^^ 1) := by
  induction m with
  | zero => decide
  | succ m ih =>
    intro o ho
    show stepI (dec m o (0 / 4)) (0 % 4) = _
    rw [show 0 / 4 = 0 from rfl, ih o ho]
    have hm := Nat.two_pow_pos m
    have h2 : 2 ^ (m + 1) = 2 ^ m * 2 := Nat.pow_succ ..
    match o, ho with
    | 0, _ | 1, _ | 2, _ | 3, _ =>
      by_cases hm2 : m % 2 = 0
      · have hm3 : (m + 1) % 2 = 1 := by omega
        simp [hm2, hm3, stepI, ijq, hO] <;> omega
      · have hm3 : (m + 1) % 2 = 0 := by omega
        simp [hm2, hm3, stepI, ijq, hO] <;> omega
theorem ijq2 : ∀ o < 4, ijq o 2 = (if o < 2 then 3 else 0) ∧ hO o 2 = o := by decide
theorem dec_half (m o : Nat) (ho : o < 4) : dec (m + 1) o (2 * 4 ^ m) = (near (m + 1) o, near (m + 1) o, if m % 2 = 0 then o else o ^^^ 1) := by
  have h := dec_add 1 m o (2 * 4 ^ m)
  have hp : 0 < 4 ^ m := Nat.pos_of_ne_zero (by simp)
  rw [Nat.mul_div_cancel _ hp] at h
  rw [Nat.add_comm m 1, h]
  have e0 : dec 1 o 2 = (ijq o 2 / 2, ijq o 2 % 2, hO o 2) := by simp [dec, stepI]
  have q := ijq2 o ho
  rw [e0, q.1, q.2]
  have e1 : dec m o (2 * 4 ^ m) = dec m o 0 := by rw [← dec_mod m o (2 * 4 ^ m), Nat.mul_mod_left]
  simp only
  rw [e1, dec_zeros m o ho]
  unfold near
  by_cases h2 : o < 2
  · simp [h2]
  · simp [h2]
end Mine
open PySem PySem.W PySem.Calls PyProof.Rows
set_option maxRecDepth 100000
set_option maxHeartbeats 4000000
set_option linter.unusedVariables false
namespace Mine

/-- what to_face_ij_orientation reads off a number: row, column, orientation (before its last turn) -/
def ijo (n : Int) : Nat × Nat × Nat := dec 30 (n / 2305843009213693952 % 2).toNat (n / 2 % 1152921504606846976).toNat
theorem turnI {l o X x : Nat} {i i' j j' b b1 t t2 b' D S : Int} (ho : o < 4) (hX : x / 256 = X) (hD : D = ((x % 256 : Nat) : Int))
    (hi : i = ((dec l o X).1 : Int) * (16 * S)) (hj : j = ((dec l o X).2.1 : Int) * (16 * S)) (hb : b = ((dec l o X).2.2 : Int)) (h1 : b1 = b + D * 4) (h3 : t = (ijA (b1 / 128 * 128 + b1 % 128).toNat : Nat)) (h4 : t2 = t)
    (hi' : i' = i + t2 / 64 * S) (hj' : j' = j + t2 / 4 % 16 * S) (h6 : b' = t2 % 4) :
    i' = ((dec (l + 4) o x).1 : Int) * S ∧ j' = ((dec (l + 4) o x).2.1 : Int) * S ∧ b' = ((dec (l + 4) o x).2.2 : Int) := by
  have hr := dec_o l o X ho
  have e := dec4 l o x ho
  rw [hX] at e
  have hidx : (b1 / 128 * 128 + b1 % 128).toNat = 4 * (x % 256) + (dec l o X).2.2 := by omega
  rw [hidx] at h3
  rw [e]
  generalize ijA (4 * (x % 256) + (dec l o X).2.2) = v at h3 ⊢
  generalize (dec l o X).1 = p at hi ⊢
  generalize (dec l o X).2.1 = q at hj ⊢
  subst h4 h3
  refine ⟨?_, ?_, by simp only; omega⟩
  · rw [hi', hi]
    push_cast
    rw [Int.add_mul, Int.mul_comm 16 (p : Int), Int.mul_assoc (p : Int) 16 S]
  · rw [hj', hj]
    push_cast
    rw [Int.add_mul, Int.mul_comm 16 (q : Int), Int.mul_assoc (q : Int) 16 S]
theorem tdig {n : Int} {P : Nat} (hn : 0 ≤ n) (hP : (n / 2 % 1152921504606846976).toNat = P) :
    n / 144115188075855872 % 16 = ((P / 72057594037927936 % 256 : Nat) : Int) ∧ n / 562949953421312 % 256 = ((P / 281474976710656 % 256 : Nat) : Int) ∧ n / 2199023255552 % 256 = ((P / 1099511627776 % 256 : Nat) : Int) ∧ n / 8589934592 % 256 = ((P / 4294967296 % 256 : Nat) : Int) ∧
    n / 33554432 % 256 = ((P / 16777216 % 256 : Nat) : Int) ∧ n / 131072 % 256 = ((P / 65536 % 256 : Nat) : Int) ∧ n / 512 % 256 = ((P / 256 % 256 : Nat) : Int) ∧ n / 2 % 256 = ((P / 1 % 256 : Nat) : Int) := by
  refine ⟨?_, ?_, ?_, ?_, ?_, ?_, ?_, ?_⟩ <;> omega
theorem tdiv (P c c' : Nat) (e : c * 256 = c') : P / c / 256 = P / c' := by rw [Nat.div_div_eq_div_mul, e]
theorem tlt {n : Int} {P : Nat} (hP : (n / 2 % 1152921504606846976).toNat = P) : P < 4 ^ 30 := by omega
theorem tpar {n : Int} {o : Nat} (ho' : (n / 2305843009213693952 % 2).toNat = o) : n / 2305843009213693952 % 2 = ((o : Nat) : Int) ∧ o < 2 := by omega
theorem toij_end {n i8 j8 b8 b0 x0 t0 u0 i0 j0 x1 t1 u1 i1 j1 b1 x2 t2 u2 i2 j2 b2 x3 t3 u3 i3 j3 b3 x4 t4 u4 i4 j4 b4 x5 t5 u5 i5 j5 b5 x6 t6 u6 i6 j6 b6 x7 t7 u7 i7 j7 b7 : Int} (hn0 : 0 ≤ n)
    (hi0 : i0 = i1 + u0 / 64 * 1) (hj0 : j0 = j1 + u0 / 4 % 16 * 1) (hb0 : b0 = u0 % 4) (hu0 : u0 = t0) (ht0 : t0 = (ijA (x0 / 128 * 128 + x0 % 128).toNat : Nat)) (hx0 : x0 = b1 + n / 2 % 256 * 4)
    (hi1 : i1 = i2 + u1 / 64 * 16) (hj1 : j1 = j2 + u1 / 4 % 16 * 16) (hb1 : b1 = u1 % 4) (hu1 : u1 = t1) (ht1 : t1 = (ijA (x1 / 128 * 128 + x1 % 128).toNat : Nat)) (hx1 : x1 = b2 + n / 512 % 256 * 4)
    (hi2 : i2 = i3 + u2 / 64 * 256) (hj2 : j2 = j3 + u2 / 4 % 16 * 256) (hb2 : b2 = u2 % 4) (hu2 : u2 = t2) (ht2 : t2 = (ijA (x2 / 128 * 128 + x2 % 128).toNat : Nat)) (hx2 : x2 = b3 + n / 131072 % 256 * 4)
    (hi3 : i3 = i4 + u3 / 64 * 4096) (hj3 : j3 = j4 + u3 / 4 % 16 * 4096) (hb3 : b3 = u3 % 4) (hu3 : u3 = t3) (ht3 : t3 = (ijA (x3 / 128 * 128 + x3 % 128).toNat : Nat)) (hx3 : x3 = b4 + n / 33554432 % 256 * 4)
    (hi4 : i4 = i5 + u4 / 64 * 65536) (hj4 : j4 = j5 + u4 / 4 % 16 * 65536) (hb4 : b4 = u4 % 4) (hu4 : u4 = t4) (ht4 : t4 = (ijA (x4 / 128 * 128 + x4 % 128).toNat : Nat)) (hx4 : x4 = b5 + n / 8589934592 % 256 * 4)
    (hi5 : i5 = i6 + u5 / 64 * 1048576) (hj5 : j5 = j6 + u5 / 4 % 16 * 1048576) (hb5 : b5 = u5 % 4) (hu5 : u5 = t5) (ht5 : t5 = (ijA (x5 / 128 * 128 + x5 % 128).toNat : Nat)) (hx5 : x5 = b6 + n / 2199023255552 % 256 * 4)
    (hi6 : i6 = i7 + u6 / 64 * 16777216) (hj6 : j6 = j7 + u6 / 4 % 16 * 16777216) (hb6 : b6 = u6 % 4) (hu6 : u6 = t6) (ht6 : t6 = (ijA (x6 / 128 * 128 + x6 % 128).toNat : Nat)) (hx6 : x6 = b7 + n / 562949953421312 % 256 * 4)
    (hi7 : i7 = i8 + u7 / 64 * 268435456) (hj7 : j7 = j8 + u7 / 4 % 16 * 268435456) (hb7 : b7 = u7 % 4) (hu7 : u7 = t7) (ht7 : t7 = (ijA (x7 / 128 * 128 + x7 % 128).toNat : Nat)) (hx7 : x7 = b8 + n / 144115188075855872 % 16 * 4)
    (hb8 : b8 = n / 2305843009213693952 % 2) (hi8 : i8 = 0) (hj8 : j8 = 0) : i0 = ((ijo n).1 : Int) ∧ j0 = ((ijo n).2.1 : Int) ∧ b0 = ((ijo n).2.2 : Int) := by
  unfold ijo
  generalize hP : (n / 2 % 1152921504606846976).toNat = P
  generalize ho' : (n / 2305843009213693952 % 2).toNat = o
  have ho := (tpar ho').2
  have ho4 : o < 4 := Nat.lt_of_lt_of_le ho (by decide)
  obtain ⟨d7, d6, d5, d4, d3, d2, d1, d0⟩ := tdig hn0 hP
  have q8 : i8 = ((dec 0 o (P / 18446744073709551616)).1 : Int) * (16 * 268435456) ∧ j8 = ((dec 0 o (P / 18446744073709551616)).2.1 : Int) * (16 * 268435456) ∧ b8 = ((dec 0 o (P / 18446744073709551616)).2.2 : Int) := by
    simp only [dec]
    exact ⟨hi8.trans (by rw [Int.natCast_zero, Int.zero_mul]), hj8.trans (by rw [Int.natCast_zero, Int.zero_mul]), hb8.trans (tpar ho').1⟩
  have q7 := turnI (l := 0) (o := o) (X := P / 18446744073709551616) (x := P / 72057594037927936) (S := 268435456) ho4 (tdiv P _ _ (by decide)) d7 (q8.1.trans (by simp only [Int.reduceMul])) (q8.2.1.trans (by simp only [Int.reduceMul])) q8.2.2 hx7 ht7 hu7 hi7 hj7 hb7
  have q6 := turnI (l := 4) (o := o) (X := P / 72057594037927936) (x := P / 281474976710656) (S := 16777216) ho4 (tdiv P _ _ (by decide)) d6 (q7.1.trans (by simp only [Int.reduceMul])) (q7.2.1.trans (by simp only [Int.reduceMul])) q7.2.2 hx6 ht6 hu6 hi6 hj6 hb6
  have q5 := turnI (l := 8) (o := o) (X := P / 281474976710656) (x := P / 1099511627776) (S := 1048576) ho4 (tdiv P _ _ (by decide)) d5 (q6.1.trans (by simp only [Int.reduceMul])) (q6.2.1.trans (by simp only [Int.reduceMul])) q6.2.2 hx5 ht5 hu5 hi5 hj5 hb5
  have q4 := turnI (l := 12) (o := o) (X := P / 1099511627776) (x := P / 4294967296) (S := 65536) ho4 (tdiv P _ _ (by decide)) d4 (q5.1.trans (by simp only [Int.reduceMul])) (q5.2.1.trans (by simp only [Int.reduceMul])) q5.2.2 hx4 ht4 hu4 hi4 hj4 hb4
  have q3 := turnI (l := 16) (o := o) (X := P / 4294967296) (x := P / 16777216) (S := 4096) ho4 (tdiv P _ _ (by decide)) d3 (q4.1.trans (by simp only [Int.reduceMul])) (q4.2.1.trans (by simp only [Int.reduceMul])) q4.2.2 hx3 ht3 hu3 hi3 hj3 hb3
  have q2 := turnI (l := 20) (o := o) (X := P / 16777216) (x := P / 65536) (S := 256) ho4 (tdiv P _ _ (by decide)) d2 (q3.1.trans (by simp only [Int.reduceMul])) (q3.2.1.trans (by simp only [Int.reduceMul])) q3.2.2 hx2 ht2 hu2 hi2 hj2 hb2
  have q1 := turnI (l := 24) (o := o) (X := P / 65536) (x := P / 256) (S := 16) ho4 (tdiv P _ _ (by decide)) d1 (q2.1.trans (by simp only [Int.reduceMul])) (q2.2.1.trans (by simp only [Int.reduceMul])) q2.2.2 hx1 ht1 hu1 hi1 hj1 hb1
  have q0 := turnI (l := 28) (o := o) (X := P / 256) (x := P / 1) (S := 1) ho4 (tdiv P _ _ (by decide)) d0 (q1.1.trans (by simp only [Int.reduceMul])) (q1.2.1.trans (by simp only [Int.reduceMul])) q1.2.2 hx0 ht0 hu0 hi0 hj0 hb0
  have e : dec (28 + 4) o (P / 1) = dec 30 o P := by
    rw [Nat.div_one]
    exact dec32 o P ho (tlt hP)
  rw [e] at q0
  exact ⟨q0.1.trans (Int.mul_one _), q0.2.1.trans (Int.mul_one _), q0.2.2⟩
end Mine
open PySem PySem.W PySem.Calls PyProof.Rows
set_option maxRecDepth 100000
set_option maxHeartbeats 4000000
set_option linter.unusedVariables false
namespace Mine
/-- the lowest bit of (2 a + 1) 4 ^ m -/
theorem lsb4 (m : Nat) (a : Int) : Builtin.bitAnd ((2 * a + 1) * 4 ^ m) (-((2 * a + 1) * 4 ^ m)) = 4 ^ m := by
  have e : (4 : Int) ^ m = 2 ^ (2 * m) := by rw [Int.pow_mul]; rfl
  have h := kbt_low (2 * m) a
  rw [e, Int.mul_comm]
  exact h
theorem lev_bits : ∀ k < 16, (Builtin.bitAnd (4 ^ k) 21845 = 0 ↔ ¬ k < 8) ∧ (Builtin.bitAnd (4 ^ k) 5570645 = 0 ↔ ¬ k % 8 < 4) ∧ (Builtin.bitAnd (4 ^ k) 84215045 = 0 ↔ ¬ k % 4 < 2) ∧ (Builtin.bitAnd (4 ^ k) 286331153 = 0 ↔ ¬ k % 2 < 1) := by decide +kernel
end Mine
open PySem PySem.W PySem.Calls PyProof.Rows
set_option maxRecDepth 100000
set_option maxHeartbeats 4000000
set_option linter.unusedVariables false
namespace Mine
def ab (x : Int) : Int := if -x > x then -x else x
def lac (x y z : Int) : Int := if ab y < ab x then (if ab z < ab x then 0 else 2) else if ab z < ab y then 1 else 2
def fx (f u v : Int) : Int := if f = 0 then 1 else if f = 1 then -u else if f = 2 then -u else if f = 3 then -1 else if f = 4 then v else v
def fy (f u v : Int) : Int := if f = 0 then u else if f = 1 then 1 else if f = 2 then -v else if f = 3 then -v else if f = 4 then -1 else u
def fz (f u v : Int) : Int := if f = 0 then v else if f = 1 then v else if f = 2 then 1 else if f = 3 then -u else if f = 4 then -u else -1
def quo (a b : Int) : Int := (a * 18014398509481984 + b).fdiv (2 * b)
def uq (f x y z : Int) : Int := if f = 0 then quo y x else if f = 1 then quo (-x) y else if f = 2 then quo (-x) z else if f = 3 then quo z x else if f = 4 then quo z y else quo (-y) z
def vq (f x y z : Int) : Int := if f = 0 then quo z x else if f = 1 then quo z y else if f = 2 then quo (-y) z else if f = 3 then quo y x else if f = 4 then quo (-x) y else quo (-x) z
def fsel (x y z : Int) : Int := if (if lac x y z = 0 then x else if lac x y z = 1 then y else z) < 0 then lac x y z + 3 else lac x y z
def stij (v : Int) : Int := if (if v / 16777216 < 1073741823 then v / 16777216 else 1073741823) > 0 then (if v / 16777216 < 1073741823 then v / 16777216 else 1073741823) else 0
def clampF (a : Int) : Int := if (if a < 1073741824 then a else 1073741824) > -1 then (if a < 1073741824 then a else 1073741824) else -1
def wU (i : Int) : Int := 1 * (clampF i * 2 + 1 - 1073741824)
def wX (f i j : Int) : Int := fx f (wU i) (wU j) + fx f 0 0 * 1073741823
def wY (f i j : Int) : Int := fy f (wU i) (wU j) + fy f 0 0 * 1073741823
def wZ (f i j : Int) : Int := fz f (wU i) (wU j) + fz f 0 0 * 1073741823
def wF (f i j : Int) : Int := fsel (wX f i j) (wY f i j) (wZ f i j)
def wI (f i j : Int) : Int := stij (uq (wF f i j) (wX f i j) (wY f i j) (wZ f i j) + 9007199254740992)
def wJ (f i j : Int) : Int := stij (vq (wF f i j) (wX f i j) (wY f i j) (wZ f i j) + 9007199254740992)
end Mine
open PySem PySem.W PySem.Calls PyProof.Rows
set_option maxRecDepth 100000
set_option maxHeartbeats 4000000
set_option linter.unusedVariables false
namespace Mine
/-- a place on a neighbour's rim: the quotient by the line beyond the rim, as a row -/
def rS (a : Int) : Int := stij ((a * 18014398509481984 + 1073741825) / 2147483650 + 9007199254740992)
theorem stq_p (a : Int) : stij (quo a 1073741825 + 9007199254740992) = rS a := by
  unfold quo rS
  rw [Int.fdiv_eq_ediv_of_nonneg _ (by decide)]
  rfl
theorem stq_n (a : Int) : stij (quo a (-1073741825) + 9007199254740992) = rS (-a) := by
  unfold quo rS
  have e : (a * 18014398509481984 + -1073741825).fdiv (2 * -1073741825) = (-a * 18014398509481984 + 1073741825) / 2147483650 := by
    rw [← Int.fdiv_eq_ediv_of_nonneg _ (by decide), ← Int.neg_fdiv_neg (a * 18014398509481984 + -1073741825)]
    congr 1
    omega
  rw [e]
theorem stij_mid {v k : Int} (h0 : 0 ≤ k) (h1 : k < 1073741824) (h : v / 16777216 = k) : stij v = k := by
  unfold stij
  rw [h]
  split <;> split <;> omega
theorem rS_in {l : Int} (h1 : 32 ≤ l) (h2 : l < 1073741792) : rS (2 * l - 1073741823) = l := stij_mid (by omega) (by omega) (by omega)
theorem rS_mir {l : Int} (h1 : 32 ≤ l) (h2 : l < 1073741792) : rS (-(2 * l - 1073741823)) = 1073741823 - l := stij_mid (by omega) (by omega) (by omega)
theorem rS_hi : rS 1073741824 = 1073741823 := by decide
theorem rS_lo : rS (-1073741824) = 0 := by decide
theorem fsel_0 {x y z : Int} (h0 : 0 < x) (h1 : -x < y) (h2 : y < x) (h3 : -x < z) (h4 : z < x) : fsel x y z = 0 := by
  have e : lac x y z = 0 := by
    unfold lac ab
    split <;> split <;> omega
  unfold fsel
  rw [e]
  simp
  omega
theorem fsel_1 {x y z : Int} (h0 : 0 < y) (h1 : -y < x) (h2 : x < y) (h3 : -y < z) (h4 : z < y) : fsel x y z = 1 := by
  have e : lac x y z = 1 := by
    unfold lac ab
    split <;> split <;> omega
  unfold fsel
  rw [e]
  simp
  omega
theorem fsel_2 {x y z : Int} (h0 : 0 < z) (h1 : -z < x) (h2 : x < z) (h3 : -z < y) (h4 : y < z) : fsel x y z = 2 := by
  have e : lac x y z = 2 := by
    unfold lac ab
    split <;> split <;> omega
  unfold fsel
  rw [e]
  simp
  omega
theorem fsel_3 {x y z : Int} (h0 : x < 0) (h1 : x < y) (h2 : y < -x) (h3 : x < z) (h4 : z < -x) : fsel x y z = 3 := by
  have e : lac x y z = 0 := by
    unfold lac ab
    split <;> split <;> omega
  unfold fsel
  rw [e]
  simp
  omega
theorem fsel_4 {x y z : Int} (h0 : y < 0) (h1 : y < x) (h2 : x < -y) (h3 : y < z) (h4 : z < -y) : fsel x y z = 4 := by
  have e : lac x y z = 1 := by
    unfold lac ab
    split <;> split <;> omega
  unfold fsel
  rw [e]
  simp
  omega
theorem fsel_5 {x y z : Int} (h0 : z < 0) (h1 : z < x) (h2 : x < -z) (h3 : z < y) (h4 : y < -z) : fsel x y z = 5 := by
  have e : lac x y z = 2 := by
    unfold lac ab
    split <;> split <;> omega
  unfold fsel
  rw [e]
  simp
  omega
theorem clampF_in {l : Int} (h1 : 0 ≤ l) (h2 : l < 1073741824) : clampF l = l := by
  unfold clampF
  split <;> split <;> omega
theorem clampF_lo {l : Int} (h1 : l < 0) : clampF l = -1 := by
  unfold clampF
  split <;> split <;> omega
theorem clampF_hi {l : Int} (h1 : 1073741824 ≤ l) : clampF l = 1073741824 := by
  unfold clampF
  split <;> split <;> omega
theorem wU_in {l : Int} (h1 : 0 ≤ l) (h2 : l < 1073741824) : wU l = 2 * l - 1073741823 := by
  unfold wU
  rw [clampF_in h1 h2]
  omega
theorem wU_lo {l : Int} (h1 : l < 0) : wU l = -1073741825 := by
  unfold wU
  rw [clampF_lo h1]
  omega
theorem wU_hi {l : Int} (h1 : 1073741824 ≤ l) : wU l = 1073741825 := by
  unfold wU
  rw [clampF_hi h1]
  omega
/-- the rim crossed: what is beyond the four sides of the six faces; r, the row's place across the rim -/
theorem beyond (f l k : Int) (hf : f = 0 ∨ f = 1 ∨ f = 2 ∨ f = 3 ∨ f = 4 ∨ f = 5) (h1 : 0 ≤ l) (h2 : l < 1073741824) :
    (k < 0 → wF f l k = (f + (if f % 2 = 0 then 5 else 4)) % 6 ∧ wI f l k = (if f % 2 = 0 then rS (2 * l - 1073741823) else 1073741823) ∧ wJ f l k = (if f % 2 = 0 then 1073741823 else rS (-(2 * l - 1073741823)))) ∧
    (1073741824 ≤ k → wF f l k = (f + (if f % 2 = 0 then 2 else 1)) % 6 ∧ wI f l k = (if f % 2 = 0 then 0 else rS (2 * l - 1073741823)) ∧ wJ f l k = (if f % 2 = 0 then rS (-(2 * l - 1073741823)) else 0)) ∧
    (k < 0 → wF f k l = (f + (if f % 2 = 0 then 4 else 5)) % 6 ∧ wI f k l = (if f % 2 = 0 then rS (-(2 * l - 1073741823)) else 1073741823) ∧ wJ f k l = (if f % 2 = 0 then 1073741823 else rS (2 * l - 1073741823))) ∧
    (1073741824 ≤ k → wF f k l = (f + (if f % 2 = 0 then 1 else 2)) % 6 ∧ wI f k l = (if f % 2 = 0 then 0 else rS (-(2 * l - 1073741823))) ∧ wJ f k l = (if f % 2 = 0 then rS (2 * l - 1073741823) else 0)) := by
  have eU := wU_in h1 h2
  have nn : ∀ x : Int, - -x = x := fun x => by omega
  refine ⟨fun hk => ?_, fun hk => ?_, fun hk => ?_, fun hk => ?_⟩
  all_goals (first | (have eK := wU_lo hk) | (have eK := wU_hi hk))
  all_goals (unfold wI wJ wF)
  all_goals (rcases hf with rfl | rfl | rfl | rfl | rfl | rfl)
  all_goals (unfold wX wY wZ fx fy fz; rw [eU, eK]; simp (config := { decide := true }) only [if_true, if_false, reduceIte, Int.zero_mul, Int.one_mul, Int.add_zero, Int.reduceMul, Int.reduceAdd, Int.reduceNeg, nn, Int.neg_zero])
  all_goals (first | rw [fsel_0 (by omega) (by omega) (by omega) (by omega) (by omega)] | rw [fsel_1 (by omega) (by omega) (by omega) (by omega) (by omega)] | rw [fsel_2 (by omega) (by omega) (by omega) (by omega) (by omega)] | rw [fsel_3 (by omega) (by omega) (by omega) (by omega) (by omega)] | rw [fsel_4 (by omega) (by omega) (by omega) (by omega) (by omega)] | rw [fsel_5 (by omega) (by omega) (by omega) (by omega) (by omega)])
  all_goals (unfold uq vq; simp (config := { decide := true }) only [if_true, if_false, reduceIte, stq_p, stq_n, rS_hi, rS_lo, nn, Int.reduceNeg, true_and, and_true])
end Mine
open PySem PySem.W PySem.Calls PyProof.Rows
set_option maxRecDepth 100000
set_option maxHeartbeats 4000000
set_option linter.unusedVariables false
namespace Mine
theorem lid_b {f i j : Int} (hf : 0 ≤ f) (hf' : f < 6) : f * 2305843009213693952 ≤ lid f i j ∧ lid f i j < (f + 1) * 2305843009213693952 ∧ lid f i j % 2 = 1 := by
  have h := enc_p 30 (f.toNat % 2) i.toNat j.toNat (by omega)
  unfold lid
  omega
theorem lid_face {f i j : Int} (hf : 0 ≤ f) (hf' : f < 6) : lid f i j / 2305843009213693952 = f := by
  have h := lid_b (i := i) (j := j) hf hf'
  omega
theorem ijo_lid {f i j : Int} (hf : 0 ≤ f) (hf' : f < 6) (hi : 0 ≤ i) (hi' : i < 1073741824) (hj : 0 ≤ j) (hj' : j < 1073741824) : ((ijo (lid f i j)).1 : Int) = i ∧ ((ijo (lid f i j)).2.1 : Int) = j ∧ (ijo (lid f i j)).2.2 = (enc 30 (f.toNat % 2) i.toNat j.toNat).2 := by
  have h := enc_p 30 (f.toNat % 2) i.toNat j.toNat (by omega)
  have e1 : (lid f i j / 2305843009213693952 % 2).toNat = f.toNat % 2 := by
    rw [lid_face hf hf']
    omega
  have e2 : (lid f i j / 2 % 1152921504606846976).toNat = (enc 30 (f.toNat % 2) i.toNat j.toNat).1 := by
    unfold lid
    omega
  unfold ijo
  rw [e1, e2, dec_enc 30 _ _ _ (by omega) (by omega) (by omega)]
  refine ⟨?_, ?_, rfl⟩ <;> simp only <;> omega
theorem odd_lsb {n : Int} (h : n % 2 = 1) : Builtin.bitAnd n (-n) = 1 := by
  have e := lsb4 0 (n / 2)
  have e2 : (2 * (n / 2) + 1) * 4 ^ 0 = n := by
    rw [Int.pow_zero]
    omega
  rw [e2, Int.pow_zero] at e
  exact e
theorem odd_valid {n : Int} (h : n % 2 = 1) : Builtin.bitAnd (Builtin.bitAnd n (-n)) 1537228672809129301 ≠ 0 := by
  rw [odd_lsb h]
  decide +kernel
theorem odd_flip {n : Int} (h : n % 2 = 1) : Builtin.bitAnd (Builtin.bitAnd n (-n)) 1229782938247303440 = 0 := by
  rw [odd_lsb h]
  decide +kernel
/-- three faces on, rows and columns exchanged -/
theorem lid_across {f i j : Int} (hf : 0 ≤ f) (hf' : f < 6) : lid ((f + 3) % 6) j i = (lid f i j + 6917529027641081856) % 13835058055282163712 := by
  have ho : f.toNat % 2 < 4 := by omega
  have h := enc_p 30 (f.toNat % 2) i.toNat j.toNat ho
  have e := enc_swap 30 (f.toNat % 2) i.toNat j.toNat ho
  have e1 : (f.toNat % 2) ^^^ 1 = ((f + 3) % 6).toNat % 2 := by
    have : f = 0 ∨ f = 1 ∨ f = 2 ∨ f = 3 ∨ f = 4 ∨ f = 5 := by omega
    rcases this with rfl | rfl | rfl | rfl | rfl | rfl <;> rfl
  rw [e1] at e
  have e2 : (enc 30 (((f + 3) % 6).toNat % 2) j.toNat i.toNat).1 = (enc 30 (f.toNat % 2) i.toNat j.toNat).1 := by rw [e]
  unfold lid
  rw [e2]
  omega
/-- the rim crossed: face, side and row beyond -/
def crF (f s : Int) : Int := (f + (if s = 0 then (if f % 2 = 0 then 5 else 4) else if s = 1 then (if f % 2 = 0 then 1 else 2) else if s = 2 then (if f % 2 = 0 then 2 else 1) else (if f % 2 = 0 then 4 else 5))) % 6
def crS (f s : Int) : Int := if f % 2 = 0 then (if s = 0 then 2 else if s = 1 then 3 else if s = 2 then 3 else 2) else (if s = 0 then 1 else if s = 1 then 0 else if s = 2 then 0 else 1)
def crL (f s l : Int) : Int := if f % 2 = 0 then (if s = 0 then l else if s = 1 then l else if s = 2 then 1073741823 - l else 1073741823 - l) else (if s = 0 then 1073741823 - l else if s = 1 then 1073741823 - l else if s = 2 then l else l)
theorem cr_b {f s l : Int} (hs : s = 0 ∨ s = 1 ∨ s = 2 ∨ s = 3) (h1 : 32 ≤ l) (h2 : l < 1073741792) : 0 ≤ crF f s ∧ crF f s < 6 ∧ (crS f s = 0 ∨ crS f s = 1 ∨ crS f s = 2 ∨ crS f s = 3) ∧ 32 ≤ crL f s l ∧ crL f s l < 1073741792 := by
  refine ⟨?_, ?_, ?_, ?_, ?_⟩
  · unfold crF; omega
  · unfold crF; omega
  · unfold crS; rcases hs with rfl | rfl | rfl | rfl <;> split <;> simp
  · unfold crL; rcases hs with rfl | rfl | rfl | rfl <;> simp <;> split <;> omega
  · unfold crL; rcases hs with rfl | rfl | rfl | rfl <;> simp <;> split <;> omega
/-- the cell that the wrap gives beyond side s -/
theorem wrap_at {f l k : Int} (hf : 0 ≤ f) (hf' : f < 6) (h1 : 32 ≤ l) (h2 : l < 1073741792) (hp : f % 2 = 0 ∨ f % 2 = 1) :
    (k < 0 → (f % 2 = 0 → lid (wF f l k) (wI f l k) (wJ f l k) = lid ((f + 5) % 6) l 1073741823) ∧ (f % 2 = 1 → lid (wF f l k) (wI f l k) (wJ f l k) = lid ((f + 4) % 6) 1073741823 (1073741823 - l))) ∧
    (1073741824 ≤ k → (f % 2 = 0 → lid (wF f l k) (wI f l k) (wJ f l k) = lid ((f + 2) % 6) 0 (1073741823 - l)) ∧ (f % 2 = 1 → lid (wF f l k) (wI f l k) (wJ f l k) = lid ((f + 1) % 6) l 0)) ∧
    (k < 0 → (f % 2 = 0 → lid (wF f k l) (wI f k l) (wJ f k l) = lid ((f + 4) % 6) (1073741823 - l) 1073741823) ∧ (f % 2 = 1 → lid (wF f k l) (wI f k l) (wJ f k l) = lid ((f + 5) % 6) 1073741823 l)) ∧
    (1073741824 ≤ k → (f % 2 = 0 → lid (wF f k l) (wI f k l) (wJ f k l) = lid ((f + 1) % 6) 0 l) ∧ (f % 2 = 1 → lid (wF f k l) (wI f k l) (wJ f k l) = lid ((f + 2) % 6) (1073741823 - l) 0)) := by
  obtain ⟨b0, b1, b2, b3⟩ := beyond f l k (by omega) (by omega) (by omega)
  rw [rS_in h1 h2, rS_mir h1 h2] at b0 b1 b2 b3
  refine ⟨fun hk => ?_, fun hk => ?_, fun hk => ?_, fun hk => ?_⟩
  · obtain ⟨e1, e2, e3⟩ := b0 hk
    refine ⟨fun h => ?_, fun h => ?_⟩ <;> (rw [e1, e2, e3, h]; rfl)
  · obtain ⟨e1, e2, e3⟩ := b1 hk
    refine ⟨fun h => ?_, fun h => ?_⟩ <;> (rw [e1, e2, e3, h]; rfl)
  · obtain ⟨e1, e2, e3⟩ := b2 hk
    refine ⟨fun h => ?_, fun h => ?_⟩ <;> (rw [e1, e2, e3, h]; rfl)
  · obtain ⟨e1, e2, e3⟩ := b3 hk
    refine ⟨fun h => ?_, fun h => ?_⟩ <;> (rw [e1, e2, e3, h]; rfl)
/-- a road over four faces -/
structure Road (f s l f0 s0 l0 f1 s1 l1 f2 s2 l2 f3 s3 l3 : Int) : Prop where
  hf3 : f3 = f
  hs3 : s3 = (s + 2) % 4
  hl3 : l3 = l
  hl0 : l0 = l ∨ l0 = 1073741823 - l
  hl1 : l1 = l ∨ l1 = 1073741823 - l
  hl2 : l2 = l ∨ l2 = 1073741823 - l
  hf1 : f1 = (f + 3) % 6
  hf2 : f2 = (f0 + 3) % 6
  hs1 : s1 % 2 = (s + 1) % 2
  hb : (0 ≤ f0 ∧ f0 < 6)
  hc : s = 1 → f0 = (f + 1 + f % 2) % 6
  hd : s = 3 → f0 = (f + 4 + f % 2) % 6
  he : s % 2 = 0 → f0 % 3 = (f + 2 + 2 * (f % 2)) % 3
  hm : s % 2 = 1 → l1 = 1073741823 - l
  hn : s % 2 = 0 → l1 = 1073741823 - l
theorem road {f s l : Int} (hf : f = 0 ∨ f = 1 ∨ f = 2 ∨ f = 3 ∨ f = 4 ∨ f = 5) (hs : s = 0 ∨ s = 1 ∨ s = 2 ∨ s = 3) {f0 s0 l0 f1 s1 l1 f2 s2 l2 f3 s3 l3 : Int}
    (a0 : f0 = crF f s) (b0 : s0 = crS f s) (c0 : l0 = crL f s l) (a1 : f1 = crF f0 ((s0 + 2) % 4)) (b1 : s1 = crS f0 ((s0 + 2) % 4)) (c1 : l1 = crL f0 ((s0 + 2) % 4) l0)
    (a2 : f2 = crF f1 ((s1 + 2) % 4)) (b2 : s2 = crS f1 ((s1 + 2) % 4)) (c2 : l2 = crL f1 ((s1 + 2) % 4) l1) (a3 : f3 = crF f2 ((s2 + 2) % 4)) (b3 : s3 = crS f2 ((s2 + 2) % 4)) (c3 : l3 = crL f2 ((s2 + 2) % 4) l2) :
    Road f s l f0 s0 l0 f1 s1 l1 f2 s2 l2 f3 s3 l3 := by
  have cm : ∀ x : Int, 1073741823 - (1073741823 - x) = x := fun x => by omega
  rcases hf with rfl | rfl | rfl | rfl | rfl | rfl <;> rcases hs with rfl | rfl | rfl | rfl
  all_goals (simp (config := { decide := true }) only [crF, crS, crL, if_true, if_false] at a0 b0 c0; subst a0 b0 c0)
  all_goals (simp (config := { decide := true }) only [crF, crS, crL, if_true, if_false, cm] at a1 b1 c1; subst a1 b1 c1)
  all_goals (simp (config := { decide := true }) only [crF, crS, crL, if_true, if_false, cm] at a2 b2 c2; subst a2 b2 c2)
  all_goals (simp (config := { decide := true }) only [crF, crS, crL, if_true, if_false, cm] at a3 b3 c3; subst a3 b3 c3)
  all_goals (constructor <;> omega)
end Mine
open PySem PySem.W PySem.Calls PyProof.Rows
set_option maxRecDepth 100000
set_option maxHeartbeats 4000000
set_option linter.unusedVariables false
namespace Mine
theorem crF_b (f s : Int) : 0 ≤ crF f s ∧ crF f s < 6 := by unfold crF; omega
theorem crS_b (f s : Int) : 0 ≤ crS f s ∧ crS f s < 4 := by unfold crS; split <;> split <;> (try split) <;> (try split) <;> omega
theorem crL_b {f s l : Int} (h1 : 32 ≤ l) (h2 : l < 1073741792) : 32 ≤ crL f s l ∧ crL f s l < 1073741792 := by unfold crL; split <;> split <;> (try split) <;> (try split) <;> omega
theorem road2 {f s l : Int} (hf : f = 0 ∨ f = 1 ∨ f = 2 ∨ f = 3 ∨ f = 4 ∨ f = 5) (hs : s = 0 ∨ s = 1 ∨ s = 2 ∨ s = 3) {f0 s0 l0 f1 s1 l1 f2 s2 l2 f3 s3 l3 p0 p1 p2 : Int}
    (a0 : f0 = crF f s) (b0 : s0 = crS f s) (c0 : l0 = crL f s l) (q0 : p0 = (s0 + 2) % 4) (a1 : f1 = crF f0 p0) (b1 : s1 = crS f0 p0) (c1 : l1 = crL f0 p0 l0) (q1 : p1 = (s1 + 2) % 4)
    (a2 : f2 = crF f1 p1) (b2 : s2 = crS f1 p1) (c2 : l2 = crL f1 p1 l1) (q2 : p2 = (s2 + 2) % 4) (a3 : f3 = crF f2 p2) (b3 : s3 = crS f2 p2) (c3 : l3 = crL f2 p2 l2) :
    f3 = f ∧ s3 = (s + 2) % 4 ∧ l3 = l ∧ f1 = (f + 3) % 6 ∧ l1 = 1073741823 - l ∧ f2 = (f0 + 3) % 6 ∧ (s1 % 2 = (s + 1) % 2 ∧ (l0 = l ∨ l0 = 1073741823 - l) ∧ (l2 = l ∨ l2 = 1073741823 - l) ∧ (0 ≤ f0 ∧ f0 < 6) ∧ (s = 1 → f0 = (f + 1 + f % 2) % 6) ∧ (s = 3 → f0 = (f + 4 + f % 2) % 6) ∧ (s % 2 = 0 → f0 % 3 = (f + 2 + 2 * (f % 2)) % 3)) := by
  subst q0 q1 q2
  obtain ⟨x1, x2, x3, x4, x5, x6, x7, x8, x9, x10, x11, x12, x13, x14, x15⟩ := road hf hs a0 b0 c0 a1 b1 c1 a2 b2 c2 a3 b3 c3
  refine ⟨x1, x2, x3, x7, ?_, x8, x9, x4, x6, x10, x11, x12, x13⟩
  rcases (show s % 2 = 1 ∨ s % 2 = 0 by omega) with h | h
  · exact x14 h
  · exact x15 h
/-- the six faces of two roads -/
theorem perm6 {f f0 g0 s : Int} (hf : 0 ≤ f) (hf' : f < 6) (h0 : 0 ≤ f0) (h1 : f0 < 6) (g1 : 0 ≤ g0) (g2 : g0 < 6) (hs : s = 1 ∨ s = 3) (hc : s = 1 → f0 = (f + 1 + f % 2) % 6) (hd : s = 3 → f0 = (f + 4 + f % 2) % 6) (he : g0 % 3 = (f + 2 + 2 * (f % 2)) % 3) :
    List.Perm [f, (f + 3) % 6, f0, (f0 + 3) % 6, g0, (g0 + 3) % 6] [0, 1, 2, 3, 4, 5] := by
  have a1 : f = 0 ∨ f = 1 ∨ f = 2 ∨ f = 3 ∨ f = 4 ∨ f = 5 := by omega
  have a2 : g0 = 0 ∨ g0 = 1 ∨ g0 = 2 ∨ g0 = 3 ∨ g0 = 4 ∨ g0 = 5 := by omega
  rcases hs with rfl | rfl
  · have h := hc rfl
    subst h
    clear hc hd h0 h1
    rcases a1 with rfl | rfl | rfl | rfl | rfl | rfl <;> rcases a2 with rfl | rfl | rfl | rfl | rfl | rfl <;> first | (exfalso; revert he; decide) | decide
  · have h := hd rfl
    subst h
    clear hc hd h0 h1
    rcases a1 with rfl | rfl | rfl | rfl | rfl | rfl <;> rcases a2 with rfl | rfl | rfl | rfl | rfl | rfl <;> first | (exfalso; revert he; decide) | decide
section
variable {prog : Program} {w : World} {A : Around} {E : Value → Shared → Prop} {t : Tok} {hp : Heap} {gs dr tk os} {x : Str} {env : Env} {Q : Unit → Shared → Prop}
theorem store_crF {f s : Int} (h : ∀ (v : Int) (t' : Tok) (tk : Nat), v = crF f s → 0 ≤ v → v < 6 → wpAny (model prog w) A (storeName env x (.int v t')) Q E ⟨hp, gs, dr, tk, os⟩) : wpAny (model prog w) A (storeName env x (.int (crF f s) t)) Q E ⟨hp, gs, dr, tk, os⟩ := h _ t tk rfl (crF_b f s).1 (crF_b f s).2
theorem store_crS {f s : Int} (h : ∀ (v : Int) (t' : Tok) (tk : Nat), v = crS f s → 0 ≤ v → v < 4 → wpAny (model prog w) A (storeName env x (.int v t')) Q E ⟨hp, gs, dr, tk, os⟩) : wpAny (model prog w) A (storeName env x (.int (crS f s) t)) Q E ⟨hp, gs, dr, tk, os⟩ := h _ t tk rfl (crS_b f s).1 (crS_b f s).2
theorem store_crL {f s l : Int} (h1 : 32 ≤ l) (h2 : l < 1073741792) (h : ∀ (v : Int) (t' : Tok) (tk : Nat), v = crL f s l → 32 ≤ v → v < 1073741792 → wpAny (model prog w) A (storeName env x (.int v t')) Q E ⟨hp, gs, dr, tk, os⟩) : wpAny (model prog w) A (storeName env x (.int (crL f s l) t)) Q E ⟨hp, gs, dr, tk, os⟩ := h _ t tk rfl (crL_b h1 h2).1 (crL_b h1 h2).2
end
end Mine
open PySem PySem.W PySem.Calls PyProof.Rows
set_option Elab.async false
set_option maxRecDepth 100000
set_option maxHeartbeats 4000000
set_option linter.unusedVariables false
namespace Mine
/-- an equation put by: omega does not look at it -/
def Is (v e : Int) : Prop := v = e
theorem Is.mk {v e : Int} (h : v = e) : Is v e := h
theorem Is.out {v e : Int} (h : Is v e) : v = e := h
theorem room1 {dp D k D' : Nat} (h : dp < D) (e : D + k ≤ D') : dp + k < D' := by omega
theorem abs_mod {x c : Int} (h0 : 0 < c) (h1 : c < 2 ^ 62) : (x % c).natAbs < 2 ^ 64 := by
  have := Int.emod_nonneg x (show c ≠ 0 by omega)
  have := Int.emod_lt_of_pos x h0
  omega
theorem abs_div {x c : Int} (h0 : 0 ≤ x) (h1 : x < 1024) (h2 : 0 < c) : (x / c).natAbs < 2 ^ 64 := by
  have := Int.ediv_nonneg h0 (show 0 ≤ c by omega)
  have := Int.ediv_le_self c h0
  omega
section
variable {prog : Program} {w : World} {A : Around} {E : Value → Shared → Prop} {a b n r : Int} {t u : Tok} {Q : Value → Shared → Prop} {hp : Heap} {gs dr tk os}
theorem r_shr (hn : 0 ≤ b) (e : a.fdiv (2 ^ b.toNat) = r) (h : Q (.int r tk) ⟨hp, gs, dr, tk + 1, os⟩) : wpAny (model prog w) A (binaryOp .RShift (.int a t) (.int b u)) Q E ⟨hp, gs, dr, tk, os⟩ := rshift_int hn (by rw [e]; exact h)
theorem r_shl (hn : 0 ≤ b) (hn2 : b ≤ 1000000) (ha : a.natAbs < 2 ^ 64) (e : a * 2 ^ b.toNat = r) (h : Q (.int r tk) ⟨hp, gs, dr, tk + 1, os⟩) : wpAny (model prog w) A (binaryOp .LShift (.int a t) (.int b u)) Q E ⟨hp, gs, dr, tk, os⟩ := lshift_int_small hn hn2 ha (by rw [e]; exact h)
theorem r_and  (e : Builtin.bitAnd a b = r) (h : Q (.int r tk) ⟨hp, gs, dr, tk + 1, os⟩) : wpAny (model prog w) A (binaryOp .BitAnd (.int a t) (.int b u)) Q E ⟨hp, gs, dr, tk, os⟩ := and_int (by rw [e]; exact h)
theorem r_iand  (e : Builtin.bitAnd a b = r) (h : Q (.int r tk) ⟨hp, gs, dr, tk + 1, os⟩) : wpAny (model prog w) A (inplaceOp .BitAnd (.int a t) (.int b u)) Q E ⟨hp, gs, dr, tk, os⟩ := iand_int (by rw [e]; exact h)
theorem r_or  (e : Builtin.bitOr a b = r) (h : Q (.int r tk) ⟨hp, gs, dr, tk + 1, os⟩) : wpAny (model prog w) A (binaryOp .BitOr (.int a t) (.int b u)) Q E ⟨hp, gs, dr, tk, os⟩ := or_int (by rw [e]; exact h)
theorem r_ior  (e : Builtin.bitOr a b = r) (h : Q (.int r tk) ⟨hp, gs, dr, tk + 1, os⟩) : wpAny (model prog w) A (inplaceOp .BitOr (.int a t) (.int b u)) Q E ⟨hp, gs, dr, tk, os⟩ := ior_int (by rw [e]; exact h)
theorem r_xor  (e : Builtin.bitXor a b = r) (h : Q (.int r tk) ⟨hp, gs, dr, tk + 1, os⟩) : wpAny (model prog w) A (binaryOp .BitXor (.int a t) (.int b u)) Q E ⟨hp, gs, dr, tk, os⟩ := xor_int (by rw [e]; exact h)
theorem r_ixor  (e : Builtin.bitXor a b = r) (h : Q (.int r tk) ⟨hp, gs, dr, tk + 1, os⟩) : wpAny (model prog w) A (inplaceOp .BitXor (.int a t) (.int b u)) Q E ⟨hp, gs, dr, tk, os⟩ := ixor_int (by rw [e]; exact h)
theorem r_add  (e : a + b = r) (h : Q (.int r tk) ⟨hp, gs, dr, tk + 1, os⟩) : wpAny (model prog w) A (binaryOp .Add (.int a t) (.int b u)) Q E ⟨hp, gs, dr, tk, os⟩ := add_int (by rw [e]; exact h)
theorem r_iadd  (e : a + b = r) (h : Q (.int r tk) ⟨hp, gs, dr, tk + 1, os⟩) : wpAny (model prog w) A (inplaceOp .Add (.int a t) (.int b u)) Q E ⟨hp, gs, dr, tk, os⟩ := iadd_int (by rw [e]; exact h)
theorem r_sub  (e : a - b = r) (h : Q (.int r tk) ⟨hp, gs, dr, tk + 1, os⟩) : wpAny (model prog w) A (binaryOp .Sub (.int a t) (.int b u)) Q E ⟨hp, gs, dr, tk, os⟩ := sub_int (by rw [e]; exact h)
theorem r_isub  (e : a - b = r) (h : Q (.int r tk) ⟨hp, gs, dr, tk + 1, os⟩) : wpAny (model prog w) A (inplaceOp .Sub (.int a t) (.int b u)) Q E ⟨hp, gs, dr, tk, os⟩ := isub_int (by rw [e]; exact h)
theorem r_mul (hm : IntMulOk a b) (e : a * b = r) (h : Q (.int r tk) ⟨hp, gs, dr, tk + 1, os⟩) : wpAny (model prog w) A (binaryOp .Mult (.int a t) (.int b u)) Q E ⟨hp, gs, dr, tk, os⟩ := mul_int (by rw [e]; exact h) hm
theorem r_mod (hb : 0 < b) (e : a % b = r) (h : Q (.int r tk) ⟨hp, gs, dr, tk + 1, os⟩) : wpAny (model prog w) A (binaryOp .Mod (.int a t) (.int b u)) Q E ⟨hp, gs, dr, tk, os⟩ := mod_int' (by omega) (by rw [Int.fmod_eq_emod_of_nonneg _ (by omega), e]; exact h)
theorem r_div (hb : 0 < b) (hb2 : b.natAbs < 1073741824) (e : a / b = r) (h : Q (.int r tk) ⟨hp, gs, dr, tk + 1, os⟩) : wpAny (model prog w) A (binaryOp .FloorDiv (.int a t) (.int b u)) Q E ⟨hp, gs, dr, tk, os⟩ := floordiv_int (by omega) (by rw [Int.fdiv_eq_ediv_of_nonneg _ (by omega), e]; exact h) (Or.inl (PyProof.noPylong_small hb2))
theorem r_pow (hn : 0 ≤ b) (hn2 : b ≤ 1000000) (ha : a.natAbs < 2 ^ 64) (e : a ^ b.toNat = r) (h : Q (.int r tk) ⟨hp, gs, dr, tk + 1, os⟩) : wpAny (model prog w) A (binaryOp .Pow (.int a t) (.int b u)) Q E ⟨hp, gs, dr, tk, os⟩ := pow_int_small hn hn2 ha (by rw [e]; exact h)
theorem r_fdiv (hb : b ≠ 0) (hb2 : b.natAbs < 2 ^ 70) (e : a.fdiv b = r) (h : Q (.int r tk) ⟨hp, gs, dr, tk + 1, os⟩) : wpAny (model prog w) A (binaryOp .FloorDiv (.int a t) (.int b u)) Q E ⟨hp, gs, dr, tk, os⟩ :=
  floordiv_int hb (by rw [e]; exact h) (Or.inl (PyProof.noPylong_of_log2 ((Nat.log2_lt (by omega)).mpr (Nat.lt_of_lt_of_le hb2 (Nat.pow_le_pow_right (by decide) (by decide))))))
theorem r_neg (e : -a = r) (h : Q (.int r tk) ⟨hp, gs, dr, tk + 1, os⟩) : wpAny (model prog w) A (unaryOp .USub (.int a t)) Q E ⟨hp, gs, dr, tk, os⟩ := neg_int (by rw [e]; exact h)
theorem store_mod4 {x : Str} {env : Env} {Q : Unit → Shared → Prop} (h : ∀ (v : Int) (t' : Tok) (tk : Nat), v = a % 4 → 0 ≤ v → v < 4 → wpAny (model prog w) A (storeName env x (.int v t')) Q E ⟨hp, gs, dr, tk, os⟩) : wpAny (model prog w) A (storeName env x (.int (a % 4) t)) Q E ⟨hp, gs, dr, tk, os⟩ := h _ t tk rfl (by omega) (by omega)
theorem bitOr_12 : Builtin.bitOr 1 2 = 3 := by decide
theorem store_named {x : Str} {env : Env} {Q : Unit → Shared → Prop} (h : ∀ (v : Int) (t' : Tok) (tk : Nat), v = a → wpAny (model prog w) A (storeName env x (.int v t')) Q E ⟨hp, gs, dr, tk, os⟩) : wpAny (model prog w) A (storeName env x (.int a t)) Q E ⟨hp, gs, dr, tk, os⟩ := h a t tk rfl
end
section
variable {prog : Program} {w : World} {A : Around} {E : Value → Shared → Prop} {s : Shared} {K : Frag} {x C : Addr} {ox : Obj} {od : Option Obj} {pl : Sem Bool} {name : Str} {Q : Value × List Value → Shared → Prop}
theorem method_data {v tf : Value} (X : K.In s.heap) (I : InstAt s.heap x ox C od) (hga : findIn K (.ref C) "__getattribute__" = some (some (.builtin "object.__getattribute__"))) (hk : findIn K (.ref C) "__getattr__" = some none)
    (hf : findIn K (.ref C) name = some (some v)) (ht : typeIn K v = some tf) (hn : (tf != .type "function" && tf != .type "method_descriptor" && tf != .type "wrapper_descriptor") = true)
    (h : wpAny (model prog w) A (getAttr (.ref x) name) (fun v => Q (v, [])) E s) : wpAny (model prog w) A (getMethod (.ref x) name pl) Q E s := by
  have hcan := PySem.F.canon_object_ga
  unfold getMethod specialOf
  refine wpAny_bind (wpAny_bind (I.type.here ((looks_findIn X hga).here ?_)))
  dsimp only
  rw [hcan, if_neg (by decide)]
  refine wpAny_bind (wpAny_bind (I.type.here ((looks_findIn X hk).here ?_)))
  refine wpAny_bind (wpAny_bind (I.type.here ((looks_findIn X hf).here (wpAny_bind ((looks_typeIn X ht).here ?_)))))
  rw [if_pos hn]
  exact wpAny_bind (wpAny_mono h (fun _ _ z => wpAny_pure z) fun _ _ z => z)
end
section
variable {prog : Program} {w : World} {A A₀ : Around} {s : Shared} {K : Frag} {L : Addr} {h₀ base : Heap} {m mg mb : Str → Option Value} {news nb : List (Addr × Obj)} {p : Program} {loose : List Str} {mean : ExcName → Option Value}
/-- a call that holds the rest of the ledger still: within it only nb is told -/
theorem code_frz {env : Env} {outer : List Env} {R : Result → Shared → Prop} {name qual : Str} {params : Arguments} {body : List Stmt} {scope : Scope} {dV kV doc pm cdv ct oc : Value} {an od : Option Addr} {osl : Array (Option Value)} {f : Addr} {args : Args} {binds : List (Str × Value)}
    (hsub : ∀ p ∈ nb, p ∈ news)
    (B : Below A₀ base outer h₀) (F : Fr h₀ L s.heap m) (X₀ : K.In h₀) (N : News h₀ L s.heap news) (T : Top p loose mean mg mb h₀) (hA : A.frames = some (env :: outer)) (hf : env.frame = some L) (hke : env.scope.kind = .function)
    (ho : K.lookup f = some ⟨oc, od, .func (fnOf name qual params body scope dV kV doc pm an cdv ct), osl⟩) (hcd : codeIn K cdv qual = true) (hroom : A.depth < recursionLimit)
    (hbind : BindsTo s (fnOf name qual params body scope dV kV doc pm an cdv ct) args binds) (hloc : ∀ y ∈ binds, scope.names.lookup y.1 = some .local)
    (h : ∀ g L' h₁, Fr h₀ L g m → Fr g L' h₁ (fun y => binds.reverse.lookup y) → News g L' h₁ nb → Below A base (env :: outer) g → K.In g → Top p loose mean mg mb g →
      (∀ p ∈ news, p.1 ∈ nb.map (·.1) ∨ g.get? p.1 = some p.2) →
      wpAny (model prog w) (A.deeper (envOf qual scope L' f cdv)) (execs body (envOf qual scope L' f cdv))
        (fun fl s' => LeaveK h₀ L m g (fun r s'' => g.StaysIn s''.heap → R r s'') (match fl with | .ret v => v | _ => .none) s')
        (fun e s' => wpAny (model prog w) (A.deeper (envOf qual scope L' f cdv)) (leaving (envOf qual scope L' f cdv) e) (fun _ s'' => R (.error e) s'') (fun e' s'' => R (.error e') s'') s')
        { s with heap := h₁, toks := s.toks + binds.length })
    (hco : scope.isCoroutine = false) (hgen : scope.isGenerator = false) (hk : scope.kind = .function)
    (hcell : ∀ x ∈ scope.names, x.2 ≠ .cell) : codeAny (model prog w) A (.call (.ref f) args) R s := by
  have Nb : News h₀ L s.heap nb := fun q hq => N q (hsub q hq)
  obtain ⟨FG, BG, st, lv⟩ := groundX (R := R) B F Nb hA hf hke
  refine codeAny_call_def (fd := fnX name qual params body scope [] dV kV doc pm an cdv ct) (body := body) (binds := binds) hroom ((X₀.keeps F.keep) _ _ ho) rfl (T.nolimit.keeps F.keep) (codeRec_of (X₀.keeps F.keep) hcd) rfl hbind hcell hloc (fun h₁ hns hk₁ => ?_) hco hgen hk
  refine wpAny_mono (h _ s.heap.objs.size h₁ FG ⟨hns, fun b o e => hk₁ b o (of_hideAll _ e), Nat.le_of_eq (hideAll_size _ _)⟩
    (fun p hp => ⟨hk₁ _ _ (Nb p hp).1, Nat.ne_of_lt (Heap.lt_size (Nb p hp).1), hideAll_none _ (List.mem_map_of_mem hp)⟩) BG (X₀.keeps st) (T.keeps st) (fun p hp => ?_)) (fun fl s' hl => lv _ _ ?_) fun _ _ y => y
  · by_cases hb : p.1 ∈ nb.map (·.1)
    · exact .inl hb
    · exact .inr (hideAll_get _ (N p hp).1 hb)
  · obtain ⟨L', m', news', F', N', k⟩ := hl
    exact ⟨L', m', news', F', N', fun a b => k a b F'.keep⟩
theorem unfrz {h h' g : Heap} (N : News h₀ L h news) (hsub : ∀ p ∈ nb, p ∈ news) (fz : ∀ p ∈ news, p.1 ∈ nb.map (·.1) ∨ g.get? p.1 = some p.2) (stay : g.StaysIn h') {l : List (Addr × Obj)} (N' : News h₀ L h' l) (hl : ∀ p ∈ nb, p ∈ l) : News h₀ L h' news := fun p hp => by
  refine ⟨?_, (N p hp).2⟩
  rcases fz p hp with hb | hg
  · obtain ⟨q, hq, e⟩ := List.mem_map.mp hb
    have h1 := (N q (hsub q hq)).1
    have h2 := (N p hp).1
    rw [e, h2] at h1
    have h3 := (N' q (hl q hq)).1
    rw [e] at h3
    rw [h3, h1]
  · exact stay _ _ hg
end
section
open PyProof.Rows.LCg
variable {prog : Program} {w : World} {A : Around} {E : Value → Shared → Prop} {s : Shared} {h₀ : Heap} {L : Addr} {m : Str → Option Value} {env : Env}
/-- the source of a comprehension: a tuple that the ledger bears -/
def SrcTup (prog : Program) (w : World) (A : Around) (h₀ : Heap) (L : Addr) (m : Str → Option Value) (env : Env) (elt : Expr) (x : Str) (scope : Scope) (cl : List (Str × Addr)) (Fin : Shared → List Value → List (Addr × Obj) → Prop) (xv : Value) (s₁ : Shared) : Prop :=
  ∃ ax its k news, xv = .ref ax ∧ A.handled = none ∧ Fr h₀ L s₁.heap m ∧ News h₀ L s₁.heap news ∧ (ax, ({ cls := .type "tuple", data := .seq its k } : Obj)) ∈ news ∧ its.size ≤ sizeLine ∧
    ∀ g, CompRest prog w A h₀ L m env elt x scope cl { s₁ with heap := g } (fun nw => (ax, ({ cls := .type "tuple", data := .seq its k } : Obj)) ∈ nw) (fun i v => its[i]? = some v) (Fin { s₁ with heap := g }) its.size 0 [] news
theorem SrcTup.intro {elt : Expr} {x : Str} {scope : Scope} {cl : List (Str × Addr)} {Fin : Shared → List Value → List (Addr × Obj) → Prop} {ax : Addr} {its : Array Value} {k : Nat} {news : List (Addr × Obj)} {s₁ : Shared}
    (hh : A.handled = none) (F : Fr h₀ L s₁.heap m) (N : News h₀ L s₁.heap news) (hm : (ax, ({ cls := .type "tuple", data := .seq its k } : Obj)) ∈ news) (hsz : its.size ≤ sizeLine)
    (h : ∀ g, CompRest prog w A h₀ L m env elt x scope cl { s₁ with heap := g } (fun nw => (ax, ({ cls := .type "tuple", data := .seq its k } : Obj)) ∈ nw) (fun i v => its[i]? = some v) (Fin { s₁ with heap := g }) its.size 0 [] news) :
    SrcTup prog w A h₀ L m env elt x scope cl Fin (.ref ax) s₁ := ⟨ax, its, k, news, rfl, hh, F, N, hm, hsz, h⟩
theorem tup_st {ax I : Addr} {its : Array Value} {k : Nat} : ∀ i (h h' : Heap) (o : Obj) (nw : List (Addr × Obj)), (h.IsTupleIter I ax i ∧ h.IsTuple ax its) → h.get? I = some o → h'.get? I = some o → (∀ b o, h₀.get? b = some o → h'.get? b = some o) → News h₀ L h' nw → (ax, ({ cls := .type "tuple", data := .seq its k } : Obj)) ∈ nw → (h'.IsTupleIter I ax i ∧ h'.IsTuple ax its) :=
  fun i h h' o nw st e e' _ N S => by
    refine ⟨?_, ⟨_, (N _ S).1, rfl, _, rfl⟩⟩
    obtain ⟨o', q, r⟩ := st.1
    rw [e] at q
    cases q
    exact ⟨o, e', r⟩
theorem comp_tup {elt iter : Expr} {x y : Str} {px py : Pos} {scope : Scope} {cl : List (Str × Addr)} {pos spos : Pos} {Q : Flow → Shared → Prop} (F₀ : Fr h₀ L s.heap m) (hLe : env.locals = L)
    (hsw : swapsWith (.ListComp elt [⟨.Name x px, iter, [], 0⟩] scope pos) (some (.Name y py)) spos.line env = pure true)
    (hclos : closureFor scope env = pure cl) (hcell : ∀ z ∈ scope.names, z.2 ≠ .cell) (hkind : scope.kind = .function)
    (hnames : ∀ z ∈ scope.names, z.2 = .local → scope.names.lookup z.1 = some .local) (hx : scope.names.lookup x = some .local)
    (hy : env.kindOf y = some .local) (hp : (env.scope.kind == .class || (env.scope.kind == .module && env.locals != env.globals)) = false)
    (h : wpAny (model prog w) A (eval iter env) (SrcTup prog w A h₀ L m env elt x scope cl (fun s₂ => FinA h₀ L m s₂ y Q)) E s)
    (hs : ∀ x, foldedSetIterable iter env x = pure x := by intro _; rfl) :
    wpAny (model prog w) A (exec (.Assign [.Name y py] (.ListComp elt [⟨.Name x px, iter, [], 0⟩] scope pos) spos) env) Q E s := by
  subst hLe
  rw [exec_Assign_Name_used _ _ _ _ hsw]
  refine wpAny_bind (wpAny_standAt (wpAny_bind ?_))
  refine wpAny_bind (wpAny_mono (wpAny_comprehension_free (use := some (assign (.Name y py) env)) (Q := fun _ s' => Q .next s') rfl hs hclos hkind hnames
    (wpAny_mono h (fun xv s₁ h₁ => ?_) fun _ _ e => e)) (fun _ s' hq => wpAny_pure (wpAny_pure hq)) fun _ _ e => e)
  obtain ⟨ax, its, k, news, rfl, hh, F, N, hm, hsz, R⟩ := h₁
  have ht : s₁.heap.IsTuple ax its := ⟨_, (N _ hm).1, rfl, _, rfl⟩
  have hlt : ax < s₁.heap.objs.size := Heap.lt_size (N _ hm).1
  refine wpAny_pyIter_tuple ht ?_
  have up : ∀ b o, s₁.heap.get? b = some o → (s₁.heap.push { cls := .type "tuple_iterator", data := .fields #[.ref ax, .int 0 0] }).get? b = some o := fun b o e => Heap.get?_push_of_some _ e
  have below : ∀ b ∈ [s₁.heap.objs.size, ax], b < (s₁.heap.push { cls := .type "tuple_iterator", data := .fields #[.ref ax, .int 0 0] }).objs.size := by
    intro b hb
    rw [Heap.size_push]
    rcases List.mem_cons.mp hb with rfl | hb
    · exact Nat.lt_succ_self _
    · rw [List.mem_singleton.mp hb]
      exact Nat.lt_succ_of_lt hlt
  refine block_U (Walks.tuple hh s₁.heap.objs.size ax (Nat.ne_of_lt hlt) its) hsz (fun i h st => by obtain ⟨o, e, _⟩ := st.1; exact ⟨o, e⟩) (tup_st (k := k)) hcell hkind hx ⟨⟨_, Heap.get?_push_size _ rfl, rfl, rfl⟩, ⟨_, up _ _ (N _ hm).1, rfl, _, rfl⟩⟩ below
    (F.keeps up) (N.grown up) (Nat.ne_of_lt F.ns.lt) (next_is_new F) (fun p hp => Nat.ne_of_lt (Heap.lt_size (N p hp).1)) hm (R _) ?_
  intro D C h' tk m' ys news' F' N' o1 hn hC₀ hD₀ hCL hDL hCD offC fin
  refine wpAny_assign_Name (wpAny_storeName_local hy F'.ns (fun h₂ hn₂ hs₂ => ?_) hp)
  have hL₀ : h₀.get? env.locals = none := Heap.get?_none_of_le F'.above
  have F₂ : Fr h₀ env.locals h₂ (fun z => if z = y then some (.ref D) else m z) := ⟨hn₂, fun b o e => hs₂.extBut b o (fun q => by rw [q, hL₀] at e; cases e) (F'.keep b o e), F'.above⟩
  refine ⟨m', hn.sameBut hs₂ hCL, fun h'' hs'' => fin D h'' _ (F₂.change hs'' hCL hC₀) (fun p hp => ?_) o1⟩
  have z : h₂.get? p.1 = some p.2 := hs₂.extBut _ _ (N' p hp).2.1 (N' p hp).1
  refine ⟨hs''.extBut _ _ ?_ z, (N' p hp).2⟩
  rcases List.mem_cons.mp hp with rfl | hp
  · exact Ne.symm hCD
  · exact offC p hp
end
section
variable {h₀ h : Heap} {L : Addr} {news : List (Addr × Obj)} {a b c d e f g : Addr × Obj}
theorem drop_4 (N : News h₀ L h (a :: b :: c :: d :: news)) : News h₀ L h (a :: news) := fun p hp => N p (by
  rcases List.mem_cons.mp hp with rfl | hp
  · exact List.mem_cons_self ..
  · exact List.mem_cons_of_mem _ (List.mem_cons_of_mem _ (List.mem_cons_of_mem _ (List.mem_cons_of_mem _ hp))))
theorem drop_5 (N : News h₀ L h (a :: b :: c :: d :: e :: news)) : News h₀ L h (a :: news) := fun p hp => N p (by
  rcases List.mem_cons.mp hp with rfl | hp
  · exact List.mem_cons_self ..
  · exact List.mem_cons_of_mem _ (List.mem_cons_of_mem _ (List.mem_cons_of_mem _ (List.mem_cons_of_mem _ (List.mem_cons_of_mem _ hp)))))
theorem keep_1 {l : List (Addr × Obj)} (N : News h₀ L h (a :: (l ++ news))) : News h₀ L h (a :: news) := fun p hp => N p (by
  rcases List.mem_cons.mp hp with rfl | hp
  · exact List.mem_cons_self ..
  · exact List.mem_cons_of_mem _ (List.mem_append.mpr (.inr hp)))
theorem keep_2 {l : List (Addr × Obj)} (N : News h₀ L h (a :: b :: (l ++ news))) : News h₀ L h (a :: b :: news) := fun p hp => N p (by
  rcases List.mem_cons.mp hp with rfl | hp
  · exact List.mem_cons_self ..
  · rcases List.mem_cons.mp hp with rfl | hp
    · exact List.mem_cons_of_mem _ (List.mem_cons_self ..)
    · exact List.mem_cons_of_mem _ (List.mem_cons_of_mem _ (List.mem_append.mpr (.inr hp))))
theorem keep_0 {l : List (Addr × Obj)} (N : News h₀ L h (l ++ news)) : News h₀ L h news := fun p hp => N p (List.mem_append.mpr (.inr hp))
end
section
variable {M : Model} {A : Around} {E : Value → Shared → Prop} {hp : Heap} {gs dr X os} {st : Stmt} {rest : List Stmt} {env : Env} {Q : Flow → Shared → Prop}
theorem eq_known {prog : Program} {w : World} {a b : Int} {t u : Tok} {s : Shared} {Q : Value → Shared → Prop} (e : a = b) (h : Q (.bool true) s) : wpAny (model prog w) A (compareOp .Eq (.int a t) (.int b u)) Q E s := PyProof.Rows.eq_int (by rw [e, beq_self_eq_true]; exact h)
theorem ne_known {prog : Program} {w : World} {a b : Int} {t u : Tok} {s : Shared} {Q : Value → Shared → Prop} (e : a = b) (h : Q (.bool false) s) : wpAny (model prog w) A (compareOp .NotEq (.int a t) (.int b u)) Q E s := PyProof.Rows.ne_int (by rw [e, bne_self_eq_false]; exact h)
theorem gen_execs (h : ∀ tk, wpAny M A (exec st env) (fun f s' => match f with | .next => wpAny M A (execs rest env) Q E s' | f => Q f s') E ⟨hp, gs, dr, tk, os⟩) : wpAny M A (execs (st :: rest) env) Q E ⟨hp, gs, dr, X, os⟩ := wpAny_execs_cons (h X)
end
end Mine
open PySem PySem.W PySem.Calls PyProof.Rows
set_option Elab.async false
set_option maxRecDepth 100000
set_option maxHeartbeats 4000000
set_option linter.unusedVariables false
namespace Mine


abbrev instX (d : Addr) : Obj := instObj 561 d
abbrev cellD (hs : Int) (kt vt : Tok) (n : Int) : Obj := dictOf [⟨hs, .str (Str.ofString "_CellId__id") kt, .int n vt⟩] 1
/-- the ledger bears a cell of number n at x -/
abbrev CellIn (news : List (Addr × Obj)) (x : Addr) (n : Int) : Prop := ∃ d hs kt vt, (x, instObj 561 d) ∈ news ∧ (d, dictOf [⟨hs, .str (Str.ofString "_CellId__id") kt, .int n vt⟩] 1) ∈ news
/-- the ledger bears a point (x, y, z) at p -/
abbrev PointIn (news : List (Addr × Obj)) (p : Addr) (x y z : Int) : Prop := ∃ d T hs kt t1 t2 t3 k, (p, instObj 134 d) ∈ news ∧ (d, dictOf [⟨hs, .str (Str.ofString "_Point__point") kt, .ref T⟩] 1) ∈ news ∧ (T, ({ cls := .type "tuple", data := .seq #[.int x t1, .int y t2, .int z t3] k } : Obj)) ∈ news
abbrev Post := Heap → Addr → (Str → Option Value) → List (Addr × Obj) → Shared → (Result → Shared → Prop) → Prop
/-- what a def does, for every caller -/
def Ctr (w : World) (D U : Nat) (pre : List (Addr × Obj) → Prop) (f : Addr) (args : List Value) (post : Post) : Prop :=
  ∀ (mean : ExcName → Option Value) (mg mb : Str → Option Value) (dp un : Nat) (gd : Option (List Code)) (cn : Str) (cs : Scope) (a : Addr) (ccd : Value) (cl : List (Str × Addr)) (outer : List Env) (A₀ : Around) (base h₀ : Heap) (L : Addr) (m : Str → Option Value) (news : List (Addr × Obj)) (s : Shared) (R : Result → Shared → Prop),
    Below A₀ base outer h₀ → Fr h₀ L s.heap m → (hd02.heap_39 w.params).In h₀ → News h₀ L s.heap news → Top hd02.view_39 (looseW hd02.view_39 [Str.ofString "POS_TO_ORIENTATION", Str.ofString "LOOKUP_POS", Str.ofString "LOOKUP_IJ", Str.ofString "CellId"]) mean mg mb h₀ → cs.kind = .function → dp < D → un < U → pre news → post h₀ L m news s R →
    codeAny (model PySem.Challenge.rw_fq0033_02.row.prog w) (ktrTop dp un gd cn cs L a ccd cl outer) (.call (.ref f) ⟨args, []⟩) R s
def RetInt (n : Int) : Post := fun h₀ L m news s R => ∀ (t : Tok) (h' : Heap) (tk' : Nat), Fr h₀ L h' m → News h₀ L h' news → R (.ok (.ret (.int n t))) { s with heap := h', toks := tk' }
def RetBool (b : Bool) : Post := fun h₀ L m news s R => ∀ (h' : Heap) (tk' : Nat), Fr h₀ L h' m → News h₀ L h' news → R (.ok (.ret (.bool b))) { s with heap := h', toks := tk' }
def RetPoint (x y z : Int) : Post := fun h₀ L m news s R => ∀ (p d T : Addr) (hs : Int) (kt t1 t2 t3 : Tok) (k : Nat) (h' : Heap) (tk' : Nat), Fr h₀ L h' m → News h₀ L h' ((T, ({ cls := .type "tuple", data := .seq #[.int x t1, .int y t2, .int z t3] k } : Obj)) :: (p, instObj 134 d) :: (d, dictOf [⟨hs, .str (Str.ofString "_Point__point") kt, .ref T⟩] 1) :: news) → (∀ p ∈ news, p.1 < d) → d < p → p < T → R (.ok (.ret (.ref p))) { s with heap := h', toks := tk' }
def RetTup4 (a b c d : Int) : Post := fun h₀ L m news s R => ∀ (D : Addr) (t1 t2 t3 t4 : Tok) (k : Nat) (h' : Heap) (tk' : Nat), Fr h₀ L h' m → News h₀ L h' ((D, ({ cls := .type "tuple", data := .seq #[.int a t1, .int b t2, .int c t3, .int d t4] k } : Obj)) :: news) → (∀ p ∈ news, p.1 < D) → R (.ok (.ret (.ref D))) { s with heap := h', toks := tk' }
def RetTup3 (a b c : Int) : Post := fun h₀ L m news s R => ∀ (D : Addr) (t1 t2 t3 : Tok) (k : Nat) (h' : Heap) (tk' : Nat), Fr h₀ L h' m → News h₀ L h' ((D, ({ cls := .type "tuple", data := .seq #[.int a t1, .int b t2, .int c t3] k } : Obj)) :: news) → (∀ p ∈ news, p.1 < D) → R (.ok (.ret (.ref D))) { s with heap := h', toks := tk' }
def RetTup2 (a b : Int) : Post := fun h₀ L m news s R => ∀ (D : Addr) (t1 t2 : Tok) (k : Nat) (h' : Heap) (tk' : Nat), Fr h₀ L h' m → News h₀ L h' ((D, ({ cls := .type "tuple", data := .seq #[.int a t1, .int b t2] k } : Obj)) :: news) → (∀ p ∈ news, p.1 < D) → R (.ok (.ret (.ref D))) { s with heap := h', toks := tk' }
def RetCell (n : Int) : Post := fun h₀ L m news s R => ∀ (x d : Addr) (hs : Int) (kt vt : Tok) (h' : Heap) (tk' : Nat), Fr h₀ L h' m → News h₀ L h' ((x, instObj 561 d) :: (d, dictOf [⟨hs, .str (Str.ofString "_CellId__id") kt, .int n vt⟩] 1) :: news) → (∀ p ∈ news, p.1 < d) → d < x → R (.ok (.ret (.ref x))) { s with heap := h', toks := tk' }
section
variable {h₀ h : Heap} {L : Addr} {news : List (Addr × Obj)} {a b c d e f : Addr × Obj}
theorem drop_1 (N : News h₀ L h (b :: news)) : News h₀ L h news := fun p hp => N p (by simp only [List.mem_cons] at hp ⊢; first | exact Or.inr hp | (rcases hp with hp | hp <;> simp only [hp, true_or, or_true]) | (rcases hp with hp | hp | hp <;> simp only [hp, true_or, or_true]) | simp only [hp, or_true])
theorem drop_2 (N : News h₀ L h (a :: b :: news)) : News h₀ L h (a :: news) := fun p hp => N p (by simp only [List.mem_cons] at hp ⊢; first | exact Or.inr hp | (rcases hp with hp | hp <;> simp only [hp, true_or, or_true]) | (rcases hp with hp | hp | hp <;> simp only [hp, true_or, or_true]) | simp only [hp, or_true])
theorem drop_3 (N : News h₀ L h (a :: b :: c :: news)) : News h₀ L h (a :: news) := fun p hp => N p (by simp only [List.mem_cons] at hp ⊢; first | exact Or.inr hp | (rcases hp with hp | hp <;> simp only [hp, true_or, or_true]) | (rcases hp with hp | hp | hp <;> simp only [hp, true_or, or_true]) | simp only [hp, or_true])
theorem drop_23 (N : News h₀ L h (a :: b :: c :: news)) : News h₀ L h (a :: b :: news) := fun p hp => N p (by simp only [List.mem_cons] at hp ⊢; first | exact Or.inr hp | (rcases hp with hp | hp <;> simp only [hp, true_or, or_true]) | (rcases hp with hp | hp | hp <;> simp only [hp, true_or, or_true]) | simp only [hp, or_true])
theorem drop_24 (N : News h₀ L h (a :: b :: c :: d :: news)) : News h₀ L h (a :: b :: news) := fun p hp => N p (by simp only [List.mem_cons] at hp ⊢; first | exact Or.inr hp | (rcases hp with hp | hp <;> simp only [hp, true_or, or_true]) | (rcases hp with hp | hp | hp <;> simp only [hp, true_or, or_true]) | simp only [hp, or_true])
theorem drop_25 (N : News h₀ L h (a :: b :: c :: d :: e :: news)) : News h₀ L h (a :: b :: news) := fun p hp => N p (by simp only [List.mem_cons] at hp ⊢; first | exact Or.inr hp | (rcases hp with hp | hp <;> simp only [hp, true_or, or_true]) | (rcases hp with hp | hp | hp <;> simp only [hp, true_or, or_true]) | simp only [hp, or_true])
theorem drop_26 (N : News h₀ L h (a :: b :: c :: d :: e :: f :: news)) : News h₀ L h (a :: b :: news) := fun p hp => N p (by simp only [List.mem_cons] at hp ⊢; first | exact Or.inr hp | (rcases hp with hp | hp <;> simp only [hp, true_or, or_true]) | (rcases hp with hp | hp | hp <;> simp only [hp, true_or, or_true]) | simp only [hp, or_true])
theorem drop_02 (N : News h₀ L h (b :: c :: news)) : News h₀ L h news := fun p hp => N p (by simp only [List.mem_cons] at hp ⊢; first | exact Or.inr hp | (rcases hp with hp | hp <;> simp only [hp, true_or, or_true]) | (rcases hp with hp | hp | hp <;> simp only [hp, true_or, or_true]) | simp only [hp, or_true])
theorem drop_03 (N : News h₀ L h (b :: c :: d :: news)) : News h₀ L h news := fun p hp => N p (by simp only [List.mem_cons] at hp ⊢; first | exact Or.inr hp | (rcases hp with hp | hp <;> simp only [hp, true_or, or_true]) | (rcases hp with hp | hp | hp <;> simp only [hp, true_or, or_true]) | simp only [hp, or_true])
theorem drop_04 (N : News h₀ L h (b :: c :: d :: e :: news)) : News h₀ L h news := fun p hp => N p (by simp only [List.mem_cons] at hp ⊢; first | exact Or.inr hp | (rcases hp with hp | hp <;> simp only [hp, true_or, or_true]) | (rcases hp with hp | hp | hp <;> simp only [hp, true_or, or_true]) | simp only [hp, or_true])
end
section
variable {w : World} {D U : Nat} {pre : List (Addr × Obj) → Prop} {f : Addr} {args : List Value} {post : Post}
theorem use_ctr {mean : ExcName → Option Value} {mg mb : Str → Option Value} {dp un : Nat} {gd : Option (List Code)} {cn : Str} {cs : Scope} {a : Addr} {ccd : Value} {cl : List (Str × Addr)} {outer : List Env} {A₀ : Around} {base h₀ : Heap} {L : Addr} {m : Str → Option Value} {news : List (Addr × Obj)} {s : Shared} {R : Result → Shared → Prop}
    (C : Ctr w D U pre f args post) (B : Below A₀ base outer h₀) (F : Fr h₀ L s.heap m) (X : (hd02.heap_39 w.params).In h₀) (N : News h₀ L s.heap news) (T : Top hd02.view_39 (looseW hd02.view_39 [Str.ofString "POS_TO_ORIENTATION", Str.ofString "LOOKUP_POS", Str.ofString "LOOKUP_IJ", Str.ofString "CellId"]) mean mg mb h₀) (hk : cs.kind = .function) (hd : dp < D) (hu : un < U) (hp : pre news) (hr : post h₀ L m news s R) :
    codeAny (model PySem.Challenge.rw_fq0033_02.row.prog w) (ktrTop dp un gd cn cs L a ccd cl outer) (.call (.ref f) ⟨args, []⟩) R s := C _ _ _ _ _ _ _ _ _ _ _ _ _ _ _ _ _ _ _ _ B F X N T hk hd hu hp hr
theorem use_ctrW {mean : ExcName → Option Value} {mg mb : Str → Option Value} {dp un : Nat} {gd : Option (List Code)} {cn : Str} {cs : Scope} {a : Addr} {ccd : Value} {cl : List (Str × Addr)} {outer : List Env} {A₀ : Around} {base h₀ : Heap} {L : Addr} {m : Str → Option Value} {news : List (Addr × Obj)} {s : Shared} {Q E : Value → Shared → Prop}
    (C : Ctr w D U pre f args post) (B : Below A₀ base outer h₀) (F : Fr h₀ L s.heap m) (X : (hd02.heap_39 w.params).In h₀) (N : News h₀ L s.heap news) (T : Top hd02.view_39 (looseW hd02.view_39 [Str.ofString "POS_TO_ORIENTATION", Str.ofString "LOOKUP_POS", Str.ofString "LOOKUP_IJ", Str.ofString "CellId"]) mean mg mb h₀) (hk : cs.kind = .function) (hd : dp < D) (hu : un < U) (hp : pre news) (hr : post h₀ L m news s (fun r s' => match r with | .ok (.ret v) => Q v s' | .ok _ => False | .error e => E e s')) :
    wpAny (model PySem.Challenge.rw_fq0033_02.row.prog w) (ktrTop dp un gd cn cs L a ccd cl outer) (call (.ref f) args) Q E s := wpAny_call (use_ctr C B F X N T hk hd hu hp hr)
/-- a class, called -/
def CtrC (w : World) (D U : Nat) (pre : List (Addr × Obj) → Prop) (f : Addr) (args : List Value) (post : Post) : Prop :=
  ∀ (mean : ExcName → Option Value) (mg mb : Str → Option Value) (dp un : Nat) (gd : Option (List Code)) (cn : Str) (cs : Scope) (a : Addr) (ccd : Value) (cl : List (Str × Addr)) (outer : List Env) (A₀ : Around) (base h₀ : Heap) (L : Addr) (m : Str → Option Value) (news : List (Addr × Obj)) (s : Shared) (Q E : Value → Shared → Prop),
    Below A₀ base outer h₀ → Fr h₀ L s.heap m → (hd02.heap_39 w.params).In h₀ → News h₀ L s.heap news → Top hd02.view_39 (looseW hd02.view_39 [Str.ofString "POS_TO_ORIENTATION", Str.ofString "LOOKUP_POS", Str.ofString "LOOKUP_IJ", Str.ofString "CellId"]) mean mg mb h₀ → cs.kind = .function → dp < D → un < U → pre news → post h₀ L m news s (fun r s' => match r with | .ok (.ret v) => Q v s' | .ok _ => False | .error e => E e s') →
    wpAny (model PySem.Challenge.rw_fq0033_02.row.prog w) (ktrTop dp un gd cn cs L a ccd cl outer) (call (.ref f) args) Q E s
theorem use_ctrC {mean : ExcName → Option Value} {mg mb : Str → Option Value} {dp un : Nat} {gd : Option (List Code)} {cn : Str} {cs : Scope} {a : Addr} {ccd : Value} {cl : List (Str × Addr)} {outer : List Env} {A₀ : Around} {base h₀ : Heap} {L : Addr} {m : Str → Option Value} {news : List (Addr × Obj)} {s : Shared} {Q E : Value → Shared → Prop}
    (C : CtrC w D U pre f args post) (B : Below A₀ base outer h₀) (F : Fr h₀ L s.heap m) (X : (hd02.heap_39 w.params).In h₀) (N : News h₀ L s.heap news) (T : Top hd02.view_39 (looseW hd02.view_39 [Str.ofString "POS_TO_ORIENTATION", Str.ofString "LOOKUP_POS", Str.ofString "LOOKUP_IJ", Str.ofString "CellId"]) mean mg mb h₀) (hk : cs.kind = .function) (hd : dp < D) (hu : un < U) (hp : pre news) (hr : post h₀ L m news s (fun r s' => match r with | .ok (.ret v) => Q v s' | .ok _ => False | .error e => E e s')) :
    wpAny (model PySem.Challenge.rw_fq0033_02.row.prog w) (ktrTop dp un gd cn cs L a ccd cl outer) (call (.ref f) args) Q E s := C _ _ _ _ _ _ _ _ _ _ _ _ _ _ _ _ _ _ _ _ _ B F X N T hk hd hu hp hr
end

end Mine
open PySem PySem.W PySem.Calls PyProof.Rows
set_option Elab.async false
set_option maxRecDepth 100000
set_option maxHeartbeats 4000000
set_option linter.unusedVariables false
namespace Mine


theorem item_alg {prog : Program} {w : World} {A : Around} {E : Value → Shared → Prop} {s : Shared} {K : Frag} {h₀ : Heap} {L a : Addr} {m : Str → Option Value} {n : Nat} {value slice : Expr} {l : List Value} {ns : List Int} {dd : Option Addr} {sl : Array (Option Value)} {j : Int} {u : Tok} {Q : Value → Shared → Prop} {f : Nat → Nat} (F : Fr h₀ L s.heap m) (X₀ : K.In h₀)
    (hl : K.lookup a = some ⟨.type "list", dd, .seq l.toArray n, sl⟩) (hi : IntsAre l ns) (hlen : ns.length = 128) (hf : ∀ i < 128, ns.getD i 0 = (f i : Int)) (h0 : 0 ≤ j) (h1 : j < 128) (h : ∀ t, Q (.int (f j.toNat) t) s)
    (hs : subscripted slice false (.ref a) (.int j u) = operate [.ref a, .int j u] (getItem (.ref a) (.int j u))) :
    wpAny (model prog w) A (subscriptTail value slice (.ref a) (.int j u)) Q E s :=
  item_list_intsR (lstK (X₀.keeps F.keep) hl) hi h0 (by omega) (by omega) (by rw [hf _ (by omega)]; exact h) hs


theorem posA_out {w : World} {A : Around} {E : Value → Shared → Prop} {s : Shared} {value slice : Expr} {k : Int} {u : Tok} {h₀ : Heap} {L : Addr} {m : Str → Option Value} {Q : Value → Shared → Prop} : ∀ (F : Fr h₀ L s.heap m) (X₀ : (hd02.heap_39 w.params).In h₀) (h0 : 0 ≤ k) (h1 : k < 8) (h : Q (.ref (140 + k.toNat)) s) (hs : subscripted slice false (.ref 148) (.int k u) = operate [.ref 148, .int k u] (getItem (.ref 148) (.int k u))), wpAny (model PySem.Challenge.rw_fq0033_02.row.prog w) A (subscriptTail value slice (.ref 148) (.int k u)) Q E s := by
  k_fill
  intro F X₀ h0 h1 h hs
  refine topList_K (l := [.ref 140, .ref 141, .ref 142, .ref 143, .ref 144, .ref 145, .ref 146, .ref 147]) F X₀ (by k_is) h0 (by omega) ?_ h hs
  have hk : k.toNat < 8 := by omega
  generalize k.toNat = n at hk ⊢
  match n, hk with
  | 0, _ => rfl
  | 1, _ => rfl
  | 2, _ => rfl
  | 3, _ => rfl
  | 4, _ => rfl
  | 5, _ => rfl
  | 6, _ => rfl
  | 7, _ => rfl
theorem posA_in0 {w : World} {A : Around} {E : Value → Shared → Prop} {s : Shared} {value slice : Expr} {j : Int} {u : Tok} {h₀ : Heap} {L : Addr} {m : Str → Option Value} {Q : Value → Shared → Prop} : ∀ (F : Fr h₀ L s.heap m) (X₀ : (hd02.heap_39 w.params).In h₀) (h0 : 0 ≤ j) (h1 : j < 128) (h : ∀ t, Q (.int (posA (0 * 128 + j.toNat) : Nat) t) s) (hs : subscripted slice false (.ref 140) (.int j u) = operate [.ref 140, .int j u] (getItem (.ref 140) (.int j u))), wpAny (model PySem.Challenge.rw_fq0033_02.row.prog w) A (subscriptTail value slice (.ref 140) (.int j u)) Q E s := by
  k_fill
  intro F X₀ h0 h1 h hs
  refine' item_alg (K := hd02.heap_39 w.params) (f := fun i => posA (0 * 128 + i)) F X₀ ?hl ?hi ?len ?hf h0 h1 h hs
  case hl => k_is
  case hi => l_ints
  case len => rfl
  case hf => decide +kernel
theorem posA_in1 {w : World} {A : Around} {E : Value → Shared → Prop} {s : Shared} {value slice : Expr} {j : Int} {u : Tok} {h₀ : Heap} {L : Addr} {m : Str → Option Value} {Q : Value → Shared → Prop} : ∀ (F : Fr h₀ L s.heap m) (X₀ : (hd02.heap_39 w.params).In h₀) (h0 : 0 ≤ j) (h1 : j < 128) (h : ∀ t, Q (.int (posA (1 * 128 + j.toNat) : Nat) t) s) (hs : subscripted slice false (.ref 141) (.int j u) = operate [.ref 141, .int j u] (getItem (.ref 141) (.int j u))), wpAny (model PySem.Challenge.rw_fq0033_02.row.prog w) A (subscriptTail value slice (.ref 141) (.int j u)) Q E s := by
  k_fill
  intro F X₀ h0 h1 h hs
  refine' item_alg (K := hd02.heap_39 w.params) (f := fun i => posA (1 * 128 + i)) F X₀ ?hl ?hi ?len ?hf h0 h1 h hs
  case hl => k_is
  case hi => l_ints
  case len => rfl
  case hf => decide +kernel
theorem posA_in2 {w : World} {A : Around} {E : Value → Shared → Prop} {s : Shared} {value slice : Expr} {j : Int} {u : Tok} {h₀ : Heap} {L : Addr} {m : Str → Option Value} {Q : Value → Shared → Prop} : ∀ (F : Fr h₀ L s.heap m) (X₀ : (hd02.heap_39 w.params).In h₀) (h0 : 0 ≤ j) (h1 : j < 128) (h : ∀ t, Q (.int (posA (2 * 128 + j.toNat) : Nat) t) s) (hs : subscripted slice false (.ref 142) (.int j u) = operate [.ref 142, .int j u] (getItem (.ref 142) (.int j u))), wpAny (model PySem.Challenge.rw_fq0033_02.row.prog w) A (subscriptTail value slice (.ref 142) (.int j u)) Q E s := by
  k_fill
  intro F X₀ h0 h1 h hs
  refine' item_alg (K := hd02.heap_39 w.params) (f := fun i => posA (2 * 128 + i)) F X₀ ?hl ?hi ?len ?hf h0 h1 h hs
  case hl => k_is
  case hi => l_ints
  case len => rfl
  case hf => decide +kernel
theorem posA_in3 {w : World} {A : Around} {E : Value → Shared → Prop} {s : Shared} {value slice : Expr} {j : Int} {u : Tok} {h₀ : Heap} {L : Addr} {m : Str → Option Value} {Q : Value → Shared → Prop} : ∀ (F : Fr h₀ L s.heap m) (X₀ : (hd02.heap_39 w.params).In h₀) (h0 : 0 ≤ j) (h1 : j < 128) (h : ∀ t, Q (.int (posA (3 * 128 + j.toNat) : Nat) t) s) (hs : subscripted slice false (.ref 143) (.int j u) = operate [.ref 143, .int j u] (getItem (.ref 143) (.int j u))), wpAny (model PySem.Challenge.rw_fq0033_02.row.prog w) A (subscriptTail value slice (.ref 143) (.int j u)) Q E s := by
  k_fill
  intro F X₀ h0 h1 h hs
  refine' item_alg (K := hd02.heap_39 w.params) (f := fun i => posA (3 * 128 + i)) F X₀ ?hl ?hi ?len ?hf h0 h1 h hs
  case hl => k_is
  case hi => l_ints
  case len => rfl
  case hf => decide +kernel
theorem posA_in4 {w : World} {A : Around} {E : Value → Shared → Prop} {s : Shared} {value slice : Expr} {j : Int} {u : Tok} {h₀ : Heap} {L : Addr} {m : Str → Option Value} {Q : Value → Shared → Prop} : ∀ (F : Fr h₀ L s.heap m) (X₀ : (hd02.heap_39 w.params).In h₀) (h0 : 0 ≤ j) (h1 : j < 128) (h : ∀ t, Q (.int (posA (4 * 128 + j.toNat) : Nat) t) s) (hs : subscripted slice false (.ref 144) (.int j u) = operate [.ref 144, .int j u] (getItem (.ref 144) (.int j u))), wpAny (model PySem.Challenge.rw_fq0033_02.row.prog w) A (subscriptTail value slice (.ref 144) (.int j u)) Q E s := by
  k_fill
  intro F X₀ h0 h1 h hs
  refine' item_alg (K := hd02.heap_39 w.params) (f := fun i => posA (4 * 128 + i)) F X₀ ?hl ?hi ?len ?hf h0 h1 h hs
  case hl => k_is
  case hi => l_ints
  case len => rfl
  case hf => decide +kernel
theorem posA_in5 {w : World} {A : Around} {E : Value → Shared → Prop} {s : Shared} {value slice : Expr} {j : Int} {u : Tok} {h₀ : Heap} {L : Addr} {m : Str → Option Value} {Q : Value → Shared → Prop} : ∀ (F : Fr h₀ L s.heap m) (X₀ : (hd02.heap_39 w.params).In h₀) (h0 : 0 ≤ j) (h1 : j < 128) (h : ∀ t, Q (.int (posA (5 * 128 + j.toNat) : Nat) t) s) (hs : subscripted slice false (.ref 145) (.int j u) = operate [.ref 145, .int j u] (getItem (.ref 145) (.int j u))), wpAny (model PySem.Challenge.rw_fq0033_02.row.prog w) A (subscriptTail value slice (.ref 145) (.int j u)) Q E s := by
  k_fill
  intro F X₀ h0 h1 h hs
  refine' item_alg (K := hd02.heap_39 w.params) (f := fun i => posA (5 * 128 + i)) F X₀ ?hl ?hi ?len ?hf h0 h1 h hs
  case hl => k_is
  case hi => l_ints
  case len => rfl
  case hf => decide +kernel
theorem posA_in6 {w : World} {A : Around} {E : Value → Shared → Prop} {s : Shared} {value slice : Expr} {j : Int} {u : Tok} {h₀ : Heap} {L : Addr} {m : Str → Option Value} {Q : Value → Shared → Prop} : ∀ (F : Fr h₀ L s.heap m) (X₀ : (hd02.heap_39 w.params).In h₀) (h0 : 0 ≤ j) (h1 : j < 128) (h : ∀ t, Q (.int (posA (6 * 128 + j.toNat) : Nat) t) s) (hs : subscripted slice false (.ref 146) (.int j u) = operate [.ref 146, .int j u] (getItem (.ref 146) (.int j u))), wpAny (model PySem.Challenge.rw_fq0033_02.row.prog w) A (subscriptTail value slice (.ref 146) (.int j u)) Q E s := by
  k_fill
  intro F X₀ h0 h1 h hs
  refine' item_alg (K := hd02.heap_39 w.params) (f := fun i => posA (6 * 128 + i)) F X₀ ?hl ?hi ?len ?hf h0 h1 h hs
  case hl => k_is
  case hi => l_ints
  case len => rfl
  case hf => decide +kernel
theorem posA_in7 {w : World} {A : Around} {E : Value → Shared → Prop} {s : Shared} {value slice : Expr} {j : Int} {u : Tok} {h₀ : Heap} {L : Addr} {m : Str → Option Value} {Q : Value → Shared → Prop} : ∀ (F : Fr h₀ L s.heap m) (X₀ : (hd02.heap_39 w.params).In h₀) (h0 : 0 ≤ j) (h1 : j < 128) (h : ∀ t, Q (.int (posA (7 * 128 + j.toNat) : Nat) t) s) (hs : subscripted slice false (.ref 147) (.int j u) = operate [.ref 147, .int j u] (getItem (.ref 147) (.int j u))), wpAny (model PySem.Challenge.rw_fq0033_02.row.prog w) A (subscriptTail value slice (.ref 147) (.int j u)) Q E s := by
  k_fill
  intro F X₀ h0 h1 h hs
  refine' item_alg (K := hd02.heap_39 w.params) (f := fun i => posA (7 * 128 + i)) F X₀ ?hl ?hi ?len ?hf h0 h1 h hs
  case hl => k_is
  case hi => l_ints
  case len => rfl
  case hf => decide +kernel
theorem posA_in {w : World} {A : Around} {E : Value → Shared → Prop} {s : Shared} {value slice : Expr} {k j : Int} {u : Tok} {h₀ : Heap} {L : Addr} {m : Str → Option Value} {Q : Value → Shared → Prop} (F : Fr h₀ L s.heap m) (X₀ : (hd02.heap_39 w.params).In h₀) (g0 : 0 ≤ k) (g1 : k < 8) (h0 : 0 ≤ j) (h1 : j < 128) (h : ∀ (v : Int) t, v = (posA (k * 128 + j).toNat : Nat) → 0 ≤ v → v < 1024 → Q (.int v t) s) (hs : subscripted slice false (.ref (140 + k.toNat)) (.int j u) = operate [.ref (140 + k.toNat), .int j u] (getItem (.ref (140 + k.toNat)) (.int j u))) : wpAny (model PySem.Challenge.rw_fq0033_02.row.prog w) A (subscriptTail value slice (.ref (140 + k.toNat)) (.int j u)) Q E s := by
  have hn : ∀ c : Nat, c < 8 → k.toNat = c → (k * 128 + j).toNat = c * 128 + j.toNat := by intro c hc e; omega
  have hb : (k * 128 + j).toNat < 1024 := by omega
  have hq : ∀ t, Q (.int (posA (k * 128 + j).toNat : Nat) t) s := fun t => h _ t rfl (by omega) (by have := posA_lt _ hb; omega)
  have hk : k.toNat < 8 := by omega
  generalize hkn : k.toNat = n at hk hs ⊢
  match n, hk with
  | 0, _ => exact posA_in0 F X₀ h0 h1 (by rw [hn 0 (by decide) hkn] at hq; exact hq) hs
  | 1, _ => exact posA_in1 F X₀ h0 h1 (by rw [hn 1 (by decide) hkn] at hq; exact hq) hs
  | 2, _ => exact posA_in2 F X₀ h0 h1 (by rw [hn 2 (by decide) hkn] at hq; exact hq) hs
  | 3, _ => exact posA_in3 F X₀ h0 h1 (by rw [hn 3 (by decide) hkn] at hq; exact hq) hs
  | 4, _ => exact posA_in4 F X₀ h0 h1 (by rw [hn 4 (by decide) hkn] at hq; exact hq) hs
  | 5, _ => exact posA_in5 F X₀ h0 h1 (by rw [hn 5 (by decide) hkn] at hq; exact hq) hs
  | 6, _ => exact posA_in6 F X₀ h0 h1 (by rw [hn 6 (by decide) hkn] at hq; exact hq) hs
  | 7, _ => exact posA_in7 F X₀ h0 h1 (by rw [hn 7 (by decide) hkn] at hq; exact hq) hs
local macro_rules | `(tactic| walk_at "subscriptTail") => `(tactic| (k_here; (with_reducible show wpAny _ _ (subscriptTail _ _ (Value.ref 148) (Value.int _ _)) _ _ _); k_dflt (refine' posA_out ?F ?X ?h0 ?h1 ?_ ?hs; (case hs => with_unfolding_all rfl); (case F => k_asm); (case X => k_asm); (case h0 => omega); (case h1 => omega); k_whole)))
local macro_rules | `(tactic| walk_at "subscriptTail") => `(tactic| (k_here; (with_reducible show wpAny _ _ (subscriptTail _ _ (Value.ref (140 + _)) (Value.int _ _)) _ _ _); k_dflt (refine' posA_in ?F ?X ?g0 ?g1 ?h0 ?h1 ?_ ?hs; (case hs => with_unfolding_all rfl); (case F => k_asm); (case X => k_asm); (case g0 => omega); (case g1 => omega); (case h0 => omega); (case h1 => omega); k_whole; intro tv' tt' te' t0' t1')))

theorem ijA_out {w : World} {A : Around} {E : Value → Shared → Prop} {s : Shared} {value slice : Expr} {k : Int} {u : Tok} {h₀ : Heap} {L : Addr} {m : Str → Option Value} {Q : Value → Shared → Prop} : ∀ (F : Fr h₀ L s.heap m) (X₀ : (hd02.heap_39 w.params).In h₀) (h0 : 0 ≤ k) (h1 : k < 8) (h : Q (.ref (149 + k.toNat)) s) (hs : subscripted slice false (.ref 157) (.int k u) = operate [.ref 157, .int k u] (getItem (.ref 157) (.int k u))), wpAny (model PySem.Challenge.rw_fq0033_02.row.prog w) A (subscriptTail value slice (.ref 157) (.int k u)) Q E s := by
  k_fill
  intro F X₀ h0 h1 h hs
  refine topList_K (l := [.ref 149, .ref 150, .ref 151, .ref 152, .ref 153, .ref 154, .ref 155, .ref 156]) F X₀ (by k_is) h0 (by omega) ?_ h hs
  have hk : k.toNat < 8 := by omega
  generalize k.toNat = n at hk ⊢
  match n, hk with
  | 0, _ => rfl
  | 1, _ => rfl
  | 2, _ => rfl
  | 3, _ => rfl
  | 4, _ => rfl
  | 5, _ => rfl
  | 6, _ => rfl
  | 7, _ => rfl
theorem ijA_in0 {w : World} {A : Around} {E : Value → Shared → Prop} {s : Shared} {value slice : Expr} {j : Int} {u : Tok} {h₀ : Heap} {L : Addr} {m : Str → Option Value} {Q : Value → Shared → Prop} : ∀ (F : Fr h₀ L s.heap m) (X₀ : (hd02.heap_39 w.params).In h₀) (h0 : 0 ≤ j) (h1 : j < 128) (h : ∀ t, Q (.int (ijA (0 * 128 + j.toNat) : Nat) t) s) (hs : subscripted slice false (.ref 149) (.int j u) = operate [.ref 149, .int j u] (getItem (.ref 149) (.int j u))), wpAny (model PySem.Challenge.rw_fq0033_02.row.prog w) A (subscriptTail value slice (.ref 149) (.int j u)) Q E s := by
  k_fill
  intro F X₀ h0 h1 h hs
  refine' item_alg (K := hd02.heap_39 w.params) (f := fun i => ijA (0 * 128 + i)) F X₀ ?hl ?hi ?len ?hf h0 h1 h hs
  case hl => k_is
  case hi => l_ints
  case len => rfl
  case hf => decide +kernel
theorem ijA_in1 {w : World} {A : Around} {E : Value → Shared → Prop} {s : Shared} {value slice : Expr} {j : Int} {u : Tok} {h₀ : Heap} {L : Addr} {m : Str → Option Value} {Q : Value → Shared → Prop} : ∀ (F : Fr h₀ L s.heap m) (X₀ : (hd02.heap_39 w.params).In h₀) (h0 : 0 ≤ j) (h1 : j < 128) (h : ∀ t, Q (.int (ijA (1 * 128 + j.toNat) : Nat) t) s) (hs : subscripted slice false (.ref 150) (.int j u) = operate [.ref 150, .int j u] (getItem (.ref 150) (.int j u))), wpAny (model PySem.Challenge.rw_fq0033_02.row.prog w) A (subscriptTail value slice (.ref 150) (.int j u)) Q E s := by
  k_fill
  intro F X₀ h0 h1 h hs
  refine' item_alg (K := hd02.heap_39 w.params) (f := fun i => ijA (1 * 128 + i)) F X₀ ?hl ?hi ?len ?hf h0 h1 h hs
  case hl => k_is
  case hi => l_ints
  case len => rfl
  case hf => decide +kernel
theorem ijA_in2 {w : World} {A : Around} {E : Value → Shared → Prop} {s : Shared} {value slice : Expr} {j : Int} {u : Tok} {h₀ : Heap} {L : Addr} {m : Str → Option Value} {Q : Value → Shared → Prop} : ∀ (F : Fr h₀ L s.heap m) (X₀ : (hd02.heap_39 w.params).In h₀) (h0 : 0 ≤ j) (h1 : j < 128) (h : ∀ t, Q (.int (ijA (2 * 128 + j.toNat) : Nat) t) s) (hs : subscripted slice false (.ref 151) (.int j u) = operate [.ref 151, .int j u] (getItem (.ref 151) (.int j u))), wpAny (model PySem.Challenge.rw_fq0033_02.row.prog w) A (subscriptTail value slice (.ref 151) (.int j u)) Q E s := by
  k_fill
  intro F X₀ h0 h1 h hs
  refine' item_alg (K := hd02.heap_39 w.params) (f := fun i => ijA (2 * 128 + i)) F X₀ ?hl ?hi ?len ?hf h0 h1 h hs
  case hl => k_is
  case hi => l_ints
  case len => rfl
  case hf => decide +kernel
theorem ijA_in3 {w : World} {A : Around} {E : Value → Shared → Prop} {s : Shared} {value slice : Expr} {j : Int} {u : Tok} {h₀ : Heap} {L : Addr} {m : Str → Option Value} {Q : Value → Shared → Prop} : ∀ (F : Fr h₀ L s.heap m) (X₀ : (hd02.heap_39 w.params).In h₀) (h0 : 0 ≤ j) (h1 : j < 128) (h : ∀ t, Q (.int (ijA (3 * 128 + j.toNat) : Nat) t) s) (hs : subscripted slice false (.ref 152) (.int j u) = operate [.ref 152, .int j u] (getItem (.ref 152) (.int j u))), wpAny (model PySem.Challenge.rw_fq0033_02.row.prog w) A (subscriptTail value slice (.ref 152) (.int j u)) Q E s := by
  k_fill
  intro F X₀ h0 h1 h hs
  refine' item_alg (K := hd02.heap_39 w.params) (f := fun i => ijA (3 * 128 + i)) F X₀ ?hl ?hi ?len ?hf h0 h1 h hs
  case hl => k_is
  case hi => l_ints
  case len => rfl
  case hf => decide +kernel
theorem ijA_in4 {w : World} {A : Around} {E : Value → Shared → Prop} {s : Shared} {value slice : Expr} {j : Int} {u : Tok} {h₀ : Heap} {L : Addr} {m : Str → Option Value} {Q : Value → Shared → Prop} : ∀ (F : Fr h₀ L s.heap m) (X₀ : (hd02.heap_39 w.params).In h₀) (h0 : 0 ≤ j) (h1 : j < 128) (h : ∀ t, Q (.int (ijA (4 * 128 + j.toNat) : Nat) t) s) (hs : subscripted slice false (.ref 153) (.int j u) = operate [.ref 153, .int j u] (getItem (.ref 153) (.int j u))), wpAny (model PySem.Challenge.rw_fq0033_02.row.prog w) A (subscriptTail value slice (.ref 153) (.int j u)) Q E s := by
  k_fill
  intro F X₀ h0 h1 h hs
  refine' item_alg (K := hd02.heap_39 w.params) (f := fun i => ijA (4 * 128 + i)) F X₀ ?hl ?hi ?len ?hf h0 h1 h hs
  case hl => k_is
  case hi => l_ints
  case len => rfl
  case hf => decide +kernel
theorem ijA_in5 {w : World} {A : Around} {E : Value → Shared → Prop} {s : Shared} {value slice : Expr} {j : Int} {u : Tok} {h₀ : Heap} {L : Addr} {m : Str → Option Value} {Q : Value → Shared → Prop} : ∀ (F : Fr h₀ L s.heap m) (X₀ : (hd02.heap_39 w.params).In h₀) (h0 : 0 ≤ j) (h1 : j < 128) (h : ∀ t, Q (.int (ijA (5 * 128 + j.toNat) : Nat) t) s) (hs : subscripted slice false (.ref 154) (.int j u) = operate [.ref 154, .int j u] (getItem (.ref 154) (.int j u))), wpAny (model PySem.Challenge.rw_fq0033_02.row.prog w) A (subscriptTail value slice (.ref 154) (.int j u)) Q E s := by
  k_fill
  intro F X₀ h0 h1 h hs
  refine' item_alg (K := hd02.heap_39 w.params) (f := fun i => ijA (5 * 128 + i)) F X₀ ?hl ?hi ?len ?hf h0 h1 h hs
  case hl => k_is
  case hi => l_ints
  case len => rfl
  case hf => decide +kernel
theorem ijA_in6 {w : World} {A : Around} {E : Value → Shared → Prop} {s : Shared} {value slice : Expr} {j : Int} {u : Tok} {h₀ : Heap} {L : Addr} {m : Str → Option Value} {Q : Value → Shared → Prop} : ∀ (F : Fr h₀ L s.heap m) (X₀ : (hd02.heap_39 w.params).In h₀) (h0 : 0 ≤ j) (h1 : j < 128) (h : ∀ t, Q (.int (ijA (6 * 128 + j.toNat) : Nat) t) s) (hs : subscripted slice false (.ref 155) (.int j u) = operate [.ref 155, .int j u] (getItem (.ref 155) (.int j u))), wpAny (model PySem.Challenge.rw_fq0033_02.row.prog w) A (subscriptTail value slice (.ref 155) (.int j u)) Q E s := by
  k_fill
  intro F X₀ h0 h1 h hs
  refine' item_alg (K := hd02.heap_39 w.params) (f := fun i => ijA (6 * 128 + i)) F X₀ ?hl ?hi ?len ?hf h0 h1 h hs
  case hl => k_is
  case hi => l_ints
  case len => rfl
  case hf => decide +kernel
theorem ijA_in7 {w : World} {A : Around} {E : Value → Shared → Prop} {s : Shared} {value slice : Expr} {j : Int} {u : Tok} {h₀ : Heap} {L : Addr} {m : Str → Option Value} {Q : Value → Shared → Prop} : ∀ (F : Fr h₀ L s.heap m) (X₀ : (hd02.heap_39 w.params).In h₀) (h0 : 0 ≤ j) (h1 : j < 128) (h : ∀ t, Q (.int (ijA (7 * 128 + j.toNat) : Nat) t) s) (hs : subscripted slice false (.ref 156) (.int j u) = operate [.ref 156, .int j u] (getItem (.ref 156) (.int j u))), wpAny (model PySem.Challenge.rw_fq0033_02.row.prog w) A (subscriptTail value slice (.ref 156) (.int j u)) Q E s := by
  k_fill
  intro F X₀ h0 h1 h hs
  refine' item_alg (K := hd02.heap_39 w.params) (f := fun i => ijA (7 * 128 + i)) F X₀ ?hl ?hi ?len ?hf h0 h1 h hs
  case hl => k_is
  case hi => l_ints
  case len => rfl
  case hf => decide +kernel
theorem ijA_in {w : World} {A : Around} {E : Value → Shared → Prop} {s : Shared} {value slice : Expr} {k j : Int} {u : Tok} {h₀ : Heap} {L : Addr} {m : Str → Option Value} {Q : Value → Shared → Prop} (F : Fr h₀ L s.heap m) (X₀ : (hd02.heap_39 w.params).In h₀) (g0 : 0 ≤ k) (g1 : k < 8) (h0 : 0 ≤ j) (h1 : j < 128) (h : ∀ (v : Int) t, v = (ijA (k * 128 + j).toNat : Nat) → 0 ≤ v → v < 1024 → Q (.int v t) s) (hs : subscripted slice false (.ref (149 + k.toNat)) (.int j u) = operate [.ref (149 + k.toNat), .int j u] (getItem (.ref (149 + k.toNat)) (.int j u))) : wpAny (model PySem.Challenge.rw_fq0033_02.row.prog w) A (subscriptTail value slice (.ref (149 + k.toNat)) (.int j u)) Q E s := by
  have hn : ∀ c : Nat, c < 8 → k.toNat = c → (k * 128 + j).toNat = c * 128 + j.toNat := by intro c hc e; omega
  have hb : (k * 128 + j).toNat < 1024 := by omega
  have hq : ∀ t, Q (.int (ijA (k * 128 + j).toNat : Nat) t) s := fun t => h _ t rfl (by omega) (by have := ijA_lt _ hb; omega)
  have hk : k.toNat < 8 := by omega
  generalize hkn : k.toNat = n at hk hs ⊢
  match n, hk with
  | 0, _ => exact ijA_in0 F X₀ h0 h1 (by rw [hn 0 (by decide) hkn] at hq; exact hq) hs
  | 1, _ => exact ijA_in1 F X₀ h0 h1 (by rw [hn 1 (by decide) hkn] at hq; exact hq) hs
  | 2, _ => exact ijA_in2 F X₀ h0 h1 (by rw [hn 2 (by decide) hkn] at hq; exact hq) hs
  | 3, _ => exact ijA_in3 F X₀ h0 h1 (by rw [hn 3 (by decide) hkn] at hq; exact hq) hs
  | 4, _ => exact ijA_in4 F X₀ h0 h1 (by rw [hn 4 (by decide) hkn] at hq; exact hq) hs
  | 5, _ => exact ijA_in5 F X₀ h0 h1 (by rw [hn 5 (by decide) hkn] at hq; exact hq) hs
  | 6, _ => exact ijA_in6 F X₀ h0 h1 (by rw [hn 6 (by decide) hkn] at hq; exact hq) hs
  | 7, _ => exact ijA_in7 F X₀ h0 h1 (by rw [hn 7 (by decide) hkn] at hq; exact hq) hs
local macro_rules | `(tactic| walk_at "subscriptTail") => `(tactic| (k_here; (with_reducible show wpAny _ _ (subscriptTail _ _ (Value.ref 157) (Value.int _ _)) _ _ _); k_dflt (refine' ijA_out ?F ?X ?h0 ?h1 ?_ ?hs; (case hs => with_unfolding_all rfl); (case F => k_asm); (case X => k_asm); (case h0 => omega); (case h1 => omega); k_whole)))
local macro_rules | `(tactic| walk_at "subscriptTail") => `(tactic| (k_here; (with_reducible show wpAny _ _ (subscriptTail _ _ (Value.ref (149 + _)) (Value.int _ _)) _ _ _); k_dflt (refine' ijA_in ?F ?X ?g0 ?g1 ?h0 ?h1 ?_ ?hs; (case hs => with_unfolding_all rfl); (case F => k_asm); (case X => k_asm); (case g0 => omega); (case g1 => omega); (case h0 => omega); (case h1 => omega); k_whole; intro tv' tt' te' t0' t1')))

end Mine
namespace Mine

local macro_rules | `(tactic| k_in) => `(tactic| first | with_reducible assumption | exact Frag.In.keeps (by with_reducible assumption) (Fr.keep (by with_reducible assumption)))
local macro_rules | `(tactic| k_inst) => `(tactic| ((with_reducible show InstAt _ (@OfNat.ofNat Nat _ _) _ _ _); refine' InstAt.of_K ?X ?h1 ?h2; (case X => first | with_reducible assumption | exact Frag.In.keeps (by with_reducible assumption) (Fr.keep (by with_reducible assumption))); (case h1 => k_is); (case h2 => k_is)))
local macro_rules | `(tactic| kmk_part) => `(tactic| ((repeat (first | (with_reducible exact List.mem_cons_self ..) | (with_reducible assumption) | (with_reducible refine' List.mem_cons_of_mem _ ?_))); done))
local macro_rules | `(tactic| k_mem) => `(tactic| kmk_part)
local macro_rules | `(tactic| k_room) => `(tactic| ((try simp only [depth_mark, depth_under_make, depth_under_kw, depth_in1, depth_deeper, depth_caller]); (try dsimp only [ktrTop]); first | with_reducible assumption | exact room1 (by with_reducible assumption) (by decide) | ((try simp only [recursionLimit]); first | exact room1 (by with_reducible assumption) (by decide) | omega)))
local macro_rules | `(tactic| k_units) => `(tactic| ((try simp only [units_in1, units_deeper, Around.mark_units, units_caller]); (try dsimp only [ktrTop]); first | with_reducible assumption | exact room1 (by with_reducible assumption) (by decide) | ((try simp only [cLine]); first | exact room1 (by with_reducible assumption) (by decide) | omega)))
local macro_rules | `(tactic| k_enter) => `(tactic| (refine' code_def ?k1 ?k2 ?k3 ?k4 ?k5 ?kA ?kF ?kK ?k6 ?k7 ?k8 ?k9 ?kB ?_ ?c2 ?c3 ?c4 ?c5; (case kA => exact rfl); (case kF => exact rfl); (case kK => first | exact rfl | assumption); (case k1 => k_asm); (case k2 => k_asm); (case k3 => k_asm); (case k4 => k_asm); (case k5 => k_asm); (case k6 => k_is); (case k7 => k_is); (case k8 => k_room); (case k9 => first | exact BindsTo.of_eq rfl | exact binds_K (by k_in) rfl (by k_is) rfl rfl rfl | fail "k_enter: no rule for these arguments"); (case c5 => decide); (case kB => exact locs rfl); (case c2 => exact rfl); (case c3 => exact rfl); (case c4 => exact rfl); k_whole; intro g' L' h' FG' F' N' B' X' T'; (try dsimp only); (try k_lift B'); (try k_fold)))
local macro_rules | `(tactic| walk_at "e_shr") => `(tactic| ((try simp only [Int.reduceToNat, Int.reducePow, Int.reduceFDiv]); first | exact Int.fdiv_eq_ediv_of_nonneg _ (by decide) | exact Int.fdiv_eq_ediv_of_nonneg _ (Int.le_of_lt (kbt_pos _)) | exact rfl))
local macro_rules | `(tactic| walk_at "e_num") => `(tactic| ((try simp only [Int.reduceToNat, Int.reducePow, Int.reduceMul, Int.reduceAdd, Int.reduceSub, Int.reduceNeg, Int.reduceMod, Int.reduceDiv]); exact rfl))
local macro_rules | `(tactic| walk_at "e_and") => `(tactic| first | exact bitAnd_m1 _ | exact bitAnd_m2 _ | exact bitAnd_m4 _ | exact bitAnd_m7 _ | exact bitAnd_m8 _ | exact bitAnd_m32 _ | exact rfl)
local macro_rules | `(tactic| walk_at "e_or") => `(tactic| first | exact bitOr_12 | exact rfl)
local macro_rules | `(tactic| walk_at "binaryOp RShift int int") => `(tactic| (k_here; (with_reducible refine' r_shr ?n ?e ?_); (case n => first | decide | l_bnd); (case e => walk_at "e_shr")))
local macro_rules | `(tactic| walk_at "binaryOp LShift int int") => `(tactic| (k_here; (with_reducible refine' r_shl ?n ?m ?a ?e ?_); (case n => first | decide | l_bnd); (case m => first | decide | l_bnd); (case a => first | exact abs_mod (by decide) (by decide) | exact abs_div (by with_reducible assumption) (by with_reducible assumption) (by decide) | l_bnd); (case e => walk_at "e_num")))
local macro_rules | `(tactic| walk_at "binaryOp BitAnd int int") => `(tactic| (k_here; (with_reducible refine' r_and  ?e ?_);  (case e => walk_at "e_and")))
local macro_rules | `(tactic| walk_at "inplaceOp BitAnd int int") => `(tactic| (k_here; (with_reducible refine' r_iand  ?e ?_);  (case e => walk_at "e_and")))
local macro_rules | `(tactic| walk_at "binaryOp BitOr int int") => `(tactic| (k_here; (with_reducible refine' r_or  ?e ?_);  (case e => walk_at "e_or")))
local macro_rules | `(tactic| walk_at "inplaceOp BitOr int int") => `(tactic| (k_here; (with_reducible refine' r_ior  ?e ?_);  (case e => walk_at "e_or")))
local macro_rules | `(tactic| walk_at "binaryOp BitXor int int") => `(tactic| (k_here; (with_reducible refine' r_xor  ?e ?_);  (case e => exact rfl)))
local macro_rules | `(tactic| walk_at "inplaceOp BitXor int int") => `(tactic| (k_here; (with_reducible refine' r_ixor  ?e ?_);  (case e => exact rfl)))
local macro_rules | `(tactic| walk_at "binaryOp Mod int int") => `(tactic| (k_here; (with_reducible refine' r_mod ?n ?e ?_); (case n => first | decide | l_bnd); (case e => walk_at "e_num")))
local macro_rules | `(tactic| walk_at "binaryOp FloorDiv int int") => `(tactic| (k_here; (with_reducible refine' r_div ?n ?m ?e ?_); (case n => first | decide | l_bnd); (case m => first | decide | l_bnd); (case e => walk_at "e_num")))
local macro_rules | `(tactic| walk_at "binaryOp Mult int int") => `(tactic| (k_here; (with_reducible refine' r_mul ?m ?e ?_); (case m => mul_fits); (case e => exact rfl)))
local macro_rules | `(tactic| walk_at "binaryOp Pow int int") => `(tactic| (k_here; (with_reducible refine' r_pow ?n ?m ?a ?e ?_); (case n => first | decide | l_bnd); (case m => first | decide | l_bnd); (case a => first | decide | l_bnd); (case e => walk_at "e_num")))
local macro_rules | `(tactic| walk_at "binaryOp Add int int") => `(tactic| (k_here; (with_reducible refine' r_add  ?e ?_);  (case e => exact rfl)))
local macro_rules | `(tactic| walk_at "inplaceOp Add int int") => `(tactic| (k_here; (with_reducible refine' r_iadd  ?e ?_);  (case e => exact rfl)))
local macro_rules | `(tactic| walk_at "binaryOp Sub int int") => `(tactic| (k_here; (with_reducible refine' r_sub  ?e ?_);  (case e => exact rfl)))
local macro_rules | `(tactic| walk_at "inplaceOp Sub int int") => `(tactic| (k_here; (with_reducible refine' r_isub  ?e ?_);  (case e => exact rfl)))
local macro_rules | `(tactic| walk_at "unaryOp USub int") => `(tactic| (k_here; (with_reducible refine' r_neg  ?e ?_);  (case e => walk_at "e_num")))
local macro_rules | `(tactic| walk_at "binaryOp Add int int") => `(tactic| (k_here; (with_reducible show wpAny _ _ (binaryOp _ (Value.int (@OfNat.ofNat Int _ _) _) (Value.int (@OfNat.ofNat Int _ _) _)) _ _ _); (with_reducible refine' r_add ?e ?_); (case e => walk_at "e_num")))
local macro_rules | `(tactic| walk_at "binaryOp Sub int int") => `(tactic| (k_here; (with_reducible show wpAny _ _ (binaryOp _ (Value.int (@OfNat.ofNat Int _ _) _) (Value.int (@OfNat.ofNat Int _ _) _)) _ _ _); (with_reducible refine' r_sub ?e ?_); (case e => walk_at "e_num")))
local macro_rules | `(tactic| walk_at "binaryOp Mult int int") => `(tactic| (k_here; (with_reducible show wpAny _ _ (binaryOp _ (Value.int (@OfNat.ofNat Int _ _) _) (Value.int (@OfNat.ofNat Int _ _) _)) _ _ _); (with_reducible refine' r_mul ?m ?e ?_); (case m => mul_fits); (case e => walk_at "e_num")))
local macro_rules | `(tactic| walk_at "UnrEnd") => `(tactic| (k_here; (rename News _ _ _ _ => nUE'); k_dflt (refine' UnrEnd.intro ?kF nUE' _ (fun p hp => hp) (tbn_neAll ?kL) ?_; (case kF => k_asm); (case kL => first | assumption | exact allLt_of (by assumption))); clear nUE'; (repeat (with_reducible rename ((_ : Int) = _) => hIs'; (have hIt' := Is.mk hIs'); clear hIs')); (try dsimp only)))
local macro_rules | `(tactic| walk_at "getMethod ref") => `(tactic| (k_here; k_dflt (refine' kmu_cm ?k1 ?k2 ?k3 ?k4 ?k5 ?k6 ?k7 ?k8 ?k9 ?k10 ?k11 ?k12 ?k13 ?_; (case k1 => k_asm); (case k2 => k_asm); (case k3 => k_asm); (case k4 => (refine' InstAt.of_news ?N ?h1 ?h2; (case N => k_asm); (case h1 => kmk_part); (case h2 => kmk_part))); (case k5 => k_is); (case k6 => k_is); (case k7 => k_is); (case k8 => k_is); (case k9 => k_is); (case k10 => k_is); (case k11 => decide +kernel); (case k12 => k_get); (case k13 => k_is); k_whole; intro q' h' F' N' l1; (try k_lt l1); (try k_sweep))))
local macro_rules | `(tactic| walk_at "getMethod ref") => `(tactic| (k_here; k_dflt (refine' method_inst ?k1 ?k2 ?k3 ?k4 ?k5 ?k6 ?k7 ?_; (case k1 => k_asm); (case k2 => k_asm); (case k3 => (refine' InstAt.of_news ?N ?h1 ?h2; (case N => k_asm); (case h1 => kmk_part); (case h2 => kmk_part))); (case k4 => k_is); (case k5 => k_is); (case k6 => k_is); (case k7 => k_get); k_whole)))
local macro_rules | `(tactic| walk_at "getMethod ref") => `(tactic| (k_here; (with_reducible show wpAny _ _ (getMethod (Value.ref _) (PySem.Str.ofString "__class__") _) _ _ _); k_dflt (refine' method_data ?k1 ?k2 ?k3 ?k4 ?k5 ?k6 ?k7 ?_; (case k1 => k_in); (case k2 => k_inst); (case k3 => k_is); (case k4 => k_is); (case k5 => k_is); (case k6 => k_is); (case k7 => decide +kernel); k_whole)))
local macro_rules | `(tactic| walk_at "inplaceOp Add int int") => `(tactic| (k_here; (with_reducible show wpAny _ _ (inplaceOp _ (Value.int (@OfNat.ofNat Int _ _) _) (Value.int (@OfNat.ofNat Int _ _) _)) _ _ _); (with_reducible refine' r_iadd ?e ?_); (case e => walk_at "e_num")))
local macro_rules | `(tactic| walk_at "CLSATTR") => `(tactic| skip)
local macro_rules | `(tactic| walk_at "getAttr ref") => `(tactic| (k_here; (with_reducible show wpAny _ _ (getAttr (Value.ref (@OfNat.ofNat Nat _ _)) _ _) _ _ _); k_dflt (first
  | (refine' cls_val ?k1 ?k2 ?k3 ?k4 ?k5 ?k6 ?_; (case k1 => k_asm); (case k2 => k_asm); (case k3 => k_is); (case k4 => k_is); (case k5 => k_is); (case k6 => k_handed); k_whole)
  | (refine' cls_cm ?k1 ?k2 ?k3 ?k4 ?k5 ?k6 ?k7 ?_; (case k1 => k_asm); (case k2 => k_asm); (case k3 => k_asm); (case k4 => k_is); (case k5 => k_is); (case k6 => k_is); (case k7 => k_is); k_whole; intro q' h' F' N' l1; (try k_lt l1)))))
local macro_rules | `(tactic| walk_at "execs cons") => `(tactic| (k_here; (with_reducible refine gen_execs ?_); intro tk'; (try dsimp only)))
local macro_rules | `(tactic| walk_at "execs nil") => `(tactic| (k_here; (with_reducible refine wpAny_execs_nil ?_)))
local macro_rules | `(tactic| walk_at "subscriptTail") => `(tactic| (k_here; (with_reducible show wpAny _ _ (subscriptTail _ _ (Value.ref 148) (Value.int _ _)) _ _ _); k_dflt (refine' posA_out ?F ?X ?h0 ?h1 ?_ ?hs; (case hs => with_unfolding_all rfl); (case F => k_asm); (case X => k_asm); (case h0 => omega); (case h1 => omega); k_whole)))
local macro_rules | `(tactic| walk_at "subscriptTail") => `(tactic| (k_here; (with_reducible show wpAny _ _ (subscriptTail _ _ (Value.ref (140 + _)) (Value.int _ _)) _ _ _); k_dflt (refine' posA_in ?F ?X ?g0 ?g1 ?h0 ?h1 ?_ ?hs; (case hs => with_unfolding_all rfl); (case F => k_asm); (case X => k_asm); (case g0 => omega); (case g1 => omega); (case h0 => omega); (case h1 => omega); k_whole; intro tv' tt' te' t0' t1')))
local macro_rules | `(tactic| walk_at "subscriptTail") => `(tactic| (k_here; (with_reducible show wpAny _ _ (subscriptTail _ _ (Value.ref 157) (Value.int _ _)) _ _ _); k_dflt (refine' ijA_out ?F ?X ?h0 ?h1 ?_ ?hs; (case hs => with_unfolding_all rfl); (case F => k_asm); (case X => k_asm); (case h0 => omega); (case h1 => omega); k_whole)))
local macro_rules | `(tactic| walk_at "subscriptTail") => `(tactic| (k_here; (with_reducible show wpAny _ _ (subscriptTail _ _ (Value.ref (149 + _)) (Value.int _ _)) _ _ _); k_dflt (refine' ijA_in ?F ?X ?g0 ?g1 ?h0 ?h1 ?_ ?hs; (case hs => with_unfolding_all rfl); (case F => k_asm); (case X => k_asm); (case g0 => omega); (case g1 => omega); (case h0 => omega); (case h1 => omega); k_whole; intro tv' tt' te' t0' t1')))
local macro_rules | `(tactic| walk_at "subscriptTail") => `(tactic| (k_here; (with_reducible show wpAny _ _ (subscriptTail _ _ (Value.ref _) (Value.int (@OfNat.ofNat Int _ _) _)) _ _ _); k_dflt (refine' item_litK ?t ?a ?b ?d ?_; (case t => exact News.isList (by k_asm) (by kmk_part)); (case a => decide); (case b => decide); (case d => rfl); k_whole)))
local macro_rules | `(tactic| walk_at "subscriptTail") => `(tactic| (k_here; (with_reducible show wpAny _ _ (subscriptTail _ _ (Value.ref _) (Value.int (@OfNat.ofNat Int _ _) _)) _ _ _); k_dflt (refine' item_tupleT ?t ?a ?b ?c ?d ?_; (case t => exact News.isTup (by k_asm) (by kmk_part)); (case a => decide); (case b => decide); (case c => rfl); (case d => rfl); k_whole)))
section

theorem mk_cell (w : World) (n : Int) (t0 : Tok) : CtrC w 980 9700 (fun _ => True) 561 [.int n t0] (RetCell (n % 18446744073709551615)) := by
  unfold CtrC RetCell
  k_fill
  intro mean mg mb dp un gd cn cs a ccd cl outer A₀ base h₀ L m news s Q E B F X N T hk hdp hun hp hret
  k_steps
  all_goals (refine hret _ _ _ _ _ _ _ (by assumption) (by assumption) (by assumption) (by assumption))
theorem c_id (w : World) (x : Addr) (n : Int) : Ctr w 980 9700 (fun news => CellIn news x n) 330 [.ref x] (RetInt n) := by
  unfold Ctr RetInt
  k_fill
  intro mean mg mb dp un gd cn cs a ccd cl outer A₀ base h₀ L m news s R B F X N T hk hdp hun ⟨d, hs, kt, vt, m1, m2⟩ hret
  k_dflt k_enter
  k_steps
  all_goals (refine hret _ _ _ (by assumption) (by assumption))
local macro_rules | `(tactic| walk_at "call ref") => `(tactic| (k_here; (with_reducible show wpAny _ _ (call (Value.ref 561) _) _ _ _); k_dflt (refine use_ctrC (mk_cell _ _ _) (by k_asm) (by k_asm) (by k_asm) (by k_asm) (by k_asm) (by first | exact rfl | assumption) (by k_room) (by k_units) (by trivial) ?_; k_whole; intro x' d' hs' kt' vt' h' tk' F' N' l1 l2; (try k_lt l1); (try k_lt2 l2); (try k_sweep); (try dsimp only); (try dsimp only [PySem.W.CmpBack]); (try k_fold))))

local macro_rules | `(tactic| walk_at "call ref") => `(tactic| (k_here; (with_reducible show wpAny _ _ (call (Value.ref 330) _) _ _ _); k_dflt (refine use_ctrW (c_id _ _ _) (by k_asm) (by k_asm) (by k_asm) (by k_asm) (by k_asm) (by first | exact rfl | assumption) (by k_room) (by k_units) (by exact ⟨_, _, _, _, by kmk_part, by kmk_part⟩) ?_; k_whole; intro t' h' tk' F' N'; (try k_sweep); (try dsimp only); (try dsimp only [PySem.W.CmpBack]); (try k_fold))))

local macro_rules | `(tactic| walk_at "storeName") => `(tactic| (k_here; (with_reducible show wpAny _ _ (storeName _ (Str.ofString "bits") (Value.int _ _)) _ _ _); refine' store_named ?_; intro bitsv' bitst' bitsk' bitse'; k_dflt (refine' storeX_L ?F ?N ?_ ?a ?b; (case F => k_asm); (case N => k_asm); (case a => rfl); (case b => rfl); k_whole; intro h' F' N'; (try k_sweep))))
local macro_rules | `(tactic| walk_at "storeName") => `(tactic| (k_here; (with_reducible show wpAny _ _ (storeName _ (Str.ofString "bits") (Value.int (_ % 4) _)) _ _ _); refine' store_mod4 ?_; intro bitsv' bitst' bitsk' bitse' bitsl' bitsh'; k_dflt (refine' storeX_L ?F ?N ?_ ?a ?b; (case F => k_asm); (case N => k_asm); (case a => rfl); (case b => rfl); k_whole; intro h' F' N'; (try k_sweep))))
local macro_rules | `(tactic| walk_at "storeName") => `(tactic| (k_here; (with_reducible show wpAny _ _ (storeName _ (Str.ofString "n") (Value.int _ _)) _ _ _); refine' store_named ?_; intro nv' nt' nk' ne'; k_dflt (refine' storeX_L ?F ?N ?_ ?a ?b; (case F => k_asm); (case N => k_asm); (case a => rfl); (case b => rfl); k_whole; intro h' F' N'; (try k_sweep))))

theorem c_ffij (w : World) (face i j : Int) (t1 t2 t3 : Tok) (hf : 0 ≤ face) (hf' : face < 6) (hi : 0 ≤ i) (hi' : i < 1073741824) (hj : 0 ≤ j) (hj' : j < 1073741824) : Ctr w 970 9600 (fun _ => True) 245 [.ref 561, .int face t1, .int i t2, .int j t3] (RetCell (lid face i j)) := by
  unfold Ctr RetCell
  k_fill
  intro mean mg mb dp un gd cn cs a ccd cl outer A₀ base h₀ L m news s R B F X N T hk hdp hun hp hret
  k_dflt k_enter
  k_steps

  all_goals ((repeat (with_reducible rename Is _ _ => hIs'; (have hIt' := Is.out hIs'); clear hIs')); have e9 := ffij_end hf hf' hi hi' hj hj' (by with_reducible assumption) (by with_reducible assumption) (by with_reducible assumption) (by with_reducible assumption) (by with_reducible assumption) (by with_reducible assumption) (by with_reducible assumption) (by with_reducible assumption) (by with_reducible assumption) (by with_reducible assumption) (by with_reducible assumption) (by with_reducible assumption) (by with_reducible assumption) (by with_reducible assumption) (by with_reducible assumption) (by with_reducible assumption) (by with_reducible assumption) (by with_reducible assumption) (by with_reducible assumption) (by with_reducible assumption) (by with_reducible assumption) (by with_reducible assumption) (by with_reducible assumption) (by with_reducible assumption) (by with_reducible assumption) (by with_reducible assumption) (by with_reducible assumption) (by with_reducible assumption) (by with_reducible assumption) (by with_reducible assumption) (by with_reducible assumption) (by with_reducible assumption) (by with_reducible assumption) (by with_reducible assumption) (by with_reducible assumption) (by with_reducible assumption) (by with_reducible assumption) (by with_reducible assumption) (by with_reducible assumption) (by with_reducible assumption) (by with_reducible assumption) (by with_reducible assumption) (by with_reducible assumption) (by with_reducible assumption) (by with_reducible assumption) (by with_reducible assumption) (by with_reducible assumption) (by with_reducible assumption) (by with_reducible assumption))
  all_goals ((rename News _ _ _ _ => N9); rw [e9] at N9; exact hret _ _ _ _ _ _ _ (by assumption) N9 (by assumption) (by assumption))
end
section
local macro_rules | `(tactic| walk_at "call ref") => `(tactic| (k_here; (with_reducible show wpAny _ _ (call (Value.ref 561) _) _ _ _); k_dflt (refine use_ctrC (mk_cell _ _ _) (by k_asm) (by k_asm) (by k_asm) (by k_asm) (by k_asm) (by first | exact rfl | assumption) (by k_room) (by k_units) (by trivial) ?_; k_whole; intro x' d' hs' kt' vt' h' tk' F' N' l1 l2; (try k_lt l1); (try k_lt2 l2); (try k_sweep); (try dsimp only); (try dsimp only [PySem.W.CmpBack]); (try k_fold))))
local macro_rules | `(tactic| walk_at "call ref") => `(tactic| (k_here; (with_reducible show wpAny _ _ (call (Value.ref 330) _) _ _ _); k_dflt (refine use_ctrW (c_id _ _ _) (by k_asm) (by k_asm) (by k_asm) (by k_asm) (by k_asm) (by first | exact rfl | assumption) (by k_room) (by k_units) (by exact ⟨_, _, _, _, by kmk_part, by kmk_part⟩) ?_; k_whole; intro t' h' tk' F' N'; (try k_sweep); (try dsimp only); (try dsimp only [PySem.W.CmpBack]); (try k_fold))))
theorem c_face (w : World) (x : Addr) (n : Int) : Ctr w 970 9600 (fun news => CellIn news x n) 351 [.ref x] (RetInt (n / 2305843009213693952)) := by
  unfold Ctr RetInt
  k_fill
  intro mean mg mb dp un gd cn cs a ccd cl outer A₀ base h₀ L m news s R B F X N T hk hdp hun ⟨d, hs, kt, vt, m1, m2⟩ hret
  k_dflt (refine' code_def (binds := [(Str.ofString "self", .ref x)]) ?k1 ?k2 ?k3 ?k4 ?k5 ?kA ?kF ?kK ?k6 ?k7 ?k8 ?k9 ?kB ?_ ?c2 ?c3 ?c4 ?c5; (case kA => exact rfl); (case kF => exact rfl); (case kK => first | exact rfl | assumption); (case k1 => k_asm); (case k2 => k_asm); (case k3 => k_asm); (case k4 => k_asm); (case k5 => k_asm); (case k6 => k_is); (case k7 => k_is); (case k8 => k_room); (case k9 => exact BindsTo.of_eq rfl); (case c5 => decide); (case kB => exact locs rfl); (case c2 => exact rfl); (case c3 => exact rfl); (case c4 => exact rfl); k_whole; intro g' L' h' FG' F' N' B' X' T'; (try dsimp only); (try k_lift B'); (try k_fold))
  k_steps
  all_goals (first | exact hret _ _ _ (by assumption) (by assumption) | exact hret _ _ (by assumption) (by assumption) | (trace_state; fail))
local macro_rules | `(tactic| walk_at "call ref") => `(tactic| (k_here; (with_reducible show wpAny _ _ (call (Value.ref 351) _) _ _ _); k_dflt (refine use_ctrW (c_face _ _ _) (by k_asm) (by k_asm) (by k_asm) (by k_asm) (by k_asm) (by first | exact rfl | assumption) (by k_room) (by k_units) (by exact ⟨_, _, _, _, by kmk_part, by kmk_part⟩) ?_; k_whole; intro t' h' tk' F' N'; (try k_sweep); (try dsimp only); (try dsimp only [PySem.W.CmpBack]); (try k_fold))))
theorem c_lsb (w : World) (x : Addr) (n : Int) : Ctr w 970 9600 (fun news => CellIn news x n) 344 [.ref x] (RetInt (Builtin.bitAnd n (-n))) := by
  unfold Ctr RetInt
  k_fill
  intro mean mg mb dp un gd cn cs a ccd cl outer A₀ base h₀ L m news s R B F X N T hk hdp hun ⟨d, hs, kt, vt, m1, m2⟩ hret
  k_dflt (refine' code_def (binds := [(Str.ofString "self", .ref x)]) ?k1 ?k2 ?k3 ?k4 ?k5 ?kA ?kF ?kK ?k6 ?k7 ?k8 ?k9 ?kB ?_ ?c2 ?c3 ?c4 ?c5; (case kA => exact rfl); (case kF => exact rfl); (case kK => first | exact rfl | assumption); (case k1 => k_asm); (case k2 => k_asm); (case k3 => k_asm); (case k4 => k_asm); (case k5 => k_asm); (case k6 => k_is); (case k7 => k_is); (case k8 => k_room); (case k9 => exact BindsTo.of_eq rfl); (case c5 => decide); (case kB => exact locs rfl); (case c2 => exact rfl); (case c3 => exact rfl); (case c4 => exact rfl); k_whole; intro g' L' h' FG' F' N' B' X' T'; (try dsimp only); (try k_lift B'); (try k_fold))
  k_steps
  all_goals (first | exact hret _ _ _ (by assumption) (by assumption) | exact hret _ _ (by assumption) (by assumption) | (trace_state; fail))
local macro_rules | `(tactic| walk_at "call ref") => `(tactic| (k_here; (with_reducible show wpAny _ _ (call (Value.ref 344) _) _ _ _); k_dflt (refine use_ctrW (c_lsb _ _ _) (by k_asm) (by k_asm) (by k_asm) (by k_asm) (by k_asm) (by first | exact rfl | assumption) (by k_room) (by k_units) (by exact ⟨_, _, _, _, by kmk_part, by kmk_part⟩) ?_; k_whole; intro t' h' tk' F' N'; (try k_sweep); (try dsimp only); (try dsimp only [PySem.W.CmpBack]); (try k_fold))))
theorem c_is_leaf (w : World) (x : Addr) (n : Int) : Ctr w 970 9600 (fun news => CellIn news x n) 365 [.ref x] (RetBool (!decide (n % 2 = 0))) := by
  unfold Ctr RetBool
  k_fill
  intro mean mg mb dp un gd cn cs a ccd cl outer A₀ base h₀ L m news s R B F X N T hk hdp hun ⟨d, hs, kt, vt, m1, m2⟩ hret
  k_dflt (refine' code_def (binds := [(Str.ofString "self", .ref x)]) ?k1 ?k2 ?k3 ?k4 ?k5 ?kA ?kF ?kK ?k6 ?k7 ?k8 ?k9 ?kB ?_ ?c2 ?c3 ?c4 ?c5; (case kA => exact rfl); (case kF => exact rfl); (case kK => first | exact rfl | assumption); (case k1 => k_asm); (case k2 => k_asm); (case k3 => k_asm); (case k4 => k_asm); (case k5 => k_asm); (case k6 => k_is); (case k7 => k_is); (case k8 => k_room); (case k9 => exact BindsTo.of_eq rfl); (case c5 => decide); (case kB => exact locs rfl); (case c2 => exact rfl); (case c3 => exact rfl); (case c4 => exact rfl); k_whole; intro g' L' h' FG' F' N' B' X' T'; (try dsimp only); (try k_lift B'); (try k_fold))
  k_steps
  all_goals (first | exact hret _ _ _ (by assumption) (by assumption) | exact hret _ _ (by assumption) (by assumption) | (trace_state; fail))
local macro_rules | `(tactic| walk_at "call ref") => `(tactic| (k_here; (with_reducible show wpAny _ _ (call (Value.ref 365) _) _ _ _); k_dflt (refine use_ctrW (c_is_leaf _ _ _) (by k_asm) (by k_asm) (by k_asm) (by k_asm) (by k_asm) (by first | exact rfl | assumption) (by k_room) (by k_units) (by exact ⟨_, _, _, _, by kmk_part, by kmk_part⟩) ?_; k_whole; intro h' tk' F' N'; (try k_sweep); (try dsimp only); (try dsimp only [PySem.W.CmpBack]); (try k_fold))))
end
section
local macro_rules | `(tactic| walk_at "call ref") => `(tactic| (k_here; (with_reducible show wpAny _ _ (call (Value.ref 561) _) _ _ _); k_dflt (refine use_ctrC (mk_cell _ _ _) (by k_asm) (by k_asm) (by k_asm) (by k_asm) (by k_asm) (by first | exact rfl | assumption) (by k_room) (by k_units) (by trivial) ?_; k_whole; intro x' d' hs' kt' vt' h' tk' F' N' l1 l2; (try k_lt l1); (try k_lt2 l2); (try k_sweep); (try dsimp only); (try dsimp only [PySem.W.CmpBack]); (try k_fold))))
local macro_rules | `(tactic| walk_at "call ref") => `(tactic| (k_here; (with_reducible show wpAny _ _ (call (Value.ref 330) _) _ _ _); k_dflt (refine use_ctrW (c_id _ _ _) (by k_asm) (by k_asm) (by k_asm) (by k_asm) (by k_asm) (by first | exact rfl | assumption) (by k_room) (by k_units) (by exact ⟨_, _, _, _, by kmk_part, by kmk_part⟩) ?_; k_whole; intro t' h' tk' F' N'; (try k_sweep); (try dsimp only); (try dsimp only [PySem.W.CmpBack]); (try k_fold))))
local macro_rules | `(tactic| walk_at "call ref") => `(tactic| (k_here; (with_reducible show wpAny _ _ (call (Value.ref 351) _) _ _ _); k_dflt (refine use_ctrW (c_face _ _ _) (by k_asm) (by k_asm) (by k_asm) (by k_asm) (by k_asm) (by first | exact rfl | assumption) (by k_room) (by k_units) (by exact ⟨_, _, _, _, by kmk_part, by kmk_part⟩) ?_; k_whole; intro t' h' tk' F' N'; (try k_sweep); (try dsimp only); (try dsimp only [PySem.W.CmpBack]); (try k_fold))))
local macro_rules | `(tactic| walk_at "call ref") => `(tactic| (k_here; (with_reducible show wpAny _ _ (call (Value.ref 344) _) _ _ _); k_dflt (refine use_ctrW (c_lsb _ _ _) (by k_asm) (by k_asm) (by k_asm) (by k_asm) (by k_asm) (by first | exact rfl | assumption) (by k_room) (by k_units) (by exact ⟨_, _, _, _, by kmk_part, by kmk_part⟩) ?_; k_whole; intro t' h' tk' F' N'; (try k_sweep); (try dsimp only); (try dsimp only [PySem.W.CmpBack]); (try k_fold))))
local macro_rules | `(tactic| walk_at "call ref") => `(tactic| (k_here; (with_reducible show wpAny _ _ (call (Value.ref 365) _) _ _ _); k_dflt (refine use_ctrW (c_is_leaf _ _ _) (by k_asm) (by k_asm) (by k_asm) (by k_asm) (by k_asm) (by first | exact rfl | assumption) (by k_room) (by k_units) (by exact ⟨_, _, _, _, by kmk_part, by kmk_part⟩) ?_; k_whole; intro h' tk' F' N'; (try k_sweep); (try dsimp only); (try dsimp only [PySem.W.CmpBack]); (try k_fold))))
local macro_rules | `(tactic| walk_at "storeName") => `(tactic| (k_here; (with_reducible show wpAny _ _ (storeName _ (Str.ofString "bits") (Value.int _ _)) _ _ _); refine' store_named ?_; intro bitsv' bitst' bitsk' bitse'; k_dflt (refine' storeX_L ?F ?N ?_ ?a ?b; (case F => k_asm); (case N => k_asm); (case a => rfl); (case b => rfl); k_whole; intro h' F' N'; (try k_sweep))))
local macro_rules | `(tactic| walk_at "storeName") => `(tactic| (k_here; (with_reducible show wpAny _ _ (storeName _ (Str.ofString "bits") (Value.int (_ % 4) _)) _ _ _); refine' store_mod4 ?_; intro bitsv' bitst' bitsk' bitse' bitsl' bitsh'; k_dflt (refine' storeX_L ?F ?N ?_ ?a ?b; (case F => k_asm); (case N => k_asm); (case a => rfl); (case b => rfl); k_whole; intro h' F' N'; (try k_sweep))))
local macro_rules | `(tactic| walk_at "storeName") => `(tactic| (k_here; (with_reducible show wpAny _ _ (storeName _ (Str.ofString "i") (Value.int _ _)) _ _ _); refine' store_named ?_; intro iv' it' ik' ie'; k_dflt (refine' storeX_L ?F ?N ?_ ?a ?b; (case F => k_asm); (case N => k_asm); (case a => rfl); (case b => rfl); k_whole; intro h' F' N'; (try k_sweep))))
local macro_rules | `(tactic| walk_at "storeName") => `(tactic| (k_here; (with_reducible show wpAny _ _ (storeName _ (Str.ofString "j") (Value.int _ _)) _ _ _); refine' store_named ?_; intro jv' jt' jk' je'; k_dflt (refine' storeX_L ?F ?N ?_ ?a ?b; (case F => k_asm); (case N => k_asm); (case a => rfl); (case b => rfl); k_whole; intro h' F' N'; (try k_sweep))))
theorem c_toij (w : World) (x : Addr) (n : Int) : Ctr w 960 9500 (fun news => CellIn news x n ∧ 0 ≤ n) 513 [.ref x] (RetTup4 (n / 2305843009213693952) ((ijo n).1 : Int) ((ijo n).2.1 : Int) (if Builtin.bitAnd (Builtin.bitAnd n (-n)) 1229782938247303440 = 0 then ((ijo n).2.2 : Int) else Builtin.bitXor ((ijo n).2.2 : Int) 1)) := by
  unfold Ctr RetTup4
  k_fill
  intro mean mg mb dp un gd cn cs a ccd cl outer A₀ base h₀ L m news s R B F X N T hk hdp hun ⟨⟨d, hs, kt, vt, m1, m2⟩, hn⟩ hret
  k_dflt (refine' code_def (binds := [(Str.ofString "self", .ref x)]) ?k1 ?k2 ?k3 ?k4 ?k5 ?kA ?kF ?kK ?k6 ?k7 ?k8 ?k9 ?kB ?_ ?c2 ?c3 ?c4 ?c5; (case kA => exact rfl); (case kF => exact rfl); (case kK => first | exact rfl | assumption); (case k1 => k_asm); (case k2 => k_asm); (case k3 => k_asm); (case k4 => k_asm); (case k5 => k_asm); (case k6 => k_is); (case k7 => k_is); (case k8 => k_room); (case k9 => exact BindsTo.of_eq rfl); (case c5 => decide); (case kB => exact locs rfl); (case c2 => exact rfl); (case c3 => exact rfl); (case c4 => exact rfl); k_whole; intro g' L' h' FG' F' N' B' X' T'; (try dsimp only); (try k_lift B'); (try k_fold))
  k_steps
  all_goals (repeat (with_reducible rename Is _ _ => hIs'; (have hIt' := Is.out hIs'); clear hIs'))
  all_goals (have e9 := toij_end hn (by with_reducible assumption) (by with_reducible assumption) (by with_reducible assumption) (by with_reducible assumption) (by with_reducible assumption) (by with_reducible assumption) (by with_reducible assumption) (by with_reducible assumption) (by with_reducible assumption) (by with_reducible assumption) (by with_reducible assumption) (by with_reducible assumption) (by with_reducible assumption) (by with_reducible assumption) (by with_reducible assumption) (by with_reducible assumption) (by with_reducible assumption) (by with_reducible assumption) (by with_reducible assumption) (by with_reducible assumption) (by with_reducible assumption) (by with_reducible assumption) (by with_reducible assumption) (by with_reducible assumption) (by with_reducible assumption) (by with_reducible assumption) (by with_reducible assumption) (by with_reducible assumption) (by with_reducible assumption) (by with_reducible assumption) (by with_reducible assumption) (by with_reducible assumption) (by with_reducible assumption) (by with_reducible assumption) (by with_reducible assumption) (by with_reducible assumption) (by with_reducible assumption) (by with_reducible assumption) (by with_reducible assumption) (by with_reducible assumption) (by with_reducible assumption) (by with_reducible assumption) (by with_reducible assumption) (by with_reducible assumption) (by with_reducible assumption) (by with_reducible assumption) (by with_reducible assumption) (by with_reducible assumption) (by with_reducible assumption) (by with_reducible assumption) (by with_reducible assumption); obtain ⟨e91, e92, e93⟩ := e9)
  all_goals (first
    | ((with_reducible rename (Builtin.bitAnd (Builtin.bitAnd n (-n)) 1229782938247303440 = 0) => hz); rw [if_pos hz] at hret; (rename News _ _ _ _ => N9); rw [e91, e92, e93] at N9)
    | (rw [if_neg (by first | omega | (intro hz; simp_all)), ← e91, ← e92, ← e93] at hret))
  all_goals (try ((with_reducible rename (_ = Builtin.bitXor _ _) => hx); (rename News _ _ _ _ => N9); rw [hx] at N9))
  all_goals ((rename News _ _ _ _ => N9); exact hret _ _ _ _ _ _ _ _ (by k_asm) (drop_2 N9) (by first | assumption | exact ktn_ltOf (by tbn_find)))
local macro_rules | `(tactic| walk_at "call ref") => `(tactic| (k_here; (with_reducible show wpAny _ _ (call (Value.ref 513) _) _ _ _); k_dflt (refine use_ctrW (c_toij _ _ _) (by k_asm) (by k_asm) (by k_asm) (by k_asm) (by k_asm) (by first | exact rfl | assumption) (by k_room) (by k_units) (by exact ⟨⟨_, _, _, _, by kmk_part, by kmk_part⟩, by omega⟩) ?_; k_whole; intro D' t1' t2' t3' t4' c' h' tk' F' N' l1; (try k_lt l1); (try k_sweep); (try dsimp only); (try dsimp only [PySem.W.CmpBack]); (try k_fold))))
end
section
theorem mk_point (w : World) (x y z : Int) (t1 t2 t3 : Tok) : CtrC w 980 9700 (fun _ => True) 134 [.int x t1, .int y t2, .int z t3] (RetPoint x y z) := by
  unfold CtrC RetPoint
  k_fill
  intro mean mg mb dp un gd cn cs a ccd cl outer A₀ base h₀ L m news s Q E B F X N T hk hdp hun hp hret
  k_steps
  all_goals (exact hret _ _ _ _ _ _ _ _ _ _ _ (by k_asm) (by k_asm) (by assumption) (by assumption) (by first | assumption | exact And.left (by assumption)))
theorem c_get0 (w : World) (p : Addr) (x y z : Int) (t : Tok) : Ctr w 980 9700 (fun news => PointIn news p x y z) 42 [.ref p, .int 0 t] (RetInt x) := by
  unfold Ctr RetInt
  k_fill
  intro mean mg mb dp un gd cn cs a ccd cl outer A₀ base h₀ L m news s R B F X N T hk hdp hun ⟨d, T₀, hs, kt, t1, t2, t3, k, m1, m2, m3⟩ hret
  k_dflt (refine' code_def (binds := [(Str.ofString "self", .ref p), (Str.ofString "index", .int 0 t)]) ?k1 ?k2 ?k3 ?k4 ?k5 ?kA ?kF ?kK ?k6 ?k7 ?k8 ?k9 ?kB ?_ ?c2 ?c3 ?c4 ?c5; (case kA => exact rfl); (case kF => exact rfl); (case kK => first | exact rfl | assumption); (case k1 => k_asm); (case k2 => k_asm); (case k3 => k_asm); (case k4 => k_asm); (case k5 => k_asm); (case k6 => k_is); (case k7 => k_is); (case k8 => k_room); (case k9 => exact BindsTo.of_eq rfl); (case c5 => decide); (case kB => exact locs rfl); (case c2 => exact rfl); (case c3 => exact rfl); (case c4 => exact rfl); k_whole; intro g' L' h' FG' F' N' B' X' T'; (try dsimp only); (try k_lift B'); (try k_fold))
  k_steps
  all_goals (exact hret _ _ _ (by k_asm) (by k_asm))
theorem c_get1 (w : World) (p : Addr) (x y z : Int) (t : Tok) : Ctr w 980 9700 (fun news => PointIn news p x y z) 42 [.ref p, .int 1 t] (RetInt y) := by
  unfold Ctr RetInt
  k_fill
  intro mean mg mb dp un gd cn cs a ccd cl outer A₀ base h₀ L m news s R B F X N T hk hdp hun ⟨d, T₀, hs, kt, t1, t2, t3, k, m1, m2, m3⟩ hret
  k_dflt (refine' code_def (binds := [(Str.ofString "self", .ref p), (Str.ofString "index", .int 1 t)]) ?k1 ?k2 ?k3 ?k4 ?k5 ?kA ?kF ?kK ?k6 ?k7 ?k8 ?k9 ?kB ?_ ?c2 ?c3 ?c4 ?c5; (case kA => exact rfl); (case kF => exact rfl); (case kK => first | exact rfl | assumption); (case k1 => k_asm); (case k2 => k_asm); (case k3 => k_asm); (case k4 => k_asm); (case k5 => k_asm); (case k6 => k_is); (case k7 => k_is); (case k8 => k_room); (case k9 => exact BindsTo.of_eq rfl); (case c5 => decide); (case kB => exact locs rfl); (case c2 => exact rfl); (case c3 => exact rfl); (case c4 => exact rfl); k_whole; intro g' L' h' FG' F' N' B' X' T'; (try dsimp only); (try k_lift B'); (try k_fold))
  k_steps
  all_goals (exact hret _ _ _ (by k_asm) (by k_asm))
theorem c_get2 (w : World) (p : Addr) (x y z : Int) (t : Tok) : Ctr w 980 9700 (fun news => PointIn news p x y z) 42 [.ref p, .int 2 t] (RetInt z) := by
  unfold Ctr RetInt
  k_fill
  intro mean mg mb dp un gd cn cs a ccd cl outer A₀ base h₀ L m news s R B F X N T hk hdp hun ⟨d, T₀, hs, kt, t1, t2, t3, k, m1, m2, m3⟩ hret
  k_dflt (refine' code_def (binds := [(Str.ofString "self", .ref p), (Str.ofString "index", .int 2 t)]) ?k1 ?k2 ?k3 ?k4 ?k5 ?kA ?kF ?kK ?k6 ?k7 ?k8 ?k9 ?kB ?_ ?c2 ?c3 ?c4 ?c5; (case kA => exact rfl); (case kF => exact rfl); (case kK => first | exact rfl | assumption); (case k1 => k_asm); (case k2 => k_asm); (case k3 => k_asm); (case k4 => k_asm); (case k5 => k_asm); (case k6 => k_is); (case k7 => k_is); (case k8 => k_room); (case k9 => exact BindsTo.of_eq rfl); (case c5 => decide); (case kB => exact locs rfl); (case c2 => exact rfl); (case c3 => exact rfl); (case c4 => exact rfl); k_whole; intro g' L' h' FG' F' N' B' X' T'; (try dsimp only); (try k_lift B'); (try k_fold))
  k_steps
  all_goals (exact hret _ _ _ (by k_asm) (by k_asm))
local macro_rules | `(tactic| walk_at "call ref") => `(tactic| (k_here; (with_reducible show wpAny _ _ (call (Value.ref 134) _) _ _ _); k_dflt (refine use_ctrC (mk_point _ _ _ _ _ _ _) (by k_asm) (by k_asm) (by k_asm) (by k_asm) (by k_asm) (by first | exact rfl | assumption) (by k_room) (by k_units) (by trivial) ?_; k_whole; intro p' d' T' hs' kt' t1' t2' t3' c' h' tk' F' N' l1 l2 l3; (try k_lt l1); (try k_lt2 l2); (try k_lt2 l3); (try k_sweep); (try dsimp only); (try dsimp only [PySem.W.CmpBack]); (try k_fold))))
local macro_rules | `(tactic| walk_at "call ref") => `(tactic| (k_here; (with_reducible show wpAny _ _ (call (Value.ref 42) [_, Value.int 0 _]) _ _ _); k_dflt (refine use_ctrW (c_get0 _ _ _ _ _ _) (by k_asm) (by k_asm) (by k_asm) (by k_asm) (by k_asm) (by first | exact rfl | assumption) (by k_room) (by k_units) (by exact ⟨_, _, _, _, _, _, _, _, by kmk_part, by kmk_part, by kmk_part⟩) ?_; k_whole; intro t' h' tk' F' N'; (try k_sweep); (try dsimp only); (try dsimp only [PySem.W.CmpBack]); (try k_fold))))
local macro_rules | `(tactic| walk_at "call ref") => `(tactic| (k_here; (with_reducible show wpAny _ _ (call (Value.ref 42) [_, Value.int 1 _]) _ _ _); k_dflt (refine use_ctrW (c_get1 _ _ _ _ _ _) (by k_asm) (by k_asm) (by k_asm) (by k_asm) (by k_asm) (by first | exact rfl | assumption) (by k_room) (by k_units) (by exact ⟨_, _, _, _, _, _, _, _, by kmk_part, by kmk_part, by kmk_part⟩) ?_; k_whole; intro t' h' tk' F' N'; (try k_sweep); (try dsimp only); (try dsimp only [PySem.W.CmpBack]); (try k_fold))))
local macro_rules | `(tactic| walk_at "call ref") => `(tactic| (k_here; (with_reducible show wpAny _ _ (call (Value.ref 42) [_, Value.int 2 _]) _ _ _); k_dflt (refine use_ctrW (c_get2 _ _ _ _ _ _) (by k_asm) (by k_asm) (by k_asm) (by k_asm) (by k_asm) (by first | exact rfl | assumption) (by k_room) (by k_units) (by exact ⟨_, _, _, _, _, _, _, _, by kmk_part, by kmk_part, by kmk_part⟩) ?_; k_whole; intro t' h' tk' F' N'; (try k_sweep); (try dsimp only); (try dsimp only [PySem.W.CmpBack]); (try k_fold))))
theorem c_add (w : World) (p q : Addr) (x y z x' y' z' : Int) : Ctr w 970 9600 (fun news => PointIn news p x y z ∧ PointIn news q x' y' z') 84 [.ref p, .ref q] (RetPoint (x + x') (y + y') (z + z')) := by
  unfold Ctr RetPoint
  k_fill
  intro mean mg mb dp un gd cn cs a ccd cl outer A₀ base h₀ L m news s R B F X N T hk hdp hun ⟨⟨d, T₀, hs, kt, t1, t2, t3, k, m1, m2, m3⟩, ⟨d₂, T₂, hs₂, kt₂, t1₂, t2₂, t3₂, k₂, m1₂, m2₂, m3₂⟩⟩ hret
  k_dflt (refine' code_def (binds := [(Str.ofString "self", .ref p), (Str.ofString "other", .ref q)]) ?k1 ?k2 ?k3 ?k4 ?k5 ?kA ?kF ?kK ?k6 ?k7 ?k8 ?k9 ?kB ?_ ?c2 ?c3 ?c4 ?c5; (case kA => exact rfl); (case kF => exact rfl); (case kK => first | exact rfl | assumption); (case k1 => k_asm); (case k2 => k_asm); (case k3 => k_asm); (case k4 => k_asm); (case k5 => k_asm); (case k6 => k_is); (case k7 => k_is); (case k8 => k_room); (case k9 => exact BindsTo.of_eq rfl); (case c5 => decide); (case kB => exact locs rfl); (case c2 => exact rfl); (case c3 => exact rfl); (case c4 => exact rfl); k_whole; intro g' L' h' FG' F' N' B' X' T'; (try dsimp only); (try k_lift B'); (try k_fold))
  k_steps
  all_goals (exact hret _ _ _ _ _ _ _ _ _ _ _ (by k_asm) (by k_asm) (by assumption) (by assumption) (by assumption))
theorem c_mul (w : World) (p : Addr) (x y z n : Int) (t : Tok) (hn : n.natAbs < 2 ^ 64) : Ctr w 970 9600 (fun news => PointIn news p x y z ∧ x.natAbs < 2 ^ 64 ∧ y.natAbs < 2 ^ 64 ∧ z.natAbs < 2 ^ 64) 98 [.ref p, .int n t] (RetPoint (x * n) (y * n) (z * n)) := by
  unfold Ctr RetPoint
  k_fill
  intro mean mg mb dp un gd cn cs a ccd cl outer A₀ base h₀ L m news s R B F X N T hk hdp hun ⟨⟨d, T₀, hs, kt, t1, t2, t3, k, m1, m2, m3⟩, hx, hy, hz⟩ hret
  k_dflt (refine' code_def (binds := [(Str.ofString "self", .ref p), (Str.ofString "other", .int n t)]) ?k1 ?k2 ?k3 ?k4 ?k5 ?kA ?kF ?kK ?k6 ?k7 ?k8 ?k9 ?kB ?_ ?c2 ?c3 ?c4 ?c5; (case kA => exact rfl); (case kF => exact rfl); (case kK => first | exact rfl | assumption); (case k1 => k_asm); (case k2 => k_asm); (case k3 => k_asm); (case k4 => k_asm); (case k5 => k_asm); (case k6 => k_is); (case k7 => k_is); (case k8 => k_room); (case k9 => exact BindsTo.of_eq rfl); (case c5 => decide); (case kB => exact locs rfl); (case c2 => exact rfl); (case c3 => exact rfl); (case c4 => exact rfl); k_whole; intro g' L' h' FG' F' N' B' X' T'; (try dsimp only); (try k_lift B'); (try k_fold))
  k_steps
  all_goals (exact hret _ _ _ _ _ _ _ _ _ _ _ (by k_asm) (by k_asm) (by assumption) (by assumption) (by assumption))
theorem c_dot (w : World) (p q : Addr) (x y z x' y' z' : Int) : Ctr w 970 9600 (fun news => (PointIn news p x y z ∧ PointIn news q x' y' z') ∧ x.natAbs < 2 ^ 64 ∧ y.natAbs < 2 ^ 64 ∧ z.natAbs < 2 ^ 64 ∧ x'.natAbs < 2 ^ 64 ∧ y'.natAbs < 2 ^ 64 ∧ z'.natAbs < 2 ^ 64) 124 [.ref p, .ref q] (RetInt (x * x' + y * y' + z * z')) := by
  unfold Ctr RetInt
  k_fill
  intro mean mg mb dp un gd cn cs a ccd cl outer A₀ base h₀ L m news s R B F X N T hk hdp hun ⟨⟨⟨d, T₀, hs, kt, t1, t2, t3, k, m1, m2, m3⟩, ⟨d₂, T₂, hs₂, kt₂, t1₂, t2₂, t3₂, k₂, m1₂, m2₂, m3₂⟩⟩, hx, hy, hz, hx', hy', hz'⟩ hret
  k_dflt (refine' code_def (binds := [(Str.ofString "self", .ref p), (Str.ofString "other", .ref q)]) ?k1 ?k2 ?k3 ?k4 ?k5 ?kA ?kF ?kK ?k6 ?k7 ?k8 ?k9 ?kB ?_ ?c2 ?c3 ?c4 ?c5; (case kA => exact rfl); (case kF => exact rfl); (case kK => first | exact rfl | assumption); (case k1 => k_asm); (case k2 => k_asm); (case k3 => k_asm); (case k4 => k_asm); (case k5 => k_asm); (case k6 => k_is); (case k7 => k_is); (case k8 => k_room); (case k9 => exact BindsTo.of_eq rfl); (case c5 => decide); (case kB => exact locs rfl); (case c2 => exact rfl); (case c3 => exact rfl); (case c4 => exact rfl); k_whole; intro g' L' h' FG' F' N' B' X' T'; (try dsimp only); (try k_lift B'); (try k_fold))
  k_steps
  all_goals (exact hret _ _ _ (by k_asm) (by k_asm))
local macro_rules | `(tactic| walk_at "exec Assign cons ListComp") => `(tactic| (k_here; k_dflt (refine comp_tup (F₀ := by k_asm) (by rfl) (by with_unfolding_all rfl) (by rfl) (by decide) (by rfl) (by decide) (by rfl) (by rfl) (by rfl) ?_)))
local macro_rules | `(tactic| walk_at "SrcTup") => `(tactic| (k_here; k_dflt (refine SrcTup.intro (by rfl) (by k_asm) (by k_asm) (by k_mem) (by exact Nat.le_of_ble_eq_true rfl) ?_; intro g'; lcg_lit)))
local macro_rules | `(tactic| lcg_src) => `(tactic| k_mem)
theorem lac_0 (x y z : Int) (h1 : ab y < ab x) (h2 : ab z < ab x) : lac x y z = 0 := by unfold lac; rw [if_pos h1, if_pos h2]
theorem lac_2a (x y z : Int) (h1 : ab y < ab x) (h2 : ¬ ab z < ab x) : lac x y z = 2 := by unfold lac; rw [if_pos h1, if_neg h2]
theorem lac_1 (x y z : Int) (h1 : ¬ ab y < ab x) (h2 : ab z < ab y) : lac x y z = 1 := by unfold lac; rw [if_neg h1, if_pos h2]
theorem lac_2b (x y z : Int) (h1 : ¬ ab y < ab x) (h2 : ¬ ab z < ab y) : lac x y z = 2 := by unfold lac; rw [if_neg h1, if_neg h2]
theorem c_lac (w : World) (p : Addr) (x y z : Int) : Ctr w 970 9600 (fun news => PointIn news p x y z) 110 [.ref p] (RetInt (lac x y z)) := by
  unfold Ctr RetInt
  k_fill
  intro mean mg mb dp un gd cn cs a ccd cl outer A₀ base h₀ L m news s R B F X N T hk hdp hun ⟨d, T₀, hs, kt, t1, t2, t3, k, m1, m2, m3⟩ hret
  have hsb : ∀ q ∈ [(p, instObj 134 d), (d, dictOf [⟨hs, .str (Str.ofString "_Point__point") kt, .ref T₀⟩] 1), (T₀, ({ cls := .type "tuple", data := .seq #[.int x t1, .int y t2, .int z t3] k } : Obj))], q ∈ news := by
    intro q hq
    simp only [List.mem_cons, List.not_mem_nil, or_false] at hq
    rcases hq with rfl | rfl | rfl <;> assumption
  k_dflt (refine' code_frz (nb := [_, _, _]) (binds := [(Str.ofString "self", .ref p)]) ?hsub ?k1 ?k2 ?k3 ?k4 ?k5 ?kA ?kF ?kK ?k6 ?k7 ?k8 ?k9 ?kB ?_ ?c2 ?c3 ?c4 ?c5; (case hsub => exact hsb); (case kA => exact rfl); (case kF => exact rfl); (case kK => first | exact rfl | assumption); (case k1 => k_asm); (case k2 => k_asm); (case k3 => k_asm); (case k4 => k_asm); (case k5 => k_asm); (case k6 => k_is); (case k7 => k_is); (case k8 => k_room); (case k9 => exact BindsTo.of_eq rfl); (case c5 => decide); (case kB => exact locs rfl); (case c2 => exact rfl); (case c3 => exact rfl); (case c4 => exact rfl); k_whole; intro g' L' h' FG' F' N' B' X' T' fz; (try dsimp only); (try k_lift B'); (try k_fold))
  k_steps
  all_goals (first | rw [lac_0 x y z (by assumption) (by assumption)] at hret | rw [lac_2a x y z (by assumption) (by assumption)] at hret | rw [lac_1 x y z (by assumption) (by assumption)] at hret | rw [lac_2b x y z (by assumption) (by assumption)] at hret)
  all_goals (exact hret _ _ _ (by k_asm) (unfrz N hsb fz (by assumption) (by k_asm) (fun p hp => List.mem_cons_of_mem _ hp)))
end
section
local macro_rules | `(tactic| walk_at "call ref") => `(tactic| (k_here; (with_reducible show wpAny _ _ (call (Value.ref 134) _) _ _ _); k_dflt (refine use_ctrC (mk_point _ _ _ _ _ _ _) (by k_asm) (by k_asm) (by k_asm) (by k_asm) (by k_asm) (by first | exact rfl | assumption) (by k_room) (by k_units) (by trivial) ?_; k_whole; intro p' d' T' hs' kt' t1' t2' t3' c' h' tk' F' N' l1 l2 l3; (try k_lt l1); (try k_lt2 l2); (try k_lt2 l3); (try k_sweep); (try dsimp only); (try dsimp only [PySem.W.CmpBack]); (try k_fold))))
local macro_rules | `(tactic| walk_at "call ref") => `(tactic| (k_here; (with_reducible show wpAny _ _ (call (Value.ref 42) [_, Value.int 0 _]) _ _ _); k_dflt (refine use_ctrW (c_get0 _ _ _ _ _ _) (by k_asm) (by k_asm) (by k_asm) (by k_asm) (by k_asm) (by first | exact rfl | assumption) (by k_room) (by k_units) (by exact ⟨_, _, _, _, _, _, _, _, by kmk_part, by kmk_part, by kmk_part⟩) ?_; k_whole; intro t' h' tk' F' N'; (try k_sweep); (try dsimp only); (try dsimp only [PySem.W.CmpBack]); (try k_fold))))
local macro_rules | `(tactic| walk_at "call ref") => `(tactic| (k_here; (with_reducible show wpAny _ _ (call (Value.ref 42) [_, Value.int 1 _]) _ _ _); k_dflt (refine use_ctrW (c_get1 _ _ _ _ _ _) (by k_asm) (by k_asm) (by k_asm) (by k_asm) (by k_asm) (by first | exact rfl | assumption) (by k_room) (by k_units) (by exact ⟨_, _, _, _, _, _, _, _, by kmk_part, by kmk_part, by kmk_part⟩) ?_; k_whole; intro t' h' tk' F' N'; (try k_sweep); (try dsimp only); (try dsimp only [PySem.W.CmpBack]); (try k_fold))))
local macro_rules | `(tactic| walk_at "call ref") => `(tactic| (k_here; (with_reducible show wpAny _ _ (call (Value.ref 42) [_, Value.int 2 _]) _ _ _); k_dflt (refine use_ctrW (c_get2 _ _ _ _ _ _) (by k_asm) (by k_asm) (by k_asm) (by k_asm) (by k_asm) (by first | exact rfl | assumption) (by k_room) (by k_units) (by exact ⟨_, _, _, _, _, _, _, _, by kmk_part, by kmk_part, by kmk_part⟩) ?_; k_whole; intro t' h' tk' F' N'; (try k_sweep); (try dsimp only); (try dsimp only [PySem.W.CmpBack]); (try k_fold))))
local macro_rules | `(tactic| walk_at "call ref") => `(tactic| (k_here; (with_reducible show wpAny _ _ (call (Value.ref 84) _) _ _ _); k_dflt (refine use_ctrW (c_add _ _ _ _ _ _ _ _ _) (by k_asm) (by k_asm) (by k_asm) (by k_asm) (by k_asm) (by first | exact rfl | assumption) (by k_room) (by k_units) (by exact ⟨⟨_, _, _, _, _, _, _, _, by kmk_part, by kmk_part, by kmk_part⟩, ⟨_, _, _, _, _, _, _, _, by kmk_part, by kmk_part, by kmk_part⟩⟩) ?_; k_whole; intro p' d' T' hs' kt' t1' t2' t3' c' h' tk' F' N' l1 l2 l3; (try k_lt l1); (try k_lt2 l2); (try k_lt2 l3); (try k_sweep); (try dsimp only); (try dsimp only [PySem.W.CmpBack]); (try k_fold))))

theorem c_fuv (w : World) (f u v : Int) (t1 t2 t3 : Tok) : Ctr w 970 9600 (fun _ => True) 593 [.int f t1, .int u t2, .int v t3] (RetPoint (fx f u v) (fy f u v) (fz f u v)) := by
  unfold Ctr RetPoint
  k_fill
  intro mean mg mb dp un gd cn cs a ccd cl outer A₀ base h₀ L m news s R B F X N T hk hdp hun hp hret
  k_dflt (refine' code_def (binds := [(Str.ofString "face", .int f t1), (Str.ofString "u", .int u t2), (Str.ofString "v", .int v t3)]) ?k1 ?k2 ?k3 ?k4 ?k5 ?kA ?kF ?kK ?k6 ?k7 ?k8 ?k9 ?kB ?_ ?c2 ?c3 ?c4 ?c5; (case kA => exact rfl); (case kF => exact rfl); (case kK => first | exact rfl | assumption); (case k1 => k_asm); (case k2 => k_asm); (case k3 => k_asm); (case k4 => k_asm); (case k5 => k_asm); (case k6 => k_is); (case k7 => k_is); (case k8 => k_room); (case k9 => exact BindsTo.of_eq rfl); (case c5 => decide); (case kB => exact locs rfl); (case c2 => exact rfl); (case c3 => exact rfl); (case c4 => exact rfl); k_whole; intro g' L' h' FG' F' N' B' X' T'; (try dsimp only); (try k_lift B'); (try k_fold))
  k_steps
  all_goals (unfold fx fy fz at hret; (try simp only [*, if_true, if_false] at hret); exact hret _ _ _ _ _ _ _ _ _ _ _ (by k_asm) (by k_asm) (by assumption) (by assumption) (by assumption))
local macro_rules | `(tactic| walk_at "call ref") => `(tactic| (k_here; (with_reducible show wpAny _ _ (call (Value.ref 593) _) _ _ _); k_dflt (refine use_ctrW (c_fuv _ _ _ _ _ _ _) (by k_asm) (by k_asm) (by k_asm) (by k_asm) (by k_asm) (by first | exact rfl | assumption) (by k_room) (by k_units) (by trivial) ?_; k_whole; intro p' d' T' hs' kt' t1' t2' t3' c' h' tk' F' N' l1 l2 l3; (try k_lt l1); (try k_lt2 l2); (try k_lt2 l3); (try k_sweep); (try dsimp only); (try dsimp only [PySem.W.CmpBack]); (try k_fold))))
theorem c_norm (w : World) (f : Int) (t1 : Tok) : Ctr w 960 9500 (fun _ => True) 600 [.int f t1] (RetPoint (fx f 0 0) (fy f 0 0) (fz f 0 0)) := by
  unfold Ctr RetPoint
  k_fill
  intro mean mg mb dp un gd cn cs a ccd cl outer A₀ base h₀ L m news s R B F X N T hk hdp hun hp hret
  k_dflt (refine' code_def (binds := [(Str.ofString "face", .int f t1)]) ?k1 ?k2 ?k3 ?k4 ?k5 ?kA ?kF ?kK ?k6 ?k7 ?k8 ?k9 ?kB ?_ ?c2 ?c3 ?c4 ?c5; (case kA => exact rfl); (case kF => exact rfl); (case kK => first | exact rfl | assumption); (case k1 => k_asm); (case k2 => k_asm); (case k3 => k_asm); (case k4 => k_asm); (case k5 => k_asm); (case k6 => k_is); (case k7 => k_is); (case k8 => k_room); (case k9 => exact BindsTo.of_eq rfl); (case c5 => decide); (case kB => exact locs rfl); (case c2 => exact rfl); (case c3 => exact rfl); (case c4 => exact rfl); k_whole; intro g' L' h' FG' F' N' B' X' T'; (try dsimp only); (try k_lift B'); (try k_fold))
  k_steps
  all_goals (exact hret _ _ _ _ _ _ _ _ _ _ _ (by k_asm) (by k_asm) (by assumption) (by assumption) (by assumption))
local macro_rules | `(tactic| walk_at "binaryOp FloorDiv int int") => `(tactic| (k_here; (with_reducible refine' r_fdiv ?n ?m ?e ?_); (case n => omega); (case m => omega); (case e => exact rfl)))
theorem c_quo (w : World) (a₁ b₁ : Int) (t1 t2 : Tok) (ha : a₁.natAbs < 2 ^ 64) (hb : b₁.natAbs < 2 ^ 64) (hb0 : b₁ ≠ 0) : Ctr w 970 9600 (fun _ => True) 572 [.int a₁ t1, .int b₁ t2] (RetInt (quo a₁ b₁)) := by
  unfold Ctr RetInt
  k_fill
  intro mean mg mb dp un gd cn cs a ccd cl outer A₀ base h₀ L m news s R B F X N T hk hdp hun hp hret
  k_dflt (refine' code_def (binds := [(Str.ofString "a", .int a₁ t1), (Str.ofString "b", .int b₁ t2)]) ?k1 ?k2 ?k3 ?k4 ?k5 ?kA ?kF ?kK ?k6 ?k7 ?k8 ?k9 ?kB ?_ ?c2 ?c3 ?c4 ?c5; (case kA => exact rfl); (case kF => exact rfl); (case kK => first | exact rfl | assumption); (case k1 => k_asm); (case k2 => k_asm); (case k3 => k_asm); (case k4 => k_asm); (case k5 => k_asm); (case k6 => k_is); (case k7 => k_is); (case k8 => k_room); (case k9 => exact BindsTo.of_eq rfl); (case c5 => decide); (case kB => exact locs rfl); (case c2 => exact rfl); (case c3 => exact rfl); (case c4 => exact rfl); k_whole; intro g' L' h' FG' F' N' B' X' T'; (try dsimp only); (try k_lift B'); (try k_fold))
  k_steps
  all_goals (exact hret _ _ _ (by k_asm) (by k_asm))
local macro_rules | `(tactic| walk_at "call ref") => `(tactic| (k_here; (with_reducible show wpAny _ _ (call (Value.ref 600) _) _ _ _); k_dflt (refine use_ctrW (c_norm _ _ _) (by k_asm) (by k_asm) (by k_asm) (by k_asm) (by k_asm) (by first | exact rfl | assumption) (by k_room) (by k_units) (by trivial) ?_; k_whole; intro p' d' T' hs' kt' t1' t2' t3' c' h' tk' F' N' l1 l2 l3; (try k_lt l1); (try k_lt2 l2); (try k_lt2 l3); (try k_sweep); (try dsimp only); (try dsimp only [PySem.W.CmpBack]); (try k_fold))))
local macro_rules | `(tactic| walk_at "call ref") => `(tactic| (k_here; (with_reducible show wpAny _ _ (call (Value.ref 572) _) _ _ _); k_dflt (refine use_ctrW (c_quo _ _ _ _ _ (by omega) (by omega) (by omega)) (by k_asm) (by k_asm) (by k_asm) (by k_asm) (by k_asm) (by first | exact rfl | assumption) (by k_room) (by k_units) (by trivial) ?_; k_whole; intro t' h' tk' F' N'; (try k_sweep); (try dsimp only); (try dsimp only [PySem.W.CmpBack]); (try k_fold))))
local macro_rules | `(tactic| walk_at "call ref") => `(tactic| (k_here; (with_reducible show wpAny _ _ (call (Value.ref 124) _) _ _ _); k_dflt (refine use_ctrW (c_dot _ _ _ _ _ _ _ _ _) (by k_asm) (by k_asm) (by k_asm) (by k_asm) (by k_asm) (by first | exact rfl | assumption) (by k_room) (by k_units) (by exact ⟨⟨⟨_, _, _, _, _, _, _, _, by k_mem, by k_mem, by k_mem⟩, ⟨_, _, _, _, _, _, _, _, by k_mem, by k_mem, by k_mem⟩⟩, by omega, by omega, by omega, by decide, by decide, by decide⟩) ?_; k_whole; intro t' h' tk' F' N'; (try k_sweep); (try dsimp only); (try dsimp only [PySem.W.CmpBack]); (try k_fold))))

theorem c_vuv (w : World) (p : Addr) (f x y z : Int) (t : Tok) (hf : f = 0 ∨ f = 1 ∨ f = 2 ∨ f = 3 ∨ f = 4 ∨ f = 5) (hx : x.natAbs < 2 ^ 62) (hy : y.natAbs < 2 ^ 62) (hz : z.natAbs < 2 ^ 62) (hd : 0 < x * fx f 0 0 + y * fy f 0 0 + z * fz f 0 0) : Ctr w 960 9500 (fun news => PointIn news p x y z) 579 [.int f t, .ref p] (RetTup2 (uq f x y z) (vq f x y z)) := by
  unfold Ctr RetTup2
  k_fill
  intro mean mg mb dp un gd cn cs a ccd cl outer A₀ base h₀ L m news s R B F X N T hk hdp hun ⟨d, T₀, hs, kt, t1, t2, t3, k, m1, m2, m3⟩ hret
  rcases hf with rfl | rfl | rfl | rfl | rfl | rfl
  all_goals (have hd2 := hd; simp (config := { decide := true }) only [fx, fy, fz, if_true, if_false, reduceIte, Int.reduceNeg, Int.mul_one, Int.mul_zero, Int.add_zero, Int.zero_add, Int.neg_zero] at hd2)
  · k_dflt (refine' code_def (binds := [(Str.ofString "face", .int 0 t), (Str.ofString "p", .ref p)]) ?k1 ?k2 ?k3 ?k4 ?k5 ?kA ?kF ?kK ?k6 ?k7 ?k8 ?k9 ?kB ?_ ?c2 ?c3 ?c4 ?c5; (case kA => exact rfl); (case kF => exact rfl); (case kK => first | exact rfl | assumption); (case k1 => k_asm); (case k2 => k_asm); (case k3 => k_asm); (case k4 => k_asm); (case k5 => k_asm); (case k6 => k_is); (case k7 => k_is); (case k8 => k_room); (case k9 => exact BindsTo.of_eq rfl); (case c5 => decide); (case kB => exact locs rfl); (case c2 => exact rfl); (case c3 => exact rfl); (case c4 => exact rfl); k_whole; intro g' L' h' FG' F' N' B' X' T'; (try dsimp only); (try k_lift B'); (try k_fold))
    k_steps
    all_goals (exact hret _ _ _ _ _ _ (by k_asm) (drop_4 (by k_asm)) (ktn_ltOf (by tbn_find)))
  · k_dflt (refine' code_def (binds := [(Str.ofString "face", .int 1 t), (Str.ofString "p", .ref p)]) ?k1 ?k2 ?k3 ?k4 ?k5 ?kA ?kF ?kK ?k6 ?k7 ?k8 ?k9 ?kB ?_ ?c2 ?c3 ?c4 ?c5; (case kA => exact rfl); (case kF => exact rfl); (case kK => first | exact rfl | assumption); (case k1 => k_asm); (case k2 => k_asm); (case k3 => k_asm); (case k4 => k_asm); (case k5 => k_asm); (case k6 => k_is); (case k7 => k_is); (case k8 => k_room); (case k9 => exact BindsTo.of_eq rfl); (case c5 => decide); (case kB => exact locs rfl); (case c2 => exact rfl); (case c3 => exact rfl); (case c4 => exact rfl); k_whole; intro g' L' h' FG' F' N' B' X' T'; (try dsimp only); (try k_lift B'); (try k_fold))
    k_steps
    all_goals (exact hret _ _ _ _ _ _ (by k_asm) (drop_4 (by k_asm)) (ktn_ltOf (by tbn_find)))
  · k_dflt (refine' code_def (binds := [(Str.ofString "face", .int 2 t), (Str.ofString "p", .ref p)]) ?k1 ?k2 ?k3 ?k4 ?k5 ?kA ?kF ?kK ?k6 ?k7 ?k8 ?k9 ?kB ?_ ?c2 ?c3 ?c4 ?c5; (case kA => exact rfl); (case kF => exact rfl); (case kK => first | exact rfl | assumption); (case k1 => k_asm); (case k2 => k_asm); (case k3 => k_asm); (case k4 => k_asm); (case k5 => k_asm); (case k6 => k_is); (case k7 => k_is); (case k8 => k_room); (case k9 => exact BindsTo.of_eq rfl); (case c5 => decide); (case kB => exact locs rfl); (case c2 => exact rfl); (case c3 => exact rfl); (case c4 => exact rfl); k_whole; intro g' L' h' FG' F' N' B' X' T'; (try dsimp only); (try k_lift B'); (try k_fold))
    k_steps
    all_goals (exact hret _ _ _ _ _ _ (by k_asm) (drop_4 (by k_asm)) (ktn_ltOf (by tbn_find)))
  · k_dflt (refine' code_def (binds := [(Str.ofString "face", .int 3 t), (Str.ofString "p", .ref p)]) ?k1 ?k2 ?k3 ?k4 ?k5 ?kA ?kF ?kK ?k6 ?k7 ?k8 ?k9 ?kB ?_ ?c2 ?c3 ?c4 ?c5; (case kA => exact rfl); (case kF => exact rfl); (case kK => first | exact rfl | assumption); (case k1 => k_asm); (case k2 => k_asm); (case k3 => k_asm); (case k4 => k_asm); (case k5 => k_asm); (case k6 => k_is); (case k7 => k_is); (case k8 => k_room); (case k9 => exact BindsTo.of_eq rfl); (case c5 => decide); (case kB => exact locs rfl); (case c2 => exact rfl); (case c3 => exact rfl); (case c4 => exact rfl); k_whole; intro g' L' h' FG' F' N' B' X' T'; (try dsimp only); (try k_lift B'); (try k_fold))
    k_steps
    all_goals (exact hret _ _ _ _ _ _ (by k_asm) (drop_4 (by k_asm)) (ktn_ltOf (by tbn_find)))
  · k_dflt (refine' code_def (binds := [(Str.ofString "face", .int 4 t), (Str.ofString "p", .ref p)]) ?k1 ?k2 ?k3 ?k4 ?k5 ?kA ?kF ?kK ?k6 ?k7 ?k8 ?k9 ?kB ?_ ?c2 ?c3 ?c4 ?c5; (case kA => exact rfl); (case kF => exact rfl); (case kK => first | exact rfl | assumption); (case k1 => k_asm); (case k2 => k_asm); (case k3 => k_asm); (case k4 => k_asm); (case k5 => k_asm); (case k6 => k_is); (case k7 => k_is); (case k8 => k_room); (case k9 => exact BindsTo.of_eq rfl); (case c5 => decide); (case kB => exact locs rfl); (case c2 => exact rfl); (case c3 => exact rfl); (case c4 => exact rfl); k_whole; intro g' L' h' FG' F' N' B' X' T'; (try dsimp only); (try k_lift B'); (try k_fold))
    k_steps
    all_goals (exact hret _ _ _ _ _ _ (by k_asm) (drop_4 (by k_asm)) (ktn_ltOf (by tbn_find)))
  · k_dflt (refine' code_def (binds := [(Str.ofString "face", .int 5 t), (Str.ofString "p", .ref p)]) ?k1 ?k2 ?k3 ?k4 ?k5 ?kA ?kF ?kK ?k6 ?k7 ?k8 ?k9 ?kB ?_ ?c2 ?c3 ?c4 ?c5; (case kA => exact rfl); (case kF => exact rfl); (case kK => first | exact rfl | assumption); (case k1 => k_asm); (case k2 => k_asm); (case k3 => k_asm); (case k4 => k_asm); (case k5 => k_asm); (case k6 => k_is); (case k7 => k_is); (case k8 => k_room); (case k9 => exact BindsTo.of_eq rfl); (case c5 => decide); (case kB => exact locs rfl); (case c2 => exact rfl); (case c3 => exact rfl); (case c4 => exact rfl); k_whole; intro g' L' h' FG' F' N' B' X' T'; (try dsimp only); (try k_lift B'); (try k_fold))
    k_steps
    all_goals (exact hret _ _ _ _ _ _ (by k_asm) (drop_4 (by k_asm)) (ktn_ltOf (by tbn_find)))
end
section
local macro_rules | `(tactic| walk_at "call ref") => `(tactic| (k_here; (with_reducible show wpAny _ _ (call (Value.ref 134) _) _ _ _); k_dflt (refine use_ctrC (mk_point _ _ _ _ _ _ _) (by k_asm) (by k_asm) (by k_asm) (by k_asm) (by k_asm) (by first | exact rfl | assumption) (by k_room) (by k_units) (by trivial) ?_; k_whole; intro p' d' T' hs' kt' t1' t2' t3' c' h' tk' F' N' l1 l2 l3; (try k_lt l1); (try k_lt2 l2); (try k_lt2 l3); (try k_sweep); (try dsimp only); (try dsimp only [PySem.W.CmpBack]); (try k_fold))))
local macro_rules | `(tactic| walk_at "call ref") => `(tactic| (k_here; (with_reducible show wpAny _ _ (call (Value.ref 42) [_, Value.int 0 _]) _ _ _); k_dflt (refine use_ctrW (c_get0 _ _ _ _ _ _) (by k_asm) (by k_asm) (by k_asm) (by k_asm) (by k_asm) (by first | exact rfl | assumption) (by k_room) (by k_units) (by exact ⟨_, _, _, _, _, _, _, _, by kmk_part, by kmk_part, by kmk_part⟩) ?_; k_whole; intro t' h' tk' F' N'; (try k_sweep); (try dsimp only); (try dsimp only [PySem.W.CmpBack]); (try k_fold))))
local macro_rules | `(tactic| walk_at "call ref") => `(tactic| (k_here; (with_reducible show wpAny _ _ (call (Value.ref 42) [_, Value.int 1 _]) _ _ _); k_dflt (refine use_ctrW (c_get1 _ _ _ _ _ _) (by k_asm) (by k_asm) (by k_asm) (by k_asm) (by k_asm) (by first | exact rfl | assumption) (by k_room) (by k_units) (by exact ⟨_, _, _, _, _, _, _, _, by kmk_part, by kmk_part, by kmk_part⟩) ?_; k_whole; intro t' h' tk' F' N'; (try k_sweep); (try dsimp only); (try dsimp only [PySem.W.CmpBack]); (try k_fold))))
local macro_rules | `(tactic| walk_at "call ref") => `(tactic| (k_here; (with_reducible show wpAny _ _ (call (Value.ref 42) [_, Value.int 2 _]) _ _ _); k_dflt (refine use_ctrW (c_get2 _ _ _ _ _ _) (by k_asm) (by k_asm) (by k_asm) (by k_asm) (by k_asm) (by first | exact rfl | assumption) (by k_room) (by k_units) (by exact ⟨_, _, _, _, _, _, _, _, by kmk_part, by kmk_part, by kmk_part⟩) ?_; k_whole; intro t' h' tk' F' N'; (try k_sweep); (try dsimp only); (try dsimp only [PySem.W.CmpBack]); (try k_fold))))
local macro_rules | `(tactic| walk_at "call ref") => `(tactic| (k_here; (with_reducible show wpAny _ _ (call (Value.ref 84) _) _ _ _); k_dflt (refine use_ctrW (c_add _ _ _ _ _ _ _ _ _) (by k_asm) (by k_asm) (by k_asm) (by k_asm) (by k_asm) (by first | exact rfl | assumption) (by k_room) (by k_units) (by exact ⟨⟨_, _, _, _, _, _, _, _, by kmk_part, by kmk_part, by kmk_part⟩, ⟨_, _, _, _, _, _, _, _, by kmk_part, by kmk_part, by kmk_part⟩⟩) ?_; k_whole; intro p' d' T' hs' kt' t1' t2' t3' c' h' tk' F' N' l1 l2 l3; (try k_lt l1); (try k_lt2 l2); (try k_lt2 l3); (try k_sweep); (try dsimp only); (try dsimp only [PySem.W.CmpBack]); (try k_fold))))
local macro_rules | `(tactic| walk_at "call ref") => `(tactic| (k_here; (with_reducible show wpAny _ _ (call (Value.ref 593) _) _ _ _); k_dflt (refine use_ctrW (c_fuv _ _ _ _ _ _ _) (by k_asm) (by k_asm) (by k_asm) (by k_asm) (by k_asm) (by first | exact rfl | assumption) (by k_room) (by k_units) (by trivial) ?_; k_whole; intro p' d' T' hs' kt' t1' t2' t3' c' h' tk' F' N' l1 l2 l3; (try k_lt l1); (try k_lt2 l2); (try k_lt2 l3); (try k_sweep); (try dsimp only); (try dsimp only [PySem.W.CmpBack]); (try k_fold))))
local macro_rules | `(tactic| walk_at "call ref") => `(tactic| (k_here; (with_reducible show wpAny _ _ (call (Value.ref 600) _) _ _ _); k_dflt (refine use_ctrW (c_norm _ _ _) (by k_asm) (by k_asm) (by k_asm) (by k_asm) (by k_asm) (by first | exact rfl | assumption) (by k_room) (by k_units) (by trivial) ?_; k_whole; intro p' d' T' hs' kt' t1' t2' t3' c' h' tk' F' N' l1 l2 l3; (try k_lt l1); (try k_lt2 l2); (try k_lt2 l3); (try k_sweep); (try dsimp only); (try dsimp only [PySem.W.CmpBack]); (try k_fold))))
local macro_rules | `(tactic| walk_at "call ref") => `(tactic| (k_here; (with_reducible show wpAny _ _ (call (Value.ref 572) _) _ _ _); k_dflt (refine use_ctrW (c_quo _ _ _ _ _ (by omega) (by omega) (by omega)) (by k_asm) (by k_asm) (by k_asm) (by k_asm) (by k_asm) (by first | exact rfl | assumption) (by k_room) (by k_units) (by trivial) ?_; k_whole; intro t' h' tk' F' N'; (try k_sweep); (try dsimp only); (try dsimp only [PySem.W.CmpBack]); (try k_fold))))
local macro_rules | `(tactic| walk_at "call ref") => `(tactic| (k_here; (with_reducible show wpAny _ _ (call (Value.ref 124) _) _ _ _); k_dflt (refine use_ctrW (c_dot _ _ _ _ _ _ _ _ _) (by k_asm) (by k_asm) (by k_asm) (by k_asm) (by k_asm) (by first | exact rfl | assumption) (by k_room) (by k_units) (by exact ⟨⟨⟨_, _, _, _, _, _, _, _, by kmk_part, by kmk_part, by kmk_part⟩, ⟨_, _, _, _, _, _, _, _, by kmk_part, by kmk_part, by kmk_part⟩⟩, by omega, by omega, by omega, by decide, by decide, by decide⟩) ?_; k_whole; intro t' h' tk' F' N'; (try k_sweep); (try dsimp only); (try dsimp only [PySem.W.CmpBack]); (try k_fold))))

theorem ctr_with {w : World} {D U : Nat} {pre : List (Addr × Obj) → Prop} {f : Addr} {args : List Value} {post : Post} {C : Prop} (h : C → Ctr w D U pre f args post) : Ctr w D U (fun news => pre news ∧ C) f args post := by
  intro mean mg mb dp un gd cn cs a ccd cl outer A₀ base h₀ L m news s R B F X N T hk hd hu hp hr
  exact h hp.2 mean mg mb dp un gd cn cs a ccd cl outer A₀ base h₀ L m news s R B F X N T hk hd hu hp.1 hr
theorem c_vuv2 (w : World) (p : Addr) (f x y z : Int) (t : Tok) (hf : f = 0 ∨ f = 1 ∨ f = 2 ∨ f = 3 ∨ f = 4 ∨ f = 5) : Ctr w 960 9500 (fun news => PointIn news p x y z ∧ (x.natAbs < 2 ^ 62 ∧ y.natAbs < 2 ^ 62 ∧ z.natAbs < 2 ^ 62 ∧ 0 < x * fx f 0 0 + y * fy f 0 0 + z * fz f 0 0)) 579 [.int f t, .ref p] (RetTup2 (uq f x y z) (vq f x y z)) := ctr_with (fun (h : x.natAbs < 2 ^ 62 ∧ y.natAbs < 2 ^ 62 ∧ z.natAbs < 2 ^ 62 ∧ 0 < x * fx f 0 0 + y * fy f 0 0 + z * fz f 0 0) => c_vuv w p f x y z t hf h.1 h.2.1 h.2.2.1 h.2.2.2)
local macro_rules | `(tactic| walk_at "call ref") => `(tactic| (k_here; (with_reducible show wpAny _ _ (call (Value.ref 579) _) _ _ _); k_dflt (refine use_ctrW (c_vuv2 _ _ _ _ _ _ _ (by omega)) (by k_asm) (by k_asm) (by k_asm) (by k_asm) (by k_asm) (by first | exact rfl | assumption) (by k_room) (by k_units) (by exact ⟨⟨_, _, _, _, _, _, _, _, by k_mem, by k_mem, by k_mem⟩, by omega, by omega, by omega, by assumption⟩) ?_; k_whole; intro D' t1' t2' c' h' tk' F' N' l1; (try k_lt l1); (try k_sweep); (try dsimp only); (try dsimp only [PySem.W.CmpBack]); (try k_fold))))

theorem c_lac2 (w : World) (p : Addr) (x y z r : Int) (h : lac x y z = r) : Ctr w 970 9600 (fun news => PointIn news p x y z) 110 [.ref p] (RetInt r) := h ▸ c_lac w p x y z
local macro_rules | `(tactic| walk_at "call ref") => `(tactic| (k_here; (with_reducible show wpAny _ _ (call (Value.ref 110) _) _ _ _); k_dflt (refine use_ctrW (c_lac2 _ _ _ _ _ _ (by assumption)) (by k_asm) (by k_asm) (by k_asm) (by k_asm) (by k_asm) (by first | exact rfl | assumption) (by k_room) (by k_units) (by exact ⟨_, _, _, _, _, _, _, _, by kmk_part, by kmk_part, by kmk_part⟩) ?_; k_whole; intro t' h' tk' F' N'; (try k_sweep); (try dsimp only); (try dsimp only [PySem.W.CmpBack]); (try k_fold))))

theorem c_xyz (w : World) (p : Addr) (x y z : Int) (hx : x.natAbs < 2 ^ 62) (hy : y.natAbs < 2 ^ 62) (hz : z.natAbs < 2 ^ 62) (hn : x ≠ 0 ∨ y ≠ 0 ∨ z ≠ 0) : Ctr w 950 9400 (fun news => PointIn news p x y z) 586 [.ref p] (RetTup3 (fsel x y z) (uq (fsel x y z) x y z) (vq (fsel x y z) x y z)) := by
  unfold Ctr RetTup3
  k_fill
  intro mean mg mb dp un gd cn cs a ccd cl outer A₀ base h₀ L m news s R B F X N T hk hdp hun ⟨d, T₀, hs, kt, t1, t2, t3, k, m1, m2, m3⟩ hret
  have hl : (lac x y z = 0 ∧ x ≠ 0) ∨ (lac x y z = 1 ∧ y ≠ 0) ∨ (lac x y z = 2 ∧ z ≠ 0) := by
    unfold lac ab
    split <;> split <;> omega
  rcases hl with ⟨hl, h0⟩ | ⟨hl, h0⟩ | ⟨hl, h0⟩
  · by_cases hs0 : x < 0
    · have e0 : (if lac x y z = 0 then x else if lac x y z = 1 then y else z) = x := by rw [hl]; rfl
      have e : fsel x y z = 3 := by unfold fsel; rw [e0, hl]; rw [if_pos hs0]; rfl
      have hd : 0 < x * fx 3 0 0 + y * fy 3 0 0 + z * fz 3 0 0 := by simp (config := { decide := true }) only [fx, fy, fz, if_true, if_false, reduceIte]; omega
      rw [e] at hret
      k_dflt (refine' code_def (binds := [(Str.ofString "p", .ref p)]) ?k1 ?k2 ?k3 ?k4 ?k5 ?kA ?kF ?kK ?k6 ?k7 ?k8 ?k9 ?kB ?_ ?c2 ?c3 ?c4 ?c5; (case kA => exact rfl); (case kF => exact rfl); (case kK => first | exact rfl | assumption); (case k1 => k_asm); (case k2 => k_asm); (case k3 => k_asm); (case k4 => k_asm); (case k5 => k_asm); (case k6 => k_is); (case k7 => k_is); (case k8 => k_room); (case k9 => exact BindsTo.of_eq rfl); (case c5 => decide); (case kB => exact locs rfl); (case c2 => exact rfl); (case c3 => exact rfl); (case c4 => exact rfl); k_whole; intro g' L' h' FG' F' N' B' X' T'; (try dsimp only); (try k_lift B'); (try k_fold))
      k_steps
      all_goals (exact hret _ _ _ _ _ _ _ (by k_asm) (drop_2 (by k_asm)) (ktn_ltOf (by tbn_find)))
    · have e0 : (if lac x y z = 0 then x else if lac x y z = 1 then y else z) = x := by rw [hl]; rfl
      have e : fsel x y z = 0 := by unfold fsel; rw [e0, hl]; rw [if_neg hs0]
      have hd : 0 < x * fx 0 0 0 + y * fy 0 0 0 + z * fz 0 0 0 := by simp (config := { decide := true }) only [fx, fy, fz, if_true, if_false, reduceIte]; omega
      rw [e] at hret
      k_dflt (refine' code_def (binds := [(Str.ofString "p", .ref p)]) ?k1 ?k2 ?k3 ?k4 ?k5 ?kA ?kF ?kK ?k6 ?k7 ?k8 ?k9 ?kB ?_ ?c2 ?c3 ?c4 ?c5; (case kA => exact rfl); (case kF => exact rfl); (case kK => first | exact rfl | assumption); (case k1 => k_asm); (case k2 => k_asm); (case k3 => k_asm); (case k4 => k_asm); (case k5 => k_asm); (case k6 => k_is); (case k7 => k_is); (case k8 => k_room); (case k9 => exact BindsTo.of_eq rfl); (case c5 => decide); (case kB => exact locs rfl); (case c2 => exact rfl); (case c3 => exact rfl); (case c4 => exact rfl); k_whole; intro g' L' h' FG' F' N' B' X' T'; (try dsimp only); (try k_lift B'); (try k_fold))
      k_steps
      all_goals (exact hret _ _ _ _ _ _ _ (by k_asm) (drop_2 (by k_asm)) (ktn_ltOf (by tbn_find)))
  · by_cases hs0 : y < 0
    · have e0 : (if lac x y z = 0 then x else if lac x y z = 1 then y else z) = y := by rw [hl]; rfl
      have e : fsel x y z = 4 := by unfold fsel; rw [e0, hl]; rw [if_pos hs0]; rfl
      have hd : 0 < x * fx 4 0 0 + y * fy 4 0 0 + z * fz 4 0 0 := by simp (config := { decide := true }) only [fx, fy, fz, if_true, if_false, reduceIte]; omega
      rw [e] at hret
      k_dflt (refine' code_def (binds := [(Str.ofString "p", .ref p)]) ?k1 ?k2 ?k3 ?k4 ?k5 ?kA ?kF ?kK ?k6 ?k7 ?k8 ?k9 ?kB ?_ ?c2 ?c3 ?c4 ?c5; (case kA => exact rfl); (case kF => exact rfl); (case kK => first | exact rfl | assumption); (case k1 => k_asm); (case k2 => k_asm); (case k3 => k_asm); (case k4 => k_asm); (case k5 => k_asm); (case k6 => k_is); (case k7 => k_is); (case k8 => k_room); (case k9 => exact BindsTo.of_eq rfl); (case c5 => decide); (case kB => exact locs rfl); (case c2 => exact rfl); (case c3 => exact rfl); (case c4 => exact rfl); k_whole; intro g' L' h' FG' F' N' B' X' T'; (try dsimp only); (try k_lift B'); (try k_fold))
      k_steps
      all_goals (exact hret _ _ _ _ _ _ _ (by k_asm) (drop_2 (by k_asm)) (ktn_ltOf (by tbn_find)))
    · have e0 : (if lac x y z = 0 then x else if lac x y z = 1 then y else z) = y := by rw [hl]; rfl
      have e : fsel x y z = 1 := by unfold fsel; rw [e0, hl]; rw [if_neg hs0]
      have hd : 0 < x * fx 1 0 0 + y * fy 1 0 0 + z * fz 1 0 0 := by simp (config := { decide := true }) only [fx, fy, fz, if_true, if_false, reduceIte]; omega
      rw [e] at hret
      k_dflt (refine' code_def (binds := [(Str.ofString "p", .ref p)]) ?k1 ?k2 ?k3 ?k4 ?k5 ?kA ?kF ?kK ?k6 ?k7 ?k8 ?k9 ?kB ?_ ?c2 ?c3 ?c4 ?c5; (case kA => exact rfl); (case kF => exact rfl); (case kK => first | exact rfl | assumption); (case k1 => k_asm); (case k2 => k_asm); (case k3 => k_asm); (case k4 => k_asm); (case k5 => k_asm); (case k6 => k_is); (case k7 => k_is); (case k8 => k_room); (case k9 => exact BindsTo.of_eq rfl); (case c5 => decide); (case kB => exact locs rfl); (case c2 => exact rfl); (case c3 => exact rfl); (case c4 => exact rfl); k_whole; intro g' L' h' FG' F' N' B' X' T'; (try dsimp only); (try k_lift B'); (try k_fold))
      k_steps
      all_goals (exact hret _ _ _ _ _ _ _ (by k_asm) (drop_2 (by k_asm)) (ktn_ltOf (by tbn_find)))
  · by_cases hs0 : z < 0
    · have e0 : (if lac x y z = 0 then x else if lac x y z = 1 then y else z) = z := by rw [hl]; rfl
      have e : fsel x y z = 5 := by unfold fsel; rw [e0, hl]; rw [if_pos hs0]; rfl
      have hd : 0 < x * fx 5 0 0 + y * fy 5 0 0 + z * fz 5 0 0 := by simp (config := { decide := true }) only [fx, fy, fz, if_true, if_false, reduceIte]; omega
      rw [e] at hret
      k_dflt (refine' code_def (binds := [(Str.ofString "p", .ref p)]) ?k1 ?k2 ?k3 ?k4 ?k5 ?kA ?kF ?kK ?k6 ?k7 ?k8 ?k9 ?kB ?_ ?c2 ?c3 ?c4 ?c5; (case kA => exact rfl); (case kF => exact rfl); (case kK => first | exact rfl | assumption); (case k1 => k_asm); (case k2 => k_asm); (case k3 => k_asm); (case k4 => k_asm); (case k5 => k_asm); (case k6 => k_is); (case k7 => k_is); (case k8 => k_room); (case k9 => exact BindsTo.of_eq rfl); (case c5 => decide); (case kB => exact locs rfl); (case c2 => exact rfl); (case c3 => exact rfl); (case c4 => exact rfl); k_whole; intro g' L' h' FG' F' N' B' X' T'; (try dsimp only); (try k_lift B'); (try k_fold))
      k_steps
      all_goals (exact hret _ _ _ _ _ _ _ (by k_asm) (drop_2 (by k_asm)) (ktn_ltOf (by tbn_find)))
    · have e0 : (if lac x y z = 0 then x else if lac x y z = 1 then y else z) = z := by rw [hl]; rfl
      have e : fsel x y z = 2 := by unfold fsel; rw [e0, hl]; rw [if_neg hs0]
      have hd : 0 < x * fx 2 0 0 + y * fy 2 0 0 + z * fz 2 0 0 := by simp (config := { decide := true }) only [fx, fy, fz, if_true, if_false, reduceIte]; omega
      rw [e] at hret
      k_dflt (refine' code_def (binds := [(Str.ofString "p", .ref p)]) ?k1 ?k2 ?k3 ?k4 ?k5 ?kA ?kF ?kK ?k6 ?k7 ?k8 ?k9 ?kB ?_ ?c2 ?c3 ?c4 ?c5; (case kA => exact rfl); (case kF => exact rfl); (case kK => first | exact rfl | assumption); (case k1 => k_asm); (case k2 => k_asm); (case k3 => k_asm); (case k4 => k_asm); (case k5 => k_asm); (case k6 => k_is); (case k7 => k_is); (case k8 => k_room); (case k9 => exact BindsTo.of_eq rfl); (case c5 => decide); (case kB => exact locs rfl); (case c2 => exact rfl); (case c3 => exact rfl); (case c4 => exact rfl); k_whole; intro g' L' h' FG' F' N' B' X' T'; (try dsimp only); (try k_lift B'); (try k_fold))
      k_steps
      all_goals (exact hret _ _ _ _ _ _ _ (by k_asm) (drop_2 (by k_asm)) (ktn_ltOf (by tbn_find)))
end
section
local macro_rules | `(tactic| walk_at "call ref") => `(tactic| (k_here; (with_reducible show wpAny _ _ (call (Value.ref 561) _) _ _ _); k_dflt (refine use_ctrC (mk_cell _ _ _) (by k_asm) (by k_asm) (by k_asm) (by k_asm) (by k_asm) (by first | exact rfl | assumption) (by k_room) (by k_units) (by trivial) ?_; k_whole; intro x' d' hs' kt' vt' h' tk' F' N' l1 l2; (try k_lt l1); (try k_lt2 l2); (try k_sweep); (try dsimp only); (try dsimp only [PySem.W.CmpBack]); (try k_fold))))

theorem c_stij (w : World) (v : Int) (t : Tok) : Ctr w 970 9600 (fun _ => True) 275 [.ref 561, .int v t] (RetInt (stij v)) := by
  unfold Ctr RetInt
  k_fill
  intro mean mg mb dp un gd cn cs a ccd cl outer A₀ base h₀ L m news s R B F X N T hk hdp hun hp hret
  k_dflt (refine' code_def (binds := [(Str.ofString "cls", .ref 561), (Str.ofString "s", .int v t)]) ?k1 ?k2 ?k3 ?k4 ?k5 ?kA ?kF ?kK ?k6 ?k7 ?k8 ?k9 ?kB ?_ ?c2 ?c3 ?c4 ?c5; (case kA => exact rfl); (case kF => exact rfl); (case kK => first | exact rfl | assumption); (case k1 => k_asm); (case k2 => k_asm); (case k3 => k_asm); (case k4 => k_asm); (case k5 => k_asm); (case k6 => k_is); (case k7 => k_is); (case k8 => k_room); (case k9 => exact BindsTo.of_eq rfl); (case c5 => decide); (case kB => exact locs rfl); (case c2 => exact rfl); (case c3 => exact rfl); (case c4 => exact rfl); k_whole; intro g' L' h' FG' F' N' B' X' T'; (try dsimp only); (try k_lift B'); (try k_fold))
  k_steps
  all_goals (unfold stij at hret; exact hret _ _ _ (by k_asm) (by k_asm))
theorem stij_b (v : Int) : 0 ≤ stij v ∧ stij v < 1073741824 := by
  unfold stij
  split <;> split <;> omega
theorem fsel_b (x y z : Int) : 0 ≤ fsel x y z ∧ fsel x y z < 6 := by
  have h : lac x y z = 0 ∨ lac x y z = 1 ∨ lac x y z = 2 := by
    unfold lac
    split <;> split <;> simp
  unfold fsel
  split <;> omega
theorem clampF_b (a : Int) : -1 ≤ clampF a ∧ clampF a ≤ 1073741824 := by
  unfold clampF
  split <;> split <;> omega
section
variable {prog : Program} {w : World} {A : Around} {E : Value → Shared → Prop} {a : Int} {t : Tok} {hp : Heap} {gs dr tk os} {x : Str} {env : Env} {Q : Unit → Shared → Prop}
theorem store_clamp (h : ∀ (v : Int) (t' : Tok) (tk : Nat), v = clampF a → -1 ≤ v → v ≤ 1073741824 → wpAny (model prog w) A (storeName env x (.int v t')) Q E ⟨hp, gs, dr, tk, os⟩) : wpAny (model prog w) A (storeName env x (.int (if (if a < 1073741824 then a else 1073741824) > -1 then (if a < 1073741824 then a else 1073741824) else -1) t)) Q E ⟨hp, gs, dr, tk, os⟩ := h _ t tk rfl (clampF_b a).1 (clampF_b a).2
end
local macro_rules | `(tactic| walk_at "call ref") => `(tactic| (k_here; (with_reducible show wpAny _ _ (call (Value.ref _) _) _ _ _); k_dflt (refine call_meth (f := Value.ref 275) (by k_asm) (by kmk_part) ?_; refine use_ctr (c_stij _ _ _) (by k_asm) (by k_asm) (by k_asm) (by k_asm) (by k_asm) (by first | exact rfl | assumption) (by k_room) (by k_units) (by trivial) ?_; k_whole; intro t' h' tk' F' N'; (try k_sweep); (try dsimp only); (try dsimp only [PySem.W.CmpBack]); (try k_fold))))
local macro_rules | `(tactic| walk_at "call ref") => `(tactic| (k_here; (with_reducible show wpAny _ _ (call (Value.ref _) _) _ _ _); k_dflt (refine call_meth (f := Value.ref 245) (by k_asm) (by kmk_part) ?_; refine use_ctr (c_ffij _ _ _ _ _ _ _ (fsel_b _ _ _).1 (fsel_b _ _ _).2 (stij_b _).1 (stij_b _).2 (stij_b _).1 (stij_b _).2) (by k_asm) (by k_asm) (by k_asm) (by k_asm) (by k_asm) (by first | exact rfl | assumption) (by k_room) (by k_units) (by trivial) ?_; k_whole; intro x' d' hs' kt' vt' h' tk' F' N' l1 l2; (try k_lt l1); (try k_lt2 l2); (try k_sweep); (try dsimp only); (try dsimp only [PySem.W.CmpBack]); (try k_fold))))
local macro_rules | `(tactic| walk_at "storeName") => `(tactic| (k_here; (with_reducible show wpAny _ _ (storeName _ (Str.ofString "u") (Value.int _ _)) _ _ _); refine' store_named ?_; intro uv' ut' uk' ue'; k_dflt (refine' storeX_L ?F ?N ?_ ?a ?b; (case F => k_asm); (case N => k_asm); (case a => rfl); (case b => rfl); k_whole; intro h' F' N'; (try k_sweep))))
local macro_rules | `(tactic| walk_at "storeName") => `(tactic| (k_here; (with_reducible show wpAny _ _ (storeName _ (Str.ofString "v") (Value.int _ _)) _ _ _); refine' store_named ?_; intro vv' vt' vk' ve'; k_dflt (refine' storeX_L ?F ?N ?_ ?a ?b; (case F => k_asm); (case N => k_asm); (case a => rfl); (case b => rfl); k_whole; intro h' F' N'; (try k_sweep))))
local macro_rules | `(tactic| walk_at "storeName") => `(tactic| (k_here; (with_reducible show wpAny _ _ (storeName _ (Str.ofString "i") (Value.int (ite _ _ _) _)) _ _ _); refine' store_clamp ?_; intro iv' it' ik' ie' il' ih'; k_dflt (refine' storeX_L ?F ?N ?_ ?a ?b; (case F => k_asm); (case N => k_asm); (case a => rfl); (case b => rfl); k_whole; intro h' F' N'; (try k_sweep))))
local macro_rules | `(tactic| walk_at "storeName") => `(tactic| (k_here; (with_reducible show wpAny _ _ (storeName _ (Str.ofString "j") (Value.int (ite _ _ _) _)) _ _ _); refine' store_clamp ?_; intro jv' jt' jk' je' jl' jh'; k_dflt (refine' storeX_L ?F ?N ?_ ?a ?b; (case F => k_asm); (case N => k_asm); (case a => rfl); (case b => rfl); k_whole; intro h' F' N'; (try k_sweep))))
local macro_rules | `(tactic| walk_at "call ref") => `(tactic| (k_here; (with_reducible show wpAny _ _ (call (Value.ref 134) _) _ _ _); k_dflt (refine use_ctrC (mk_point _ _ _ _ _ _ _) (by k_asm) (by k_asm) (by k_asm) (by k_asm) (by k_asm) (by first | exact rfl | assumption) (by k_room) (by k_units) (by trivial) ?_; k_whole; intro p' d' T' hs' kt' t1' t2' t3' c' h' tk' F' N' l1 l2 l3; (try k_lt l1); (try k_lt2 l2); (try k_lt2 l3); (try k_sweep); (try dsimp only); (try dsimp only [PySem.W.CmpBack]); (try k_fold))))
local macro_rules | `(tactic| walk_at "call ref") => `(tactic| (k_here; (with_reducible show wpAny _ _ (call (Value.ref 42) [_, Value.int 0 _]) _ _ _); k_dflt (refine use_ctrW (c_get0 _ _ _ _ _ _) (by k_asm) (by k_asm) (by k_asm) (by k_asm) (by k_asm) (by first | exact rfl | assumption) (by k_room) (by k_units) (by exact ⟨_, _, _, _, _, _, _, _, by kmk_part, by kmk_part, by kmk_part⟩) ?_; k_whole; intro t' h' tk' F' N'; (try k_sweep); (try dsimp only); (try dsimp only [PySem.W.CmpBack]); (try k_fold))))
local macro_rules | `(tactic| walk_at "call ref") => `(tactic| (k_here; (with_reducible show wpAny _ _ (call (Value.ref 42) [_, Value.int 1 _]) _ _ _); k_dflt (refine use_ctrW (c_get1 _ _ _ _ _ _) (by k_asm) (by k_asm) (by k_asm) (by k_asm) (by k_asm) (by first | exact rfl | assumption) (by k_room) (by k_units) (by exact ⟨_, _, _, _, _, _, _, _, by kmk_part, by kmk_part, by kmk_part⟩) ?_; k_whole; intro t' h' tk' F' N'; (try k_sweep); (try dsimp only); (try dsimp only [PySem.W.CmpBack]); (try k_fold))))
local macro_rules | `(tactic| walk_at "call ref") => `(tactic| (k_here; (with_reducible show wpAny _ _ (call (Value.ref 42) [_, Value.int 2 _]) _ _ _); k_dflt (refine use_ctrW (c_get2 _ _ _ _ _ _) (by k_asm) (by k_asm) (by k_asm) (by k_asm) (by k_asm) (by first | exact rfl | assumption) (by k_room) (by k_units) (by exact ⟨_, _, _, _, _, _, _, _, by kmk_part, by kmk_part, by kmk_part⟩) ?_; k_whole; intro t' h' tk' F' N'; (try k_sweep); (try dsimp only); (try dsimp only [PySem.W.CmpBack]); (try k_fold))))
local macro_rules | `(tactic| walk_at "call ref") => `(tactic| (k_here; (with_reducible show wpAny _ _ (call (Value.ref 84) _) _ _ _); k_dflt (refine use_ctrW (c_add _ _ _ _ _ _ _ _ _) (by k_asm) (by k_asm) (by k_asm) (by k_asm) (by k_asm) (by first | exact rfl | assumption) (by k_room) (by k_units) (by exact ⟨⟨_, _, _, _, _, _, _, _, by kmk_part, by kmk_part, by kmk_part⟩, ⟨_, _, _, _, _, _, _, _, by kmk_part, by kmk_part, by kmk_part⟩⟩) ?_; k_whole; intro p' d' T' hs' kt' t1' t2' t3' c' h' tk' F' N' l1 l2 l3; (try k_lt l1); (try k_lt2 l2); (try k_lt2 l3); (try k_sweep); (try dsimp only); (try dsimp only [PySem.W.CmpBack]); (try k_fold))))
local macro_rules | `(tactic| walk_at "call ref") => `(tactic| (k_here; (with_reducible show wpAny _ _ (call (Value.ref 593) _) _ _ _); k_dflt (refine use_ctrW (c_fuv _ _ _ _ _ _ _) (by k_asm) (by k_asm) (by k_asm) (by k_asm) (by k_asm) (by first | exact rfl | assumption) (by k_room) (by k_units) (by trivial) ?_; k_whole; intro p' d' T' hs' kt' t1' t2' t3' c' h' tk' F' N' l1 l2 l3; (try k_lt l1); (try k_lt2 l2); (try k_lt2 l3); (try k_sweep); (try dsimp only); (try dsimp only [PySem.W.CmpBack]); (try k_fold))))
local macro_rules | `(tactic| walk_at "call ref") => `(tactic| (k_here; (with_reducible show wpAny _ _ (call (Value.ref 600) _) _ _ _); k_dflt (refine use_ctrW (c_norm _ _ _) (by k_asm) (by k_asm) (by k_asm) (by k_asm) (by k_asm) (by first | exact rfl | assumption) (by k_room) (by k_units) (by trivial) ?_; k_whole; intro p' d' T' hs' kt' t1' t2' t3' c' h' tk' F' N' l1 l2 l3; (try k_lt l1); (try k_lt2 l2); (try k_lt2 l3); (try k_sweep); (try dsimp only); (try dsimp only [PySem.W.CmpBack]); (try k_fold))))
local macro_rules | `(tactic| walk_at "call ref") => `(tactic| (k_here; (with_reducible show wpAny _ _ (call (Value.ref 572) _) _ _ _); k_dflt (refine use_ctrW (c_quo _ _ _ _ _ (by omega) (by omega) (by omega)) (by k_asm) (by k_asm) (by k_asm) (by k_asm) (by k_asm) (by first | exact rfl | assumption) (by k_room) (by k_units) (by trivial) ?_; k_whole; intro t' h' tk' F' N'; (try k_sweep); (try dsimp only); (try dsimp only [PySem.W.CmpBack]); (try k_fold))))
local macro_rules | `(tactic| walk_at "call ref") => `(tactic| (k_here; (with_reducible show wpAny _ _ (call (Value.ref 124) _) _ _ _); k_dflt (refine use_ctrW (c_dot _ _ _ _ _ _ _ _ _) (by k_asm) (by k_asm) (by k_asm) (by k_asm) (by k_asm) (by first | exact rfl | assumption) (by k_room) (by k_units) (by exact ⟨⟨⟨_, _, _, _, _, _, _, _, by kmk_part, by kmk_part, by kmk_part⟩, ⟨_, _, _, _, _, _, _, _, by kmk_part, by kmk_part, by kmk_part⟩⟩, by omega, by omega, by omega, by decide, by decide, by decide⟩) ?_; k_whole; intro t' h' tk' F' N'; (try k_sweep); (try dsimp only); (try dsimp only [PySem.W.CmpBack]); (try k_fold))))

theorem c_xyz2 (w : World) (p : Addr) (x y z : Int) : Ctr w 950 9400 (fun news => PointIn news p x y z ∧ (x.natAbs < 2 ^ 62 ∧ y.natAbs < 2 ^ 62 ∧ z.natAbs < 2 ^ 62 ∧ (x ≠ 0 ∨ y ≠ 0 ∨ z ≠ 0))) 586 [.ref p] (RetTup3 (fsel x y z) (uq (fsel x y z) x y z) (vq (fsel x y z) x y z)) := ctr_with (fun h => c_xyz w p x y z h.1 h.2.1 h.2.2.1 h.2.2.2)
local macro_rules | `(tactic| walk_at "call ref") => `(tactic| (k_here; (with_reducible show wpAny _ _ (call (Value.ref 586) _) _ _ _); k_dflt (refine use_ctrW (c_xyz2 _ _ _ _ _) (by k_asm) (by k_asm) (by k_asm) (by k_asm) (by k_asm) (by first | exact rfl | assumption) (by k_room) (by k_units) (by exact ⟨⟨_, _, _, _, _, _, _, _, by kmk_part, by kmk_part, by kmk_part⟩, (by (simp (config := { decide := true }) only [fx, fy, fz, if_true, if_false, reduceIte]) <;> omega), (by (simp (config := { decide := true }) only [fx, fy, fz, if_true, if_false, reduceIte]) <;> omega), (by (simp (config := { decide := true }) only [fx, fy, fz, if_true, if_false, reduceIte]) <;> omega), (by (simp (config := { decide := true }) only [fx, fy, fz, if_true, if_false, reduceIte]) <;> omega)⟩) ?_; k_whole; intro D' t1' t2' t3' c' h' tk' F' N' l1; (have N2' := keep_1 (l := [_, _, _, _, _, _, _, _, _, _, _, _]) N'); clear N'; (try k_lt l1); (try k_sweep); (try dsimp only); (try dsimp only [PySem.W.CmpBack]); (try k_fold))))
local macro_rules | `(tactic| walk_at "call ref") => `(tactic| (k_here; (with_reducible show wpAny _ _ (call (Value.ref 98) _) _ _ _); k_dflt (refine use_ctrW (c_mul _ _ _ _ _ _ _ (by omega)) (by k_asm) (by k_asm) (by k_asm) (by k_asm) (by k_asm) (by first | exact rfl | assumption) (by k_room) (by k_units) (by exact ⟨⟨_, _, _, _, _, _, _, _, by kmk_part, by kmk_part, by kmk_part⟩, (by (simp (config := { decide := true }) only [fx, fy, fz, if_true, if_false, reduceIte]) <;> omega), (by (simp (config := { decide := true }) only [fx, fy, fz, if_true, if_false, reduceIte]) <;> omega), (by (simp (config := { decide := true }) only [fx, fy, fz, if_true, if_false, reduceIte]) <;> omega)⟩) ?_; k_whole; intro p' d' T' hs' kt' t1' t2' t3' c' h' tk' F' N' l1 l2 l3; (try k_lt l1); (try k_lt2 l2); (try k_lt2 l3); (try k_sweep); (try dsimp only); (try dsimp only [PySem.W.CmpBack]); (try k_fold))))

theorem c_wrap (w : World) (face i j : Int) (t1 t2 t3 : Tok) (hf : face = 0 ∨ face = 1 ∨ face = 2 ∨ face = 3 ∨ face = 4 ∨ face = 5) : Ctr w 940 9300 (fun _ => True) 255 [.ref 561, .int face t1, .int i t2, .int j t3] (RetCell (lid (wF face i j) (wI face i j) (wJ face i j))) := by
  unfold Ctr RetCell
  k_fill
  intro mean mg mb dp un gd cn cs a ccd cl outer A₀ base h₀ L m news s R B F X N T hk hdp hun hp hret
  rcases hf with rfl | rfl | rfl | rfl | rfl | rfl
  · k_dflt (refine' code_def (binds := [(Str.ofString "cls", .ref 561), (Str.ofString "face", .int 0 t1), (Str.ofString "i", .int i t2), (Str.ofString "j", .int j t3)]) ?k1 ?k2 ?k3 ?k4 ?k5 ?kA ?kF ?kK ?k6 ?k7 ?k8 ?k9 ?kB ?_ ?c2 ?c3 ?c4 ?c5; (case kA => exact rfl); (case kF => exact rfl); (case kK => first | exact rfl | assumption); (case k1 => k_asm); (case k2 => k_asm); (case k3 => k_asm); (case k4 => k_asm); (case k5 => k_asm); (case k6 => k_is); (case k7 => k_is); (case k8 => k_room); (case k9 => exact BindsTo.of_eq rfl); (case c5 => decide); (case kB => exact locs rfl); (case c2 => exact rfl); (case c3 => exact rfl); (case c4 => exact rfl); k_whole; intro g' L' h' FG' F' N' B' X' T'; (try dsimp only); (try k_lift B'); (try k_fold))
    k_steps
    all_goals (subst_vars; exact hret _ _ _ _ _ _ _ (by k_asm) (keep_2 (l := [_, _, _, _]) (by k_asm)) (ktn_ltOf (by tbn_find)) (by assumption))
  · k_dflt (refine' code_def (binds := [(Str.ofString "cls", .ref 561), (Str.ofString "face", .int 1 t1), (Str.ofString "i", .int i t2), (Str.ofString "j", .int j t3)]) ?k1 ?k2 ?k3 ?k4 ?k5 ?kA ?kF ?kK ?k6 ?k7 ?k8 ?k9 ?kB ?_ ?c2 ?c3 ?c4 ?c5; (case kA => exact rfl); (case kF => exact rfl); (case kK => first | exact rfl | assumption); (case k1 => k_asm); (case k2 => k_asm); (case k3 => k_asm); (case k4 => k_asm); (case k5 => k_asm); (case k6 => k_is); (case k7 => k_is); (case k8 => k_room); (case k9 => exact BindsTo.of_eq rfl); (case c5 => decide); (case kB => exact locs rfl); (case c2 => exact rfl); (case c3 => exact rfl); (case c4 => exact rfl); k_whole; intro g' L' h' FG' F' N' B' X' T'; (try dsimp only); (try k_lift B'); (try k_fold))
    k_steps
    all_goals (subst_vars; exact hret _ _ _ _ _ _ _ (by k_asm) (keep_2 (l := [_, _, _, _]) (by k_asm)) (ktn_ltOf (by tbn_find)) (by assumption))
  · k_dflt (refine' code_def (binds := [(Str.ofString "cls", .ref 561), (Str.ofString "face", .int 2 t1), (Str.ofString "i", .int i t2), (Str.ofString "j", .int j t3)]) ?k1 ?k2 ?k3 ?k4 ?k5 ?kA ?kF ?kK ?k6 ?k7 ?k8 ?k9 ?kB ?_ ?c2 ?c3 ?c4 ?c5; (case kA => exact rfl); (case kF => exact rfl); (case kK => first | exact rfl | assumption); (case k1 => k_asm); (case k2 => k_asm); (case k3 => k_asm); (case k4 => k_asm); (case k5 => k_asm); (case k6 => k_is); (case k7 => k_is); (case k8 => k_room); (case k9 => exact BindsTo.of_eq rfl); (case c5 => decide); (case kB => exact locs rfl); (case c2 => exact rfl); (case c3 => exact rfl); (case c4 => exact rfl); k_whole; intro g' L' h' FG' F' N' B' X' T'; (try dsimp only); (try k_lift B'); (try k_fold))
    k_steps
    all_goals (subst_vars; exact hret _ _ _ _ _ _ _ (by k_asm) (keep_2 (l := [_, _, _, _]) (by k_asm)) (ktn_ltOf (by tbn_find)) (by assumption))
  · k_dflt (refine' code_def (binds := [(Str.ofString "cls", .ref 561), (Str.ofString "face", .int 3 t1), (Str.ofString "i", .int i t2), (Str.ofString "j", .int j t3)]) ?k1 ?k2 ?k3 ?k4 ?k5 ?kA ?kF ?kK ?k6 ?k7 ?k8 ?k9 ?kB ?_ ?c2 ?c3 ?c4 ?c5; (case kA => exact rfl); (case kF => exact rfl); (case kK => first | exact rfl | assumption); (case k1 => k_asm); (case k2 => k_asm); (case k3 => k_asm); (case k4 => k_asm); (case k5 => k_asm); (case k6 => k_is); (case k7 => k_is); (case k8 => k_room); (case k9 => exact BindsTo.of_eq rfl); (case c5 => decide); (case kB => exact locs rfl); (case c2 => exact rfl); (case c3 => exact rfl); (case c4 => exact rfl); k_whole; intro g' L' h' FG' F' N' B' X' T'; (try dsimp only); (try k_lift B'); (try k_fold))
    k_steps
    all_goals (subst_vars; exact hret _ _ _ _ _ _ _ (by k_asm) (keep_2 (l := [_, _, _, _]) (by k_asm)) (ktn_ltOf (by tbn_find)) (by assumption))
  · k_dflt (refine' code_def (binds := [(Str.ofString "cls", .ref 561), (Str.ofString "face", .int 4 t1), (Str.ofString "i", .int i t2), (Str.ofString "j", .int j t3)]) ?k1 ?k2 ?k3 ?k4 ?k5 ?kA ?kF ?kK ?k6 ?k7 ?k8 ?k9 ?kB ?_ ?c2 ?c3 ?c4 ?c5; (case kA => exact rfl); (case kF => exact rfl); (case kK => first | exact rfl | assumption); (case k1 => k_asm); (case k2 => k_asm); (case k3 => k_asm); (case k4 => k_asm); (case k5 => k_asm); (case k6 => k_is); (case k7 => k_is); (case k8 => k_room); (case k9 => exact BindsTo.of_eq rfl); (case c5 => decide); (case kB => exact locs rfl); (case c2 => exact rfl); (case c3 => exact rfl); (case c4 => exact rfl); k_whole; intro g' L' h' FG' F' N' B' X' T'; (try dsimp only); (try k_lift B'); (try k_fold))
    k_steps
    all_goals (subst_vars; exact hret _ _ _ _ _ _ _ (by k_asm) (keep_2 (l := [_, _, _, _]) (by k_asm)) (ktn_ltOf (by tbn_find)) (by assumption))
  · k_dflt (refine' code_def (binds := [(Str.ofString "cls", .ref 561), (Str.ofString "face", .int 5 t1), (Str.ofString "i", .int i t2), (Str.ofString "j", .int j t3)]) ?k1 ?k2 ?k3 ?k4 ?k5 ?kA ?kF ?kK ?k6 ?k7 ?k8 ?k9 ?kB ?_ ?c2 ?c3 ?c4 ?c5; (case kA => exact rfl); (case kF => exact rfl); (case kK => first | exact rfl | assumption); (case k1 => k_asm); (case k2 => k_asm); (case k3 => k_asm); (case k4 => k_asm); (case k5 => k_asm); (case k6 => k_is); (case k7 => k_is); (case k8 => k_room); (case k9 => exact BindsTo.of_eq rfl); (case c5 => decide); (case kB => exact locs rfl); (case c2 => exact rfl); (case c3 => exact rfl); (case c4 => exact rfl); k_whole; intro g' L' h' FG' F' N' B' X' T'; (try dsimp only); (try k_lift B'); (try k_fold))
    k_steps
    all_goals (subst_vars; exact hret _ _ _ _ _ _ _ (by k_asm) (keep_2 (l := [_, _, _, _]) (by k_asm)) (ktn_ltOf (by tbn_find)) (by assumption))
end
section
local macro_rules | `(tactic| walk_at "call ref") => `(tactic| (k_here; (with_reducible show wpAny _ _ (call (Value.ref 561) _) _ _ _); k_dflt (refine use_ctrC (mk_cell _ _ _) (by k_asm) (by k_asm) (by k_asm) (by k_asm) (by k_asm) (by first | exact rfl | assumption) (by k_room) (by k_units) (by trivial) ?_; k_whole; intro x' d' hs' kt' vt' h' tk' F' N' l1 l2; (try k_lt l1); (try k_lt2 l2); (try k_sweep); (try dsimp only); (try dsimp only [PySem.W.CmpBack]); (try k_fold))))
local macro_rules | `(tactic| walk_at "call ref") => `(tactic| (k_here; (with_reducible show wpAny _ _ (call (Value.ref 330) _) _ _ _); k_dflt (refine use_ctrW (c_id _ _ _) (by k_asm) (by k_asm) (by k_asm) (by k_asm) (by k_asm) (by first | exact rfl | assumption) (by k_room) (by k_units) (by exact ⟨_, _, _, _, by kmk_part, by kmk_part⟩) ?_; k_whole; intro t' h' tk' F' N'; (try k_sweep); (try dsimp only); (try dsimp only [PySem.W.CmpBack]); (try k_fold))))
local macro_rules | `(tactic| walk_at "call ref") => `(tactic| (k_here; (with_reducible show wpAny _ _ (call (Value.ref 351) _) _ _ _); k_dflt (refine use_ctrW (c_face _ _ _) (by k_asm) (by k_asm) (by k_asm) (by k_asm) (by k_asm) (by first | exact rfl | assumption) (by k_room) (by k_units) (by exact ⟨_, _, _, _, by kmk_part, by kmk_part⟩) ?_; k_whole; intro t' h' tk' F' N'; (try k_sweep); (try dsimp only); (try dsimp only [PySem.W.CmpBack]); (try k_fold))))
local macro_rules | `(tactic| walk_at "call ref") => `(tactic| (k_here; (with_reducible show wpAny _ _ (call (Value.ref 344) _) _ _ _); k_dflt (refine use_ctrW (c_lsb _ _ _) (by k_asm) (by k_asm) (by k_asm) (by k_asm) (by k_asm) (by first | exact rfl | assumption) (by k_room) (by k_units) (by exact ⟨_, _, _, _, by kmk_part, by kmk_part⟩) ?_; k_whole; intro t' h' tk' F' N'; (try k_sweep); (try dsimp only); (try dsimp only [PySem.W.CmpBack]); (try k_fold))))
local macro_rules | `(tactic| walk_at "call ref") => `(tactic| (k_here; (with_reducible show wpAny _ _ (call (Value.ref 365) _) _ _ _); k_dflt (refine use_ctrW (c_is_leaf _ _ _) (by k_asm) (by k_asm) (by k_asm) (by k_asm) (by k_asm) (by first | exact rfl | assumption) (by k_room) (by k_units) (by exact ⟨_, _, _, _, by kmk_part, by kmk_part⟩) ?_; k_whole; intro h' tk' F' N'; (try k_sweep); (try dsimp only); (try dsimp only [PySem.W.CmpBack]); (try k_fold))))

theorem c_valid (w : World) (x : Addr) (n : Int) : Ctr w 960 9500 (fun news => CellIn news x n ∧ n < 13835058055282163712 ∧ Builtin.bitAnd (Builtin.bitAnd n (-n)) 1537228672809129301 ≠ 0) 337 [.ref x] (RetBool true) := by
  unfold Ctr RetBool
  k_fill
  intro mean mg mb dp un gd cn cs a ccd cl outer A₀ base h₀ L m news s R B F X N T hk hdp hun ⟨⟨d, hs, kt, vt, m1, m2⟩, hn, hm⟩ hret
  k_dflt (refine' code_def (binds := [(Str.ofString "self", .ref x)]) ?k1 ?k2 ?k3 ?k4 ?k5 ?kA ?kF ?kK ?k6 ?k7 ?k8 ?k9 ?kB ?_ ?c2 ?c3 ?c4 ?c5; (case kA => exact rfl); (case kF => exact rfl); (case kK => first | exact rfl | assumption); (case k1 => k_asm); (case k2 => k_asm); (case k3 => k_asm); (case k4 => k_asm); (case k5 => k_asm); (case k6 => k_is); (case k7 => k_is); (case k8 => k_room); (case k9 => exact BindsTo.of_eq rfl); (case c5 => decide); (case kB => exact locs rfl); (case c2 => exact rfl); (case c3 => exact rfl); (case c4 => exact rfl); k_whole; intro g' L' h' FG' F' N' B' X' T'; (try dsimp only); (try k_lift B'); (try k_fold))
  k_steps
  all_goals (have e9 : (Builtin.bitAnd (Builtin.bitAnd n (-n)) 1537228672809129301 != 0) = true := by simpa using hm)
  all_goals (rw [e9]; exact hret _ _ (by k_asm) (by k_asm))
end
section
local macro_rules | `(tactic| walk_at "call ref") => `(tactic| (k_here; (with_reducible show wpAny _ _ (call (Value.ref 561) _) _ _ _); k_dflt (refine use_ctrC (mk_cell _ _ _) (by k_asm) (by k_asm) (by k_asm) (by k_asm) (by k_asm) (by first | exact rfl | assumption) (by k_room) (by k_units) (by trivial) ?_; k_whole; intro x' d' hs' kt' vt' h' tk' F' N' l1 l2; (try k_lt l1); (try k_lt2 l2); (try k_sweep); (try dsimp only); (try dsimp only [PySem.W.CmpBack]); (try k_fold))))
local macro_rules | `(tactic| walk_at "call ref") => `(tactic| (k_here; (with_reducible show wpAny _ _ (call (Value.ref 330) _) _ _ _); k_dflt (refine use_ctrW (c_id _ _ _) (by k_asm) (by k_asm) (by k_asm) (by k_asm) (by k_asm) (by first | exact rfl | assumption) (by k_room) (by k_units) (by exact ⟨_, _, _, _, by kmk_part, by kmk_part⟩) ?_; k_whole; intro t' h' tk' F' N'; (try k_sweep); (try dsimp only); (try dsimp only [PySem.W.CmpBack]); (try k_fold))))
local macro_rules | `(tactic| walk_at "call ref") => `(tactic| (k_here; (with_reducible show wpAny _ _ (call (Value.ref 351) _) _ _ _); k_dflt (refine use_ctrW (c_face _ _ _) (by k_asm) (by k_asm) (by k_asm) (by k_asm) (by k_asm) (by first | exact rfl | assumption) (by k_room) (by k_units) (by exact ⟨_, _, _, _, by kmk_part, by kmk_part⟩) ?_; k_whole; intro t' h' tk' F' N'; (try k_sweep); (try dsimp only); (try dsimp only [PySem.W.CmpBack]); (try k_fold))))
local macro_rules | `(tactic| walk_at "call ref") => `(tactic| (k_here; (with_reducible show wpAny _ _ (call (Value.ref 344) _) _ _ _); k_dflt (refine use_ctrW (c_lsb _ _ _) (by k_asm) (by k_asm) (by k_asm) (by k_asm) (by k_asm) (by first | exact rfl | assumption) (by k_room) (by k_units) (by exact ⟨_, _, _, _, by kmk_part, by kmk_part⟩) ?_; k_whole; intro t' h' tk' F' N'; (try k_sweep); (try dsimp only); (try dsimp only [PySem.W.CmpBack]); (try k_fold))))

theorem c_is_leafT (w : World) (x : Addr) (n : Int) : Ctr w 970 9600 (fun news => CellIn news x n ∧ n % 2 = 1) 365 [.ref x] (RetBool true) := ctr_with fun h => by
  have e : (!decide (n % 2 = 0)) = true := by simp; omega
  have c := c_is_leaf w x n
  rw [e] at c
  exact c
local macro_rules | `(tactic| walk_at "call ref") => `(tactic| (k_here; (with_reducible show wpAny _ _ (call (Value.ref 365) _) _ _ _); k_dflt (refine use_ctrW (c_is_leafT _ _ _) (by k_asm) (by k_asm) (by k_asm) (by k_asm) (by k_asm) (by first | exact rfl | assumption) (by k_room) (by k_units) (by exact ⟨⟨_, _, _, _, by kmk_part, by kmk_part⟩, by omega⟩) ?_; k_whole; intro h' tk' F' N'; (try k_sweep); (try dsimp only); (try dsimp only [PySem.W.CmpBack]); (try k_fold))))
local macro_rules | `(tactic| walk_at "call ref") => `(tactic| (k_here; (with_reducible show wpAny _ _ (call (Value.ref 337) _) _ _ _); k_dflt (refine use_ctrW (c_valid _ _ _) (by k_asm) (by k_asm) (by k_asm) (by k_asm) (by k_asm) (by first | exact rfl | assumption) (by k_room) (by k_units) (by exact ⟨⟨_, _, _, _, by kmk_part, by kmk_part⟩, by omega, odd_valid (by omega)⟩) ?_; k_whole; intro h' tk' F' N'; (try k_sweep); (try dsimp only); (try dsimp only [PySem.W.CmpBack]); (try k_fold))))

theorem c_level_leaf (w : World) (x : Addr) (n : Int) : Ctr w 960 9500 (fun news => CellIn news x n ∧ n % 2 = 1) 372 [.ref x] (RetInt 30) := by
  unfold Ctr RetInt
  k_fill
  intro mean mg mb dp un gd cn cs a ccd cl outer A₀ base h₀ L m news s R B F X N T hk hdp hun ⟨⟨d, hs, kt, vt, m1, m2⟩, hn⟩ hret
  k_dflt (refine' code_def (binds := [(Str.ofString "self", .ref x)]) ?k1 ?k2 ?k3 ?k4 ?k5 ?kA ?kF ?kK ?k6 ?k7 ?k8 ?k9 ?kB ?_ ?c2 ?c3 ?c4 ?c5; (case kA => exact rfl); (case kF => exact rfl); (case kK => first | exact rfl | assumption); (case k1 => k_asm); (case k2 => k_asm); (case k3 => k_asm); (case k4 => k_asm); (case k5 => k_asm); (case k6 => k_is); (case k7 => k_is); (case k8 => k_room); (case k9 => exact BindsTo.of_eq rfl); (case c5 => decide); (case kB => exact locs rfl); (case c2 => exact rfl); (case c3 => exact rfl); (case c4 => exact rfl); k_whole; intro g' L' h' FG' F' N' B' X' T'; (try dsimp only); (try k_lift B'); (try k_fold))
  k_steps
  all_goals (exact hret _ _ _ (by k_asm) (by k_asm))
local macro_rules | `(tactic| walk_at "call ref") => `(tactic| (k_here; (with_reducible show wpAny _ _ (call (Value.ref 372) _) _ _ _); k_dflt (refine use_ctrW (c_level_leaf _ _ _) (by k_asm) (by k_asm) (by k_asm) (by k_asm) (by k_asm) (by first | exact rfl | assumption) (by k_room) (by k_units) (by exact ⟨⟨_, _, _, _, by kmk_part, by kmk_part⟩, by omega⟩) ?_; k_whole; intro t' h' tk' F' N'; (try k_sweep); (try dsimp only); (try dsimp only [PySem.W.CmpBack]); (try k_fold))))

theorem cell_cast {h₀ h : Heap} {L : Addr} {news : List (Addr × Obj)} {x d : Addr} {hs : Int} {kt vt : Tok} {a b : Int} (e : a = b) (N : News h₀ L h ((x, instObj 561 d) :: (d, dictOf [⟨hs, .str (Str.ofString "_CellId__id") kt, .int a vt⟩] 1) :: news)) : News h₀ L h ((x, instObj 561 d) :: (d, dictOf [⟨hs, .str (Str.ofString "_CellId__id") kt, .int b vt⟩] 1) :: news) := e ▸ N
theorem adv_eq {n steps s' : Int} (k : Int) (h : s' = steps + k * 6917529027641081856) (h0 : 0 ≤ n + s' * 2) (h1 : n + s' * 2 < 13835058055282163712) : (n + s' * 2) % 18446744073709551615 = (n + 2 * steps) % 13835058055282163712 := by
  rw [Int.emod_eq_of_lt h0 (by omega)]
  have e : n + 2 * steps = (n + s' * 2) + 13835058055282163712 * (-k) := by omega
  rw [e, Int.add_mul_emod_self_left, Int.emod_eq_of_lt h0 h1]
theorem c_adv_leaf (w : World) (x : Addr) (n steps : Int) (t : Tok) (h0 : steps ≠ 0) : Ctr w 940 9300 (fun news => CellIn news x n ∧ (0 ≤ n ∧ n < 13835058055282163712 ∧ n % 2 = 1)) 492 [.ref x, .int steps t] (RetCell ((n + 2 * steps) % 13835058055282163712)) := by
  unfold Ctr RetCell
  k_fill
  intro mean mg mb dp un gd cn cs a ccd cl outer A₀ base h₀ L m news s R B F X N T hk hdp hun ⟨⟨d, hs, kt, vt, m1, m2⟩, hn, hn2, hn3⟩ hret
  k_dflt (refine' code_def (binds := [(Str.ofString "self", .ref x), (Str.ofString "steps", .int steps t)]) ?k1 ?k2 ?k3 ?k4 ?k5 ?kA ?kF ?kK ?k6 ?k7 ?k8 ?k9 ?kB ?_ ?c2 ?c3 ?c4 ?c5; (case kA => exact rfl); (case kF => exact rfl); (case kK => first | exact rfl | assumption); (case k1 => k_asm); (case k2 => k_asm); (case k3 => k_asm); (case k4 => k_asm); (case k5 => k_asm); (case k6 => k_is); (case k7 => k_is); (case k8 => k_room); (case k9 => exact BindsTo.of_eq rfl); (case c5 => decide); (case kB => exact locs rfl); (case c2 => exact rfl); (case c3 => exact rfl); (case c4 => exact rfl); k_whole; intro g' L' h' FG' F' N' B' X' T'; (try dsimp only); (try k_lift B'); (try k_fold))
  k_steps
  all_goals (first | (exfalso; exact h0 (by with_reducible assumption)) | skip)
  all_goals (refine' hret _ _ _ _ _ _ _ ?F (cell_cast ?e ?N) ?l1 ?l2; (case F => k_asm); (case N => k_asm); (case l1 => first | assumption | exact ktn_ltOf (by tbn_find)); (case l2 => assumption); (case e => first | exact adv_eq 0 (by omega) (by omega) (by omega) | exact adv_eq (-steps / 6917529027641081856) (by omega) (by omega) (by omega) | exact adv_eq (-steps / 6917529027641081856 + 1) (by omega) (by omega) (by omega) | exact adv_eq (-(steps / 6917529027641081856)) (by omega) (by omega) (by omega) | exact adv_eq (-(steps / 6917529027641081856) - 1) (by omega) (by omega) (by omega)))
end
section

theorem ctr_pre {w : World} {D U : Nat} {pre pre' : List (Addr × Obj) → Prop} {f : Addr} {args : List Value} {post : Post} (h : ∀ news, pre' news → pre news) (c : Ctr w D U pre f args post) : Ctr w D U pre' f args post := by
  intro mean mg mb dp un gd cn cs a ccd cl outer A₀ base h₀ L m news s R B F X N T hk hd hu hp hr
  exact c mean mg mb dp un gd cn cs a ccd cl outer A₀ base h₀ L m news s R B F X N T hk hd hu (h news hp) hr
def ori (f i j : Int) : Int := ((enc 30 (f.toNat % 2) i.toNat j.toNat).2 : Int)
theorem c_toijL (w : World) (x : Addr) (f i j : Int) : Ctr w 960 9500 (fun news => CellIn news x (lid f i j) ∧ (0 ≤ f ∧ f < 6 ∧ 0 ≤ i ∧ i < 1073741824 ∧ 0 ≤ j ∧ j < 1073741824)) 513 [.ref x] (RetTup4 f i j (ori f i j)) := ctr_with fun ⟨h1, h2, h3, h4, h5, h6⟩ => by
  have c := c_toij w x (lid f i j)
  have b := lid_b (i := i) (j := j) h1 h2
  obtain ⟨e1, e2, e3⟩ := ijo_lid h1 h2 h3 h4 h5 h6
  rw [lid_face h1 h2, e1, e2, e3, if_pos (odd_flip b.2.2)] at c
  exact ctr_pre (fun news hp => ⟨hp, by omega⟩) c

theorem c_wrap_0e (w : World) (face line k : Int) (t1 t2 t3 : Tok) (hf : 0 ≤ face) (hf' : face < 6) (hp : face % 2 = 0) (h1 : 32 ≤ line) (h2 : line < 1073741792) (hk : k < 0) : Ctr w 940 9300 (fun _ => True) 255 [.ref 561, .int face t1, .int line t2, .int k t3] (RetCell (lid ((face + 5) % 6) line 1073741823)) := by
  rw [← ((wrap_at (k := k) hf hf' h1 h2 (by omega)).1 hk).1 hp]
  exact c_wrap w _ _ _ _ _ _ (by omega)

theorem c_wrap_0o (w : World) (face line k : Int) (t1 t2 t3 : Tok) (hf : 0 ≤ face) (hf' : face < 6) (hp : face % 2 = 1) (h1 : 32 ≤ line) (h2 : line < 1073741792) (hk : k < 0) : Ctr w 940 9300 (fun _ => True) 255 [.ref 561, .int face t1, .int line t2, .int k t3] (RetCell (lid ((face + 4) % 6) 1073741823 (1073741823 - line))) := by
  rw [← ((wrap_at (k := k) hf hf' h1 h2 (by omega)).1 hk).2 hp]
  exact c_wrap w _ _ _ _ _ _ (by omega)

theorem c_wrap_2e (w : World) (face line k : Int) (t1 t2 t3 : Tok) (hf : 0 ≤ face) (hf' : face < 6) (hp : face % 2 = 0) (h1 : 32 ≤ line) (h2 : line < 1073741792) (hk : 1073741824 ≤ k) : Ctr w 940 9300 (fun _ => True) 255 [.ref 561, .int face t1, .int line t2, .int k t3] (RetCell (lid ((face + 2) % 6) 0 (1073741823 - line))) := by
  rw [← ((wrap_at (k := k) hf hf' h1 h2 (by omega)).2.1 hk).1 hp]
  exact c_wrap w _ _ _ _ _ _ (by omega)

theorem c_wrap_2o (w : World) (face line k : Int) (t1 t2 t3 : Tok) (hf : 0 ≤ face) (hf' : face < 6) (hp : face % 2 = 1) (h1 : 32 ≤ line) (h2 : line < 1073741792) (hk : 1073741824 ≤ k) : Ctr w 940 9300 (fun _ => True) 255 [.ref 561, .int face t1, .int line t2, .int k t3] (RetCell (lid ((face + 1) % 6) line 0)) := by
  rw [← ((wrap_at (k := k) hf hf' h1 h2 (by omega)).2.1 hk).2 hp]
  exact c_wrap w _ _ _ _ _ _ (by omega)

theorem c_wrap_3e (w : World) (face line k : Int) (t1 t2 t3 : Tok) (hf : 0 ≤ face) (hf' : face < 6) (hp : face % 2 = 0) (h1 : 32 ≤ line) (h2 : line < 1073741792) (hk : k < 0) : Ctr w 940 9300 (fun _ => True) 255 [.ref 561, .int face t1, .int k t2, .int line t3] (RetCell (lid ((face + 4) % 6) (1073741823 - line) 1073741823)) := by
  rw [← ((wrap_at (k := k) hf hf' h1 h2 (by omega)).2.2.1 hk).1 hp]
  exact c_wrap w _ _ _ _ _ _ (by omega)

theorem c_wrap_3o (w : World) (face line k : Int) (t1 t2 t3 : Tok) (hf : 0 ≤ face) (hf' : face < 6) (hp : face % 2 = 1) (h1 : 32 ≤ line) (h2 : line < 1073741792) (hk : k < 0) : Ctr w 940 9300 (fun _ => True) 255 [.ref 561, .int face t1, .int k t2, .int line t3] (RetCell (lid ((face + 5) % 6) 1073741823 line)) := by
  rw [← ((wrap_at (k := k) hf hf' h1 h2 (by omega)).2.2.1 hk).2 hp]
  exact c_wrap w _ _ _ _ _ _ (by omega)

theorem c_wrap_1e (w : World) (face line k : Int) (t1 t2 t3 : Tok) (hf : 0 ≤ face) (hf' : face < 6) (hp : face % 2 = 0) (h1 : 32 ≤ line) (h2 : line < 1073741792) (hk : 1073741824 ≤ k) : Ctr w 940 9300 (fun _ => True) 255 [.ref 561, .int face t1, .int k t2, .int line t3] (RetCell (lid ((face + 1) % 6) 0 line)) := by
  rw [← ((wrap_at (k := k) hf hf' h1 h2 (by omega)).2.2.2 hk).1 hp]
  exact c_wrap w _ _ _ _ _ _ (by omega)

theorem c_wrap_1o (w : World) (face line k : Int) (t1 t2 t3 : Tok) (hf : 0 ≤ face) (hf' : face < 6) (hp : face % 2 = 1) (h1 : 32 ≤ line) (h2 : line < 1073741792) (hk : 1073741824 ≤ k) : Ctr w 940 9300 (fun _ => True) 255 [.ref 561, .int face t1, .int k t2, .int line t3] (RetCell (lid ((face + 2) % 6) (1073741823 - line) 0)) := by
  rw [← ((wrap_at (k := k) hf hf' h1 h2 (by omega)).2.2.2 hk).2 hp]
  exact c_wrap w _ _ _ _ _ _ (by omega)
local macro_rules | `(tactic| walk_at "call ref") => `(tactic| (k_here; (with_reducible show wpAny _ _ (call (Value.ref 513) _) _ _ _); k_dflt (refine use_ctrW (c_toijL _ _ _ _ _) (by k_asm) (by k_asm) (by k_asm) (by k_asm) (by k_asm) (by first | exact rfl | assumption) (by k_room) (by k_units) (by exact ⟨⟨_, _, _, _, by kmk_part, by kmk_part⟩, by omega, by omega, by omega, by omega, by omega, by omega⟩) ?_; k_whole; intro D' t1' t2' t3' t4' c' h' tk' F' N' l1; (try k_lt l1); (try k_sweep); (try dsimp only); (try dsimp only [PySem.W.CmpBack]); (try k_fold))))
local macro_rules | `(tactic| walk_at "call ref") => `(tactic| (k_here; (with_reducible show wpAny _ _ (call (Value.ref _) _) _ _ _); k_dflt (refine call_meth (f := Value.ref 255) (by k_asm) (by kmk_part) ?_; refine use_ctr (c_wrap_0e _ _ _ _ _ _ _ (by omega) (by omega) (by omega) (by omega) (by omega) (by omega)) (by k_asm) (by k_asm) (by k_asm) (by k_asm) (by k_asm) (by first | exact rfl | assumption) (by k_room) (by k_units) (by trivial) ?_; k_whole; intro x' d' hs' kt' vt' h' tk' F' N' l1 l2; (try k_lt l1); (try k_lt2 l2); (try k_sweep); (try dsimp only); (try dsimp only [PySem.W.CmpBack]); (try k_fold))))
local macro_rules | `(tactic| walk_at "call ref") => `(tactic| (k_here; (with_reducible show wpAny _ _ (call (Value.ref _) _) _ _ _); k_dflt (refine call_meth (f := Value.ref 255) (by k_asm) (by kmk_part) ?_; refine use_ctr (c_wrap_0o _ _ _ _ _ _ _ (by omega) (by omega) (by omega) (by omega) (by omega) (by omega)) (by k_asm) (by k_asm) (by k_asm) (by k_asm) (by k_asm) (by first | exact rfl | assumption) (by k_room) (by k_units) (by trivial) ?_; k_whole; intro x' d' hs' kt' vt' h' tk' F' N' l1 l2; (try k_lt l1); (try k_lt2 l2); (try k_sweep); (try dsimp only); (try dsimp only [PySem.W.CmpBack]); (try k_fold))))
local macro_rules | `(tactic| walk_at "call ref") => `(tactic| (k_here; (with_reducible show wpAny _ _ (call (Value.ref _) _) _ _ _); k_dflt (refine call_meth (f := Value.ref 255) (by k_asm) (by kmk_part) ?_; refine use_ctr (c_wrap_2e _ _ _ _ _ _ _ (by omega) (by omega) (by omega) (by omega) (by omega) (by omega)) (by k_asm) (by k_asm) (by k_asm) (by k_asm) (by k_asm) (by first | exact rfl | assumption) (by k_room) (by k_units) (by trivial) ?_; k_whole; intro x' d' hs' kt' vt' h' tk' F' N' l1 l2; (try k_lt l1); (try k_lt2 l2); (try k_sweep); (try dsimp only); (try dsimp only [PySem.W.CmpBack]); (try k_fold))))
local macro_rules | `(tactic| walk_at "call ref") => `(tactic| (k_here; (with_reducible show wpAny _ _ (call (Value.ref _) _) _ _ _); k_dflt (refine call_meth (f := Value.ref 255) (by k_asm) (by kmk_part) ?_; refine use_ctr (c_wrap_2o _ _ _ _ _ _ _ (by omega) (by omega) (by omega) (by omega) (by omega) (by omega)) (by k_asm) (by k_asm) (by k_asm) (by k_asm) (by k_asm) (by first | exact rfl | assumption) (by k_room) (by k_units) (by trivial) ?_; k_whole; intro x' d' hs' kt' vt' h' tk' F' N' l1 l2; (try k_lt l1); (try k_lt2 l2); (try k_sweep); (try dsimp only); (try dsimp only [PySem.W.CmpBack]); (try k_fold))))
local macro_rules | `(tactic| walk_at "call ref") => `(tactic| (k_here; (with_reducible show wpAny _ _ (call (Value.ref _) _) _ _ _); k_dflt (refine call_meth (f := Value.ref 255) (by k_asm) (by kmk_part) ?_; refine use_ctr (c_wrap_3e _ _ _ _ _ _ _ (by omega) (by omega) (by omega) (by omega) (by omega) (by omega)) (by k_asm) (by k_asm) (by k_asm) (by k_asm) (by k_asm) (by first | exact rfl | assumption) (by k_room) (by k_units) (by trivial) ?_; k_whole; intro x' d' hs' kt' vt' h' tk' F' N' l1 l2; (try k_lt l1); (try k_lt2 l2); (try k_sweep); (try dsimp only); (try dsimp only [PySem.W.CmpBack]); (try k_fold))))
local macro_rules | `(tactic| walk_at "call ref") => `(tactic| (k_here; (with_reducible show wpAny _ _ (call (Value.ref _) _) _ _ _); k_dflt (refine call_meth (f := Value.ref 255) (by k_asm) (by kmk_part) ?_; refine use_ctr (c_wrap_3o _ _ _ _ _ _ _ (by omega) (by omega) (by omega) (by omega) (by omega) (by omega)) (by k_asm) (by k_asm) (by k_asm) (by k_asm) (by k_asm) (by first | exact rfl | assumption) (by k_room) (by k_units) (by trivial) ?_; k_whole; intro x' d' hs' kt' vt' h' tk' F' N' l1 l2; (try k_lt l1); (try k_lt2 l2); (try k_sweep); (try dsimp only); (try dsimp only [PySem.W.CmpBack]); (try k_fold))))
local macro_rules | `(tactic| walk_at "call ref") => `(tactic| (k_here; (with_reducible show wpAny _ _ (call (Value.ref _) _) _ _ _); k_dflt (refine call_meth (f := Value.ref 255) (by k_asm) (by kmk_part) ?_; refine use_ctr (c_wrap_1e _ _ _ _ _ _ _ (by omega) (by omega) (by omega) (by omega) (by omega) (by omega)) (by k_asm) (by k_asm) (by k_asm) (by k_asm) (by k_asm) (by first | exact rfl | assumption) (by k_room) (by k_units) (by trivial) ?_; k_whole; intro x' d' hs' kt' vt' h' tk' F' N' l1 l2; (try k_lt l1); (try k_lt2 l2); (try k_sweep); (try dsimp only); (try dsimp only [PySem.W.CmpBack]); (try k_fold))))
local macro_rules | `(tactic| walk_at "call ref") => `(tactic| (k_here; (with_reducible show wpAny _ _ (call (Value.ref _) _) _ _ _); k_dflt (refine call_meth (f := Value.ref 255) (by k_asm) (by kmk_part) ?_; refine use_ctr (c_wrap_1o _ _ _ _ _ _ _ (by omega) (by omega) (by omega) (by omega) (by omega) (by omega)) (by k_asm) (by k_asm) (by k_asm) (by k_asm) (by k_asm) (by first | exact rfl | assumption) (by k_room) (by k_units) (by trivial) ?_; k_whole; intro x' d' hs' kt' vt' h' tk' F' N' l1 l2; (try k_lt l1); (try k_lt2 l2); (try k_sweep); (try dsimp only); (try dsimp only [PySem.W.CmpBack]); (try k_fold))))

theorem c_cross_0e (w : World) (face line over : Int) (t1 t2 t3 t4 : Tok) (hf : 0 ≤ face) (hf' : face < 6) (hp : face % 2 = 0) (h1 : 32 ≤ line) (h2 : line < 1073741792) (h3 : 0 ≤ over) (h4 : over < 1073741824) : Ctr w 930 9200 (fun _ => True) 621 [.int face t1, .int 0 t2, .int line t3, .int over t4] (RetTup3 ((face + 5) % 6) 2 line) := by
  unfold Ctr RetTup3
  k_fill
  intro mean mg mb dp un gd cn cs a ccd cl outer A₀ base h₀ L m news s R B F X N T hk hdp hun hp0 hret
  k_dflt (refine' code_def (binds := [(Str.ofString "face", .int face t1), (Str.ofString "side", .int 0 t2), (Str.ofString "line", .int line t3), (Str.ofString "over", .int over t4)]) ?k1 ?k2 ?k3 ?k4 ?k5 ?kA ?kF ?kK ?k6 ?k7 ?k8 ?k9 ?kB ?_ ?c2 ?c3 ?c4 ?c5; (case kA => exact rfl); (case kF => exact rfl); (case kK => first | exact rfl | assumption); (case k1 => k_asm); (case k2 => k_asm); (case k3 => k_asm); (case k4 => k_asm); (case k5 => k_asm); (case k6 => k_is); (case k7 => k_is); (case k8 => k_room); (case k9 => exact BindsTo.of_eq rfl); (case c5 => decide); (case kB => exact locs rfl); (case c2 => exact rfl); (case c3 => exact rfl); (case c4 => exact rfl); k_whole; intro g' L' h' FG' F' N' B' X' T'; (try dsimp only); (try k_lift B'); (try k_fold))
  k_steps
  all_goals (first | exact hret _ _ _ _ _ _ _ (by k_asm) (keep_1 (l := [_, _, _, _]) (by k_asm)) (ktn_ltOf (by tbn_find)) | (exfalso; omega) | trace_state)

theorem c_cross_0o (w : World) (face line over : Int) (t1 t2 t3 t4 : Tok) (hf : 0 ≤ face) (hf' : face < 6) (hp : face % 2 = 1) (h1 : 32 ≤ line) (h2 : line < 1073741792) (h3 : 0 ≤ over) (h4 : over < 1073741824) : Ctr w 930 9200 (fun _ => True) 621 [.int face t1, .int 0 t2, .int line t3, .int over t4] (RetTup3 ((face + 4) % 6) 1 (1073741823 - line)) := by
  unfold Ctr RetTup3
  k_fill
  intro mean mg mb dp un gd cn cs a ccd cl outer A₀ base h₀ L m news s R B F X N T hk hdp hun hp0 hret
  k_dflt (refine' code_def (binds := [(Str.ofString "face", .int face t1), (Str.ofString "side", .int 0 t2), (Str.ofString "line", .int line t3), (Str.ofString "over", .int over t4)]) ?k1 ?k2 ?k3 ?k4 ?k5 ?kA ?kF ?kK ?k6 ?k7 ?k8 ?k9 ?kB ?_ ?c2 ?c3 ?c4 ?c5; (case kA => exact rfl); (case kF => exact rfl); (case kK => first | exact rfl | assumption); (case k1 => k_asm); (case k2 => k_asm); (case k3 => k_asm); (case k4 => k_asm); (case k5 => k_asm); (case k6 => k_is); (case k7 => k_is); (case k8 => k_room); (case k9 => exact BindsTo.of_eq rfl); (case c5 => decide); (case kB => exact locs rfl); (case c2 => exact rfl); (case c3 => exact rfl); (case c4 => exact rfl); k_whole; intro g' L' h' FG' F' N' B' X' T'; (try dsimp only); (try k_lift B'); (try k_fold))
  k_steps
  all_goals (first | exact hret _ _ _ _ _ _ _ (by k_asm) (keep_1 (l := [_, _, _, _]) (by k_asm)) (ktn_ltOf (by tbn_find)) | (exfalso; omega) | trace_state)

theorem c_cross_2e (w : World) (face line over : Int) (t1 t2 t3 t4 : Tok) (hf : 0 ≤ face) (hf' : face < 6) (hp : face % 2 = 0) (h1 : 32 ≤ line) (h2 : line < 1073741792) (h3 : 0 ≤ over) (h4 : over < 1073741824) : Ctr w 930 9200 (fun _ => True) 621 [.int face t1, .int 2 t2, .int line t3, .int over t4] (RetTup3 ((face + 2) % 6) 3 (1073741823 - line)) := by
  unfold Ctr RetTup3
  k_fill
  intro mean mg mb dp un gd cn cs a ccd cl outer A₀ base h₀ L m news s R B F X N T hk hdp hun hp0 hret
  k_dflt (refine' code_def (binds := [(Str.ofString "face", .int face t1), (Str.ofString "side", .int 2 t2), (Str.ofString "line", .int line t3), (Str.ofString "over", .int over t4)]) ?k1 ?k2 ?k3 ?k4 ?k5 ?kA ?kF ?kK ?k6 ?k7 ?k8 ?k9 ?kB ?_ ?c2 ?c3 ?c4 ?c5; (case kA => exact rfl); (case kF => exact rfl); (case kK => first | exact rfl | assumption); (case k1 => k_asm); (case k2 => k_asm); (case k3 => k_asm); (case k4 => k_asm); (case k5 => k_asm); (case k6 => k_is); (case k7 => k_is); (case k8 => k_room); (case k9 => exact BindsTo.of_eq rfl); (case c5 => decide); (case kB => exact locs rfl); (case c2 => exact rfl); (case c3 => exact rfl); (case c4 => exact rfl); k_whole; intro g' L' h' FG' F' N' B' X' T'; (try dsimp only); (try k_lift B'); (try k_fold))
  k_steps
  all_goals (first | exact hret _ _ _ _ _ _ _ (by k_asm) (keep_1 (l := [_, _, _, _]) (by k_asm)) (ktn_ltOf (by tbn_find)) | (exfalso; omega) | trace_state)

theorem c_cross_2o (w : World) (face line over : Int) (t1 t2 t3 t4 : Tok) (hf : 0 ≤ face) (hf' : face < 6) (hp : face % 2 = 1) (h1 : 32 ≤ line) (h2 : line < 1073741792) (h3 : 0 ≤ over) (h4 : over < 1073741824) : Ctr w 930 9200 (fun _ => True) 621 [.int face t1, .int 2 t2, .int line t3, .int over t4] (RetTup3 ((face + 1) % 6) 0 line) := by
  unfold Ctr RetTup3
  k_fill
  intro mean mg mb dp un gd cn cs a ccd cl outer A₀ base h₀ L m news s R B F X N T hk hdp hun hp0 hret
  k_dflt (refine' code_def (binds := [(Str.ofString "face", .int face t1), (Str.ofString "side", .int 2 t2), (Str.ofString "line", .int line t3), (Str.ofString "over", .int over t4)]) ?k1 ?k2 ?k3 ?k4 ?k5 ?kA ?kF ?kK ?k6 ?k7 ?k8 ?k9 ?kB ?_ ?c2 ?c3 ?c4 ?c5; (case kA => exact rfl); (case kF => exact rfl); (case kK => first | exact rfl | assumption); (case k1 => k_asm); (case k2 => k_asm); (case k3 => k_asm); (case k4 => k_asm); (case k5 => k_asm); (case k6 => k_is); (case k7 => k_is); (case k8 => k_room); (case k9 => exact BindsTo.of_eq rfl); (case c5 => decide); (case kB => exact locs rfl); (case c2 => exact rfl); (case c3 => exact rfl); (case c4 => exact rfl); k_whole; intro g' L' h' FG' F' N' B' X' T'; (try dsimp only); (try k_lift B'); (try k_fold))
  k_steps
  all_goals (first | exact hret _ _ _ _ _ _ _ (by k_asm) (keep_1 (l := [_, _, _, _]) (by k_asm)) (ktn_ltOf (by tbn_find)) | (exfalso; omega) | trace_state)

theorem c_cross_3e (w : World) (face line over : Int) (t1 t2 t3 t4 : Tok) (hf : 0 ≤ face) (hf' : face < 6) (hp : face % 2 = 0) (h1 : 32 ≤ line) (h2 : line < 1073741792) (h3 : 0 ≤ over) (h4 : over < 1073741824) : Ctr w 930 9200 (fun _ => True) 621 [.int face t1, .int 3 t2, .int line t3, .int over t4] (RetTup3 ((face + 4) % 6) 2 (1073741823 - line)) := by
  unfold Ctr RetTup3
  k_fill
  intro mean mg mb dp un gd cn cs a ccd cl outer A₀ base h₀ L m news s R B F X N T hk hdp hun hp0 hret
  k_dflt (refine' code_def (binds := [(Str.ofString "face", .int face t1), (Str.ofString "side", .int 3 t2), (Str.ofString "line", .int line t3), (Str.ofString "over", .int over t4)]) ?k1 ?k2 ?k3 ?k4 ?k5 ?kA ?kF ?kK ?k6 ?k7 ?k8 ?k9 ?kB ?_ ?c2 ?c3 ?c4 ?c5; (case kA => exact rfl); (case kF => exact rfl); (case kK => first | exact rfl | assumption); (case k1 => k_asm); (case k2 => k_asm); (case k3 => k_asm); (case k4 => k_asm); (case k5 => k_asm); (case k6 => k_is); (case k7 => k_is); (case k8 => k_room); (case k9 => exact BindsTo.of_eq rfl); (case c5 => decide); (case kB => exact locs rfl); (case c2 => exact rfl); (case c3 => exact rfl); (case c4 => exact rfl); k_whole; intro g' L' h' FG' F' N' B' X' T'; (try dsimp only); (try k_lift B'); (try k_fold))
  k_steps
  all_goals (first | exact hret _ _ _ _ _ _ _ (by k_asm) (keep_1 (l := [_, _, _, _]) (by k_asm)) (ktn_ltOf (by tbn_find)) | (exfalso; omega) | trace_state)

theorem c_cross_3o (w : World) (face line over : Int) (t1 t2 t3 t4 : Tok) (hf : 0 ≤ face) (hf' : face < 6) (hp : face % 2 = 1) (h1 : 32 ≤ line) (h2 : line < 1073741792) (h3 : 0 ≤ over) (h4 : over < 1073741824) : Ctr w 930 9200 (fun _ => True) 621 [.int face t1, .int 3 t2, .int line t3, .int over t4] (RetTup3 ((face + 5) % 6) 1 line) := by
  unfold Ctr RetTup3
  k_fill
  intro mean mg mb dp un gd cn cs a ccd cl outer A₀ base h₀ L m news s R B F X N T hk hdp hun hp0 hret
  k_dflt (refine' code_def (binds := [(Str.ofString "face", .int face t1), (Str.ofString "side", .int 3 t2), (Str.ofString "line", .int line t3), (Str.ofString "over", .int over t4)]) ?k1 ?k2 ?k3 ?k4 ?k5 ?kA ?kF ?kK ?k6 ?k7 ?k8 ?k9 ?kB ?_ ?c2 ?c3 ?c4 ?c5; (case kA => exact rfl); (case kF => exact rfl); (case kK => first | exact rfl | assumption); (case k1 => k_asm); (case k2 => k_asm); (case k3 => k_asm); (case k4 => k_asm); (case k5 => k_asm); (case k6 => k_is); (case k7 => k_is); (case k8 => k_room); (case k9 => exact BindsTo.of_eq rfl); (case c5 => decide); (case kB => exact locs rfl); (case c2 => exact rfl); (case c3 => exact rfl); (case c4 => exact rfl); k_whole; intro g' L' h' FG' F' N' B' X' T'; (try dsimp only); (try k_lift B'); (try k_fold))
  k_steps
  all_goals (first | exact hret _ _ _ _ _ _ _ (by k_asm) (keep_1 (l := [_, _, _, _]) (by k_asm)) (ktn_ltOf (by tbn_find)) | (exfalso; omega) | trace_state)

theorem c_cross_1e (w : World) (face line over : Int) (t1 t2 t3 t4 : Tok) (hf : 0 ≤ face) (hf' : face < 6) (hp : face % 2 = 0) (h1 : 32 ≤ line) (h2 : line < 1073741792) (h3 : 0 ≤ over) (h4 : over < 1073741824) : Ctr w 930 9200 (fun _ => True) 621 [.int face t1, .int 1 t2, .int line t3, .int over t4] (RetTup3 ((face + 1) % 6) 3 line) := by
  unfold Ctr RetTup3
  k_fill
  intro mean mg mb dp un gd cn cs a ccd cl outer A₀ base h₀ L m news s R B F X N T hk hdp hun hp0 hret
  k_dflt (refine' code_def (binds := [(Str.ofString "face", .int face t1), (Str.ofString "side", .int 1 t2), (Str.ofString "line", .int line t3), (Str.ofString "over", .int over t4)]) ?k1 ?k2 ?k3 ?k4 ?k5 ?kA ?kF ?kK ?k6 ?k7 ?k8 ?k9 ?kB ?_ ?c2 ?c3 ?c4 ?c5; (case kA => exact rfl); (case kF => exact rfl); (case kK => first | exact rfl | assumption); (case k1 => k_asm); (case k2 => k_asm); (case k3 => k_asm); (case k4 => k_asm); (case k5 => k_asm); (case k6 => k_is); (case k7 => k_is); (case k8 => k_room); (case k9 => exact BindsTo.of_eq rfl); (case c5 => decide); (case kB => exact locs rfl); (case c2 => exact rfl); (case c3 => exact rfl); (case c4 => exact rfl); k_whole; intro g' L' h' FG' F' N' B' X' T'; (try dsimp only); (try k_lift B'); (try k_fold))
  k_steps
  all_goals (first | exact hret _ _ _ _ _ _ _ (by k_asm) (keep_1 (l := [_, _, _, _]) (by k_asm)) (ktn_ltOf (by tbn_find)) | (exfalso; omega) | trace_state)

theorem c_cross_1o (w : World) (face line over : Int) (t1 t2 t3 t4 : Tok) (hf : 0 ≤ face) (hf' : face < 6) (hp : face % 2 = 1) (h1 : 32 ≤ line) (h2 : line < 1073741792) (h3 : 0 ≤ over) (h4 : over < 1073741824) : Ctr w 930 9200 (fun _ => True) 621 [.int face t1, .int 1 t2, .int line t3, .int over t4] (RetTup3 ((face + 2) % 6) 0 (1073741823 - line)) := by
  unfold Ctr RetTup3
  k_fill
  intro mean mg mb dp un gd cn cs a ccd cl outer A₀ base h₀ L m news s R B F X N T hk hdp hun hp0 hret
  k_dflt (refine' code_def (binds := [(Str.ofString "face", .int face t1), (Str.ofString "side", .int 1 t2), (Str.ofString "line", .int line t3), (Str.ofString "over", .int over t4)]) ?k1 ?k2 ?k3 ?k4 ?k5 ?kA ?kF ?kK ?k6 ?k7 ?k8 ?k9 ?kB ?_ ?c2 ?c3 ?c4 ?c5; (case kA => exact rfl); (case kF => exact rfl); (case kK => first | exact rfl | assumption); (case k1 => k_asm); (case k2 => k_asm); (case k3 => k_asm); (case k4 => k_asm); (case k5 => k_asm); (case k6 => k_is); (case k7 => k_is); (case k8 => k_room); (case k9 => exact BindsTo.of_eq rfl); (case c5 => decide); (case kB => exact locs rfl); (case c2 => exact rfl); (case c3 => exact rfl); (case c4 => exact rfl); k_whole; intro g' L' h' FG' F' N' B' X' T'; (try dsimp only); (try k_lift B'); (try k_fold))
  k_steps
  all_goals (first | exact hret _ _ _ _ _ _ _ (by k_asm) (keep_1 (l := [_, _, _, _]) (by k_asm)) (ktn_ltOf (by tbn_find)) | (exfalso; omega) | trace_state)

theorem c_cross (w : World) (face side line over : Int) (t1 t2 t3 t4 : Tok) (hf : 0 ≤ face) (hf' : face < 6) (hs : side = 0 ∨ side = 1 ∨ side = 2 ∨ side = 3) (h1 : 32 ≤ line) (h2 : line < 1073741792) (h3 : 0 ≤ over) (h4 : over < 1073741824) : Ctr w 930 9200 (fun _ => True) 621 [.int face t1, .int side t2, .int line t3, .int over t4] (RetTup3 (crF face side) (crS face side) (crL face side line)) := by
  rcases (show face % 2 = 0 ∨ face % 2 = 1 by omega) with hp | hp <;> rcases hs with rfl | rfl | rfl | rfl
  all_goals (simp (config := { decide := true }) only [crF, crS, crL, hp, if_true, if_false])
  · exact c_cross_0e w _ _ _ _ _ _ _ hf hf' hp h1 h2 h3 h4
  · exact c_cross_1e w _ _ _ _ _ _ _ hf hf' hp h1 h2 h3 h4
  · exact c_cross_2e w _ _ _ _ _ _ _ hf hf' hp h1 h2 h3 h4
  · exact c_cross_3e w _ _ _ _ _ _ _ hf hf' hp h1 h2 h3 h4
  · exact c_cross_0o w _ _ _ _ _ _ _ hf hf' hp h1 h2 h3 h4
  · exact c_cross_1o w _ _ _ _ _ _ _ hf hf' hp h1 h2 h3 h4
  · exact c_cross_2o w _ _ _ _ _ _ _ hf hf' hp h1 h2 h3 h4
  · exact c_cross_3o w _ _ _ _ _ _ _ hf hf' hp h1 h2 h3 h4
end
section

/-- a road's list -/
def RetRoad (f s l : Int) : Post := fun h₀ L m news s' R => ∀ (f0 s0 l0 s1 s2 l2 : Int) (D D0 D1 D2 D3 : Addr) (u01 u02 u03 u11 u12 u13 u21 u22 u23 u31 u32 u33 : Tok) (k0 k1 k2 k3 kl : Nat) (h' : Heap) (tk' : Nat),
  (s1 % 2 = (s + 1) % 2 ∧ (l0 = l ∨ l0 = 1073741823 - l) ∧ (l2 = l ∨ l2 = 1073741823 - l) ∧ (0 ≤ f0 ∧ f0 < 6) ∧ (s = 1 → f0 = (f + 1 + f % 2) % 6) ∧ (s = 3 → f0 = (f + 4 + f % 2) % 6) ∧ (s % 2 = 0 → f0 % 3 = (f + 2 + 2 * (f % 2)) % 3)) →
  Fr h₀ L h' m → News h₀ L h' ((D3, ({ cls := .type "tuple", data := .seq #[.int f u31, .int ((s + 2) % 4) u32, .int l u33] k3 } : Obj)) :: (D2, ({ cls := .type "tuple", data := .seq #[.int ((f0 + 3) % 6) u21, .int s2 u22, .int l2 u23] k2 } : Obj)) :: (D1, ({ cls := .type "tuple", data := .seq #[.int ((f + 3) % 6) u11, .int s1 u12, .int (1073741823 - l) u13] k1 } : Obj)) :: (D0, ({ cls := .type "tuple", data := .seq #[.int f0 u01, .int s0 u02, .int l0 u03] k0 } : Obj)) :: (D, PySem.W.listOf #[.ref D0, .ref D1, .ref D2, .ref D3] kl) :: news) → (∀ p ∈ news, p.1 < D) → D < D0 → D0 < D1 → D1 < D2 → D2 < D3 → R (.ok (.ret (.ref D))) { s' with heap := h', toks := tk' }

theorem unr_end3 {h₀ : Heap} {L I : Addr} {it : Obj} {rest : (Str → Option Value) → List (Addr × Obj) → Prop} {s₁ : Shared} {h' : Heap} {tk : Nat} {m' : Str → Option Value} {a b : Addr × Obj} {l : List (Addr × Obj)} (F : Fr h₀ L h' m') (N : News h₀ L h' (a :: b :: (I, it) :: l))
    (ha : a.1 ≠ I) (hl : ∀ p ∈ l, p.1 ≠ I) (r : rest m' (a :: l)) : UnrEnd h₀ L s₁ I it rest { s₁ with heap := h', toks := tk } :=
  UnrEnd.intro F N (a :: l) (fun p hp => by
    simp only [List.mem_cons] at hp ⊢
    rcases hp with hp | hp | hp
    · exact Or.inr (Or.inr (Or.inl hp))
    · exact Or.inl hp
    · exact Or.inr (Or.inr (Or.inr hp))) (fun p hp => by
    rcases List.mem_cons.mp hp with hp | hp
    · rw [hp]; exact ha
    · exact hl p hp) r
local macro_rules | `(tactic| walk_at "UnrEnd") => `(tactic| (k_here; (rename News _ _ _ _ => nUE'); k_dflt (refine' unr_end3 ?kF nUE' ?ka ?kr ?_; (case kF => k_asm); (case ka => k_ne); (case kr => ((repeat (refine List.forall_mem_cons.mpr ⟨by k_ne, ?_⟩)); exact fun p hp => Nat.ne_of_lt (ktn_ltOf (by tbn_find) p hp)))); clear nUE'; (repeat (with_reducible rename ((_ : Int) = _) => hIs'; (have hIt' := Is.mk hIs'); clear hIs')); (try dsimp only)))

local macro_rules | `(tactic| walk_at "call builtin:list.append") => `(tactic| (k_here; (with_reducible show wpAny _ _ (call (Value.builtin _) ([_] ++ [_])) _ _ _); k_dflt (show wpAny _ _ (call (Value.builtin _) [_, _]) _ _ _)))
local macro_rules | `(tactic| walk_at "call ref") => `(tactic| (k_here; (with_reducible show wpAny _ _ (call (Value.ref 621) _) _ _ _); k_dflt (refine use_ctrW (c_cross _ _ _ _ _ _ _ _ _ (by first | omega) (by first | omega) (by first | omega) (by first | omega) (by first | omega) (by omega) (by omega)) (by k_asm) (by k_asm) (by k_asm) (by k_asm) (by k_asm) (by first | exact rfl | assumption) (by k_room) (by k_units) (by trivial) ?_; k_whole; intro D' t1' t2' t3' c' h' tk' F' N' l1; (try k_lt l1); (try k_sweep); (try dsimp only); (try dsimp only [PySem.W.CmpBack]); (try k_fold))))
local macro_rules | `(tactic| walk_at "storeName") => `(tactic| (k_here; (with_reducible show wpAny _ _ (storeName _ (Str.ofString "side") (Value.int _ _)) _ _ _); refine' store_named ?_; intro sidev' sidet' sidek' sidee'; k_dflt (refine' storeX_L ?F ?N ?_ ?a ?b; (case F => k_asm); (case N => k_asm); (case a => rfl); (case b => rfl); k_whole; intro h' F' N'; (try k_sweep))))
local macro_rules | `(tactic| walk_at "storeName") => `(tactic| (k_here; (with_reducible show wpAny _ _ (storeName _ (Str.ofString "face") (Value.int (crF _ _) _)) _ _ _); refine' store_crF ?_; intro facev' facet' facek' facee' facel' faceh'; k_dflt (refine' storeX_L ?F ?N ?_ ?a ?b; (case F => k_asm); (case N => k_asm); (case a => rfl); (case b => rfl); k_whole; intro h' F' N'; (try k_sweep))))
local macro_rules | `(tactic| walk_at "storeName") => `(tactic| (k_here; (with_reducible show wpAny _ _ (storeName _ (Str.ofString "side") (Value.int (crS _ _) _)) _ _ _); refine' store_crS ?_; intro sidev' sidet' sidek' sidee' sidel' sideh'; k_dflt (refine' storeX_L ?F ?N ?_ ?a ?b; (case F => k_asm); (case N => k_asm); (case a => rfl); (case b => rfl); k_whole; intro h' F' N'; (try k_sweep))))
local macro_rules | `(tactic| walk_at "storeName") => `(tactic| (k_here; (with_reducible show wpAny _ _ (storeName _ (Str.ofString "line") (Value.int (crL _ _ _) _)) _ _ _); refine' store_crL (by omega) (by omega) ?_; intro linev' linet' linek' linee' linel' lineh'; k_dflt (refine' storeX_L ?F ?N ?_ ?a ?b; (case F => k_asm); (case N => k_asm); (case a => rfl); (case b => rfl); k_whole; intro h' F' N'; (try k_sweep))))
local macro_rules | `(tactic| walk_at "storeName") => `(tactic| (k_here; (with_reducible show wpAny _ _ (storeName _ (Str.ofString "side") (Value.int (_ % 4) _)) _ _ _); refine' store_mod4 ?_; intro v' t' k' e' l' h'; k_dflt (refine' storeX_L ?F ?N ?_ ?a ?b; (case F => k_asm); (case N => k_asm); (case a => rfl); (case b => rfl); k_whole; intro h' F' N'; (try k_sweep))))

set_option maxHeartbeats 800000 in
theorem c_road (w : World) (f sd l o : Int) (t1 t2 t3 t4 : Tok) (hf : f = 0 ∨ f = 1 ∨ f = 2 ∨ f = 3 ∨ f = 4 ∨ f = 5) (hs : sd = 0 ∨ sd = 1 ∨ sd = 2 ∨ sd = 3) (h1 : 32 ≤ l) (h2 : l < 1073741792) (h3 : 0 ≤ o) (h4 : o < 1073741824) : Ctr w 920 9100 (fun _ => True) 628 [.int f t1, .int sd t2, .int l t3, .int o t4] (RetRoad f sd l) := by
  unfold Ctr RetRoad
  k_fill
  intro mean mg mb dp un gd cn cs a ccd cl outer A₀ base h₀ L m news s R B F X N T hk hdp hun hp0 hret
  k_dflt (refine' code_def (binds := [(Str.ofString "face", .int f t1), (Str.ofString "side", .int sd t2), (Str.ofString "line", .int l t3), (Str.ofString "over", .int o t4)]) ?k1 ?k2 ?k3 ?k4 ?k5 ?kA ?kF ?kK ?k6 ?k7 ?k8 ?k9 ?kB ?_ ?c2 ?c3 ?c4 ?c5; (case kA => exact rfl); (case kF => exact rfl); (case kK => first | exact rfl | assumption); (case k1 => k_asm); (case k2 => k_asm); (case k3 => k_asm); (case k4 => k_asm); (case k5 => k_asm); (case k6 => k_is); (case k7 => k_is); (case k8 => k_room); (case k9 => exact BindsTo.of_eq rfl); (case c5 => decide); (case kB => exact locs rfl); (case c2 => exact rfl); (case c3 => exact rfl); (case c4 => exact rfl); k_whole; intro g' L' h' FG' F' N' B' X' T'; (try dsimp only); (try k_lift B'); (try k_fold))
  k_steps
  all_goals (repeat (with_reducible rename Is _ _ => hIs'; (have hIt' := Is.out hIs'); clear hIs'))
  all_goals (have e9 := road2 hf hs (by with_reducible assumption) (by with_reducible assumption) (by with_reducible assumption) (by with_reducible assumption) (by with_reducible assumption) (by with_reducible assumption) (by with_reducible assumption) (by with_reducible assumption) (by with_reducible assumption) (by with_reducible assumption) (by with_reducible assumption) (by with_reducible assumption) (by with_reducible assumption) (by with_reducible assumption) (by with_reducible assumption); obtain ⟨e1, e2, e3, e4, e5, e6, e7⟩ := e9)
  all_goals ((rename News _ _ _ _ => N9); (rename Fr _ _ _ _ => F9); rw [e1, e2, e3, e4, e5, e6] at N9)
  all_goals (exact hret _ _ _ _ _ _ _ _ _ _ _ _ _ _ _ _ _ _ _ _ _ _ _ _ _ _ _ _ _ _ e7 F9 N9 (by first | assumption | exact ktn_ltOf (by tbn_find)) (by (show @LT.lt Nat _ _ _); omega) (by (show @LT.lt Nat _ _ _); omega) (by (show @LT.lt Nat _ _ _); omega) (by (show @LT.lt Nat _ _ _); omega))

end
section
section

local macro_rules | `(tactic| walk_at "subscriptTail Name BinOp ref int") => `(tactic| ((with_reducible show wpAny _ _ (subscriptTail _ _ (Value.ref _) (Value.int (_ % _) _)) _ _ _); (with_unfolding_all refine' item_list_ints ?k1 ?k2 ?k3 ?k4 ?k5 ?_; (case k1 => is_list); (case k2 => l_ints); (case k3 => exact Int.emod_nonneg _ (by omega)); (case k4 => exact Int.emod_lt_of_pos _ (by omega)); (case k5 => exact Int.lt_trans (Int.emod_lt_of_pos _ (by omega)) (by omega)); k_whole); intro _))

/-- a script's number -/
theorem c_num (w : World) (l : Addr) (k : Int) (t : Tok) (vs : List Value) (ns : List Int) (hn : ¬ ((63 : Nat) : Int) < (ns.length : Int)) (hk0 : 0 ≤ k) (hk1 : k < 100) : ∀ (mean : ExcName → Option Value) (mg mb : Str → Option Value) (dp un : Nat) (gd : Option (List Code)) (cn : Str) (cs : Scope) (a : Addr) (ccd : Value) (cl : List (Str × Addr)) (outer : List Env) (A₀ : Around) (base h₀ : Heap) (L : Addr) (m : Str → Option Value) (news : List (Addr × Obj)) (s : Shared) (R : Result → Shared → Prop), Below A₀ base outer h₀ → Fr h₀ L s.heap m → (hd02.heap_39 w.params).In h₀ → News h₀ L s.heap news → Top hd02.view_39 (looseW hd02.view_39 [Str.ofString "POS_TO_ORIENTATION", Str.ofString "LOOKUP_POS", Str.ofString "LOOKUP_IJ", Str.ofString "CellId"]) mean mg mb h₀ → cs.kind = .function → dp < 970 → un < 9600 →
    h₀.IsList l vs.toArray → IntsAre vs ns → (∀ (n : Int) (t : Tok) (h' : Heap) (tk' : Nat), Fr h₀ L h' m → News h₀ L h' news → R (.ok (.ret (.int n t))) { s with heap := h', toks := tk' }) →
    codeAny (model PySem.Challenge.rw_fq0033_02.row.prog w) (ktrTop dp un gd cn cs L a ccd cl outer) (.call (.ref 607) ⟨[.ref l, .int k t], []⟩) R s := by
  k_fill
  intro mean mg mb dp un gd cn cs a ccd cl outer A₀ base h₀ L m news s R B F X N T hk hdp hun hl hi hret
  k_dflt (refine' code_def (binds := [(Str.ofString "script", .ref l), (Str.ofString "k", .int k t)]) ?k1 ?k2 ?k3 ?k4 ?k5 ?kA ?kF ?kK ?k6 ?k7 ?k8 ?k9 ?kB ?_ ?c2 ?c3 ?c4 ?c5; (case kA => exact rfl); (case kF => exact rfl); (case kK => first | exact rfl | assumption); (case k1 => k_asm); (case k2 => k_asm); (case k3 => k_asm); (case k4 => k_asm); (case k5 => k_asm); (case k6 => k_is); (case k7 => k_is); (case k8 => k_room); (case k9 => exact BindsTo.of_eq rfl); (case c5 => decide); (case kB => exact locs rfl); (case c2 => exact rfl); (case c3 => exact rfl); (case c4 => exact rfl); k_whole; intro g' L' h' FG' F' N' B' X' T'; (try dsimp only); (try k_lift B'); (try k_fold))
  (have hl2 := Fr.lst FG' hl)
  k_steps
  all_goals (first | exact hret _ _ _ _ (by k_asm) (by k_asm) | trace_state)
end

def RetIn (lo hi : Int) : Post := fun h₀ L m news s R => ∀ (n : Int) (t : Tok) (h' : Heap) (tk' : Nat), lo ≤ n → n < hi → Fr h₀ L h' m → News h₀ L h' news → R (.ok (.ret (.int n t))) { s with heap := h', toks := tk' }
theorem c_line (w : World) (x : Int) (t : Tok) : Ctr w 970 9600 (fun _ => True) 614 [.int x t] (RetIn 32 1073741792) := by
  unfold Ctr RetIn
  k_fill
  intro mean mg mb dp un gd cn cs a ccd cl outer A₀ base h₀ L m news s R B F X N T hk hdp hun hp0 hret
  k_dflt (refine' code_def (binds := [(Str.ofString "x", .int x t)]) ?k1 ?k2 ?k3 ?k4 ?k5 ?kA ?kF ?kK ?k6 ?k7 ?k8 ?k9 ?kB ?_ ?c2 ?c3 ?c4 ?c5; (case kA => exact rfl); (case kF => exact rfl); (case kK => first | exact rfl | assumption); (case k1 => k_asm); (case k2 => k_asm); (case k3 => k_asm); (case k4 => k_asm); (case k5 => k_asm); (case k6 => k_is); (case k7 => k_is); (case k8 => k_room); (case k9 => exact BindsTo.of_eq rfl); (case c5 => decide); (case kB => exact locs rfl); (case c2 => exact rfl); (case c3 => exact rfl); (case c4 => exact rfl); k_whole; intro g' L' h' FG' F' N' B' X' T'; (try dsimp only); (try k_lift B'); (try k_fold))
  k_steps
  all_goals (first | exact hret _ _ _ _ (by omega) (by omega) (by k_asm) (by k_asm) | trace_state)
end
section

theorem c_kept (w : World) (D : Addr) (line : Int) (t : Tok) : Ctr w 930 9200 (fun news => ∃ (f0 s0 l0 f1 s1 f2 s2 l2 f3 s3 : Int) (D0 D1 D2 D3 : Addr) (u01 u02 u03 u11 u12 u13 u21 u22 u23 u31 u32 u33 : Tok) (k0 k1 k2 k3 kl : Nat), (D, PySem.W.listOf #[.ref D0, .ref D1, .ref D2, .ref D3] kl) ∈ news ∧ (D0, ({ cls := .type "tuple", data := .seq #[.int f0 u01, .int s0 u02, .int l0 u03] k0 } : Obj)) ∈ news ∧ (D1, ({ cls := .type "tuple", data := .seq #[.int f1 u11, .int s1 u12, .int (1073741823 - line) u13] k1 } : Obj)) ∈ news ∧ (D2, ({ cls := .type "tuple", data := .seq #[.int f2 u21, .int s2 u22, .int l2 u23] k2 } : Obj)) ∈ news ∧ (D3, ({ cls := .type "tuple", data := .seq #[.int f3 u31, .int s3 u32, .int line u33] k3 } : Obj)) ∈ news ∧ (l0 = line ∨ l0 = 1073741823 - line) ∧ (l2 = line ∨ l2 = 1073741823 - line)) 635 [.ref D, .int line t] (RetBool true) := by
  unfold Ctr RetBool
  k_fill
  intro mean mg mb dp un gd cn cs a ccd cl outer A₀ base h₀ L m news s R B F X N T hk hdp hun ⟨f0, s0, l0, f1, s1, f2, s2, l2, f3, s3, D0, D1, D2, D3, u01, u02, u03, u11, u12, u13, u21, u22, u23, u31, u32, u33, k0, k1, k2, k3, kl, m1, m2, m3, m4, m5, h0, h2⟩ hret
  have hsb : ∀ q ∈ [(D, PySem.W.listOf #[.ref D0, .ref D1, .ref D2, .ref D3] kl), (D0, ({ cls := .type "tuple", data := .seq #[.int f0 u01, .int s0 u02, .int l0 u03] k0 } : Obj)), (D1, ({ cls := .type "tuple", data := .seq #[.int f1 u11, .int s1 u12, .int (1073741823 - line) u13] k1 } : Obj)), (D2, ({ cls := .type "tuple", data := .seq #[.int f2 u21, .int s2 u22, .int l2 u23] k2 } : Obj)), (D3, ({ cls := .type "tuple", data := .seq #[.int f3 u31, .int s3 u32, .int line u33] k3 } : Obj))], q ∈ news := by
    intro q hq
    simp only [List.mem_cons, List.not_mem_nil, or_false] at hq
    rcases hq with rfl | rfl | rfl | rfl | rfl <;> assumption

  all_goals (k_dflt (refine' code_frz (nb := [_, _, _, _, _]) (binds := [(Str.ofString "rows", .ref D), (Str.ofString "line", .int line t)]) ?hsub ?k1 ?k2 ?k3 ?k4 ?k5 ?kA ?kF ?kK ?k6 ?k7 ?k8 ?k9 ?kB ?_ ?c2 ?c3 ?c4 ?c5; (case hsub => exact hsb); (case kA => exact rfl); (case kF => exact rfl); (case kK => first | exact rfl | assumption); (case k1 => k_asm); (case k2 => k_asm); (case k3 => k_asm); (case k4 => k_asm); (case k5 => k_asm); (case k6 => k_is); (case k7 => k_is); (case k8 => k_room); (case k9 => exact BindsTo.of_eq rfl); (case c5 => decide); (case kB => exact locs rfl); (case c2 => exact rfl); (case c3 => exact rfl); (case c4 => exact rfl); k_whole; intro g' L' h' FG' F' N' B' X' T' fz; (try dsimp only); (try k_lift B'); (try k_fold)))
  all_goals k_steps
  all_goals (first | exact hret _ _ (by k_asm) (unfrz N hsb fz (by assumption) (by k_asm) (fun p hp => hp)) | (exfalso; omega) | trace_state)
end
section

theorem use_num {w : World} {l : Addr} {k : Int} {t : Tok} {vs : List Value} {ns : List Int} {mean : ExcName → Option Value} {mg mb : Str → Option Value} {dp un : Nat} {gd : Option (List Code)} {cn : Str} {cs : Scope} {a : Addr} {ccd : Value} {cl : List (Str × Addr)} {outer : List Env} {A₀ : Around} {base h₀ : Heap} {L : Addr} {m : Str → Option Value} {news : List (Addr × Obj)} {s : Shared} {Q E : Value → Shared → Prop} (hn : ¬ ((63 : Nat) : Int) < (ns.length : Int)) (hk0 : 0 ≤ k) (hk1 : k < 100) (B : Below A₀ base outer h₀) (F : Fr h₀ L s.heap m) (X : (hd02.heap_39 w.params).In h₀) (N : News h₀ L s.heap news) (T : Top hd02.view_39 (looseW hd02.view_39 [Str.ofString "POS_TO_ORIENTATION", Str.ofString "LOOKUP_POS", Str.ofString "LOOKUP_IJ", Str.ofString "CellId"]) mean mg mb h₀) (hk : cs.kind = .function) (hdp : dp < 970) (hun : un < 9600)
    (hl : h₀.IsList l vs.toArray) (hi : IntsAre vs ns) (hret : ∀ (n : Int) (t : Tok) (h' : Heap) (tk' : Nat), Fr h₀ L h' m → News h₀ L h' news → Q (.int n t) { s with heap := h', toks := tk' }) :
    wpAny (model PySem.Challenge.rw_fq0033_02.row.prog w) (ktrTop dp un gd cn cs L a ccd cl outer) (call (.ref 607) [.ref l, .int k t]) Q E s := wpAny_call (c_num w l k t vs ns hn hk0 hk1 mean mg mb dp un gd cn cs a ccd cl outer A₀ base h₀ L m news s _ B F X N T hk hdp hun hl hi hret)
theorem c_meet (w : World) (face far i j row col : Int) (t1 t2 t3 : Tok) (hfar : far = (face + 3) % 6) (hr : row = 1073741823 - j) (hc : col = 1073741823 - i) (hf : 0 ≤ face) (hf' : face < 6) (hi : 0 ≤ i) (hi' : i < 1073741824) (hj : 0 ≤ j) (hj' : j < 1073741824) : Ctr w 970 9600 (fun _ => True) 245 [.ref 561, .int far t1, .int (1073741823 - row) t2, .int (1073741823 - col) t3] (RetCell ((lid face i j + 6917529027641081856) % 13835058055282163712)) := by
  have e1 : 1073741823 - row = j := by omega
  have e2 : 1073741823 - col = i := by omega
  rw [← lid_across hf hf', e1, e2, hfar]
  exact c_ffij w _ _ _ _ _ _ (by omega) (by omega) hj hj' hi hi'
theorem lid_ok {f i j : Int} (hf : 0 ≤ f) (hf' : f < 6) : 0 ≤ lid f i j ∧ lid f i j < 13835058055282163712 ∧ lid f i j % 2 = 1 := by
  have h := lid_b (i := i) (j := j) hf hf'
  omega
theorem c_faceL (w : World) (x : Addr) (f i j : Int) : Ctr w 970 9600 (fun news => CellIn news x (lid f i j) ∧ (0 ≤ f ∧ f < 6)) 351 [.ref x] (RetInt f) := ctr_with fun h => by
  have c := c_face w x (lid f i j)
  rw [lid_face h.1 h.2] at c
  exact c
theorem perm6' {f far f0 g0 s : Int} (hfar : far = (f + 3) % 6) (hf : 0 ≤ f) (hf' : f < 6) (h0 : 0 ≤ f0 ∧ f0 < 6) (g0' : 0 ≤ g0 ∧ g0 < 6) (hc : s = 1 → f0 = (f + 1 + f % 2) % 6) (hd : s = 3 → f0 = (f + 4 + f % 2) % 6) (hs : s = 1 ∨ s = 3) (he : g0 % 3 = (f + 2 + 2 * (f % 2)) % 3) :
    List.Perm [f, far, f0, (f0 + 3) % 6, g0, (g0 + 3) % 6] [0, 1, 2, 3, 4, 5] := hfar ▸ perm6 hf hf' h0.1 h0.2 g0'.1 g0'.2 hs hc hd he
section
variable {prog : Program} {w : World} {A : Around} {E : Value → Shared → Prop} {s : Shared} {h₀ : Heap} {L l : Addr} {m : Str → Option Value} {news : List (Addr × Obj)} {vs : List Value} {ns : List Int} {Q : Value → Shared → Prop}
theorem sorted_six (F : Fr h₀ L s.heap m) (N : News h₀ L s.heap news) (hl : s.heap.IsList l vs.toArray) (hi : IntsAre vs ns) (hp : ns.Perm [0, 1, 2, 3, 4, 5])
    (h : ∀ D t0 t1 t2 t3 t4 t5 c h', Fr h₀ L h' m → News h₀ L h' ((D, PySem.W.listOf #[.int 0 t0, .int 1 t1, .int 2 t2, .int 3 t3, .int 4 t4, .int 5 t5] c) :: news) → (∀ q ∈ news, q.1 < D) → Q (.ref D) { s with heap := h' }) :
    wpAny (model prog w) A (call (.builtin "sorted") [.ref l]) Q E s := by
  have hlen := hp.length_eq
  refine kso_sorted F N hl hi (by rw [hlen]; decide) fun D vs' ns' c h' F' N' l1 i' e' p' o' b' => ?_
  have e := ksm_same (p'.trans hp) o' (by decide)
  subst e
  obtain ⟨t0, v0, rfl, i0⟩ := i'.cons_inv
  obtain ⟨t1, v1, rfl, i1⟩ := i0.cons_inv
  obtain ⟨t2, v2, rfl, i2⟩ := i1.cons_inv
  obtain ⟨t3, v3, rfl, i3⟩ := i2.cons_inv
  obtain ⟨t4, v4, rfl, i4⟩ := i3.cons_inv
  obtain ⟨t5, v5, rfl, i5⟩ := i4.cons_inv
  cases i5
  exact h D t0 t1 t2 t3 t4 t5 c h' F' N' l1
end
local macro_rules | `(tactic| walk_at "call ref") => `(tactic| (k_here; (with_reducible show wpAny _ _ (call (Value.ref 607) _) _ _ _); k_dflt (refine use_num (by assumption) (by decide) (by decide) (by k_asm) (by k_asm) (by k_asm) (by k_asm) (by k_asm) (by first | exact rfl | assumption) (by k_room) (by k_units) (by assumption) (by assumption) ?_; k_whole; intro n' t' h' tk' F' N'; (try k_sweep); (try dsimp only); (try dsimp only [PySem.W.CmpBack]); (try k_fold))))
local macro_rules | `(tactic| walk_at "call ref") => `(tactic| (k_here; (with_reducible show wpAny _ _ (call (Value.ref 614) _) _ _ _); k_dflt (refine use_ctrW (c_line _ _ _) (by k_asm) (by k_asm) (by k_asm) (by k_asm) (by k_asm) (by first | exact rfl | assumption) (by k_room) (by k_units) (by trivial) ?_; k_whole; intro n' t' h' tk' lo' hi' F' N'; (try k_sweep); (try dsimp only); (try dsimp only [PySem.W.CmpBack]); (try k_fold))))

local macro_rules | `(tactic| walk_at "compareOp Eq int int") => `(tactic| (k_here; (with_reducible refine eq_known ?e ?_); (case e => first | exact rfl | omega)))
local macro_rules | `(tactic| walk_at "compareOp NotEq int int") => `(tactic| (k_here; (with_reducible refine ne_known ?e ?_); (case e => first | exact rfl | omega)))
local macro_rules | `(tactic| walk_at "eval Call") => `(tactic| (k_here; (with_reducible show wpAny _ _ (eval (Expr.Call (Expr.Name _ _) _ [] _) _) _ _ _); k_dflt (refine Call_ ?_)))
local macro_rules | `(tactic| walk_at "call ref") => `(tactic| (k_here; (with_reducible show wpAny _ _ (call (Value.ref 628) _) _ _ _); k_dflt (refine use_ctrW (c_road _ _ _ _ _ _ _ _ _ (by omega) (by omega) (by omega) (by omega) (by omega) (by omega)) (by k_asm) (by k_asm) (by k_asm) (by k_asm) (by k_asm) (by first | exact rfl | assumption) (by k_room) (by k_units) (by trivial) ?_; k_whole; intro f0 s0 l0 s1 s2 l2 D' D0 D1 D2 D3 u0 u1 u2 u3 u4 u5 u6 u7 u8 u9 u10 u11 q0 q1 q2 q3 q4 h' tk' ⟨r1, r2, r3, r4, r5, r6, r7⟩ F' N' l1 l2 l3 l4 l5; (try k_lt l1); (try k_lt2 l2); (try k_lt2 l3); (try k_lt2 l4); (try k_lt2 l5); (try k_sweep); (try dsimp only); (try dsimp only [PySem.W.CmpBack]); (try k_fold))))
local macro_rules | `(tactic| walk_at "call ref") => `(tactic| (k_here; (with_reducible show wpAny _ _ (call (Value.ref 635) _) _ _ _); k_dflt (refine use_ctrW (c_kept _ _ _ _) (by k_asm) (by k_asm) (by k_asm) (by k_asm) (by k_asm) (by first | exact rfl | assumption) (by k_room) (by k_units) (by exact ⟨_, _, _, _, _, _, _, _, _, _, _, _, _, _, _, _, _, _, _, _, _, _, _, _, _, _, _, _, _, _, _, by kmk_part, by kmk_part, by kmk_part, by kmk_part, by kmk_part, by assumption, by assumption⟩) ?_; k_whole; intro h' tk' F' N'; (try k_sweep); (try dsimp only); (try dsimp only [PySem.W.CmpBack]); (try k_fold))))
local macro_rules | `(tactic| walk_at "call ref") => `(tactic| (k_here; (with_reducible show wpAny _ _ (call (Value.ref _) _) _ _ _); k_dflt (refine call_meth (f := Value.ref 245) (by k_asm) (by kmk_part) ?_; refine use_ctr (c_ffij _ _ _ _ _ _ _ (by omega) (by omega) (by omega) (by omega) (by omega) (by omega)) (by k_asm) (by k_asm) (by k_asm) (by k_asm) (by k_asm) (by first | exact rfl | assumption) (by k_room) (by k_units) (by trivial) ?_; k_whole; intro x' d' hs' kt' vt' h' tk' F' N' l1 l2; (try k_lt l1); (try k_lt2 l2); (try k_sweep); (try dsimp only); (try dsimp only [PySem.W.CmpBack]); (try k_fold))))
local macro_rules | `(tactic| walk_at "call ref") => `(tactic| (k_here; (with_reducible show wpAny _ _ (call (Value.ref _) _) _ _ _); k_dflt (refine call_meth (f := Value.ref 245) (by k_asm) (by kmk_part) ?_; refine use_ctr (c_meet _ _ _ _ _ _ _ _ _ _ (by with_reducible assumption) (by with_reducible assumption) (by with_reducible assumption) (by omega) (by omega) (by omega) (by omega) (by omega) (by omega)) (by k_asm) (by k_asm) (by k_asm) (by k_asm) (by k_asm) (by first | exact rfl | assumption) (by k_room) (by k_units) (by trivial) ?_; k_whole; intro x' d' hs' kt' vt' h' tk' F' N' l1 l2; (try k_lt l1); (try k_lt2 l2); (try k_sweep); (try dsimp only); (try dsimp only [PySem.W.CmpBack]); (try k_fold))))
local macro_rules | `(tactic| walk_at "call ref") => `(tactic| (k_here; (with_reducible show wpAny _ _ (call (Value.ref 492) _) _ _ _); k_dflt (refine use_ctrW (c_adv_leaf _ _ _ _ _ (by omega)) (by k_asm) (by k_asm) (by k_asm) (by k_asm) (by k_asm) (by first | exact rfl | assumption) (by k_room) (by k_units) (by exact ⟨⟨_, _, _, _, by kmk_part, by kmk_part⟩, lid_ok (by omega) (by omega)⟩) ?_; k_whole; intro x' d' hs' kt' vt' h' tk' F' N' l1 l2; (try k_lt l1); (try k_lt2 l2); (try k_sweep); (try dsimp only); (try dsimp only [PySem.W.CmpBack]); (try k_fold))))
local macro_rules | `(tactic| walk_at "call ref") => `(tactic| (k_here; (with_reducible show wpAny _ _ (call (Value.ref 351) _) _ _ _); k_dflt (refine use_ctrW (c_faceL _ _ _ _ _) (by k_asm) (by k_asm) (by k_asm) (by k_asm) (by k_asm) (by first | exact rfl | assumption) (by k_room) (by k_units) (by exact ⟨⟨_, _, _, _, by kmk_part, by kmk_part⟩, by omega, by omega⟩) ?_; k_whole; intro t' h' tk' F' N'; (try k_sweep); (try dsimp only); (try dsimp only [PySem.W.CmpBack]); (try k_fold))))
local macro_rules | `(tactic| walk_at "call ref") => `(tactic| (k_here; (with_reducible show wpAny _ _ (call (Value.ref 330) _) _ _ _); k_dflt (refine use_ctrW (c_id _ _ _) (by k_asm) (by k_asm) (by k_asm) (by k_asm) (by k_asm) (by first | exact rfl | assumption) (by k_room) (by k_units) (by exact ⟨_, _, _, _, by kmk_part, by kmk_part⟩) ?_; k_whole; intro t' h' tk' F' N'; (try k_sweep); (try dsimp only); (try dsimp only [PySem.W.CmpBack]); (try k_fold))))
local macro_rules | `(tactic| walk_at "storeName") => `(tactic| (k_here; (with_reducible show wpAny _ _ (storeName _ (Str.ofString "face") (Value.int _ _)) _ _ _); refine' store_named ?_; intro facev' facet' facek' facee'; k_dflt (refine' storeX_L ?F ?N ?_ ?a ?b; (case F => k_asm); (case N => k_asm); (case a => rfl); (case b => rfl); k_whole; intro h' F' N'; (try k_sweep))))
local macro_rules | `(tactic| walk_at "storeName") => `(tactic| (k_here; (with_reducible show wpAny _ _ (storeName _ (Str.ofString "over") (Value.int _ _)) _ _ _); refine' store_named ?_; intro overv' overt' overk' overe'; k_dflt (refine' storeX_L ?F ?N ?_ ?a ?b; (case F => k_asm); (case N => k_asm); (case a => rfl); (case b => rfl); k_whole; intro h' F' N'; (try k_sweep))))
local macro_rules | `(tactic| walk_at "storeName") => `(tactic| (k_here; (with_reducible show wpAny _ _ (storeName _ (Str.ofString "far") (Value.int _ _)) _ _ _); refine' store_named ?_; intro farv' fart' fark' fare'; k_dflt (refine' storeX_L ?F ?N ?_ ?a ?b; (case F => k_asm); (case N => k_asm); (case a => rfl); (case b => rfl); k_whole; intro h' F' N'; (try k_sweep))))
local macro_rules | `(tactic| walk_at "storeName") => `(tactic| (k_here; (with_reducible show wpAny _ _ (storeName _ (Str.ofString "one") (Value.int _ _)) _ _ _); refine' store_named ?_; intro onev' onet' onek' onee'; k_dflt (refine' storeX_L ?F ?N ?_ ?a ?b; (case F => k_asm); (case N => k_asm); (case a => rfl); (case b => rfl); k_whole; intro h' F' N'; (try k_sweep))))
local macro_rules | `(tactic| walk_at "storeName") => `(tactic| (k_here; (with_reducible show wpAny _ _ (storeName _ (Str.ofString "two") (Value.int _ _)) _ _ _); refine' store_named ?_; intro twov' twot' twok' twoe'; k_dflt (refine' storeX_L ?F ?N ?_ ?a ?b; (case F => k_asm); (case N => k_asm); (case a => rfl); (case b => rfl); k_whole; intro h' F' N'; (try k_sweep))))
local macro_rules | `(tactic| walk_at "storeName") => `(tactic| (k_here; (with_reducible show wpAny _ _ (storeName _ (Str.ofString "row") (Value.int _ _)) _ _ _); refine' store_named ?_; intro rowv' rowt' rowk' rowe'; k_dflt (refine' storeX_L ?F ?N ?_ ?a ?b; (case F => k_asm); (case N => k_asm); (case a => rfl); (case b => rfl); k_whole; intro h' F' N'; (try k_sweep))))
local macro_rules | `(tactic| walk_at "storeName") => `(tactic| (k_here; (with_reducible show wpAny _ _ (storeName _ (Str.ofString "column") (Value.int _ _)) _ _ _); refine' store_named ?_; intro columnv' columnt' columnk' columne'; k_dflt (refine' storeX_L ?F ?N ?_ ?a ?b; (case F => k_asm); (case N => k_asm); (case a => rfl); (case b => rfl); k_whole; intro h' F' N'; (try k_sweep))))
local macro_rules | `(tactic| walk_at "call builtin:sorted") => `(tactic| (k_here; (with_reducible show wpAny _ _ (call (Value.builtin _) [Value.ref _]) _ _ _); (with_unfolding_all refine' sorted_six ?k1 ?k2 ?k3 ?k4 ?k5 ?_; (case k1 => k_asm); (case k2 => k_asm); (case k3 => kso_list); (case k4 => l_ints); (case k5 => exact perm6' (by with_reducible assumption) (by omega) (by omega) (by with_reducible assumption) (by with_reducible assumption) (by with_reducible assumption) (by with_reducible assumption) (by omega) (by omega)); k_whole); intro D' u0 u1 u2 u3 u4 u5 c' h' F' N' l1; (try k_lt l1); (try k_sweep)))

set_option maxHeartbeats 8000000 in
theorem law02 : PySem.Challenge.rw_fq0033_02.Holds := hd02 (by
  k_go0
  all_goals (try k_fold)
  k_steps)
end
end Mine
theorem PySem.Challenge.cw_fq0033_02_holds : PySem.Challenge.rw_fq0033_02.Holds := by
  exact Mine.law02
