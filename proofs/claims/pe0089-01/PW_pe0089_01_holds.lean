import PyProof.Rows.All
import Wide.All
import OpenK.AllK
import Wide.FinOn
import Flt.RightMore
import Flt.Pure
import PySem.Challenge.RW_pe0089_01
set_option Elab.async false
section
open PySem PySem.W PyProof.Rows
namespace Mine
set_option maxRecDepth 100000
set_option maxHeartbeats 8000000
open_top hd for PySem.Challenge.rw_pe0089_01
end Mine
end

-- part R1
section
open PySem PySem.Float64
namespace Mine
theorem rep (k : Nat) : ∀ q : Nat, q ≤ 2 ^ 53 → ∃ t, V t = q * 2 ^ k := by
  induction k with
  | zero => intro q hq; exact ⟨0 * 2 ^ 52 + q, by rw [V_at hq (.inr rfl)]⟩
  | succ k ih =>
    intro q hq
    by_cases h : 2 ^ 52 ≤ q
    · exact ⟨(k + 1) * 2 ^ 52 + q, V_at hq (.inl h)⟩
    · obtain ⟨t, ht⟩ := ih (2 * q) (by omega)
      exact ⟨t, by rw [ht, Nat.pow_succ]; ac_rfl⟩
theorem near {r : UInt64} {neg : Bool} {W D : Nat} (h : Right r neg W D) (hD : 0 < D) (k : Nat) (hk : k ≤ 1990) (hW : W < D * 2 ^ (k + 53)) :
    ∃ v : Nat, (∃ m e, decode r = .fin neg m e) ∧ val r = sgn neg v ∧ W ≤ D * v + D * 2 ^ k ∧ D * v ≤ W + D * 2 ^ k := by
  obtain ⟨t, rfl, hle, hov, hn⟩ := h
  have hlt : t < infMag := by
    rcases Nat.lt_or_eq_of_le hle with h | h
    · exact h
    · have h2 := hov.mp h
      have h3 : D * 2 ^ (k + 53) * 2 ≤ D * ((2 ^ 54 - 1) * 2 ^ 2045) := by
        rw [Nat.mul_assoc]
        refine Nat.mul_le_mul_left _ ?_
        have : 2 ^ (k + 53) * 2 = 2 ^ (k + 54) := by rw [← Nat.pow_succ]
        rw [this]
        calc 2 ^ (k + 54) ≤ 2 ^ 2045 := Nat.pow_le_pow_right (by decide) (by omega)
          _ ≤ (2 ^ 54 - 1) * 2 ^ 2045 := Nat.le_mul_of_pos_left _ (by decide)
      omega
  obtain ⟨m, e, hd, hv⟩ := decode_pack neg hlt
  refine ⟨V t, ⟨m, e, hd⟩, val_pack neg hlt, ?_⟩
  have gt0 : 0 < D * 2 ^ k := Nat.mul_pos hD (Nat.two_pow_pos _)
  have hq : W / (D * 2 ^ k) ≤ 2 ^ 53 := by
    refine Nat.le_of_lt ((Nat.div_lt_iff_lt_mul gt0).mpr ?_)
    rw [Nat.pow_add] at hW
    calc W < D * (2 ^ k * 2 ^ 53) := hW
      _ = 2 ^ 53 * (D * 2 ^ k) := by ac_rfl
  obtain ⟨t', ht'⟩ := rep k _ hq
  have h1 := (hn hlt t').1
  have h2 : D * V t' + W % (D * 2 ^ k) = W := by
    rw [ht']
    have := Nat.div_add_mod W (D * 2 ^ k)
    rw [show D * (W / (D * 2 ^ k) * 2 ^ k) = D * 2 ^ k * (W / (D * 2 ^ k)) by ac_rfl]
    exact this
  have h3 := Nat.mod_lt W gt0
  unfold dist at h1
  omega
/-- x is a double that is 0 or more, v its value in 2 ^ 1074ths -/
def Pos (x : UInt64) (v : Int) : Prop := (∃ m e, decode x = .fin false m e) ∧ val x = v
theorem Pos.nn {x : UInt64} {v : Int} (h : Pos x v) : 0 ≤ v := by
  obtain ⟨⟨m, e, hd⟩, hv⟩ := h
  rw [val_eq hd] at hv
  subst hv
  unfold sgn
  simp only [Bool.false_eq_true, if_false]
  omega
theorem Pos.abs {x : UInt64} {v : Int} (h : Pos x v) : ((val x).natAbs : Int) = v := by
  have h0 := h.nn
  rw [h.2]
  omega
theorem pos_of {r : UInt64} {W D : Nat} (h : Right r false W D) (hD : 0 < D) (k : Nat) (hk : k ≤ 1990) (hW : W < D * 2 ^ (k + 53)) :
    ∃ v : Int, Pos r v ∧ (W : Int) - D * v ≤ D * ((2 ^ k : Nat) : Int) ∧ D * v - W ≤ D * ((2 ^ k : Nat) : Int) := by
  obtain ⟨v, hd, hv, h1, h2⟩ := near h hD k hk hW
  refine ⟨v, ⟨hd, by rw [hv]; rfl⟩, ?_⟩
  have h1' : (W : Int) ≤ ((D * v + D * 2 ^ k : Nat) : Int) := Int.ofNat_le.mpr h1
  have h2' : ((D * v : Nat) : Int) ≤ ((W + D * 2 ^ k : Nat) : Int) := Int.ofNat_le.mpr h2
  simp only [Int.natCast_add, Int.natCast_mul] at h1' h2'
  constructor <;> omega
theorem pos_add {x y : UInt64} {X Y : Int} (hx : Pos x X) (hy : Pos y Y) (k : Nat) (hk : k ≤ 1990) (hW : X + Y < ((2 ^ (k + 53) : Nat) : Int)) :
    ∃ v, Pos (add x y) v ∧ X + Y - v ≤ ((2 ^ k : Nat) : Int) ∧ v - (X + Y) ≤ ((2 ^ k : Nat) : Int) := by
  have h1 := hx.nn
  have h2 := hy.nn
  obtain ⟨⟨m, e, hdx⟩, rfl⟩ := hx
  obtain ⟨⟨m', e', hdy⟩, rfl⟩ := hy
  obtain ⟨hz, hn⟩ := add_right hdx hdy
  by_cases h0 : val x + val y = 0
  · have hK : (0 : Int) ≤ ((2 ^ k : Nat) : Int) := Int.natCast_nonneg _
    refine ⟨0, ?_, by omega, by omega⟩
    rw [hz h0]
    exact ⟨⟨0, -1074, by with_unfolding_all rfl⟩, by with_unfolding_all rfl⟩
  · have h := hn h0
    rw [show decide (val x + val y < 0) = false from decide_eq_false (by omega)] at h
    have hc : (((val x + val y).natAbs : Nat) : Int) = val x + val y := by omega
    obtain ⟨v, hp, a1, a2⟩ := pos_of h (by decide) k hk (by rw [Nat.one_mul]; omega)
    exact ⟨v, hp, by omega, by omega⟩
theorem pos_sub {x y : UInt64} {X Y : Int} (hx : Pos x X) (hy : Pos y Y) (hle : Y ≤ X) (k : Nat) (hk : k ≤ 1990) (hW : X < ((2 ^ (k + 53) : Nat) : Int)) :
    ∃ v, Pos (sub x y) v ∧ X - Y - v ≤ ((2 ^ k : Nat) : Int) ∧ v - (X - Y) ≤ ((2 ^ k : Nat) : Int) := by
  have h1 := hx.nn
  have h2 := hy.nn
  obtain ⟨⟨m, e, hdx⟩, rfl⟩ := hx
  obtain ⟨⟨m', e', hdy⟩, rfl⟩ := hy
  obtain ⟨hz, hn⟩ := sub_right hdx hdy
  by_cases h0 : val x - val y = 0
  · have hK : (0 : Int) ≤ ((2 ^ k : Nat) : Int) := Int.natCast_nonneg _
    refine ⟨0, ?_, by omega, by omega⟩
    rw [hz h0]
    exact ⟨⟨0, -1074, by with_unfolding_all rfl⟩, by with_unfolding_all rfl⟩
  · have h := hn h0
    rw [show decide (val x - val y < 0) = false from decide_eq_false (by omega)] at h
    have hc : (((val x - val y).natAbs : Nat) : Int) = val x - val y := by omega
    obtain ⟨v, hp, a1, a2⟩ := pos_of h (by decide) k hk (by rw [Nat.one_mul]; omega)
    exact ⟨v, hp, by omega, by omega⟩
theorem pos_mul {x y : UInt64} {X Y : Int} (hx : Pos x X) (hy : Pos y Y) (k : Nat) (hk : k ≤ 1990) (hW : X * Y < ((2 ^ 1074 : Nat) : Int) * ((2 ^ (k + 53) : Nat) : Int)) :
    ∃ v, Pos (mul x y) v ∧ X * Y - ((2 ^ 1074 : Nat) : Int) * v ≤ ((2 ^ 1074 : Nat) : Int) * ((2 ^ k : Nat) : Int) ∧ ((2 ^ 1074 : Nat) : Int) * v - X * Y ≤ ((2 ^ 1074 : Nat) : Int) * ((2 ^ k : Nat) : Int) := by
  have a1 := hx.abs
  have a2 := hy.abs
  obtain ⟨⟨m, e, hdx⟩, -⟩ := hx
  obtain ⟨⟨m', e', hdy⟩, -⟩ := hy
  have h := mul_right hdx hdy
  have hc : (((val x).natAbs * (val y).natAbs : Nat) : Int) = X * Y := by rw [Int.natCast_mul, a1, a2]
  obtain ⟨v, hp, b1, b2⟩ := pos_of h (Nat.two_pow_pos _) k hk (by
    refine Int.ofNat_lt.mp ?_
    rw [hc, Int.natCast_mul]
    exact hW)
  rw [hc] at b1 b2
  exact ⟨v, hp, b1, b2⟩
theorem pos_trunc {z : UInt64} {v N : Int} (h : Pos z v) (h1 : N * ((2 ^ 1074 : Nat) : Int) ≤ v) (h2 : v < (N + 1) * ((2 ^ 1074 : Nat) : Int)) : ∃ m e, decode z = .fin false m e ∧ truncOf false m e = N := by
  obtain ⟨⟨m, e, hd⟩, hv⟩ := h
  refine ⟨m, e, hd, ?_⟩
  have he := decode_ge hd
  rw [val_eq hd] at hv
  simp only [sgn, Bool.false_eq_true, if_false] at hv
  unfold truncOf floorOf
  simp only [Bool.false_eq_true, if_false, sgn]
  subst hv
  have toI (j : Nat) : ((2 ^ j : Nat) : Int) = 2 ^ j := Int.natCast_pow 2 j
  have gt0 (j : Nat) : 0 < (2 : Int) ^ j := Int.pow_pos (by decide)
  rw [Int.natCast_mul, toI, toI] at h1 h2
  split
  · rename_i hge
    have e1 : (e + 1074).toNat = e.toNat + 1074 := by omega
    rw [e1, Int.pow_add, ← Int.mul_assoc] at h1 h2
    have k1 := Int.le_of_mul_le_mul_right h1 (gt0 1074)
    have k2 := Int.lt_of_mul_lt_mul_right h2 (Int.le_of_lt (gt0 1074))
    omega
  · rename_i hlt
    have e1 : 1074 = (-e).toNat + (e + 1074).toNat := by omega
    have e2 : (2 : Int) ^ 1074 = 2 ^ (-e).toNat * 2 ^ (e + 1074).toNat := by rw [← Int.pow_add, ← e1]
    rw [e2, ← Int.mul_assoc] at h1 h2
    have k1 := Int.le_of_mul_le_mul_right h1 (gt0 _)
    have k2 := Int.lt_of_mul_lt_mul_right h2 (Int.le_of_lt (gt0 _))
    have k3 := gt0 (-e).toNat
    rw [Int.fdiv_eq_ediv_of_nonneg _ (Int.le_of_lt k3)]
    refine Int.le_antisymm ?_ ?_
    · exact Int.le_of_lt_add_one ((Int.ediv_lt_iff_lt_mul k3).mpr k2)
    · exact (Int.le_ediv_iff_mul_le k3).mpr k1
end Mine
end

-- part R2
section
open PySem PySem.Float64
set_option maxRecDepth 100000
namespace Mine
def u : Int := ((2 ^ 1022 : Nat) : Int)
theorem u_pos : 0 < u := Int.ofNat_lt.mpr (Nat.two_pow_pos _)
theorem S_u : ((2 ^ 1074 : Nat) : Int) = 4503599627370496 * u := by unfold u; decide +kernel
theorem p_u (j : Nat) : ((2 ^ (1022 + j) : Nat) : Int) = ((2 ^ j : Nat) : Int) * u := by unfold u; rw [Nat.pow_add, Int.natCast_mul, Int.mul_comm]
theorem add0 {x y : UInt64} {X Y : Int} (hx : Pos x X) (hy : Pos y Y) (h : X + Y < 9007199254740992 * u) : ∃ v, Pos (add x y) v ∧ X + Y - v ≤ u ∧ v - (X + Y) ≤ u :=
  pos_add hx hy 1022 (by decide) (by rw [p_u 53]; exact h)
theorem add16 {x y : UInt64} {X Y : Int} (hx : Pos x X) (hy : Pos y Y) (h : X + Y < 590295810358705651712 * u) : ∃ v, Pos (add x y) v ∧ X + Y - v ≤ 65536 * u ∧ v - (X + Y) ≤ 65536 * u := by
  have := pos_add hx hy (1022 + 16) (by decide) (by rw [Nat.add_assoc, p_u (16 + 53)]; exact h)
  rw [p_u 16] at this
  exact this
theorem sub0 {x y : UInt64} {X Y : Int} (hx : Pos x X) (hy : Pos y Y) (hle : Y ≤ X) (h : X < 9007199254740992 * u) : ∃ v, Pos (sub x y) v ∧ X - Y - v ≤ u ∧ v - (X - Y) ≤ u :=
  pos_sub hx hy hle 1022 (by decide) (by rw [p_u 53]; exact h)
theorem mul0 {x y : UInt64} {X Y : Int} (hx : Pos x X) (hy : Pos y Y) (h : X * Y < 4503599627370496 * u * (9007199254740992 * u)) :
    ∃ v, Pos (mul x y) v ∧ X * Y - 4503599627370496 * u * v ≤ 4503599627370496 * u * u ∧ 4503599627370496 * u * v - X * Y ≤ 4503599627370496 * u * u := by
  have := pos_mul hx hy 1022 (by decide) (by rw [p_u 53, S_u]; exact h)
  rw [S_u] at this
  exact this
/-- a product with a written factor c * g on the left, 2 ^ 1074 = G * g -/
theorem mulc {x y : UInt64} {c G g Y K : Int} (j : Nat) (hj : j ≤ 500) (hx : Pos x (c * g)) (hg : ((2 ^ 1074 : Nat) : Int) = G * g) (hg0 : 0 < g) (hy : Pos y Y) (hK : ((2 ^ j : Nat) : Int) = K) (h : c * Y < G * (9007199254740992 * (K * u))) :
    ∃ v, Pos (mul x y) v ∧ c * Y - G * v ≤ G * (K * u) ∧ G * v - c * Y ≤ G * (K * u) := by
  subst hK
  have e1 : c * g * Y = c * Y * g := by ac_rfl
  obtain ⟨v, hp, a1, a2⟩ := pos_mul hx hy (1022 + j) (by omega) (by
    rw [hg, e1, show 1022 + j + 53 = 1022 + (j + 53) from rfl, p_u, Nat.pow_add, Int.natCast_mul]
    have := Int.mul_lt_mul_of_pos_right h hg0
    refine Int.lt_of_lt_of_le this (Int.le_of_eq ?_)
    rw [show ((2 ^ 53 : Nat) : Int) = 9007199254740992 from by decide]
    ac_rfl)
  refine ⟨v, hp, ?_⟩
  rw [hg, e1, p_u] at a1 a2
  constructor
  · refine Int.le_of_mul_le_mul_right ?_ hg0
    rw [Int.sub_mul]
    refine Int.le_trans (Int.le_of_eq ?_) (Int.le_trans a1 (Int.le_of_eq ?_))
    · rw [show G * v * g = G * g * v by ac_rfl]
    · ac_rfl
  · refine Int.le_of_mul_le_mul_right ?_ hg0
    rw [Int.sub_mul]
    refine Int.le_trans (Int.le_of_eq ?_) (Int.le_trans a2 (Int.le_of_eq ?_))
    · rw [show G * v * g = G * g * v by ac_rfl]
    · ac_rfl
theorem mulcR {x y : UInt64} {c G g Y K : Int} (j : Nat) (hj : j ≤ 500) (hx : Pos x (c * g)) (hg : ((2 ^ 1074 : Nat) : Int) = G * g) (hg0 : 0 < g) (hy : Pos y Y) (hK : ((2 ^ j : Nat) : Int) = K) (h : c * Y < G * (9007199254740992 * (K * u))) :
    ∃ v, Pos (mul y x) v ∧ c * Y - G * v ≤ G * (K * u) ∧ G * v - c * Y ≤ G * (K * u) := by
  subst hK
  have e1 : Y * (c * g) = c * Y * g := by ac_rfl
  obtain ⟨v, hp, a1, a2⟩ := pos_mul hy hx (1022 + j) (by omega) (by
    rw [hg, e1, show 1022 + j + 53 = 1022 + (j + 53) from rfl, p_u, Nat.pow_add, Int.natCast_mul]
    have := Int.mul_lt_mul_of_pos_right h hg0
    refine Int.lt_of_lt_of_le this (Int.le_of_eq ?_)
    rw [show ((2 ^ 53 : Nat) : Int) = 9007199254740992 from by decide]
    ac_rfl)
  refine ⟨v, hp, ?_⟩
  rw [hg, e1, p_u] at a1 a2
  constructor
  · refine Int.le_of_mul_le_mul_right ?_ hg0
    rw [Int.sub_mul]
    refine Int.le_trans (Int.le_of_eq ?_) (Int.le_trans a1 (Int.le_of_eq ?_))
    · rw [show G * v * g = G * g * v by ac_rfl]
    · ac_rfl
  · refine Int.le_of_mul_le_mul_right ?_ hg0
    rw [Int.sub_mul]
    refine Int.le_trans (Int.le_of_eq ?_) (Int.le_trans a2 (Int.le_of_eq ?_))
    · rw [show G * v * g = G * g * v by ac_rfl]
    · ac_rfl
def posB (x : UInt64) (v : Nat) : Bool := match decode x with
  | .fin false m e => m * 2 ^ (e + 1074).toNat == v
  | _ => false
theorem posB_pos {x : UInt64} {v : Nat} (h : posB x v = true) : Pos x v := by
  unfold posB at h
  split at h
  · rename_i m e hd
    refine ⟨⟨m, e, hd⟩, ?_⟩
    rw [val_eq hd, eq_of_beq h]
    rfl
  · cases h
abbrev c6 : UInt64 := 4618441417868443648
theorem pos6 : Pos c6 (6 * ((2 ^ 1074 : Nat) : Int)) := by
  have := posB_pos (x := c6) (v := 6 * 2 ^ 1074) (by decide +kernel)
  rwa [Int.natCast_mul] at this
/-- a product s * r, r near W 24ths -/
theorem share {x y : UInt64} {s r W : Int} (hx : Pos x s) (hy : Pos y r) (hs : s ≤ 4503599627370497 * u) (h1 : 24 * r ≤ W * (4503599627370496 * u) + 64 * u) (h2 : W * (4503599627370496 * u) ≤ 24 * r + 64 * u) (hW : W ≤ 4) :
    ∃ q, Pos (mul x y) q ∧ 24 * q ≤ s * W + 89 * u ∧ s * W ≤ 24 * q + 89 * u := by
  have u0 := u_pos
  have s0 := hx.nn
  have r0 := hy.nn
  have hW4 : W * (4503599627370496 * u) ≤ 4 * (4503599627370496 * u) := Int.mul_le_mul_of_nonneg_right hW (by omega)
  have hr : r ≤ 4503599627370496 * u := by omega
  have hb : s * r ≤ 4503599627370497 * u * (4503599627370496 * u) := Int.mul_le_mul hs hr r0 (by omega)
  have huu : 0 < u * u := Int.mul_pos u0 u0
  obtain ⟨q, hq, a1, a2⟩ := mul0 hx hy (by
    refine Int.lt_of_le_of_lt hb ?_
    have e1 : 4503599627370497 * u * (4503599627370496 * u) = 4503599627370497 * 4503599627370496 * (u * u) := by ac_rfl
    have e2 : 4503599627370496 * u * (9007199254740992 * u) = 4503599627370496 * 9007199254740992 * (u * u) := by ac_rfl
    rw [e1, e2]
    omega)
  refine ⟨q, hq, ?_⟩
  have m1 : s * (24 * r) ≤ s * (W * (4503599627370496 * u) + 64 * u) := Int.mul_le_mul_of_nonneg_left h1 s0
  have m2 : s * (W * (4503599627370496 * u)) ≤ s * (24 * r + 64 * u) := Int.mul_le_mul_of_nonneg_left h2 s0
  have m3 : s * u ≤ 4503599627370497 * u * u := Int.mul_le_mul_of_nonneg_right hs (by omega)
  rw [Int.mul_add] at m1 m2
  have f1 : s * (24 * r) = 24 * (s * r) := by ac_rfl
  have f2 : s * (W * (4503599627370496 * u)) = 4503599627370496 * (s * W * u) := by ac_rfl
  have f3 : s * (64 * u) = 64 * (s * u) := by ac_rfl
  have f4 : 4503599627370497 * u * u = 4503599627370497 * (u * u) := by ac_rfl
  have f5 : 4503599627370496 * u * u = 4503599627370496 * (u * u) := by ac_rfl
  have f6 : 4503599627370496 * u * q = 4503599627370496 * (q * u) := by ac_rfl
  rw [f1, f2, f3] at m1 m2
  rw [f4] at m3
  rw [f5, f6] at a1 a2
  constructor
  · refine Int.le_of_mul_le_mul_right ?_ u0
    rw [Int.add_mul, Int.mul_assoc, Int.mul_assoc 89]
    omega
  · refine Int.le_of_mul_le_mul_right ?_ u0
    rw [Int.add_mul, Int.mul_assoc 24, Int.mul_assoc 89]
    omega
theorem ramp {m1 m2 y : UInt64} {a d r W : Int} (h1 : Pos m1 a) (h2 : Pos m2 (a + d)) (hd : 0 ≤ d) (had : a + d ≤ 4503599627370496 * u) (hy : Pos y r)
    (w1 : 24 * r ≤ W * (4503599627370496 * u) + 64 * u) (w2 : W * (4503599627370496 * u) ≤ 24 * r + 64 * u) (hW0 : 0 ≤ W) (hW : W ≤ 4) :
    ∃ v, Pos (add m1 (mul (mul (sub m2 m1) y) c6)) v ∧ 4 * v ≤ 4 * a + d * W + 101 * u ∧ 4 * a + d * W ≤ 4 * v + 101 * u := by
  have u0 := u_pos
  have a0 := h1.nn
  obtain ⟨s, hs, s1, s2⟩ := sub0 h2 h1 (by omega) (by omega)
  obtain ⟨q, hq, q1, q2⟩ := share hs hy (by omega) w1 w2 hW
  have s0 := hs.nn
  have k1 : s * W ≤ d * W + 4 * u ∧ d * W ≤ s * W + 4 * u ∧ s * W ≤ 4 * s ∧ 0 ≤ s * W := by
    have : W = 0 ∨ W = 1 ∨ W = 2 ∨ W = 3 ∨ W = 4 := by omega
    rcases this with rfl | rfl | rfl | rfl | rfl <;> omega
  obtain ⟨p, hp, p1, p2⟩ := mulcR (K := 1) 0 (by decide) pos6 (G := 1) (by rw [Int.one_mul]) (Int.ofNat_lt.mpr (Nat.two_pow_pos _)) hq rfl (by omega)
  have q0 := hq.nn
  obtain ⟨v, hv, v1, v2⟩ := add0 h1 hp (by omega)
  exact ⟨v, hv, by omega, by omega⟩
end Mine
end

-- part R3
section
open PySem PySem.Float64
set_option maxRecDepth 100000
namespace Mine
abbrev c1 : UInt64 := 4607182418800017408
abbrev cHalf : UInt64 := 4602678819172646912
abbrev cThird : UInt64 := 4599676419421066581
abbrev cSixth : UInt64 := 4595172819793696085
abbrev cTwoThird : UInt64 := 4604180019048437077
def vF (m1 m2 h : UInt64) : UInt64 :=
  if (Float64.cmp (Float64.divmod h c1).2 cSixth == some .lt) = true then Float64.add m1 (Float64.mul (Float64.mul (Float64.sub m2 m1) (Float64.divmod h c1).2) c6)
  else if (Float64.cmp (Float64.divmod h c1).2 cHalf == some .lt) = true then m2
  else if (Float64.cmp (Float64.divmod h c1).2 cTwoThird == some .lt) = true then Float64.add m1 (Float64.mul (Float64.mul (Float64.sub m2 m1) (Float64.sub cTwoThird (Float64.divmod h c1).2)) c6)
  else m1
abbrev lF (t : Int) : UInt64 := Float64.div (Float64.ofInt t) 4629700416936869888
abbrev sF (k : Int) : UInt64 := Float64.div (Float64.ofInt k) 4616189618054758400
abbrev hF (p : Int) : UInt64 := Float64.div (Float64.ofInt p) 4627448617123184640
abbrev m2a (k t : Int) : UInt64 := Float64.mul (lF t) (Float64.add 4607182418800017408 (sF k))
abbrev m2b (k t : Int) : UInt64 := Float64.sub (Float64.add (lF t) (sF k)) (Float64.mul (lF t) (sF k))
abbrev m1F (t : Int) (m2 : UInt64) : UInt64 := Float64.sub (Float64.mul 4611686018427387904 (lF t)) m2
abbrev yF (r g b : UInt64) : UInt64 := Float64.add (Float64.add (Float64.mul 4599075939470750515 r) (Float64.mul 4603489467105573601 g)) (Float64.mul 4592590756007337001 b)
abbrev zF (r g b : UInt64) : UInt64 := Float64.add (Float64.mul (yF r g b) 4677269688000970752) 4602678819172646912
def coefB (x : UInt64) (W : Nat) : Bool := match Float64.decode x with
  | .fin false m e => decide (24 * (m * 2 ^ (e + 1074).toNat) ≤ W * 2 ^ 1074 + 64 * 2 ^ 1022) && decide (W * 2 ^ 1074 ≤ 24 * (m * 2 ^ (e + 1074).toNat) + 64 * 2 ^ 1022)
  | _ => false
theorem coefB_pos {x : UInt64} {W : Nat} (h : coefB x W = true) : ∃ r, Pos x r ∧ 24 * r ≤ (W : Int) * (4503599627370496 * u) + 64 * u ∧ (W : Int) * (4503599627370496 * u) ≤ 24 * r + 64 * u := by
  unfold coefB at h
  split at h
  · rename_i m e hd
    simp only [Bool.and_eq_true, decide_eq_true_eq] at h
    obtain ⟨h1, h2⟩ := h
    refine ⟨_, ⟨⟨m, e, hd⟩, rfl⟩, ?_⟩
    rw [val_eq hd, ← S_u]
    have h1' := Int.ofNat_le.mpr h1
    have h2' := Int.ofNat_le.mpr h2
    rw [Int.natCast_add, Int.natCast_mul 24, Int.natCast_mul W, Int.natCast_mul 64] at h1'
    rw [Int.natCast_add, Int.natCast_mul 24, Int.natCast_mul W, Int.natCast_mul 64] at h2'
    exact ⟨h1', h2'⟩
  · cases h
def hueB (h : UInt64) (W : Nat) : Bool :=
  if (Float64.cmp (Float64.divmod h c1).2 cSixth == some .lt) = true then coefB (Float64.divmod h c1).2 W
  else if (Float64.cmp (Float64.divmod h c1).2 cHalf == some .lt) = true then W == 4
  else if (Float64.cmp (Float64.divmod h c1).2 cTwoThird == some .lt) = true then coefB (Float64.sub cTwoThird (Float64.divmod h c1).2) W
  else W == 0
theorem vF_near {m1 m2 h : UInt64} {a d : Int} {W : Nat} (h1 : Pos m1 a) (h2 : Pos m2 (a + d)) (hd : 0 ≤ d) (had : a + d ≤ 4503599627370496 * u) (hW : W ≤ 4) (hh : hueB h W = true) :
    ∃ v, Pos (vF m1 m2 h) v ∧ 4 * v ≤ 4 * a + d * W + 101 * u ∧ 4 * a + d * W ≤ 4 * v + 101 * u := by
  have u0 := u_pos
  unfold hueB at hh
  unfold vF
  split at hh
  · rename_i c
    rw [if_pos c]
    obtain ⟨r, hr, r1, r2⟩ := coefB_pos hh
    exact ramp h1 h2 hd had hr r1 r2 (by omega) (by omega)
  · rename_i c
    rw [if_neg c]
    split at hh
    · rename_i c
      rw [if_pos c]
      have hW4 : W = 4 := eq_of_beq hh
      subst hW4
      exact ⟨_, h2, by omega, by omega⟩
    · rename_i c
      rw [if_neg c]
      split at hh
      · rename_i c
        rw [if_pos c]
        obtain ⟨r, hr, r1, r2⟩ := coefB_pos hh
        exact ramp h1 h2 hd had hr r1 r2 (by omega) (by omega)
      · rename_i c
        rw [if_neg c]
        have hW0 : W = 0 := eq_of_beq hh
        subst hW0
        exact ⟨_, h1, by omega, by omega⟩
theorem pos03 : Pos 4599075939470750515 (5404319552844595 * ((2 ^ 1020 : Nat) : Int)) := by
  have := posB_pos (x := 4599075939470750515) (v := 5404319552844595 * 2 ^ 1020) (by decide +kernel)
  rwa [Int.natCast_mul] at this
theorem pos059 : Pos 4603489467105573601 (5314247560297185 * ((2 ^ 1021 : Nat) : Int)) := by
  have := posB_pos (x := 4603489467105573601) (v := 5314247560297185 * 2 ^ 1021) (by decide +kernel)
  rwa [Int.natCast_mul] at this
theorem pos011 : Pos 4592590756007337001 (7926335344172073 * ((2 ^ 1018 : Nat) : Int)) := by
  have := posB_pos (x := 4592590756007337001) (v := 7926335344172073 * 2 ^ 1018) (by decide +kernel)
  rwa [Int.natCast_mul] at this
theorem pos512 : Pos 4677269688000970752 (51200 * ((2 ^ 1074 : Nat) : Int)) := by
  have := posB_pos (x := 4677269688000970752) (v := 51200 * 2 ^ 1074) (by decide +kernel)
  rwa [Int.natCast_mul] at this
theorem posHalf : Pos 4602678819172646912 (2251799813685248 * u) := by
  have := posB_pos (x := 4602678819172646912) (v := 2251799813685248 * 2 ^ 1022) (by decide +kernel)
  rwa [Int.natCast_mul] at this
/-- the reckoning behind the three colours: a, d, in 2 ^ 1074ths; the d's of the three weights -/
theorem z_near {r g b : UInt64} {R G B a x y z : Int} (hr : Pos r R) (hg : Pos g G) (hb : Pos b B) (r1 : 4 * R ≤ 4 * a + x + 101 * u) (r2 : 4 * a + x ≤ 4 * R + 101 * u) (g1 : 4 * G ≤ 4 * a + y + 101 * u) (g2 : 4 * a + y ≤ 4 * G + 101 * u)
    (b1 : 4 * B ≤ 4 * a + z + 101 * u) (b2 : 4 * a + z ≤ 4 * B + 101 * u) (hx : 4 * a + x ≤ 4 * (4503599627370496 * u)) (hy : 4 * a + y ≤ 4 * (4503599627370496 * u)) (hz : 4 * a + z ≤ 4 * (4503599627370496 * u)) :
    ∃ v, Pos (zF r g b) v ∧ v ≤ 51200 * a + 3840 * x + 7552 * y + 1408 * z + 2251799813685248 * u + 1125899906842624 * u ∧ 51200 * a + 3840 * x + 7552 * y + 1408 * z + 2251799813685248 * u ≤ v + 1125899906842624 * u := by
  have u0 := u_pos
  have R0 := hr.nn
  have G0 := hg.nn
  have B0 := hb.nn
  obtain ⟨v1, p1, a1, a2⟩ := mulc (K := 1) 0 (by decide) pos03 (G := 18014398509481984) (by decide +kernel) (Int.ofNat_lt.mpr (Nat.two_pow_pos _)) hr rfl (by omega)
  obtain ⟨v2, p2, a3, a4⟩ := mulc (K := 1) 0 (by decide) pos059 (G := 9007199254740992) (by decide +kernel) (Int.ofNat_lt.mpr (Nat.two_pow_pos _)) hg rfl (by omega)
  obtain ⟨v3, p3, a5, a6⟩ := mulc (K := 1) 0 (by decide) pos011 (G := 72057594037927936) (by decide +kernel) (Int.ofNat_lt.mpr (Nat.two_pow_pos _)) hb rfl (by omega)
  have V1 := p1.nn
  have V2 := p2.nn
  have V3 := p3.nn
  have k1 : 10 * v1 ≤ 3 * R + 12 * u ∧ 3 * R ≤ 10 * v1 + 12 * u := by constructor <;> omega
  have k2 : 100 * v2 ≤ 59 * G + 200 * u ∧ 59 * G ≤ 100 * v2 + 200 * u := by constructor <;> omega
  have k3 : 100 * v3 ≤ 11 * B + 200 * u ∧ 11 * B ≤ 100 * v3 + 200 * u := by constructor <;> omega
  clear a1 a2 a3 a4 a5 a6
  obtain ⟨v4, p4, a1, a2⟩ := add0 p1 p2 (by omega)
  obtain ⟨v5, p5, a3, a4⟩ := add0 p4 p3 (by omega)
  obtain ⟨v6, p6, a5, a6⟩ := mulcR (K := 65536) 16 (by decide) pos512 (G := 1) (by rw [Int.one_mul]) (Int.ofNat_lt.mpr (Nat.two_pow_pos _)) p5 rfl (by omega)
  obtain ⟨v7, p7, a7, a8⟩ := add16 p6 posHalf (by omega)
  exact ⟨v7, p7, by omega, by omega⟩
end Mine
end

-- part R4
section
open PySem PySem.Float64
set_option maxRecDepth 100000
namespace Mine
def wI (x : Int) : Int := max 0 (min 4 (8 - min (x % 24) (24 - x % 24)))
def weight (p : Int) : Int := 30 * wI p + 59 * wI (p - 8) + 11 * wI (p - 16)
def upF (p k : Int) : Int := 400 * (4 - k) + 2 * k * weight p
def own (p k t : Int) : Int := if t ≤ 16 then t * upF p k else 51200 - (32 - t) * (3200 - upF p k)
def Good (z : UInt64) (n : Int) : Prop := ∃ m e, decode z = .fin false m e ∧ truncOf false m e = n
theorem wI_range (x : Int) : 0 ≤ wI x ∧ wI x ≤ 4 := by unfold wI; omega
theorem eS : ∀ k : Nat, k < 5 → (Float64.cmp (sF k) 0 == some .eq) = decide (k = 0) := by decide +kernel
theorem eL : ∀ t : Nat, t < 33 → ((Float64.cmp (lF t) cHalf == some .lt) || (Float64.cmp (lF t) cHalf == some .eq)) = decide (t ≤ 16) := by decide +kernel
theorem eT : ∀ t : Nat, t < 33 → posB (lF t) (4 * t * 2 ^ 1067) = true := by decide +kernel
theorem eA : ∀ k : Nat, k < 5 → ∀ t : Nat, t < 17 → (posB (m2a k t) (t * (4 + k) * 2 ^ 1067) && posB (m1F t (m2a k t)) (t * (4 - k) * 2 ^ 1067)) = true := by decide +kernel
theorem eB : ∀ k : Nat, k < 5 → ∀ r : Nat, r < 16 → (posB (m2b k (32 - r)) ((128 + r * k - 4 * r) * 2 ^ 1067) && posB (m1F (32 - r) (m2b k (32 - r))) ((128 - 4 * r - r * k) * 2 ^ 1067)) = true := by decide +kernel
theorem eH0 : ∀ p : Nat, p < 96 → hueB (Float64.add (hF p) cThird) (wI p).toNat = true := by decide +kernel
theorem eH1 : ∀ p : Nat, p < 96 → hueB (hF p) (wI (p - 8)).toNat = true := by decide +kernel
theorem eH2 : ∀ p : Nat, p < 96 → hueB (Float64.sub (hF p) cThird) (wI (p - 16)).toNat = true := by decide +kernel
theorem p1067 (n : Nat) : ((n * 2 ^ 1067 : Nat) : Int) = (n : Int) * (35184372088832 * u) := by
  rw [Int.natCast_mul, show ((2 ^ 1067 : Nat) : Int) = 35184372088832 * u from by unfold u; decide +kernel]
theorem fin_step {r g b : UInt64} {R G B A D x y z : Int} (hr : Pos r R) (hg : Pos g G) (hb : Pos b B)
    (r1 : 4 * R ≤ 4 * (A * (35184372088832 * u)) + D * (35184372088832 * u) * x + 101 * u) (r2 : 4 * (A * (35184372088832 * u)) + D * (35184372088832 * u) * x ≤ 4 * R + 101 * u)
    (g1 : 4 * G ≤ 4 * (A * (35184372088832 * u)) + D * (35184372088832 * u) * y + 101 * u) (g2 : 4 * (A * (35184372088832 * u)) + D * (35184372088832 * u) * y ≤ 4 * G + 101 * u)
    (b1 : 4 * B ≤ 4 * (A * (35184372088832 * u)) + D * (35184372088832 * u) * z + 101 * u) (b2 : 4 * (A * (35184372088832 * u)) + D * (35184372088832 * u) * z ≤ 4 * B + 101 * u)
    (hD : 0 ≤ D) (hAD : A + D ≤ 128) (hx : x ≤ 4) (hy : y ≤ 4) (hz : z ≤ 4) : Good (zF r g b) (400 * A + D * (30 * x + 59 * y + 11 * z)) := by
  have u0 := u_pos
  have hs : ∀ w : Int, w ≤ 4 → 4 * (A * (35184372088832 * u)) + D * (35184372088832 * u) * w ≤ 4 * (4503599627370496 * u) := by
    intro w hw
    have h1 : D * (35184372088832 * u) * w ≤ D * (35184372088832 * u) * 4 := Int.mul_le_mul_of_nonneg_left hw (Int.mul_nonneg hD (by omega))
    have h2 : (A + D) * (35184372088832 * u) ≤ 128 * (35184372088832 * u) := Int.mul_le_mul_of_nonneg_right hAD (by omega)
    rw [Int.add_mul] at h2
    omega
  obtain ⟨v, hv, v1, v2⟩ := z_near hr hg hb r1 r2 g1 g2 b1 b2 (hs x hx) (hs y hy) (hs z hz)
  have hT : 51200 * (A * (35184372088832 * u)) + 3840 * (D * (35184372088832 * u) * x) + 7552 * (D * (35184372088832 * u) * y) + 1408 * (D * (35184372088832 * u) * z) = (400 * A + D * (30 * x + 59 * y + 11 * z)) * (4503599627370496 * u) := by
    grind
  rw [hT] at v1 v2
  refine pos_trunc hv ?_ ?_
  · rw [S_u]; omega
  · rw [S_u, Int.add_mul]; omega
end Mine
end

-- part R5
section
open PySem PySem.Float64
set_option maxRecDepth 100000
namespace Mine
theorem wI_nat (x : Int) : ((wI x).toNat : Int) = wI x := by have := wI_range x; omega
theorem bright0 {p k t : Int} (hk : 0 ≤ k ∧ k < 5) (ht : 0 ≤ t ∧ t < 33) (c : (Float64.cmp (sF k) 0 == some .eq) = true) : Good (zF (lF t) (lF t) (lF t)) (own p k t) := by
  obtain ⟨t, rfl⟩ := Int.eq_ofNat_of_zero_le ht.1
  obtain ⟨k, rfl⟩ := Int.eq_ofNat_of_zero_le hk.1
  rw [eS k (by omega)] at c
  have hk0 : k = 0 := by simpa using c
  subst hk0
  have u0 := u_pos
  have hl := posB_pos (eT t (by omega))
  rw [p1067] at hl
  have := fin_step (A := ((4 * t : Nat) : Int)) (D := 0) (x := 0) (y := 0) (z := 0) hl hl hl (by omega) (by omega) (by omega) (by omega) (by omega) (by omega) (by omega) (by omega) (by omega) (by omega) (by omega)
  have e : own p ((0 : Nat) : Int) t = 400 * ((4 * t : Nat) : Int) + 0 * (30 * 0 + 59 * 0 + 11 * 0) := by unfold own upF; split <;> omega
  rw [e]
  exact this
theorem bright_of {m1 m2 : UInt64} {A D p N : Int} (hp : 0 ≤ p ∧ p < 96) (h1 : Pos m1 (A * (35184372088832 * u))) (h2 : Pos m2 (A * (35184372088832 * u) + D * (35184372088832 * u))) (hD : 0 ≤ D) (hAD : A + D ≤ 128) (hN : N = 400 * A + D * weight p) :
    Good (zF (vF m1 m2 (Float64.add (hF p) cThird)) (vF m1 m2 (hF p)) (vF m1 m2 (Float64.sub (hF p) cThird))) N := by
  obtain ⟨p, rfl⟩ := Int.eq_ofNat_of_zero_le hp.1
  have u0 := u_pos
  have w0 := wI_range (p : Int)
  have w1 := wI_range ((p : Int) - 8)
  have w2 := wI_range ((p : Int) - 16)
  have hd : 0 ≤ D * (35184372088832 * u) := Int.mul_nonneg hD (by omega)
  have had : A * (35184372088832 * u) + D * (35184372088832 * u) ≤ 4503599627370496 * u := by
    have h2 : (A + D) * (35184372088832 * u) ≤ 128 * (35184372088832 * u) := Int.mul_le_mul_of_nonneg_right hAD (by omega)
    rw [Int.add_mul] at h2
    omega
  obtain ⟨R, hr, r1, r2⟩ := vF_near h1 h2 hd had (by omega) (eH0 p (by omega))
  obtain ⟨G, hg, g1, g2⟩ := vF_near h1 h2 hd had (by omega) (eH1 p (by omega))
  obtain ⟨B, hb, b1, b2⟩ := vF_near h1 h2 hd had (by omega) (eH2 p (by omega))
  rw [wI_nat] at r1 r2 g1 g2 b1 b2
  rw [hN]
  exact fin_step hr hg hb r1 r2 g1 g2 b1 b2 hD hAD w0.2 w1.2 w2.2
theorem bright1 {p k t : Int} (hp : 0 ≤ p ∧ p < 96) (hk : 0 ≤ k ∧ k < 5) (ht : 0 ≤ t ∧ t < 33) (c : ((Float64.cmp (lF t) cHalf == some .lt) || (Float64.cmp (lF t) cHalf == some .eq)) = true) :
    Good (zF (vF (m1F t (m2a k t)) (m2a k t) (Float64.add (hF p) cThird)) (vF (m1F t (m2a k t)) (m2a k t) (hF p)) (vF (m1F t (m2a k t)) (m2a k t) (Float64.sub (hF p) cThird))) (own p k t) := by
  obtain ⟨t, rfl⟩ := Int.eq_ofNat_of_zero_le ht.1
  obtain ⟨k, rfl⟩ := Int.eq_ofNat_of_zero_le hk.1
  rw [eL t (by omega)] at c
  have ht16 : t ≤ 16 := by simpa using c
  have h := eA k (by omega) t (by omega)
  rw [Bool.and_eq_true] at h
  have h2 := posB_pos h.1
  have h1 := posB_pos h.2
  rw [p1067] at h1 h2
  have e4 : ((4 - k : Nat) : Int) = 4 - k := by omega
  refine bright_of (A := ((t * (4 - k) : Nat) : Int)) (D := ((2 * t * k : Nat) : Int)) hp h1 ?_ (Int.natCast_nonneg _) ?_ ?_
  · rw [← Int.add_mul]
    have e : ((t * (4 - k) : Nat) : Int) + ((2 * t * k : Nat) : Int) = ((t * (4 + k) : Nat) : Int) := by
      simp only [Int.natCast_mul, e4, Int.natCast_add]
      grind
    rw [e]
    exact h2
  · have : k = 0 ∨ k = 1 ∨ k = 2 ∨ k = 3 ∨ k = 4 := by omega
    rcases this with rfl | rfl | rfl | rfl | rfl <;> omega
  · unfold own upF
    rw [if_pos (by omega)]
    simp only [Int.natCast_mul, e4]
    grind
theorem bright2 {p k t : Int} (hp : 0 ≤ p ∧ p < 96) (hk : 0 ≤ k ∧ k < 5) (ht : 0 ≤ t ∧ t < 33) (c : ((Float64.cmp (lF t) cHalf == some .lt) || (Float64.cmp (lF t) cHalf == some .eq)) = false) :
    Good (zF (vF (m1F t (m2b k t)) (m2b k t) (Float64.add (hF p) cThird)) (vF (m1F t (m2b k t)) (m2b k t) (hF p)) (vF (m1F t (m2b k t)) (m2b k t) (Float64.sub (hF p) cThird))) (own p k t) := by
  obtain ⟨t, rfl⟩ := Int.eq_ofNat_of_zero_le ht.1
  obtain ⟨k, rfl⟩ := Int.eq_ofNat_of_zero_le hk.1
  rw [eL t (by omega)] at c
  have ht16 : 16 < t := by simpa using c
  obtain ⟨r, hr⟩ : ∃ r : Nat, (t : Int) = 32 - r ∧ r < 16 := ⟨32 - t, by omega⟩
  have h := eB k (by omega) r hr.2
  rw [← hr.1, Bool.and_eq_true] at h
  have h2 := posB_pos h.1
  have h1 := posB_pos h.2
  rw [p1067] at h1 h2
  have hk' : k = 0 ∨ k = 1 ∨ k = 2 ∨ k = 3 ∨ k = 4 := by omega
  have hA : ((128 - 4 * r - r * k : Nat) : Int) = 128 - 4 * r - r * k := by rcases hk' with rfl | rfl | rfl | rfl | rfl <;> omega
  have hB : ((128 + r * k - 4 * r : Nat) : Int) = 128 + r * k - 4 * r := by rcases hk' with rfl | rfl | rfl | rfl | rfl <;> omega
  refine bright_of (A := ((128 - 4 * r - r * k : Nat) : Int)) (D := ((2 * r * k : Nat) : Int)) hp h1 ?_ (Int.natCast_nonneg _) ?_ ?_
  · rw [← Int.add_mul]
    have e : ((128 - 4 * r - r * k : Nat) : Int) + ((2 * r * k : Nat) : Int) = ((128 + r * k - 4 * r : Nat) : Int) := by
      rw [hA, hB]
      simp only [Int.natCast_mul]
      grind
    rw [e]
    exact h2
  · rw [hA]
    rcases hk' with rfl | rfl | rfl | rfl | rfl <;> omega
  · unfold own upF
    rw [if_neg (by omega), hA, hr.1]
    simp only [Int.natCast_mul]
    grind
end Mine
end

-- part C0
section
open PySem PySem.W PyProof.Rows
set_option maxRecDepth 100000
set_option maxHeartbeats 8000000
namespace Mine
noncomputable abbrev LS : List Str := (looseW Mine.hd.view_39
            [Str.ofString "ONE_THIRD", Str.ofString "ONE_SIXTH", Str.ofString "TWO_THIRD", Str.ofString "bisect_right",
              Str.ofString "bisect_left"] ++
          List.map (fun x => x.name) (recsOf Mine.hd.view_39) ++
        List.map (fun x => x.fst) (litsOf Mine.hd.view_39) ++
      List.map (fun x => x.name)
        (clssOf Mine.hd.view_39
          (looseW Mine.hd.view_39
            [Str.ofString "ONE_THIRD", Str.ofString "ONE_SIXTH", Str.ofString "TWO_THIRD", Str.ofString "bisect_right",
              Str.ofString "bisect_left"])))
/-- a call of the def at f from any frame, over any ledger, hands back a value that Post says; the ledger stands -/
abbrev Cl (w : World) (mean : ExcName → Option Value) (mg mb : Str → Option Value) (f : Addr) (n : Nat) (news : List (Addr × Obj)) (vs : List Value) (Post : Value → Prop) : Prop :=
  ∀ (dp un : Nat) (gd : Option (List Code)) (cn : Str) (cs : Scope) (a : Addr) (ccd : Value) (cl : List (Str × Addr)) (outer : List Env) (A₀ : Around) (base h₀ : Heap) (L : Addr) (m : Str → Option Value) (s : Shared) (Q E : Value → Shared → Prop),
    Below A₀ base outer h₀ → Fr h₀ L s.heap m → (Mine.hd.heap_39 w.params).In h₀ → News h₀ L s.heap news → Top topProg LS mean mg mb h₀ → cs.kind = .function →
    dp + n < recursionLimit → un + 8 * n < cLine →
    (∀ (v : Value) (h' : Heap) (tk' : Nat), Post v → Fr h₀ L h' m → News h₀ L h' news → Q v { s with heap := h', toks := tk' }) →
      wpAny (model PySem.Challenge.rw_pe0089_01.row.prog w) (ktrTop dp un gd cn cs L a ccd cl outer) (call (.ref f) vs) Q E s
theorem Cl.use {w : World} {mean : ExcName → Option Value} {mg mb : Str → Option Value} {f : Addr} {n : Nat} {news : List (Addr × Obj)} {vs : List Value} {Post : Value → Prop} (C : Cl w mean mg mb f n news vs Post)
    {dp un : Nat} {gd : Option (List Code)} {cn : Str} {cs : Scope} {a : Addr} {ccd : Value} {cl : List (Str × Addr)} {outer : List Env} {A₀ : Around} {base h₀ : Heap} {L : Addr} {m : Str → Option Value} {s : Shared} {Q E : Value → Shared → Prop}
    (B : Below A₀ base outer h₀) (F : Fr h₀ L s.heap m) (X : (Mine.hd.heap_39 w.params).In h₀) (N : News h₀ L s.heap news) (T : Top topProg LS mean mg mb h₀) (hk : cs.kind = .function) (hd : dp + n < recursionLimit) (hu : un + 8 * n < cLine)
    (ret : ∀ (v : Value) (h' : Heap) (tk' : Nat), Post v → Fr h₀ L h' m → News h₀ L h' news → Q v { s with heap := h', toks := tk' }) :
    wpAny (model PySem.Challenge.rw_pe0089_01.row.prog w) (ktrTop dp un gd cn cs L a ccd cl outer) (call (.ref f) vs) Q E s :=
  C _ _ _ _ _ _ _ _ _ _ _ _ _ _ _ _ _ B F X N T hk hd hu ret
theorem fill (w : World) : (Mine.hd.heap_39 w.params, PySem.Challenge.rw_pe0089_01) = (Mine.hd.heap_39 w.params, PySem.Challenge.rw_pe0089_01) := by w_top off; k_fill; rfl

theorem fl_end {x y : UInt64} {t : Tok} (h : x = y) : ∃ t', Value.float y t = Value.float x t' := ⟨t, by rw [h]⟩
theorem v_cl (w : World) (mean : ExcName → Option Value) (mg mb : Str → Option Value) (m1 m2 hue : UInt64) (t1 t2 t3 : Tok) (news : List (Addr × Obj)) :
    Cl w mean mg mb 35 1 news [.float m1 t1, .float m2 t2, .float hue t3] (fun v => ∃ t, v = .float (vF m1 m2 hue) t) := by
  intro dp un gd cn cs a ccd cl outer A₀ base h₀ L m s Q E B F X N T hk hd hu hret
  refine wpAny_call ?_
  k_dflt ktr_enter
  k_steps
  all_goals (refine hret _ _ _ ?_ (by k_asm) (by k_asm); refine fl_end ?_; unfold vF; simp only [*, if_true, if_false, Bool.false_eq_true])
end Mine
end

-- part C1
section
open PySem PySem.W PyProof.Rows
set_option maxRecDepth 100000
set_option maxHeartbeats 8000000
namespace Mine
theorem good_nan {z : UInt64} {n : Int} (h : Good z n) (c : Float64.isNaN z = true) : False := by
  obtain ⟨m, e, hd, _⟩ := h
  unfold Float64.isNaN at c
  rw [hd] at c
  cases c
theorem good_inf {z : UInt64} {n : Int} (h : Good z n) (c : Float64.isInf z = true) : False := by
  obtain ⟨m, e, hd, _⟩ := h
  unfold Float64.isInf at c
  rw [hd] at c
  cases c
theorem good_end {z : UInt64} {n : Int} {t : Tok} (h : Good z n) : ∃ t', Value.int (Flt.toInt Float64.truncOf z) t = Value.int n t' := by
  obtain ⟨m, e, hd, hn⟩ := h
  refine ⟨t, ?_⟩
  unfold Flt.toInt
  rw [hd]
  simp only
  rw [hn]
local macro_rules | `(tactic| k_room) => `(tactic| ktr_room)
theorem fill1 (w : World) : (Mine.hd.heap_39 w.params, PySem.Challenge.rw_pe0089_01) = (Mine.hd.heap_39 w.params, PySem.Challenge.rw_pe0089_01) := by w_top off; k_fill; rfl
theorem bright_cl (w : World) (mean : ExcName → Option Value) (mg mb : Str → Option Value) (p k t : Int) (t1 t2 t3 : Tok) (news : List (Addr × Obj)) (hp : 0 ≤ p ∧ p < 96) (hk : 0 ≤ k ∧ k < 5) (ht : 0 ≤ t ∧ t < 33) :
    Cl w mean mg mb 60 3 news [.int p t1, .int k t2, .int t t3] (fun v => ∃ t', v = .int (own p k t) t') := by
  intro dp un gd cn cs a ccd cl outer A₀ base h₀ L m s Q E B F X N T hkd hd hu hret
  k_with_none
  k_with "call ref" => (k_dflt (refine' Cl.use (v_cl _ _ _ _ _ _ _ _ _ _ _) ?k1 ?k2 ?k3 ?k4 ?k5 ?k6 ?k7 ?k8 ?_; (case k1 => k_asm); (case k2 => k_asm); (case k3 => k_asm); (case k4 => k_asm); (case k5 => k_asm); (case k6 => first | exact rfl | assumption); (case k7 => ktr_room); (case k8 => ktr_units)); intro v9 h9 tk9 e9 F9 N9; (refine Exists.elim e9 ?_; clear e9; intro t9 e9; subst e9); (try dsimp only); (try k_fold))
  refine wpAny_call ?_
  k_dflt ktr_enter
  k_steps
  all_goals first
    | exact (good_nan (bright0 (p := p) hk ht (by assumption)) (by assumption)).elim
    | exact (good_inf (bright0 (p := p) hk ht (by assumption)) (by assumption)).elim
    | exact (good_nan (bright1 hp hk ht (by assumption)) (by assumption)).elim
    | exact (good_inf (bright1 hp hk ht (by assumption)) (by assumption)).elim
    | exact (good_nan (bright2 hp hk ht (by assumption)) (by assumption)).elim
    | exact (good_inf (bright2 hp hk ht (by assumption)) (by assumption)).elim
    | refine hret _ _ _ (good_end (bright0 hk ht (by assumption))) (by k_asm) (cb_drop (by assumption) fun p hp => List.mem_cons_of_mem _ (List.mem_cons_of_mem _ hp))
    | refine hret _ _ _ (good_end (bright1 hp hk ht (by assumption))) (by k_asm) (cb_drop (by assumption) fun p hp => List.mem_cons_of_mem _ (List.mem_cons_of_mem _ hp))
    | refine hret _ _ _ (good_end (bright2 hp hk ht (by assumption))) (by k_asm) (cb_drop (by assumption) fun p hp => List.mem_cons_of_mem _ (List.mem_cons_of_mem _ hp))
  k_with_none
end Mine
end

-- part F0
section
open PySem PySem.W PyProof.Rows PySem.Calls
set_option maxRecDepth 100000
namespace Mine
/-- a def entered with a part of the ledger alone (own); the rest stands as it stood when the def has returned -/
theorem code_fr {prog : Program} {w : World} {A₀ A : Around} {s : Shared} {base h₀ : Heap} {outer : List Env} {L : Addr} {m mg mb : Str → Option Value} {env : Env} {own news : List (Addr × Obj)} {K : Frag} {p : Program} {loose : List Str} {mean : ExcName → Option Value}
    {R : Result → Shared → Prop} {name qual : Str} {params : Arguments} {body : List Stmt} {scope : Scope} {dV kV doc pm cdv ct oc : Value} {an od : Option Addr} {osl : Array (Option Value)} {f : Addr} {args : Args} {binds : List (Str × Value)}
    (B : Below A₀ base outer h₀) (F : Fr h₀ L s.heap m) (X₀ : K.In h₀) (N : News h₀ L s.heap news) (NO : News h₀ L s.heap own) (hdis : ∀ q ∈ news, q.1 ∉ own.map (·.1)) (T : Top p loose mean mg mb h₀) (hA : A.frames = some (env :: outer)) (hf : env.frame = some L) (hke : env.scope.kind = .function)
    (ho : K.lookup f = some ⟨oc, od, .func (fnOf name qual params body scope dV kV doc pm an cdv ct), osl⟩) (hcd : codeIn K cdv qual = true) (hroom : A.depth < recursionLimit)
    (hbind : BindsTo s (fnOf name qual params body scope dV kV doc pm an cdv ct) args binds) (hloc : ∀ y ∈ binds, scope.names.lookup y.1 = some .local)
    (h : ∀ g L' h₁, Fr h₀ L g m → Fr g L' h₁ (fun y => binds.reverse.lookup y) → News g L' h₁ own → Below A base (env :: outer) g → K.In g → Top p loose mean mg mb g →
      wpAny (model prog w) (A.deeper (envOf qual scope L' f cdv)) (execs body (envOf qual scope L' f cdv))
        (fun fl s' => LeaveK h₀ L m g (fun r s'' => News h₀ L s''.heap news → R r s'') (match fl with | .ret v => v | _ => .none) s')
        (fun e s' => wpAny (model prog w) (A.deeper (envOf qual scope L' f cdv)) (leaving (envOf qual scope L' f cdv) e) (fun _ s'' => R (.error e) s'') (fun e' s'' => R (.error e') s'') s')
        { s with heap := h₁, toks := s.toks + binds.length })
    (hco : scope.isCoroutine = false) (hgen : scope.isGenerator = false) (hk : scope.kind = .function) (hcell : ∀ x ∈ scope.names, x.2 ≠ .cell) : codeAny (model prog w) A (.call (.ref f) args) R s := by
  obtain ⟨FG, BG, st, lv⟩ := groundX (R := R) B F NO hA hf hke
  have XS := X₀.keeps F.keep
  refine codeAny_call_def (fd := fnOf name qual params body scope dV kV doc pm an cdv ct) (body := body) (binds := binds) hroom (XS _ _ ho) rfl (T.nolimit.keeps F.keep) (codeRec_of XS hcd) rfl hbind hcell hloc (fun h₁ hns hk₁ => ?_) hco hgen hk
  refine wpAny_mono (h _ s.heap.objs.size h₁ FG ⟨hns, fun b o e => hk₁ b o (of_hideAll _ e), Nat.le_of_eq (hideAll_size _ _)⟩
    (fun q hq => ⟨hk₁ _ _ (NO q hq).1, Nat.ne_of_lt (Heap.lt_size (NO q hq).1), hideAll_none _ (List.mem_map_of_mem hq)⟩) BG (X₀.keeps st) (T.keeps st)) (fun fl s' hl => lv _ _ ?_) fun _ _ y => y
  obtain ⟨L', m', news', F', N', k⟩ := hl
  exact ⟨L', m', news', F', N', fun a b => k a b fun q hq => ⟨F'.keep _ _ (hideAll_get _ (N q hq).1 (hdis q hq)), (N q hq).2⟩⟩
end Mine
end

-- part C2
section
open PySem PySem.W PyProof.Rows
set_option maxRecDepth 100000
set_option maxHeartbeats 8000000
namespace Mine
local macro_rules | `(tactic| k_room) => `(tactic| ktr_room)
local macro_rules | `(tactic| ktr_enter) => `(tactic| (refine' code_fr (own := []) ?k1 ?k2 ?k3 ?k4 ?kO ?kD ?k5 ?kA ?kF ?kK ?k6 ?k7 ?k8 ?k9 ?kB ?_ ?c2 ?c3 ?c4 ?c5; (case kA => exact rfl); (case kF => exact rfl); (case kK => assumption); (case k1 => k_asm); (case k2 => k_asm); (case k3 => k_asm); (case k4 => k_asm); (case kO => exact News.nil); (case kD => exact fun _ _ h9 => nomatch h9); (case k5 => k_asm); (case k6 => k_is); (case k7 => k_is); (case k8 => ktr_room); (case k9 => exact BindsTo.of_eq rfl); (case c5 => decide); (case kB => exact locs rfl); (case c2 => exact rfl); (case c3 => exact rfl); (case c4 => exact rfl); k_whole; intro g' L' h' FG' F' N' B' X' T'; (try dsimp only); (try k_fold)))
theorem fill2 (w : World) : (Mine.hd.heap_39 w.params, PySem.Challenge.rw_pe0089_01) = (Mine.hd.heap_39 w.params, PySem.Challenge.rw_pe0089_01) := by w_top off; k_fill; rfl
theorem int_end {x y : Int} {t : Tok} (h : x = y) : ∃ t', Value.int x t = Value.int y t' := ⟨t, by rw [h]⟩
theorem wI_ifs (a : Int) : wI a = if (if (8 - if 24 - a.fmod 24 < a.fmod 24 then 24 - a.fmod 24 else a.fmod 24) < 4 then (8 - if 24 - a.fmod 24 < a.fmod 24 then 24 - a.fmod 24 else a.fmod 24) else 4) > 0 then
    (if (8 - if 24 - a.fmod 24 < a.fmod 24 then 24 - a.fmod 24 else a.fmod 24) < 4 then (8 - if 24 - a.fmod 24 < a.fmod 24 then 24 - a.fmod 24 else a.fmod 24) else 4) else 0 := by
  rw [Int.fmod_eq_emod_of_nonneg a (by decide)]
  unfold wI
  repeat' split
  all_goals omega
theorem weight_range (p : Int) : 0 ≤ weight p ∧ weight p ≤ 400 := by
  have := wI_range p
  have := wI_range (p - 8)
  have := wI_range (p - 16)
  unfold weight
  omega
theorem weight_cl (w : World) (mean : ExcName → Option Value) (mg mb : Str → Option Value) (p : Int) (t1 : Tok) (news : List (Addr × Obj)) :
    Cl w mean mg mb 67 1 news [.int p t1] (fun v => ∃ t', v = .int (weight p) t') := by
  intro dp un gd cn cs a ccd cl outer A₀ base h₀ L m s Q E B F X N T hkd hd hu hret
  k_with_none
  refine wpAny_call ?_
  k_dflt ktr_enter
  k_steps
  refine hret _ _ _ (int_end ?_) (by k_asm) (by k_asm)
  simp only [weight, wI_ifs, Int.sub_zero, Int.zero_add]
theorem up_range (p k : Int) (hk : 0 ≤ k ∧ k < 5) (hp : 0 ≤ p ∧ p < 96) : 0 < 400 * (4 - k) + 2 * k * weight p ∧ 400 * (4 - k) + 2 * k * weight p < 3200 := by
  have hw : 44 ≤ weight p ∧ weight p ≤ 356 := by
    obtain ⟨p, rfl⟩ := Int.eq_ofNat_of_zero_le hp.1
    exact (by decide +kernel : ∀ p : Nat, p < 96 → 44 ≤ weight p ∧ weight p ≤ 356) p (by omega)
  have : k = 0 ∨ k = 1 ∨ k = 2 ∨ k = 3 ∨ k = 4 := by omega
  rcases this with rfl | rfl | rfl | rfl | rfl <;> omega
theorem own_cl (w : World) (mean : ExcName → Option Value) (mg mb : Str → Option Value) (p k t : Int) (t1 t2 t3 : Tok) (news : List (Addr × Obj)) (hk : 0 ≤ k ∧ k < 5) (ht : 0 ≤ t ∧ t < 33) :
    Cl w mean mg mb 81 3 news [.int p t1, .int k t2, .int t t3] (fun v => ∃ t', v = .int (own p k t) t') := by
  intro dp un gd cn cs a ccd cl outer A₀ base h₀ L m s Q E B F X N T hkd hd hu hret
  k_with_none
  k_with "call ref" => (k_dflt (refine' Cl.use (weight_cl _ _ _ _ _ _ _) ?k1 ?k2 ?k3 ?k4 ?k5 ?k6 ?k7 ?k8 ?_; (case k1 => k_asm); (case k2 => k_asm); (case k3 => k_asm); (case k4 => k_asm); (case k5 => k_asm); (case k6 => first | exact rfl | assumption); (case k7 => ktr_room); (case k8 => ktr_units)); intro v9 h9 tk9 e9 F9 N9; (refine Exists.elim e9 ?_; clear e9; intro t9 e9; subst e9); (have w9 := weight_range p); (try dsimp only); (try k_fold))
  refine wpAny_call ?_
  k_dflt ktr_enter
  k_steps
  · refine hret _ _ _ (int_end ?_) (by k_asm) (by k_asm)
    unfold own upF
    rw [if_pos (by omega)]
  · refine hret _ _ _ (int_end ?_) (by k_asm) (by k_asm)
    unfold own upF
    rw [if_neg (by omega)]
  k_with_none
def less (p k x : Int) : Int := if x ≤ 16 * upF p k then (x + upF p k - 1).fdiv (upF p k) else 32 - (51200 - x).fdiv (3200 - upF p k)
theorem less_cl (w : World) (mean : ExcName → Option Value) (mg mb : Str → Option Value) (p k x : Int) (t1 t2 t3 : Tok) (news : List (Addr × Obj)) (hp : 0 ≤ p ∧ p < 96) (hk : 0 ≤ k ∧ k < 5) (hx : 0 ≤ x ∧ x ≤ 51201) :
    Cl w mean mg mb 88 3 news [.int p t1, .int k t2, .int x t3] (fun v => ∃ t', v = .int (less p k x) t') := by
  intro dp un gd cn cs a ccd cl outer A₀ base h₀ L m s Q E B F X N T hkd hd hu hret
  k_with_none
  k_with "call ref" => (k_dflt (refine' Cl.use (weight_cl _ _ _ _ _ _ _) ?k1 ?k2 ?k3 ?k4 ?k5 ?k6 ?k7 ?k8 ?_; (case k1 => k_asm); (case k2 => k_asm); (case k3 => k_asm); (case k4 => k_asm); (case k5 => k_asm); (case k6 => first | exact rfl | assumption); (case k7 => ktr_room); (case k8 => ktr_units)); intro v9 h9 tk9 e9 F9 N9; (refine Exists.elim e9 ?_; clear e9; intro t9 e9; subst e9); (have w9 := weight_range p); (have u9 := up_range p k hk hp); (try dsimp only); (try k_fold))
  refine wpAny_call ?_
  k_dflt ktr_enter
  k_steps
  · refine hret _ _ _ (int_end ?_) (by k_asm) (by k_asm)
    unfold less upF
    rw [if_pos (by omega)]
  · refine hret _ _ _ (int_end ?_) (by k_asm) (by k_asm)
    unfold less upF
    rw [if_neg (by omega)]
  k_with_none
end Mine
end

-- part L1
section
open PySem PySem.W PyProof.Rows
set_option maxRecDepth 100000
namespace Mine
theorem up_pos {p k : Int} (hp : 0 ≤ p ∧ p < 96) (hk : 0 ≤ k ∧ k < 5) : 0 < upF p k ∧ 0 < 3200 - upF p k := by
  have := up_range p k hk hp
  unfold upF
  omega
theorem less_iff {p k x i : Int} (hp : 0 ≤ p ∧ p < 96) (hk : 0 ≤ k ∧ k < 5) (hi : 0 ≤ i ∧ i < 33) (hx : x ≤ 51201) : own p k i < x ↔ i < less p k x := by
  obtain ⟨u0, o0⟩ := up_pos hp hk
  unfold own less
  generalize upF p k = u at *
  rw [Int.fdiv_eq_ediv_of_nonneg _ (by omega), Int.fdiv_eq_ediv_of_nonneg _ (by omega)]
  by_cases h1 : x ≤ 16 * u
  · rw [if_pos h1]
    have a1 := Int.mul_ediv_add_emod (x + u - 1) u
    have a2 := Int.emod_nonneg (x + u - 1) (show u ≠ 0 by omega)
    have a3 := Int.emod_lt_of_pos (x + u - 1) u0
    generalize (x + u - 1) / u = c at *
    generalize (x + u - 1) % u = r at *
    by_cases h2 : i ≤ 16
    · rw [if_pos h2]
      constructor
      · intro h
        apply Int.lt_of_not_ge
        intro hc
        have := Int.mul_le_mul_of_nonneg_left hc (Int.le_of_lt u0)
        rw [Int.mul_comm i u] at h
        omega
      · intro h
        have h' : c ≥ i + 1 := h
        have := Int.mul_le_mul_of_nonneg_left h' (Int.le_of_lt u0)
        rw [Int.mul_add] at this
        rw [Int.mul_comm i u]
        omega
    · rw [if_neg h2]
      have b1 : (32 - i) * (3200 - u) ≤ 15 * (3200 - u) := Int.mul_le_mul_of_nonneg_right (by omega) (by omega)
      constructor
      · intro h
        omega
      · intro h
        exfalso
        have h' : (17 : Int) + 1 ≤ c := by omega
        have := Int.mul_le_mul_of_nonneg_left h' (Int.le_of_lt u0)
        omega
  · rw [if_neg h1]
    have a1 := Int.mul_ediv_add_emod (51200 - x) (3200 - u)
    have a2 := Int.emod_nonneg (51200 - x) (show 3200 - u ≠ 0 by omega)
    have a3 := Int.emod_lt_of_pos (51200 - x) o0
    generalize (51200 - x) / (3200 - u) = c at *
    generalize (51200 - x) % (3200 - u) = r at *
    generalize ho : 3200 - u = o at *
    by_cases h2 : i ≤ 16
    · rw [if_pos h2]
      have b1 : i * u ≤ 16 * u := Int.mul_le_mul_of_nonneg_right h2 (by omega)
      constructor
      · intro h
        apply Int.lt_of_not_ge
        intro hc
        have h' : 16 ≤ c := by omega
        have := Int.mul_le_mul_of_nonneg_left h' (Int.le_of_lt o0)
        omega
      · intro h
        omega
    · rw [if_neg h2]
      constructor
      · intro h
        apply Int.lt_of_not_ge
        intro hc
        have h' : 32 - i ≤ c := by omega
        have := Int.mul_le_mul_of_nonneg_left h' (Int.le_of_lt o0)
        rw [Int.mul_comm (32 - i) o] at h
        omega
      · intro h
        have h' : c + 1 ≤ 32 - i := by omega
        have := Int.mul_le_mul_of_nonneg_left h' (Int.le_of_lt o0)
        rw [Int.mul_add] at this
        rw [Int.mul_comm (32 - i) o]
        omega
theorem own_range {p k i : Int} (hp : 0 ≤ p ∧ p < 96) (hk : 0 ≤ k ∧ k < 5) (hi : 0 ≤ i ∧ i < 33) : 0 ≤ own p k i ∧ own p k i ≤ 51200 := by
  obtain ⟨u0, o0⟩ := up_pos hp hk
  unfold own
  generalize upF p k = u at *
  split
  · have a1 : 0 * u ≤ i * u := Int.mul_le_mul_of_nonneg_right hi.1 (by omega)
    have a2 : i * u ≤ 16 * u := Int.mul_le_mul_of_nonneg_right (by omega) (by omega)
    omega
  · have a1 : 0 * (3200 - u) ≤ (32 - i) * (3200 - u) := Int.mul_le_mul_of_nonneg_right (by omega) (by omega)
    have a2 : (32 - i) * (3200 - u) ≤ 15 * (3200 - u) := Int.mul_le_mul_of_nonneg_right (by omega) (by omega)
    omega
theorem less_range {p k x : Int} (hp : 0 ≤ p ∧ p < 96) (hk : 0 ≤ k ∧ k < 5) (hx : 0 ≤ x ∧ x ≤ 51201) : 0 ≤ less p k x ∧ less p k x ≤ 33 := by
  obtain ⟨u0, o0⟩ := up_pos hp hk
  unfold less
  generalize upF p k = u at *
  rw [Int.fdiv_eq_ediv_of_nonneg _ (by omega), Int.fdiv_eq_ediv_of_nonneg _ (by omega)]
  split
  · rename_i h
    constructor
    · exact Int.ediv_nonneg (by omega) (by omega)
    · have : (x + u - 1) / u < 17 := (Int.ediv_lt_iff_lt_mul u0).mpr (by omega)
      omega
  · rename_i h
    have a1 : (51200 - x) / (3200 - u) < 16 := (Int.ediv_lt_iff_lt_mul o0).mpr (by omega)
    have a2 : -1 ≤ (51200 - x) / (3200 - u) := (Int.le_ediv_iff_mul_le o0).mpr (by omega)
    omega
end Mine
end

-- part F1
section
open PySem PySem.W PyProof.Rows PySem.Calls
set_option maxRecDepth 100000
namespace Mine
/-- the first n objects -/
def cut (h : Heap) (n : Nat) : Heap := ⟨h.objs.extract 0 n, h.life⟩
theorem cut_size {h : Heap} {n : Nat} (hn : n ≤ h.objs.size) : (cut h n).objs.size = n := by
  show (h.objs.extract 0 n).size = n
  simp
  omega
theorem cut_get {h : Heap} {n b : Nat} {o : Obj} (hb : b < n) (e : h.get? b = some o) : (cut h n).get? b = some o := by
  have hx : (h.objs.extract 0 n)[b]? = h.objs[b]? := by
    rw [Array.getElem?_extract]
    simp
    omega
  unfold Heap.get? at e ⊢
  show (match (h.objs.extract 0 n)[b]? with | some ⟨_, _, .freed, _⟩ => none | o => o) = some o
  rw [hx]
  exact e
theorem of_cut {h : Heap} {n b : Nat} {o : Obj} (hn : n ≤ h.objs.size) (e : (cut h n).get? b = some o) : h.get? b = some o ∧ b < n := by
  have hb : b < n := by
    have := Heap.lt_size e
    rw [cut_size hn] at this
    exact this
  have hx : (h.objs.extract 0 n)[b]? = h.objs[b]? := by
    rw [Array.getElem?_extract]
    simp
    omega
  refine ⟨?_, hb⟩
  unfold Heap.get? at e ⊢
  have e' : (match (h.objs.extract 0 n)[b]? with | some ⟨_, _, .freed, _⟩ => none | o => o) = some o := e
  rw [hx] at e'
  exact e'
theorem cells_in {cm : Str → Option Value} {cs : List (Str × Addr)} {cells : List (Addr × Obj)} (x : CellsAre cm cs cells) : ∀ q ∈ cells, ∃ n, (n, q.1) ∈ cs := by
  induction x with
  | nil => intro q hq; exact nomatch hq
  | cons _ _ ih =>
    intro q hq
    rcases List.mem_cons.mp hq with rfl | hq
    · exact ⟨_, .head _⟩
    · obtain ⟨n, hn⟩ := ih q hq
      exact ⟨n, .tail _ hn⟩
/-- a def with cells entered with a part of the ledger alone (own); the rest is as it was when the def has returned -/
theorem code_frC {prog : Program} {w : World} {A₀ A : Around} {s : Shared} {base h₀ : Heap} {outer : List Env} {L : Addr} {m mg mb : Str → Option Value} {env : Env} {own news : List (Addr × Obj)} {K : Frag} {p : Program} {loose : List Str} {mean : ExcName → Option Value}
    {R : Result → Shared → Prop} {name qual : Str} {params : Arguments} {body : List Stmt} {scope : Scope} {dV kV doc pm cdv ct oc : Value} {an od : Option Addr} {osl : Array (Option Value)} {f : Addr} {args : Args} {binds : List (Str × Value)}
    (B : Below A₀ base outer h₀) (F : Fr h₀ L s.heap m) (X₀ : K.In h₀) (N : News h₀ L s.heap news) (hown : ∀ q ∈ own, q ∈ news) (T : Top p loose mean mg mb h₀) (hA : A.frames = some (env :: outer)) (hf : env.frame = some L) (hke : env.scope.kind = .function)
    (ho : K.lookup f = some ⟨oc, od, .func (fnOf name qual params body scope dV kV doc pm an cdv ct), osl⟩) (hcd : codeIn K cdv qual = true) (hroom : A.depth < recursionLimit)
    (hbind : BindsTo s (fnOf name qual params body scope dV kV doc pm an cdv ct) args binds) (hkind : (binds.all fun y => scope.names.lookup y.1 == some .local || scope.names.lookup y.1 == some .cell) = true)
    (hnd : ((cellsFrom 0 scope.names []).map (·.1)).Nodup) (hce : ∀ L' : Nat, ∀ q ∈ cellsFrom (L' + 1) scope.names [], L' < q.2)
    (h : ∀ g L' h₁ tk cells, Fr h₀ L g m → Fr g L' h₁ (bindL (envOfC qual scope L' f cdv).kindOf binds fun _ => none) → News g L' h₁ (cells ++ own) →
      CellsAre (bindC (envOfC qual scope L' f cdv).kindOf binds fun _ => none) (cellsFrom (L' + 1) scope.names []) cells → Below A base (env :: outer) g → K.In g → Top p loose mean mg mb g → (∀ q ∈ own, q.1 < L') → (∀ q ∈ news, q.1 < L') →
      wpAny (model prog w) (A.deeper (envOfC qual scope L' f cdv)) (execs body (envOfC qual scope L' f cdv))
        (fun fl s' => LeaveK h₀ L m g (fun r s'' => (∀ q ∈ news, q.1 ∉ own.map (fun z : Addr × Obj => z.1) → s''.heap.get? q.1 = some q.2) → R r s'') (match fl with | .ret v => v | _ => .none) s')
        (fun e s' => wpAny (model prog w) (A.deeper (envOfC qual scope L' f cdv)) (leaving (envOfC qual scope L' f cdv) e) (fun _ s'' => R (.error e) s'') (fun e' s'' => R (.error e') s'') s')
        { s with heap := h₁, toks := tk })
    (hco : scope.isCoroutine = false) (hgen : scope.isGenerator = false) (hk : scope.kind = .function) : codeAny (model prog w) A (.call (.ref f) args) R s := by
  refine code_defC B F X₀ N T hA hf hke ho hcd hroom hbind hkind hnd (fun g L' h₁ tk cells FG F' N' Y B' X' T' l1 => ?_) hco hgen hk
  have hsz : L' ≤ h₁.objs.size := Nat.le_of_lt F'.ns.lt
  -- the ground grown by what the ledger has beyond own
  let g2 : Heap := hideAll (cut h₁ L') (own.map (fun z : Addr × Obj => z.1))
  have hs2 : g2.objs.size = L' := (hideAll_size _ _).trans (cut_size hsz)
  have up : ∀ b o, g2.get? b = some o → h₁.get? b = some o := fun b o e => (of_cut hsz (of_hideAll _ e)).1
  have inc : ∀ b o, g.get? b = some o → g2.get? b = some o := fun b o e => by
    refine hideAll_get _ (cut_get (Nat.lt_of_lt_of_le (Heap.lt_size e) F'.above) (F'.keep b o e)) fun hb => ?_
    obtain ⟨q, hq, rfl⟩ := List.mem_map.mp hb
    rw [(N' q (List.mem_append_right _ (hown q hq))).2.2] at e
    cases e
  have inc0 : ∀ b o, h₀.get? b = some o → g2.get? b = some o := fun b o e => inc b o (FG.keep b o e)
  have kept : ∀ q ∈ news, q.1 ∉ own.map (fun z : Addr × Obj => z.1) → g2.get? q.1 = some q.2 := fun q hq hn => hideAll_get _ (cut_get (l1 q hq) (N' q (List.mem_append_right _ hq)).1) hn
  refine wpAny_mono (h g2 L' h₁ tk cells ⟨FG.ns.keeps inc, inc0, FG.above⟩ ⟨F'.ns, up, Nat.le_of_eq hs2⟩ (fun q hq => ?_) Y ⟨B'.stack, fun b o e => inc b o (B'.stays b o e), B'.frames.of_keeps fun b o e _ => ⟨o, inc b o e, rfl⟩⟩ (X'.keeps inc) (T'.keeps inc) (fun q hq => l1 q (hown q hq)) l1) (fun fl s' hl => ?_) fun _ _ y => y
  · rcases List.mem_append.mp hq with hq | hq
    · have hc := N' q (List.mem_append_left _ hq)
      refine ⟨hc.1, hc.2.1, ?_⟩
      obtain ⟨n, hn⟩ := cells_in Y q hq
      have hlt := hce L' _ hn
      exact Heap.get?_none_of_le (by rw [hs2]; exact Nat.le_of_lt hlt)
    · have hc := N' q (List.mem_append_right _ (hown q hq))
      exact ⟨hc.1, hc.2.1, hideAll_none _ (List.mem_map_of_mem hq)⟩
  · obtain ⟨L2, m2, news2, F2, N2, k⟩ := hl
    refine ⟨L2, m2, news2, ⟨F2.ns, fun b o e => F2.keep b o (inc b o e), Nat.le_trans F'.above (Nat.le_trans (Nat.le_of_eq hs2.symm) F2.above)⟩, fun q hq => ⟨(N2 q hq).1, (N2 q hq).2.1, ?_⟩, fun a b => k a b fun q hq hn => F2.keep _ _ (kept q hq hn)⟩
    cases e : g.get? q.1 with
    | none => rfl
    | some o => have := (N2 q hq).2.2; rw [inc _ _ e] at this; cases this
end Mine
end

-- part C3
section
open PySem PySem.W PyProof.Rows
set_option maxRecDepth 100000
set_option maxHeartbeats 2000000
namespace Mine
theorem mid_ok {lo hi : Int} (h0 : 0 ≤ lo) (h1 : lo < hi) (h2 : hi ≤ 33) : 0 ≤ 0 + (lo + hi).fdiv 2 ∧ 0 + (lo + hi).fdiv 2 < 33 := by
  rw [Int.fdiv_eq_ediv_of_nonneg _ (by decide)]
  omega
theorem mid_bs {lo hi : Int} (h0 : 0 ≤ lo) (h1 : lo < hi) : lo ≤ (lo + hi).fdiv 2 ∧ (lo + hi).fdiv 2 < hi := by
  rw [Int.fdiv_eq_ediv_of_nonneg _ (by decide)]
  omega
theorem bis_start {p k x : Int} (hp : 0 ≤ p ∧ p < 96) (hk : 0 ≤ k ∧ k < 5) (hx : 0 ≤ x ∧ x ≤ 51201) : (0 : Int) ≤ 0 ∧ 0 ≤ less p k x ∧ less p k x ≤ ((rangeKs 0 33).length : Int) ∧ ((rangeKs 0 33).length : Int) ≤ 33 := by
  have := less_range hp hk hx
  rw [rangeKs_length]
  omega
theorem bis_up {p k x lo hi : Int} (hp : 0 ≤ p ∧ p < 96) (hk : 0 ≤ k ∧ k < 5) (hx : x ≤ 51201) (a0 : 0 ≤ lo) (a2 : less p k x ≤ hi) (a3 : hi ≤ 33) (c : lo < hi) (d : own p k (0 + (lo + hi).fdiv 2) < x) :
    0 ≤ (lo + hi).fdiv 2 + 1 ∧ (lo + hi).fdiv 2 + 1 ≤ less p k x ∧ less p k x ≤ hi ∧ hi ≤ 33 := by
  have h1 := mid_ok a0 c a3
  have h2 := (less_iff hp hk h1 hx).mp d
  omega
theorem bis_dn {p k x lo hi : Int} (hp : 0 ≤ p ∧ p < 96) (hk : 0 ≤ k ∧ k < 5) (hx : x ≤ 51201) (a0 : 0 ≤ lo) (a1 : lo ≤ less p k x) (a3 : hi ≤ 33) (c : lo < hi) (d : ¬ own p k (0 + (lo + hi).fdiv 2) < x) :
    0 ≤ lo ∧ lo ≤ less p k x ∧ less p k x ≤ (lo + hi).fdiv 2 ∧ (lo + hi).fdiv 2 ≤ 33 := by
  have h1 := mid_ok a0 c a3
  have h2 : ¬ 0 + (lo + hi).fdiv 2 < less p k x := fun h => d ((less_iff hp hk h1 hx).mpr h)
  omega
theorem bis_m1 {lo hi : Int} (h0 : 0 ≤ lo) (h1 : lo < hi) : (hi - ((lo + hi).fdiv 2 + 1)).toNat < (hi - lo).toNat := by
  have := mid_bs h0 h1
  omega
theorem bis_m2 {lo hi : Int} (h0 : 0 ≤ lo) (h1 : lo < hi) : ((lo + hi).fdiv 2 - lo).toNat < (hi - lo).toNat := by
  have := mid_bs h0 h1
  omega
local macro_rules | `(tactic| k_room) => `(tactic| ktr_room)
theorem fill3 (w : World) : (Mine.hd.heap_39 w.params, PySem.Challenge.rw_pe0089_01) = (Mine.hd.heap_39 w.params, PySem.Challenge.rw_pe0089_01) := by w_top off; k_fill; rfl
abbrev tabF (c1 c2 : Addr) : Obj := tabObj (#[] ++ #[rawInt ((94 : Nat) : Int), rawInt ((38 : Nat) : Int), Value.ref c1] ++ #[rawInt ((95 : Nat) : Int), rawInt ((40 : Nat) : Int), Value.ref c2])
abbrev lamQ : Str := (Str.ofString "_law_found" ++ Str.ofString ".<locals>.") ++ Str.ofString "<lambda>"
theorem sub3 {α : Type} {a b c : α} {l : List α} (h1 : a ∈ l) (h2 : b ∈ l) (h3 : c ∈ l) : ∀ q ∈ [a, b, c], q ∈ l := List.forall_mem_cons.mpr ⟨h1, List.forall_mem_cons.mpr ⟨h2, List.forall_mem_cons.mpr ⟨h3, List.forall_mem_nil _⟩⟩⟩
theorem bool_end {Q : Value → Shared → Prop} {b : Bool} {s : Shared} (h : b = true) (q : Q (.bool true) s) : Q (.bool b) s := h ▸ q
theorem cells_found : ∀ L' : Nat, ∀ q ∈ cellsFrom (L' + 1) [(Str.ofString "place", NameKind.cell), (Str.ofString "share", NameKind.cell), (Str.ofString "wish", NameKind.local), (Str.ofString "row", NameKind.local), (Str.ofString "left", NameKind.local), (Str.ofString "right", NameKind.local), (Str.ofString "list", NameKind.globalImplicit), (Str.ofString "range", NameKind.globalImplicit), (Str.ofString "bisect_left", NameKind.globalImplicit), (Str.ofString "bisect_right", NameKind.globalImplicit), (Str.ofString "_law_less", NameKind.globalImplicit)] [], L' < q.2 := by
  intro L' q hq
  have e : cellsFrom (L' + 1) [(Str.ofString "place", NameKind.cell), (Str.ofString "share", NameKind.cell), (Str.ofString "wish", NameKind.local), (Str.ofString "row", NameKind.local), (Str.ofString "left", NameKind.local), (Str.ofString "right", NameKind.local), (Str.ofString "list", NameKind.globalImplicit), (Str.ofString "range", NameKind.globalImplicit), (Str.ofString "bisect_left", NameKind.globalImplicit), (Str.ofString "bisect_right", NameKind.globalImplicit), (Str.ofString "_law_less", NameKind.globalImplicit)] [] = [(Str.ofString "share", L' + 1 + 1), (Str.ofString "place", L' + 1)] := rfl
  rw [e] at hq
  rcases List.mem_cons.mp hq with rfl | hq
  · exact Nat.lt_succ_of_lt (Nat.lt_succ_self _)
  · rw [List.mem_singleton.mp hq]
    exact Nat.lt_succ_self _
theorem found_A (w : World) (mean : ExcName → Option Value) (mg mb : Str → Option Value) (p k x : Int) (t1 t2 t3 : Tok) (hp : 0 ≤ p ∧ p < 96) (hk : 0 ≤ k ∧ k < 5) (hx : 0 ≤ x ∧ x ≤ 51200)
    (dp un : Nat) (gd : Option (List Code)) (cn : Str) (cs : Scope) (a : Addr) (ccd : Value) (cl : List (Str × Addr)) (outer : List Env) (A₀ : Around) (base h₀ : Heap) (L : Addr) (m : Str → Option Value) (s : Shared) (Q E : Value → Shared → Prop)
    (news : List (Addr × Obj)) (B : Below A₀ base outer h₀) (F : Fr h₀ L s.heap m) (X : (Mine.hd.heap_39 w.params).In h₀) (N : News h₀ L s.heap news) (hm : ∀ q ∈ [((90 : Addr), tabObj #[])], q ∈ news) (T : Top topProg LS mean mg mb h₀) (hkd : cs.kind = .function) (C : CodeHd base 94 90)
    (hd : dp + 10 < recursionLimit) (hu : un + 8 * 10 < cLine)
    (hret : ∀ c1 oc1 vs1 u1 c2 oc2 vs2 u2 h' tk', oc1.data = .fields vs1 → vs1[1]? = some (.str lamQ u1) → oc2.data = .fields vs2 → vs2[1]? = some (.str lamQ u2) → (∀ q ∈ news, q.1 < c1) → c1 < c2 → Fr h₀ L h' m →
      News h₀ L h' [(c1, oc1), (c2, oc2), (90, tabF c1 c2)] → (∀ q ∈ news, q.1 ∉ [((90 : Addr), tabObj #[])].map (fun z : Addr × Obj => z.1) → h'.get? q.1 = some q.2) → Q (.bool true) { s with heap := h', toks := tk' }) :
    wpAny (model PySem.Challenge.rw_pe0089_01.row.prog w) (ktrTop dp un gd cn cs L a ccd cl outer) (call (.ref 95) [.int p t1, .int k t2, .int x t3]) Q E s := by
  k_with_none
  k_with "call type:list" => ((rename IsRange _ _ _ _ _ _ _ _ => rgX); (with_unfolding_all refine' kll_range (n := 33) ?k0 ?k1 ?k2 ?k3 ?k4 ?k5 ?k6 ?_; (case k0 => rfl); (case k1 => k_asm); (case k2 => k_asm); (case k3 => first | exact rgX | assumption); (case k4 => rfl); (case k5 => rfl); (case k6 => decide); k_whole); intro D' vs' c' h' tk' F' N' l1 hI'; (try k_lt l1); (try k_sweep))
  k_with "exec While Compare cons nil" => (first | ((with_reducible show wpAny _ (Around.deeper _ (envOf (Str.ofString "bisect_left") _ _ _ _)) _ _ _ _); k_while (fun _ lo hi => 0 ≤ lo ∧ lo ≤ less p k x ∧ less p k x ≤ hi ∧ hi ≤ 33) (fun _ lo hi => (hi - lo).toNat) "lo" "hi") | k_while (fun _ lo hi => 0 ≤ lo ∧ lo ≤ less p k (x + 1) ∧ less p k (x + 1) ≤ hi ∧ hi ≤ 33) (fun _ lo hi => (hi - lo).toNat) "lo" "hi")
  k_with "call ref" => (k_dflt (refine' Cl.use (bright_cl _ _ _ _ _ _ _ _ _ _ _ hp hk ?kt) ?k1 ?k2 ?k3 ?k4 ?k5 ?k6 ?k7 ?k8 ?_; (case k1 => k_asm); (case k2 => k_asm); (case k3 => k_asm); (case k4 => k_asm); (case k5 => k_asm); (case k6 => first | exact rfl | assumption); (case k7 => ktr_room); (case k8 => ktr_units); (case kt => exact mid_ok (by assumption) (by assumption) (by assumption))); intro v9 h9 tk9 e9 F9 N9; (refine Exists.elim e9 ?_; clear e9; intro t9 e9; subst e9); (try dsimp only); (try k_fold))
  k_with "call ref" => (k_dflt (refine' Cl.use (less_cl _ _ _ _ _ _ _ _ _ _ _ hp hk ?kt) ?k1 ?k2 ?k3 ?k4 ?k5 ?k6 ?k7 ?k8 ?_; (case k1 => k_asm); (case k2 => k_asm); (case k3 => k_asm); (case k4 => k_asm); (case k5 => k_asm); (case k6 => first | exact rfl | assumption); (case k7 => ktr_room); (case k8 => ktr_units); (case kt => omega)); intro v9 h9 tk9 e9 F9 N9; (refine Exists.elim e9 ?_; clear e9; intro t9 e9; subst e9); (try dsimp only); (try k_fold))
  k_with "state" => (first | exact bis_start hp hk (by omega) | exact bis_up hp hk (by omega) (by assumption) (by assumption) (by assumption) (by assumption) (by omega) | exact bis_dn hp hk (by omega) (by assumption) (by assumption) (by assumption) (by assumption) (by omega))
  k_with "measure" => (first | exact bis_m1 (by assumption) (by assumption) | exact bis_m2 (by assumption) (by assumption))
  refine wpAny_call ?_
  k_dflt (refine' code_frC (own := [((90 : Addr), tabObj #[])]) ?k1 ?k2 ?k3 ?k4 ?kO ?k5 ?kA ?kF ?kK ?k6 ?k7 ?k8 ?k9 ?kB ?kD ?kC ?_ ?c2 ?c3 ?c4; (case kA => exact rfl); (case kF => exact rfl); (case kK => assumption); (case k1 => k_asm); (case k2 => k_asm); (case k3 => k_asm); (case k4 => k_asm); (case kO => exact hm); (case k5 => k_asm); (case k6 => k_is); (case k7 => k_is); (case k8 => k_room); (case k9 => exact BindsTo.of_eq rfl); (case kB => exact rfl); (case kD => decide +kernel); (case kC => exact cells_found); (case c2 => exact rfl); (case c3 => exact rfl); (case c4 => exact rfl); k_whole; intro g' L' h' tk' cells' FG' F' N' Y' B' X' T' l1 l2; (try k_lt l1); k_cells Y'; (try simp only [List.cons_append, List.nil_append] at N'); (try dsimp only); (try k_lift B'); (try k_fold))
  have hR := PySem.Flt.Hid.mk hret
  have hL2 := PySem.Flt.Hid.mk l2
  clear hret l2 N hm
  k_steps
  all_goals (have hret := hR.out; have l2 := hL2.out)
  all_goals (
    refine bool_end (b := _ == _) ?bb ?_
    (case bb => (rw [beq_iff_eq]); omega)
    refine' hret _ _ _ _ _ _ _ _ _ _ ?a1 ?a2 ?a3 ?a4 ?b1 ?b2 ?bF (cb_drop (news' := _) ?bN (sub3 ?s1 ?s2 ?s3)) ?bK
    (case bF => assumption)
    (case bN => assumption)
    (case s1 => refine List.Mem.tail _ ?_; refine List.Mem.tail _ ?_; refine List.Mem.tail _ ?_; exact List.Mem.head _)
    (case s2 => refine List.Mem.tail _ ?_; exact List.Mem.head _)
    (case s3 => refine List.Mem.tail _ ?_; refine List.Mem.tail _ ?_; refine List.Mem.tail _ ?_; refine List.Mem.tail _ ?_; refine List.Mem.tail _ ?_; refine List.Mem.tail _ ?_; refine List.Mem.tail _ ?_; exact List.Mem.head _)
    (case bK => assumption)
    (case a1 => assumption)
    (case a2 => assumption)
    (case a3 => assumption)
    (case a4 => assumption)
    (case b1 => exact fun q hq => Nat.lt_trans (l2 q hq) (ltN (by omega)))
    (case b2 => exact ltN (by omega)))
  k_with_none
end Mine
end

-- part C4
section
open PySem PySem.W PyProof.Rows
set_option maxRecDepth 100000
set_option maxHeartbeats 2000000
namespace Mine
local macro_rules | `(tactic| k_room) => `(tactic| ktr_room)
theorem fill4 (w : World) : (Mine.hd.heap_39 w.params, PySem.Challenge.rw_pe0089_01) = (Mine.hd.heap_39 w.params, PySem.Challenge.rw_pe0089_01) := by w_top off; k_fill; rfl
theorem news_back {h₀ h h' : Heap} {L : Addr} {own news : List (Addr × Obj)} (N : News h₀ L h news) (hm : ∀ q ∈ own, q ∈ news) (n1 : ∀ q ∈ own, h'.get? q.1 = some q.2) (n2 : ∀ q ∈ news, q.1 ∉ own.map (fun z : Addr × Obj => z.1) → h'.get? q.1 = some q.2) : News h₀ L h' news := by
  intro q hq
  refine ⟨?_, (N q hq).2⟩
  by_cases hc : q.1 ∈ own.map (fun z : Addr × Obj => z.1)
  · obtain ⟨r, hr, e⟩ := List.mem_map.mp hc
    have h1 := (N q hq).1
    have h2 := (N r (hm r hr)).1
    have h3 := n1 r hr
    rw [e] at h2 h3
    rw [h1] at h2
    rw [h3, Option.some.inj h2]
  · exact n2 q hq hc
theorem own_get {h₀ h : Heap} {L : Addr} {own news : List (Addr × Obj)} (N : News h₀ L h news) (hs : ∀ q ∈ own, q ∈ news) : ∀ q ∈ own, h.get? q.1 = some q.2 := fun q hq => (N q (hs q hq)).1
theorem found_B (w : World) (mean : ExcName → Option Value) (mg mb : Str → Option Value) (p k x : Int) (t1 t2 t3 : Tok) (hp : 0 ≤ p ∧ p < 96) (hk : 0 ≤ k ∧ k < 5) (hx : 0 ≤ x ∧ x ≤ 51200)
    (dp un : Nat) (gd : Option (List Code)) (cn : Str) (cs : Scope) (a : Addr) (ccd : Value) (cl : List (Str × Addr)) (outer : List Env) (A₀ : Around) (base h₀ : Heap) (L : Addr) (m : Str → Option Value) (s : Shared) (Q E : Value → Shared → Prop)
    (news : List (Addr × Obj)) (B : Below A₀ base outer h₀) (F : Fr h₀ L s.heap m) (X : (Mine.hd.heap_39 w.params).In h₀) (N : News h₀ L s.heap news) {c1 c2 : Addr} {oc1 oc2 : Obj} {vs1 vs2 : Array Value} {u1 u2 : Tok} (d1 : oc1.data = .fields vs1) (d2 : vs1[1]? = some (.str lamQ u1)) (d3 : oc2.data = .fields vs2) (d4 : vs2[1]? = some (.str lamQ u2)) (hm : ∀ q ∈ [(c1, oc1), (c2, oc2), ((90 : Addr), tabF c1 c2)], q ∈ news) (T : Top topProg LS mean mg mb h₀) (hkd : cs.kind = .function) (C : CodeHd base 94 90)
    (hd : dp + 10 < recursionLimit) (hu : un + 8 * 10 < cLine)
    (hret : ∀ h' tk', Fr h₀ L h' m → News h₀ L h' news → Q (.bool true) { s with heap := h', toks := tk' }) :
    wpAny (model PySem.Challenge.rw_pe0089_01.row.prog w) (ktrTop dp un gd cn cs L a ccd cl outer) (call (.ref 95) [.int p t1, .int k t2, .int x t3]) Q E s := by
  k_with_none
  k_with "call type:list" => ((rename IsRange _ _ _ _ _ _ _ _ => rgX); (with_unfolding_all refine' kll_range (n := 33) ?k0 ?k1 ?k2 ?k3 ?k4 ?k5 ?k6 ?_; (case k0 => rfl); (case k1 => k_asm); (case k2 => k_asm); (case k3 => first | exact rgX | assumption); (case k4 => rfl); (case k5 => rfl); (case k6 => decide); k_whole); intro D' vs' c' h' tk' F' N' l1 hI'; (try k_lt l1); (try k_sweep))
  k_with "exec While Compare cons nil" => (first | ((with_reducible show wpAny _ (Around.deeper _ (envOf (Str.ofString "bisect_left") _ _ _ _)) _ _ _ _); k_while (fun _ lo hi => 0 ≤ lo ∧ lo ≤ less p k x ∧ less p k x ≤ hi ∧ hi ≤ 33) (fun _ lo hi => (hi - lo).toNat) "lo" "hi") | k_while (fun _ lo hi => 0 ≤ lo ∧ lo ≤ less p k (x + 1) ∧ less p k (x + 1) ≤ hi ∧ hi ≤ 33) (fun _ lo hi => (hi - lo).toNat) "lo" "hi")
  k_with "call ref" => (k_dflt (refine' Cl.use (bright_cl _ _ _ _ _ _ _ _ _ _ _ hp hk ?kt) ?k1 ?k2 ?k3 ?k4 ?k5 ?k6 ?k7 ?k8 ?_; (case k1 => k_asm); (case k2 => k_asm); (case k3 => k_asm); (case k4 => k_asm); (case k5 => k_asm); (case k6 => first | exact rfl | assumption); (case k7 => ktr_room); (case k8 => ktr_units); (case kt => exact mid_ok (by assumption) (by assumption) (by assumption))); intro v9 h9 tk9 e9 F9 N9; (refine Exists.elim e9 ?_; clear e9; intro t9 e9; subst e9); (try dsimp only); (try k_fold))
  k_with "call ref" => (k_dflt (refine' Cl.use (less_cl _ _ _ _ _ _ _ _ _ _ _ hp hk ?kt) ?k1 ?k2 ?k3 ?k4 ?k5 ?k6 ?k7 ?k8 ?_; (case k1 => k_asm); (case k2 => k_asm); (case k3 => k_asm); (case k4 => k_asm); (case k5 => k_asm); (case k6 => first | exact rfl | assumption); (case k7 => ktr_room); (case k8 => ktr_units); (case kt => omega)); intro v9 h9 tk9 e9 F9 N9; (refine Exists.elim e9 ?_; clear e9; intro t9 e9; subst e9); (try dsimp only); (try k_fold))
  k_with "state" => (first | exact bis_start hp hk (by omega) | exact bis_up hp hk (by omega) (by assumption) (by assumption) (by assumption) (by assumption) (by omega) | exact bis_dn hp hk (by omega) (by assumption) (by assumption) (by assumption) (by assumption) (by omega))
  k_with "measure" => (first | exact bis_m1 (by assumption) (by assumption) | exact bis_m2 (by assumption) (by assumption))
  refine wpAny_call ?_
  k_dflt (refine' code_frC (own := [(c1, oc1), (c2, oc2), ((90 : Addr), tabF c1 c2)]) ?k1 ?k2 ?k3 ?k4 ?kO ?k5 ?kA ?kF ?kK ?k6 ?k7 ?k8 ?k9 ?kB ?kD ?kC ?_ ?c2 ?c3 ?c4; (case kA => exact rfl); (case kF => exact rfl); (case kK => assumption); (case k1 => k_asm); (case k2 => k_asm); (case k3 => k_asm); (case k4 => k_asm); (case kO => exact hm); (case k5 => k_asm); (case k6 => k_is); (case k7 => k_is); (case k8 => k_room); (case k9 => exact BindsTo.of_eq rfl); (case kB => exact rfl); (case kD => decide +kernel); (case kC => exact cells_found); (case c2 => exact rfl); (case c3 => exact rfl); (case c4 => exact rfl); k_whole; intro g' L' h' tk' cells' FG' F' N' Y' B' X' T' l1 l2; (try k_lt l1); k_cells Y'; (try simp only [List.cons_append, List.nil_append] at N'); (try dsimp only); (try k_lift B'); (try k_fold))
  have hR := PySem.Flt.Hid.mk (fun h' tk' (F9 : Fr h₀ L h' m) n1 n2 => hret h' tk' F9 (news_back N hm n1 n2))
  clear hret l2 N hm
  k_steps
  all_goals (
    refine bool_end (b := _ == _) ?bb ?_
    (case bb => (rw [beq_iff_eq]); omega)
    have hret := hR.out
    refine' hret _ _ ?bF (own_get (news := _) ?bN ?bS) ?bK
    (case bF => assumption)
    (case bN => assumption)
    (case bS => exact fun q hq => List.Mem.tail _ (List.Mem.tail _ (List.Mem.tail _ (List.Mem.tail _ (List.Mem.tail _ hq)))))
    (case bK => assumption))
  k_with_none
end Mine
end

-- part C5
section
open PySem PySem.W PyProof.Rows
set_option maxRecDepth 100000
namespace Mine
/-- the ledger r with x behind it -/
inductive Last (x : Addr × Obj) : List (Addr × Obj) → List (Addr × Obj) → Prop
  | nil : Last x [x] []
  | cons {a : Addr × Obj} {l r : List (Addr × Obj)} : Last x l r → Last x (a :: l) (a :: r)
theorem Last.mem {x : Addr × Obj} {l r : List (Addr × Obj)} (h : Last x l r) : x ∈ l := by
  induction h with
  | nil => exact .head _
  | cons _ ih => exact .tail _ ih
theorem Last.sub {x : Addr × Obj} {l r : List (Addr × Obj)} (h : Last x l r) : ∀ q ∈ r, q ∈ l := by
  induction h with
  | nil => exact fun _ hq => nomatch hq
  | cons _ ih =>
    intro q hq
    rcases List.mem_cons.mp hq with rfl | hq
    · exact .head _
    · exact .tail _ (ih q hq)
theorem fmod_bd (a b : Int) (hb : 0 < b) : 0 ≤ a.fmod b ∧ a.fmod b < b := by
  rw [Int.fmod_eq_emod_of_nonneg a (Int.le_of_lt hb)]
  exact ⟨Int.emod_nonneg _ (Int.ne_of_gt hb), Int.emod_lt_of_pos _ hb⟩
section
variable {w : World} {mean : ExcName → Option Value} {mg mb : Str → Option Value} {p k x : Int} {t1 t2 t3 : Tok}
    {dp un : Nat} {gd : Option (List Code)} {cn : Str} {cs : Scope} {a : Addr} {ccd : Value} {cl : List (Str × Addr)} {outer : List Env} {A₀ : Around} {base h₀ : Heap} {L : Addr} {m : Str → Option Value} {s : Shared} {Q E : Value → Shared → Prop} {news rest : List (Addr × Obj)}
theorem use_A (hp : 0 ≤ p ∧ p < 96) (hk : 0 ≤ k ∧ k < 5) (hx : 0 ≤ x ∧ x ≤ 51200)
    (B : Below A₀ base outer h₀) (F : Fr h₀ L s.heap m) (X : (Mine.hd.heap_39 w.params).In h₀) (N : News h₀ L s.heap news) (hl : Last (90, tabObj #[]) news rest) (hne : ∀ q ∈ rest, q.1 ≠ (90 : Nat)) (T : Top topProg LS mean mg mb h₀) (hkd : cs.kind = .function) (C : CodeHd base 94 90)
    (hd : dp + 10 < recursionLimit) (hu : un + 8 * 10 < cLine)
    (hret : ∀ c1 oc1 vs1 u1 c2 oc2 vs2 u2 h' tk', oc1.data = .fields vs1 → vs1[1]? = some (.str lamQ u1) → oc2.data = .fields vs2 → vs2[1]? = some (.str lamQ u2) → (∀ q ∈ news, q.1 < c1) → c1 < c2 → Fr h₀ L h' m →
      News h₀ L h' ((c1, oc1) :: (c2, oc2) :: (90, tabF c1 c2) :: rest) → Q (.bool true) { s with heap := h', toks := tk' }) :
    wpAny (model PySem.Challenge.rw_pe0089_01.row.prog w) (ktrTop dp un gd cn cs L a ccd cl outer) (call (.ref 95) [.int p t1, .int k t2, .int x t3]) Q E s := by
  refine found_A w mean mg mb p k x t1 t2 t3 hp hk hx dp un gd cn cs a ccd cl outer A₀ base h₀ L m s Q E news B F X N (fun q hq => by rw [List.mem_singleton.mp hq]; exact hl.mem) T hkd C hd hu ?_
  intro c1 oc1 vs1 u1 c2 oc2 vs2 u2 h' tk' d1 d2 d3 d4 l1 l2 F' N' K'
  refine hret c1 oc1 vs1 u1 c2 oc2 vs2 u2 h' tk' d1 d2 d3 d4 l1 l2 F' fun q hq => ?_
  rcases List.mem_cons.mp hq with rfl | hq
  · exact N' _ (.head _)
  rcases List.mem_cons.mp hq with rfl | hq
  · exact N' _ (.tail _ (.head _))
  rcases List.mem_cons.mp hq with rfl | hq
  · exact N' _ (.tail _ (.tail _ (.head _)))
  have hq' := hl.sub q hq
  refine ⟨K' q hq' fun h => hne q hq ?_, (N q hq').2⟩
  simpa using h
theorem use_B {c1 c2 : Addr} {oc1 oc2 : Obj} {vs1 vs2 : Array Value} {u1 u2 : Tok} (d1 : oc1.data = .fields vs1) (d2 : vs1[1]? = some (.str lamQ u1)) (d3 : oc2.data = .fields vs2) (d4 : vs2[1]? = some (.str lamQ u2))
    (hp : 0 ≤ p ∧ p < 96) (hk : 0 ≤ k ∧ k < 5) (hx : 0 ≤ x ∧ x ≤ 51200)
    (B : Below A₀ base outer h₀) (F : Fr h₀ L s.heap m) (X : (Mine.hd.heap_39 w.params).In h₀) (N : News h₀ L s.heap news) (m1 : (c1, oc1) ∈ news) (m2 : (c2, oc2) ∈ news) (m3 : (90, tabF c1 c2) ∈ news) (T : Top topProg LS mean mg mb h₀) (hkd : cs.kind = .function) (C : CodeHd base 94 90)
    (hd : dp + 10 < recursionLimit) (hu : un + 8 * 10 < cLine)
    (hret : ∀ h' tk', Fr h₀ L h' m → News h₀ L h' news → Q (.bool true) { s with heap := h', toks := tk' }) :
    wpAny (model PySem.Challenge.rw_pe0089_01.row.prog w) (ktrTop dp un gd cn cs L a ccd cl outer) (call (.ref 95) [.int p t1, .int k t2, .int x t3]) Q E s :=
  found_B w mean mg mb p k x t1 t2 t3 hp hk hx dp un gd cn cs a ccd cl outer A₀ base h₀ L m s Q E news B F X N d1 d2 d3 d4 (sub3 m1 m2 m3) T hkd C hd hu hret
end
end Mine
end

-- part E1
section
open PySem PySem.W PyProof.Rows
set_option maxRecDepth 100000
set_option maxHeartbeats 4000000
namespace Mine
abbrev tup (p k s : Int) (x y z : Tok) : Obj := { cls := .type "tuple", data := .seq #[.int p x, .int k y, .int s z] }
def ColAt (fx : List (Addr × Obj)) (v : Value) : Prop := ∃ (a : Addr) (p k s : Int) (x y z : Tok), v = .ref a ∧ (a, tup p k s x y z) ∈ fx ∧ (0 ≤ p ∧ p < 96) ∧ (0 ≤ k ∧ k < 5) ∧ (0 ≤ s ∧ s < 33)
theorem col_get {fx : List (Addr × Obj)} {vs : List Value} (hC : ∀ v ∈ vs, ColAt fx v) {i : Int} (h0 : 0 ≤ i) (hi : i < (vs.length : Int)) :
    ∃ (a : Addr) (p k s : Int) (x y z : Tok), vs[i.toNat]? = some (.ref a) ∧ (a, tup p k s x y z) ∈ fx ∧ (0 ≤ p ∧ p < 96) ∧ (0 ≤ k ∧ k < 5) ∧ (0 ≤ s ∧ s < 33) := by
  have hlt : i.toNat < vs.length := by omega
  obtain ⟨a, p, k, s, x, y, z, hv, r⟩ := hC vs[i.toNat] (List.getElem_mem hlt)
  exact ⟨a, p, k, s, x, y, z, by rw [List.getElem?_eq_getElem hlt, hv], r⟩
theorem fr_name {h₀ h : Heap} {L : Addr} {x z : Str} {v w : Option Value} {m : Str → Option Value} (F : Fr h₀ L h (fun y => if y = x then v else m y)) (hm : m z = w) : Fr h₀ L h (fun y => if y = x then v else if y = z then w else m y) := by
  have e : (fun y => if y = x then v else if y = z then w else m y) = fun y => if y = x then v else m y := by
    funext y
    by_cases h1 : y = x
    · rw [if_pos h1, if_pos h1]
    · rw [if_neg h1, if_neg h1]
      by_cases h2 : y = z
      · rw [if_pos h2, h2, hm]
      · rw [if_neg h2]
  rw [e]
  exact F
theorem range_ind {prog : Program} {w : World} {A : Around} {E : Value → Shared → Prop} {s : Shared} {env : Env} {h₀ : Heap} {x : Str} {body : List Stmt} {Q : Flow → Shared → Prop} {I : Addr} {a : Int} {n : Nat}
    (Inv : Nat → (Str → Option Value) → List (Addr × Obj) → Prop)
    (step : ∀ (i : Nat) (m : Str → Option Value) (news : List (Addr × Obj)), i < n → Inv i m news → ∀ t h tk, Fr h₀ env.locals h (fun y => if y = x then some (.int (a + (i : Int)) t) else m y) →
      News h₀ env.locals h ((I, itR (a + ((i + 1 : Nat) : Int)) ((n : Int) - ((i + 1 : Nat) : Int))) :: news) →
      wpAny (model prog w) A (execs body env) (UnrPost h₀ env.locals { s with heap := h, toks := tk } I (itR (a + ((i + 1 : Nat) : Int)) ((n : Int) - ((i + 1 : Nat) : Int))) (Inv (i + 1)) Q) E { s with heap := h, toks := tk })
    (done : ∀ (m : Str → Option Value) (news : List (Addr × Obj)), Inv n m news → ∀ h tk, Fr h₀ env.locals h m → News h₀ env.locals h news → Q .next { s with heap := h, toks := tk }) :
    ∀ (k i : Nat) (m : Str → Option Value) (news : List (Addr × Obj)), i + k = n → Inv i m news → RangeRest prog w A E h₀ env x body Q s I a n k i m news := by
  intro k
  induction k with
  | zero =>
    intro i m news e hi
    have : i = n := by omega
    subst this
    exact RangeRest.zero (done m news hi)
  | succ k ih =>
    intro i m news e hi
    refine RangeRest.succ fun t h tk F N => wpAny_mono (step i m news (by omega) hi t h tk F N) (fun f s₂ p => ?_) fun _ _ y => y
    have up : UnrEnd h₀ env.locals { s with heap := h, toks := tk } I (itR (a + ((i + 1 : Nat) : Int)) ((n : Int) - ((i + 1 : Nat) : Int))) (Inv (i + 1)) s₂ →
        UnrEnd h₀ env.locals { s with heap := h, toks := tk } I (itR (a + ((i + 1 : Nat) : Int)) ((n : Int) - ((i + 1 : Nat) : Int))) (RangeRest prog w A E h₀ env x body Q s I a n k (i + 1)) s₂ := by
      rintro ⟨h', tk', m', news', e', F', N', ho, r⟩
      exact ⟨h', tk', m', news', e', F', N', ho, ih (i + 1) m' news' (by omega) r⟩
    cases f with
    | ret v => exact p
    | brk => exact p
    | next => exact up p
    | cont => exact up p
theorem skip1 {α : Type} {x y : α} {l : List α} : ∀ q ∈ x :: l, q ∈ x :: y :: l := fun q hq => by
  rcases List.mem_cons.mp hq with rfl | hq
  · exact .head _
  · exact .tail _ (.tail _ hq)
theorem use_A2 {w : World} {mean : ExcName → Option Value} {mg mb : Str → Option Value} {p k x : Int} {t1 t2 t3 : Tok}
    {dp un : Nat} {gd : Option (List Code)} {cn : Str} {cs : Scope} {a : Addr} {ccd : Value} {cl : List (Str × Addr)} {outer : List Env} {A₀ : Around} {base h₀ : Heap} {L : Addr} {m : Str → Option Value} {s : Shared} {Q E : Value → Shared → Prop} {news rest : List (Addr × Obj)}
    (hp : 0 ≤ p ∧ p < 96) (hk : 0 ≤ k ∧ k < 5) (hx : 0 ≤ x ∧ x ≤ 51200)
    (B : Below A₀ base outer h₀) (F : Fr h₀ L s.heap m) (X : (Mine.hd.heap_39 w.params).In h₀) (N : News h₀ L s.heap news) (hm : (90, tabObj #[]) ∈ news) (hs : ∀ q ∈ rest, q ∈ news) (hne : ∀ q ∈ rest, q.1 ≠ (90 : Nat)) (T : Top topProg LS mean mg mb h₀) (hkd : cs.kind = .function) (C : CodeHd base 94 90)
    (hd : dp + 10 < recursionLimit) (hu : un + 8 * 10 < cLine)
    (hret : ∀ c1 oc1 vs1 u1 c2 oc2 vs2 u2 h' tk', oc1.data = .fields vs1 → vs1[1]? = some (.str lamQ u1) → oc2.data = .fields vs2 → vs2[1]? = some (.str lamQ u2) → (∀ q ∈ news, q.1 < c1) → c1 < c2 → Fr h₀ L h' m →
      News h₀ L h' ((c1, oc1) :: (c2, oc2) :: (90, tabF c1 c2) :: rest) → Q (.bool true) { s with heap := h', toks := tk' }) :
    wpAny (model PySem.Challenge.rw_pe0089_01.row.prog w) (ktrTop dp un gd cn cs L a ccd cl outer) (call (.ref 95) [.int p t1, .int k t2, .int x t3]) Q E s := by
  refine found_A w mean mg mb p k x t1 t2 t3 hp hk hx dp un gd cn cs a ccd cl outer A₀ base h₀ L m s Q E news B F X N (fun q hq => by rw [List.mem_singleton.mp hq]; exact hm) T hkd C hd hu ?_
  intro c1 oc1 vs1 u1 c2 oc2 vs2 u2 h' tk' d1 d2 d3 d4 l1 l2 F' N' K'
  refine hret c1 oc1 vs1 u1 c2 oc2 vs2 u2 h' tk' d1 d2 d3 d4 l1 l2 F' fun q hq => ?_
  rcases List.mem_cons.mp hq with rfl | hq
  · exact N' _ (.head _)
  rcases List.mem_cons.mp hq with rfl | hq
  · exact N' _ (.tail _ (.head _))
  rcases List.mem_cons.mp hq with rfl | hq
  · exact N' _ (.tail _ (.tail _ (.head _)))
  have hq' := hs q hq
  refine ⟨K' q hq' fun h => hne q hq ?_, (N q hq').2⟩
  simpa using h
end Mine
end

-- part E2
section
open PySem PySem.W PyProof.Rows
set_option maxRecDepth 100000
set_option maxHeartbeats 4000000
namespace Mine
local macro_rules | `(tactic| k_room) => `(tactic| ktr_room)
local macro_rules | `(tactic| k_mem) => `(tactic| assumption)
theorem fill7 (w : World) : (Mine.hd.heap_39 w.params, PySem.Challenge.rw_pe0089_01) = (Mine.hd.heap_39 w.params, PySem.Challenge.rw_pe0089_01) := by w_top off; k_fill; rfl
theorem lst_at {h₀ h : Heap} {L D : Addr} {news : List (Addr × Obj)} {vs : List Value} (N : News h₀ L h news) (hm : (D, LCg.lst vs) ∈ news) : h.IsList D vs.toArray := ⟨_, (N _ hm).1, rfl, _, rfl⟩
theorem len_lst {prog : Program} {w : World} {A : Around} {E : Value → Shared → Prop} {s : Shared} {l : Addr} {vs : List Value} {Q : Value → Shared → Prop} (hl : s.heap.IsList l vs.toArray) (hfit : (vs.length : Int) < 2 ^ 63)
    (h : Q (.int vs.length (s.toks + 1)) { s with toks := s.toks + 1 + 1 }) : wpAny (model prog w) A (call (.builtin "len") [.ref l]) Q E s :=
  PySem.Calls.call_len_list hl (by rw [List.size_toArray]; exact hfit) (by rw [List.size_toArray]; exact h)
theorem sub_A {α : Type} {i x y z : α} {l : List α} : ∀ q ∈ i :: x :: y :: z :: l, q ∈ x :: y :: z :: i :: l := fun q hq => by
  rcases List.mem_cons.mp hq with rfl | hq
  · exact .tail _ (.tail _ (.tail _ (.head _)))
  rcases List.mem_cons.mp hq with rfl | hq
  · exact .head _
  rcases List.mem_cons.mp hq with rfl | hq
  · exact .tail _ (.head _)
  rcases List.mem_cons.mp hq with rfl | hq
  · exact .tail _ (.tail _ (.head _))
  · exact .tail _ (.tail _ (.tail _ (.tail _ hq)))
/-- between two turns -/
def ColInv (D I : Addr) (fx : List (Addr × Obj)) (i : Nat) (m : Str → Option Value) (news : List (Addr × Obj)) : Prop :=
  m (Str.ofString "colours") = some (.ref D) ∧ (∀ q ∈ news, q.1 ≠ I) ∧
    ((i = 0 ∧ news = (90, tabObj #[]) :: fx) ∨ ∃ (c1 c2 : Addr) (o1 o2 : Obj) (v1 v2 : Array Value) (u1 u2 : Tok), o1.data = .fields v1 ∧ v1[1]? = some (.str lamQ u1) ∧ o2.data = .fields v2 ∧ v2[1]? = some (.str lamQ u2) ∧ news = (c1, o1) :: (c2, o2) :: (90, tabF c1 c2) :: fx)
theorem colours (w : World) (mean : ExcName → Option Value) (mg mb : Str → Option Value) (D : Addr) (vs : List Value) (fx : List (Addr × Obj)) (hn : 2 ≤ vs.length ∧ vs.length ≤ 5) (hD : (D, LCg.lst vs) ∈ fx) (hC : ∀ v ∈ vs, ColAt fx v) (h90 : ∀ q ∈ fx, q.1 ≠ (90 : Nat))
    (dp un : Nat) (gd : Option (List Code)) (cn : Str) (cs : Scope) (a : Addr) (ccd : Value) (cl : List (Str × Addr)) (outer : List Env) (A₀ : Around) (base h₀ : Heap) (L : Addr) (m : Str → Option Value) (s : Shared) (Q E : Value → Shared → Prop)
    (B : Below A₀ base outer h₀) (F : Fr h₀ L s.heap m) (X : (Mine.hd.heap_39 w.params).In h₀) (N : News h₀ L s.heap ((90, tabObj #[]) :: fx)) (T : Top topProg LS mean mg mb h₀) (hkd : cs.kind = .function) (C : CodeHd base 94 90)
    (hd : dp + 12 < recursionLimit) (hu : un + 8 * 12 < cLine)
    (hret : ∀ c1 c2 h' tk', Fr h₀ L h' m → News h₀ L h' [((90 : Addr), tabF c1 c2)] → Q (.bool true) { s with heap := h', toks := tk' }) :
    wpAny (model PySem.Challenge.rw_pe0089_01.row.prog w) (ktrTop dp un gd cn cs L a ccd cl outer) (call (.ref 102) [.ref D]) Q E s := by
  have hR := PySem.Flt.Hid.mk hret
  have hC' := PySem.Flt.Hid.mk hC
  have h90' := PySem.Flt.Hid.mk h90
  clear hret hC h90
  k_with_none
  k_with "call builtin:len" => (k_dflt (refine' len_lst (vs := vs) ?k1 ?k2 ?_; (case k1 => exact lst_at (by k_asm) (by k_mem)); (case k2 => omega)); (try dsimp only))
  k_with "subscriptTail" => (with_unfolding_all refine' item_litK (vs := vs) ?k1 ?k2 ?k3 ?k4 ?_ ?k6; (case k1 => exact lst_at (by k_asm) (by k_mem)); (case k2 => omega); (case k3 => omega); (case k4 => assumption); (case k6 => with_unfolding_all rfl); k_whole)
  k_with "pyIter ref" => ((with_reducible show wpAny _ _ (pyIter (Value.ref _)) (fun it s₂ => LoopAtV _ _ _ _ _ _ _ _ _ it s₂) _ _); (rename Fr _ _ _ _ => lF'); (rename News _ _ _ _ => lN'); (rename IsRange _ _ _ _ _ _ _ _ => rgX); (with_unfolding_all refine iter_rangeUnr (n := vs.length) (by rfl) rgX (PySem.small_one (by omega) (by omega) (by omega) (by omega)) ((rangeSize_nat _ _).trans (by omega)) lF' lN' ?_); clear lF' lN'; intro I9 hI9)
  k_with "call ref" => (k_dflt (refine' Mine.Cl.use (own_cl _ _ _ _ _ _ _ _ _ _ _ ?hk ?ht) ?k1 ?k2 ?k3 ?k4 ?k5 ?k6 ?k7 ?k8 ?_; (case hk => assumption); (case ht => assumption); (case k1 => k_asm); (case k2 => k_asm); (case k3 => k_asm); (case k4 => k_asm); (case k5 => k_asm); (case k6 => first | exact rfl | assumption); (case k7 => ktr_room); (case k8 => ktr_units)); intro v9 h9 tk9 e9 F9 N9; (refine Exists.elim e9 ?_; clear e9; intro t9 e9; subst e9); (try dsimp only); (try k_fold))
  k_with "call ref" => (k_dflt (refine' use_A2 ?hp ?hk ?hx ?k1 ?k2 ?k3 ?k4 ?kM ?kS ?kN ?k5 ?k6 ?kC ?k7 ?k8 ?_; (case k1 => k_asm); (case k2 => k_asm); (case k3 => k_asm); (case k4 => k_asm); (case kM => exact List.Mem.tail _ (List.Mem.head _)); (case kS => exact skip1); (case kN => exact List.forall_mem_cons.mpr ⟨nI, h90'.out⟩); (case k5 => k_asm); (case k6 => first | exact rfl | assumption); (case kC => k_asm); (case k7 => ktr_room); (case k8 => ktr_units); (case hp => assumption); (case hk => assumption); (case hx => exact own_range (by assumption) (by assumption) (by assumption))); intro fc1 fo1 fv1 fu1 fc2 fo2 fv2 fu2 h9 tk9 fd1 fd2 fd3 fd4 l1 fl2 F9 N9; (have fl1 := l1 _ (List.Mem.head _)); clear l1; (try dsimp only); (try k_fold))
  k_with "call ref" => (k_dflt (refine' use_B fd1 fd2 fd3 fd4 ?hp ?hk ?hx ?k1 ?k2 ?k3 ?k4 ?m1 ?m2 ?m3 ?k5 ?k6 ?kC ?k7 ?k8 ?_; (case k1 => k_asm); (case k2 => k_asm); (case k3 => k_asm); (case k4 => k_asm); (case m1 => k_mem); (case m2 => k_mem); (case m3 => k_mem); (case k5 => k_asm); (case k6 => first | exact rfl | assumption); (case kC => k_asm); (case k7 => ktr_room); (case k8 => ktr_units); (case hp => assumption); (case hk => assumption); (case hx => exact own_range (by assumption) (by assumption) (by assumption))); intro h9 tk9 F9 N9; (try dsimp only); (try k_fold))
  refine wpAny_call ?_
  k_dflt ktr_enter
  clear N
  k_steps
  refine range_ind (ColInv D I9 fx) ?st ?dn vs.length 0 _ _ (Nat.zero_add _) ?ii
  case ii => exact ⟨rfl, fun q hq => Nat.ne_of_lt (hI9 q hq), Or.inl ⟨rfl, rfl⟩⟩
  case dn =>
    intro m1 nw hv h9 tk9 F9 N9
    obtain ⟨-, -, ht⟩ := hv
    rcases ht with ⟨h0, -⟩ | ⟨fc1, fc2, fo1, fo2, fv1, fv2, fu1, fu2, -, -, -, -, rfl⟩
    · exact absurd h0 (by omega)
    dsimp only [envOf] at F9 N9
    k_steps
    refine hR.out fc1 fc2 _ _ (by assumption) (cb_drop (by assumption) (fun q hq => ?_))
    rw [List.mem_singleton.mp hq]
    exact .tail _ (.tail _ (.head _))
  case st =>
    clear hI9
    intro i m1 nw hi hv t9 h9 tk9 F9 N9
    obtain ⟨hm, hoff, ht⟩ := hv
    dsimp only [envOf] at F9 N9
    have F8 := fr_name F9 hm
    clear F9 hm
    obtain ⟨a1, p1, k1, s1, x1, y1, z1, e1, g1, bp1, bk1, bs1⟩ := col_get hC'.out (i := 0 + (i : Int)) (by omega) (by omega)
    have bd := fmod_bd (0 + (i : Int) + 1) (vs.length : Int) (by omega)
    obtain ⟨a2, p2, k2, s2, x2, y2, z2, e2, g2, bp2, bk2, bs2⟩ := col_get hC'.out bd.1 bd.2
    have hoff' := PySem.Flt.Hid.mk hoff
    rcases ht with ⟨-, rfl⟩ | ⟨fc1, fc2, fo1, fo2, fv1, fv2, fu1, fu2, fd1, fd2, fd3, fd4, rfl⟩
    · have nI : I9 ≠ (90 : Nat) := fun h => hoff (90, tabObj #[]) (.head _) h.symm
      clear hoff
      k_steps
      have hoff := hoff'.out
      have o1 : ∀ q ∈ ((fc1, fo1) :: (fc2, fo2) :: ((90 : Addr), tabF fc1 fc2) :: fx), q.1 ≠ I9 := List.forall_mem_cons.mpr ⟨Nat.ne_of_gt fl1, List.forall_mem_cons.mpr ⟨Nat.ne_of_gt (Nat.lt_trans fl1 fl2), List.forall_mem_cons.mpr ⟨nI.symm, fun q hq => hoff q (.tail _ hq)⟩⟩⟩
      refine UnrEnd.intro (by assumption) (by assumption) ((fc1, fo1) :: (fc2, fo2) :: ((90 : Addr), tabF fc1 fc2) :: fx) ?_ o1 ⟨rfl, o1, Or.inr ⟨fc1, fc2, fo1, fo2, fv1, fv2, fu1, fu2, fd1, fd2, fd3, fd4, rfl⟩⟩
      exact sub_A
    · clear hoff
      k_steps
      have o1 := hoff'.out
      refine UnrEnd.intro (by assumption) (by assumption) ((fc1, fo1) :: (fc2, fo2) :: ((90 : Addr), tabF fc1 fc2) :: fx) ?_ o1 ⟨rfl, o1, Or.inr ⟨fc1, fc2, fo1, fo2, fv1, fv2, fu1, fu2, fd1, fd2, fd3, fd4, rfl⟩⟩
      exact fun q hq => hq
end Mine
end

-- part W60
section
open PySem PySem.W PyProof.Rows
set_option maxRecDepth 100000
set_option maxHeartbeats 3000000
namespace Mine
theorem pick3 {a b c : Value} {r : List Value} : (slicePick (a :: b :: c :: r).toArray none (some 3) none).toList = [a, b, c] := by
  have e : sliceBounds none (some 3) none (a :: b :: c :: r).toArray.size = (((0 : Nat) : Int), ((3 : Nat) : Int), 1) := by
    rw [List.size_toArray]
    simp only [sliceBounds, Option.getD_none, show (1 : Int) > 0 by decide, if_true, List.length_cons]
    congr 1
    congr 1
    simp
    omega
  rw [kmk_pick_nat _ e]
  rfl
theorem size3 {a b c : Value} {r : List Value} {n1 n2 n3 : Int} {ns : List Int} (hi : IntsAre r ns) (hc : ¬ ((63 : Nat) : Int) < ((n1 :: n2 :: n3 :: ns).length : Int)) : (a :: b :: c :: r).toArray.size ≤ sizeLine := by
  have := hi.length
  rw [List.size_toArray, sizeLine_eq]
  simp only [List.length_cons] at hc ⊢
  omega
def ColAt2 (fx : List (Addr × Obj)) (v : Value) : Prop := ∃ (a : Addr) (p k s : Int) (x y z : Tok), v = .ref a ∧ (a, tup p k s x y z) ∈ fx ∧ a ≠ (90 : Nat) ∧ (0 ≤ p ∧ p < 96) ∧ (0 ≤ k ∧ k < 5) ∧ (0 ≤ s ∧ s < 33)
theorem col_mk {fx : List (Addr × Obj)} {a : Addr} {p k s : Int} {x y z : Tok} (h : (a, tup (p.fmod 96) (k.fmod 5) (s.fmod 33) x y z) ∈ fx) (hne : a ≠ (90 : Nat)) : ColAt2 fx (.ref a) := ⟨a, _, _, _, x, y, z, rfl, h, hne, fmod_bd _ _ (by decide), fmod_bd _ _ (by decide), fmod_bd _ _ (by decide)⟩
theorem use_col {w : World} {mean : ExcName → Option Value} {mg mb : Str → Option Value} {D : Addr} {vs : List Value} {news : List (Addr × Obj)}
    {dp un : Nat} {gd : Option (List Code)} {cn : Str} {cs : Scope} {a : Addr} {ccd : Value} {cl : List (Str × Addr)} {outer : List Env} {A₀ : Around} {base h₀ : Heap} {L : Addr} {m : Str → Option Value} {s : Shared} {Q E : Value → Shared → Prop}
    (B : Below A₀ base outer h₀) (F : Fr h₀ L s.heap m) (X : (Mine.hd.heap_39 w.params).In h₀) (N : News h₀ L s.heap news) (hm : (90, tabObj #[]) ∈ news) (hD : (D, LCg.lst vs) ∈ news) (nD : D ≠ (90 : Nat)) (hn : 2 ≤ vs.length ∧ vs.length ≤ 5) (hC : ∀ v ∈ vs, ColAt2 news v)
    (T : Top topProg LS mean mg mb h₀) (hkd : cs.kind = .function) (C : CodeHd base 94 90) (hd : dp + 12 < recursionLimit) (hu : un + 8 * 12 < cLine)
    (hret : ∀ c1 c2 h' tk', Fr h₀ L h' m → News h₀ L h' [((90 : Addr), tabF c1 c2)] → Q (.bool true) { s with heap := h', toks := tk' }) :
    wpAny (model PySem.Challenge.rw_pe0089_01.row.prog w) (ktrTop dp un gd cn cs L a ccd cl outer) (call (.ref 102) [.ref D]) Q E s := by
  have inF : ∀ {q : Addr × Obj}, q ∈ news → q.1 ≠ (90 : Nat) → q ∈ news.filter (fun q : Addr × Obj => decide (q.1 ≠ (90 : Nat))) := fun h1 h2 => List.mem_filter.mpr ⟨h1, decide_eq_true h2⟩
  refine colours w mean mg mb D vs (news.filter (fun q : Addr × Obj => decide (q.1 ≠ (90 : Nat)))) hn (inF hD nD) (fun v hv => ?_) (fun q hq => of_decide_eq_true (List.mem_filter.mp hq).2) dp un gd cn cs a ccd cl outer A₀ base h₀ L m s Q E B F X (cb_drop N (List.forall_mem_cons.mpr ⟨hm, fun q hq => (List.mem_filter.mp hq).1⟩)) T hkd C hd hu hret
  obtain ⟨b, p, k, s, x, y, z, e, h1, h2, r⟩ := hC v hv
  exact ⟨b, p, k, s, x, y, z, e, inF h1 h2, r⟩
end Mine
end

open PySem PySem.W PyProof.Rows Mine
local macro_rules | `(tactic| k_ne) => `(tactic| (refine neN ?_; (try dsimp only); first | ((with_reducible rename (_ ≠ _ ∧ _ ∧ _) ∧ _ => kq); with_reducible (first | exact kq.1.1 | exact Ne.symm kq.1.1 | exact kq.1.2.1 | exact Ne.symm kq.1.2.1 | exact kq.1.2.2 | exact Ne.symm kq.1.2.2 | exact kq.1 | exact Ne.symm kq.1 | exact kq.2.1 | exact Ne.symm kq.2.1 | exact kq.2.2 | exact Ne.symm kq.2.2 | exact kq.2.1.1 | exact Ne.symm kq.2.1.1 | exact kq.2.1.2.1 | exact Ne.symm kq.2.1.2.1 | exact kq.2.1.2.2 | exact Ne.symm kq.2.1.2.2 | exact kq.2.2.1 | exact Ne.symm kq.2.2.1 | exact kq.2.2.2 | exact Ne.symm kq.2.2.2 | exact kq.2.2.1.1 | exact Ne.symm kq.2.2.1.1 | exact kq.2.2.1.2.1 | exact Ne.symm kq.2.2.1.2.1 | exact kq.2.2.1.2.2 | exact Ne.symm kq.2.2.1.2.2 | exact kq.2.2.2.1 | exact Ne.symm kq.2.2.2.1 | exact kq.2.2.2.2 | exact Ne.symm kq.2.2.2.2 | exact kq.2.2.2.1.1 | exact Ne.symm kq.2.2.2.1.1 | exact kq.2.2.2.1.2.1 | exact Ne.symm kq.2.2.2.1.2.1 | exact kq.2.2.2.1.2.2 | exact Ne.symm kq.2.2.2.1.2.2 | exact kq.2.2.2.2.1 | exact Ne.symm kq.2.2.2.2.1 | exact kq.2.2.2.2.2 | exact Ne.symm kq.2.2.2.2.2 | exact kq.2.2.2.2.1.1 | exact Ne.symm kq.2.2.2.2.1.1 | exact kq.2.2.2.2.1.2.1 | exact Ne.symm kq.2.2.2.2.1.2.1 | exact kq.2.2.2.2.1.2.2 | exact Ne.symm kq.2.2.2.2.1.2.2 | exact kq.2.2.2.2.2.1 | exact Ne.symm kq.2.2.2.2.2.1 | exact kq.2.2.2.2.2.2 | exact Ne.symm kq.2.2.2.2.2.2 | exact kq.2.2.2.2.2.1.1 | exact Ne.symm kq.2.2.2.2.2.1.1 | exact kq.2.2.2.2.2.1.2.1 | exact Ne.symm kq.2.2.2.2.2.1.2.1 | exact kq.2.2.2.2.2.1.2.2 | exact Ne.symm kq.2.2.2.2.2.1.2.2 | exact kq.2.2.2.2.2.2.1 | exact Ne.symm kq.2.2.2.2.2.2.1 | exact kq.2.2.2.2.2.2.2 | exact Ne.symm kq.2.2.2.2.2.2.2 | exact kq.2.2.2.2.2.2.1.1 | exact Ne.symm kq.2.2.2.2.2.2.1.1 | exact kq.2.2.2.2.2.2.1.2.1 | exact Ne.symm kq.2.2.2.2.2.2.1.2.1 | exact kq.2.2.2.2.2.2.1.2.2 | exact Ne.symm kq.2.2.2.2.2.2.1.2.2 | exact kq.2.2.2.2.2.2.2.1 | exact Ne.symm kq.2.2.2.2.2.2.2.1 | exact kq.2.2.2.2.2.2.2.2 | exact Ne.symm kq.2.2.2.2.2.2.2.2 | exact kq.2.2.2.2.2.2.2.1.1 | exact Ne.symm kq.2.2.2.2.2.2.2.1.1 | exact kq.2.2.2.2.2.2.2.1.2.1 | exact Ne.symm kq.2.2.2.2.2.2.2.1.2.1 | exact kq.2.2.2.2.2.2.2.1.2.2 | exact Ne.symm kq.2.2.2.2.2.2.2.1.2.2 | exact kq.2.2.2.2.2.2.2.2.1 | exact Ne.symm kq.2.2.2.2.2.2.2.2.1 | exact kq.2.2.2.2.2.2.2.2.2 | exact Ne.symm kq.2.2.2.2.2.2.2.2.2 | exact kq.2.2.2.2.2.2.2.2.1.1 | exact Ne.symm kq.2.2.2.2.2.2.2.2.1.1 | exact kq.2.2.2.2.2.2.2.2.1.2.1 | exact Ne.symm kq.2.2.2.2.2.2.2.2.1.2.1 | exact kq.2.2.2.2.2.2.2.2.1.2.2 | exact Ne.symm kq.2.2.2.2.2.2.2.2.1.2.2 | exact kq.2.2.2.2.2.2.2.2.2.1 | exact Ne.symm kq.2.2.2.2.2.2.2.2.2.1 | exact kq.2.2.2.2.2.2.2.2.2.2 | exact Ne.symm kq.2.2.2.2.2.2.2.2.2.2 | exact kq.2.2.2.2.2.2.2.2.2.1.1 | exact Ne.symm kq.2.2.2.2.2.2.2.2.2.1.1 | exact kq.2.2.2.2.2.2.2.2.2.1.2.1 | exact Ne.symm kq.2.2.2.2.2.2.2.2.2.1.2.1 | exact kq.2.2.2.2.2.2.2.2.2.1.2.2 | exact Ne.symm kq.2.2.2.2.2.2.2.2.2.1.2.2 | exact kq.2.2.2.2.2.2.2.2.2.2.1 | exact Ne.symm kq.2.2.2.2.2.2.2.2.2.2.1 | exact kq.2.2.2.2.2.2.2.2.2.2.2 | exact Ne.symm kq.2.2.2.2.2.2.2.2.2.2.2 | exact kq.2.2.2.2.2.2.2.2.2.2.1.1 | exact Ne.symm kq.2.2.2.2.2.2.2.2.2.2.1.1 | exact kq.2.2.2.2.2.2.2.2.2.2.1.2.1 | exact Ne.symm kq.2.2.2.2.2.2.2.2.2.2.1.2.1 | exact kq.2.2.2.2.2.2.2.2.2.2.1.2.2 | exact Ne.symm kq.2.2.2.2.2.2.2.2.2.2.1.2.2 | exact kq.2.2.2.2.2.2.2.2.2.2.2.1 | exact Ne.symm kq.2.2.2.2.2.2.2.2.2.2.2.1 | exact kq.2.2.2.2.2.2.2.2.2.2.2.2 | exact Ne.symm kq.2.2.2.2.2.2.2.2.2.2.2.2 | exact kq.2.2.2.2.2.2.2.2.2.2.2.1.1 | exact Ne.symm kq.2.2.2.2.2.2.2.2.2.2.2.1.1 | exact kq.2.2.2.2.2.2.2.2.2.2.2.1.2.1 | exact Ne.symm kq.2.2.2.2.2.2.2.2.2.2.2.1.2.1 | exact kq.2.2.2.2.2.2.2.2.2.2.2.1.2.2 | exact Ne.symm kq.2.2.2.2.2.2.2.2.2.2.2.1.2.2 | exact kq.2.2.2.2.2.2.2.2.2.2.2.2.1 | exact Ne.symm kq.2.2.2.2.2.2.2.2.2.2.2.2.1 | exact kq.2.2.2.2.2.2.2.2.2.2.2.2.2 | exact Ne.symm kq.2.2.2.2.2.2.2.2.2.2.2.2.2 | exact kq.2.2.2.2.2.2.2.2.2.2.2.2.1.1 | exact Ne.symm kq.2.2.2.2.2.2.2.2.2.2.2.2.1.1 | exact kq.2.2.2.2.2.2.2.2.2.2.2.2.1.2.1 | exact Ne.symm kq.2.2.2.2.2.2.2.2.2.2.2.2.1.2.1 | exact kq.2.2.2.2.2.2.2.2.2.2.2.2.1.2.2 | exact Ne.symm kq.2.2.2.2.2.2.2.2.2.2.2.2.1.2.2 | exact kq.2.2.2.2.2.2.2.2.2.2.2.2.2.1 | exact Ne.symm kq.2.2.2.2.2.2.2.2.2.2.2.2.2.1 | exact kq.2.2.2.2.2.2.2.2.2.2.2.2.2.2 | exact Ne.symm kq.2.2.2.2.2.2.2.2.2.2.2.2.2.2 | exact kq.2.2.2.2.2.2.2.2.2.2.2.2.2.1.1 | exact Ne.symm kq.2.2.2.2.2.2.2.2.2.2.2.2.2.1.1 | exact kq.2.2.2.2.2.2.2.2.2.2.2.2.2.1.2.1 | exact Ne.symm kq.2.2.2.2.2.2.2.2.2.2.2.2.2.1.2.1 | exact kq.2.2.2.2.2.2.2.2.2.2.2.2.2.1.2.2 | exact Ne.symm kq.2.2.2.2.2.2.2.2.2.2.2.2.2.1.2.2 | exact kq.2.2.2.2.2.2.2.2.2.2.2.2.2.2.1 | exact Ne.symm kq.2.2.2.2.2.2.2.2.2.2.2.2.2.2.1 | exact kq.2.2.2.2.2.2.2.2.2.2.2.2.2.2.2 | exact Ne.symm kq.2.2.2.2.2.2.2.2.2.2.2.2.2.2.2 | exact kq.2.2.2.2.2.2.2.2.2.2.2.2.2.2.1.1 | exact Ne.symm kq.2.2.2.2.2.2.2.2.2.2.2.2.2.2.1.1 | exact kq.2.2.2.2.2.2.2.2.2.2.2.2.2.2.1.2.1 | exact Ne.symm kq.2.2.2.2.2.2.2.2.2.2.2.2.2.2.1.2.1 | exact kq.2.2.2.2.2.2.2.2.2.2.2.2.2.2.1.2.2 | exact Ne.symm kq.2.2.2.2.2.2.2.2.2.2.2.2.2.2.1.2.2 | exact kq.2.2.2.2.2.2.2.2.2.2.2.2.2.2.2.1 | exact Ne.symm kq.2.2.2.2.2.2.2.2.2.2.2.2.2.2.2.1 | exact kq.2.2.2.2.2.2.2.2.2.2.2.2.2.2.2.2 | exact Ne.symm kq.2.2.2.2.2.2.2.2.2.2.2.2.2.2.2.2 | exact kq.2.2.2.2.2.2.2.2.2.2.2.2.2.2.2.1.1 | exact Ne.symm kq.2.2.2.2.2.2.2.2.2.2.2.2.2.2.2.1.1 | exact kq.2.2.2.2.2.2.2.2.2.2.2.2.2.2.2.1.2.1 | exact Ne.symm kq.2.2.2.2.2.2.2.2.2.2.2.2.2.2.2.1.2.1 | exact kq.2.2.2.2.2.2.2.2.2.2.2.2.2.2.2.1.2.2 | exact Ne.symm kq.2.2.2.2.2.2.2.2.2.2.2.2.2.2.2.1.2.2 | exact kq.2.2.2.2.2.2.2.2.2.2.2.2.2.2.2.2.1 | exact Ne.symm kq.2.2.2.2.2.2.2.2.2.2.2.2.2.2.2.2.1 | exact kq.2.2.2.2.2.2.2.2.2.2.2.2.2.2.2.2.2 | exact Ne.symm kq.2.2.2.2.2.2.2.2.2.2.2.2.2.2.2.2.2)) | omega))
set_option maxRecDepth 100000 in
set_option maxHeartbeats 8000000 in
theorem PySem.Challenge.cw_pe0089_01_holds : PySem.Challenge.rw_pe0089_01.Holds := by
  refine Mine.hd ?_
  k_go0
  all_goals try k_fold
  k_with_none
  k_with "call ref" => (k_dflt (refine' use_col ?k1 ?k2 ?k3 ?k4 ?kl ?hD ?nD ?hn ?hC ?k5 ?k6 ?kC ?k7 ?k8 ?_; (case k1 => k_asm); (case k2 => k_asm); (case k3 => k_asm); (case k4 => k_asm); (case kl => k_mem); (case hD => k_mem); (case nD => k_ne); (case hn => exact ⟨Nat.le_of_ble_eq_true rfl, Nat.le_of_ble_eq_true rfl⟩); (case hC => repeat (first | exact List.forall_mem_nil _ | refine List.forall_mem_cons.mpr ⟨col_mk (by k_mem) (by k_ne), ?_⟩)); (case k5 => k_asm); (case k6 => first | exact rfl | assumption); (case kC => k_asm); (case k7 => ktr_room); (case k8 => ktr_units)); intro fc1 fc2 h9 tk9 F9 N9; (try dsimp only); (try k_fold))
  k_with "subscriptTail Name Slice ref ref" => (k_dflt (refine' kmk_slice_lit ?sl1 ?sl2 ?sl3 ?sl4 ?sl5 ?sl6 ?_ ?sl7 ?sl8 ?sl9; (case sl1 => k_asm); (case sl2 => k_asm); (case sl3 => kmk_list); (case sl4 => kmk_part); (case sl5 => kmk_part); (case sl6 => exact pick3); (case sl7 => with_unfolding_all rfl); (case sl8 => kmk_pure); (case sl9 => exact size3 (by assumption) (by assumption))); intro D' h' F' N' l1; (try k_lt l1); (try k_sweep))
  rename IntsAre _ _ => hI
  cases hI
  · k_steps
  · rename IntsAre _ _ => hI
    cases hI
    · k_steps
    · rename IntsAre _ _ => hI
      cases hI
      · k_steps
      · k_steps
