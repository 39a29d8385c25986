import PyProof.Rows.All
import Wide.All
import OpenK.AllK
import Wide.FinOn
import PySem.Challenge.RW_ak5011_01
set_option Elab.async false
namespace Mine
section
open PySem PySem.W PyProof.Rows
set_option maxRecDepth 100000 in
set_option maxHeartbeats 8000000 in
open_top hd for PySem.Challenge.rw_ak5011_01
end
section
set_option exponentiation.threshold 3000
open PySem PySem.Float64
def U : Nat := 2 ^ 1052
theorem U_pos : 0 < U := Nat.two_pow_pos _
theorem U_big : (2 : Nat) ^ 1074 = U * 2 ^ 22 := (Nat.pow_add 2 1052 22)

/-- x is finite and lies between two points of the grid of 2^-22 -/
def In (x : UInt64) (lo hi : Int) : Prop := (∃ a m e, decode x = .fin a m e) ∧ lo * (U : Int) ≤ val x ∧ val x ≤ hi * (U : Int)

theorem V_grid {g : Nat} (hg : g ≤ 2 ^ 52) : ∃ t, t < infMag ∧ V t = g * U := by
  by_cases h0 : g = 0
  · exact ⟨0, by decide, by rw [V_zero, h0, Nat.zero_mul]⟩
  · have hl := Nat.log2_self_le h0
    have hu := @Nat.lt_log2_self g
    generalize hL : g.log2 = l at *
    have hl52 : l ≤ 52 := by
      rcases Nat.lt_or_ge l 53 with h | h
      · omega
      · have := Nat.pow_le_pow_right (show 0 < 2 by decide) h
        omega
    have hq1 : 2 ^ 52 ≤ g * 2 ^ (52 - l) := by
      have := Nat.mul_le_mul_right (2 ^ (52 - l)) hl
      rw [← Nat.pow_add] at this
      rw [show l + (52 - l) = 52 by omega] at this
      exact this
    have hq2 : g * 2 ^ (52 - l) < 2 ^ 53 := by
      have := Nat.mul_lt_mul_of_pos_right hu (Nat.two_pow_pos (52 - l))
      rw [← Nat.pow_add] at this
      rw [show l + 1 + (52 - l) = 53 by omega] at this
      exact this
    refine ⟨(1000 + l) * 2 ^ 52 + g * 2 ^ (52 - l), ?_, ?_⟩
    · have : infMag = 2047 * 2 ^ 52 := rfl
      rw [this]
      have h1 : (1000 + l) * 2 ^ 52 ≤ 1052 * 2 ^ 52 := Nat.mul_le_mul_right _ (by omega)
      omega
    · rw [V_at (Nat.le_of_lt hq2) (.inl hq1), Nat.mul_assoc, ← Nat.pow_add]
      rw [show 52 - l + (1000 + l) = 1052 by omega]
      exact rfl

theorem right_grid {r : UInt64} {neg : Bool} {W D g : Nat} (hr : Right r neg W D) (hD : 0 < D) (hg : g ≤ 2 ^ 52) (hW : W ≤ D * (g * U)) :
    ∃ t, r = pack neg t ∧ t < infMag ∧ V t ≤ g * U ∧ ∀ g', g' ≤ 2 ^ 52 → D * (g' * U) ≤ W → g' * U ≤ V t := by
  obtain ⟨t, ht, hle, hinf, hn⟩ := hr
  have hfin : t < infMag := by
    rcases Nat.lt_or_ge t infMag with h | h
    · exact h
    · exfalso
      have h2 := hinf.mp (by omega)
      have h3 : D * (g * U) ≤ D * (2 ^ 52 * U) := Nat.mul_le_mul_left _ (Nat.mul_le_mul_right _ hg)
      have h4 : 2 * (D * (2 ^ 52 * U)) = D * (2 * (2 ^ 52 * U)) := by ac_rfl
      have h5 : D * ((2 ^ 54 - 1) * 2 ^ 2045) ≤ D * (2 * (2 ^ 52 * U)) := by omega
      have h6 := Nat.le_of_mul_le_mul_left h5 hD
      have h7 : ∃ c : Nat, 1 ≤ c ∧ (2 : Nat) ^ 2045 = U * c :=
        ⟨2 ^ 22 * 2 ^ 971, Nat.mul_pos (Nat.two_pow_pos _) (Nat.two_pow_pos _), by rw [← Nat.mul_assoc, ← U_big, ← Nat.pow_add]⟩
      obtain ⟨c, hc, h7⟩ := h7
      rw [h7] at h6
      have h8 : (2 ^ 54 - 1) * (U * c) = U * ((2 ^ 54 - 1) * c) := by ac_rfl
      have h9 : 2 * (2 ^ 52 * U) = U * 2 ^ 53 := by
        rw [← Nat.mul_assoc, Nat.mul_comm]
      rw [h8, h9] at h6
      have h10 := Nat.le_of_mul_le_mul_left h6 U_pos
      have h12 : (2 ^ 54 - 1) * 1 ≤ (2 ^ 54 - 1) * c := Nat.mul_le_mul_left _ hc
      omega
  refine ⟨t, ht, hfin, ?_, fun g' hg' hW' => ?_⟩
  · obtain ⟨tg, _, hVg⟩ := V_grid hg
    have hd := (hn hfin tg).1
    rw [hVg] at hd
    rcases Nat.lt_or_ge (g * U) (V t) with h | h
    · exfalso
      have := Nat.mul_lt_mul_of_pos_left h hD
      unfold Float64.dist at hd
      omega
    · exact h
  · obtain ⟨tg, _, hVg⟩ := V_grid hg'
    have hd := (hn hfin tg).1
    rw [hVg] at hd
    rcases Nat.lt_or_ge (V t) (g' * U) with h | h
    · exfalso
      have := Nat.mul_lt_mul_of_pos_left h hD
      unfold Float64.dist at hd
      omega
    · exact h

theorem in_of_right {r : UInt64} {neg : Bool} {W D : Nat} {lo hi : Int} (hr : Right r neg W D) (hD : 0 < D)
    (h1 : (D : Int) * (lo * U) ≤ sgn neg W) (h2 : sgn neg W ≤ (D : Int) * (hi * U)) (hlo : -2 ^ 52 ≤ lo) (hhi : hi ≤ 2 ^ 52) : In r lo hi := by
  have hDU : (0 : Int) < (D : Int) * (U : Int) := by
    have := Nat.mul_pos hD U_pos
    have h := Int.ofNat_lt.mpr this
    rw [Int.natCast_mul] at h
    exact h
  have ha : (D : Int) * (lo * U) = lo * ((D : Int) * U) := by ac_rfl
  have hb : (D : Int) * (hi * U) = hi * ((D : Int) * U) := by ac_rfl
  have hlh : lo ≤ hi := by
    have : lo * ((D : Int) * U) ≤ hi * ((D : Int) * U) := by rw [← ha, ← hb]; exact Int.le_trans h1 h2
    exact Int.le_of_mul_le_mul_right this hDU
  have hUp : (0 : Int) < (U : Int) := Int.ofNat_lt.mpr U_pos
  cases neg with
  | false =>
    have hs : sgn false W = (W : Int) := by unfold sgn; simp
    rw [hs] at h1 h2
    have hhi0 : 0 ≤ hi := by
      rcases Int.lt_or_le hi 0 with h | h
      · exfalso
        have := Int.mul_neg_of_neg_of_pos h hDU
        omega
      · exact h
    obtain ⟨n, rfl⟩ := Int.eq_ofNat_of_zero_le hhi0
    have hW : W ≤ D * (n * U) := by
      have : ((W : Nat) : Int) ≤ ((D * (n * U) : Nat) : Int) := by simpa [Int.natCast_mul] using h2
      exact Int.ofNat_le.mp this
    obtain ⟨t, ht, hf, hle, hge⟩ := right_grid hr hD (by omega) hW
    obtain ⟨m, e, hd, hv⟩ := decode_pack false hf
    subst ht
    have hval : val (pack false t) = ((V t : Nat) : Int) := by rw [val_pack false hf]; unfold sgn; simp
    refine ⟨⟨_, _, _, hd⟩, ?_, ?_⟩
    · rw [hval]
      rcases Int.lt_or_le lo 0 with h | h
      · have := Int.mul_neg_of_neg_of_pos h hUp
        omega
      · obtain ⟨k, rfl⟩ := Int.eq_ofNat_of_zero_le h
        have h3 : D * (k * U) ≤ W := by
          have : ((D * (k * U) : Nat) : Int) ≤ ((W : Nat) : Int) := by simpa [Int.natCast_mul] using h1
          exact Int.ofNat_le.mp this
        have := hge k (by omega) h3
        have := Int.ofNat_le.mpr this
        rw [Int.natCast_mul] at this
        exact this
    · rw [hval]
      have := Int.ofNat_le.mpr hle
      rw [Int.natCast_mul] at this
      exact this
  | true =>
    have hs : sgn true W = -(W : Int) := by unfold sgn; simp
    rw [hs] at h1 h2
    have hlo0 : lo ≤ 0 := by
      rcases Int.lt_or_le 0 lo with h | h
      · exfalso
        have := Int.mul_pos h hDU
        omega
      · exact h
    obtain ⟨n, hn⟩ := Int.eq_ofNat_of_zero_le (show 0 ≤ -lo by omega)
    have hlo' : lo = -(n : Int) := by omega
    subst hlo'
    have hW : W ≤ D * (n * U) := by
      have e : (D : Int) * (-(n : Int) * U) = -(((D * (n * U) : Nat) : Int)) := by
        rw [Int.natCast_mul, Int.natCast_mul, Int.neg_mul, Int.mul_neg]
      rw [e] at h1
      omega
    obtain ⟨t, ht, hf, hle, hge⟩ := right_grid hr hD (by omega) hW
    obtain ⟨m, e, hd, hv⟩ := decode_pack true hf
    subst ht
    have hval : val (pack true t) = -((V t : Nat) : Int) := by rw [val_pack true hf]; unfold sgn; simp
    refine ⟨⟨_, _, _, hd⟩, ?_, ?_⟩
    · rw [hval]
      have := Int.ofNat_le.mpr hle
      rw [Int.natCast_mul] at this
      rw [Int.neg_mul]
      omega
    · rw [hval]
      rcases Int.lt_or_le 0 hi with h | h
      · have := Int.mul_pos h hUp
        omega
      · obtain ⟨k, hk⟩ := Int.eq_ofNat_of_zero_le (show 0 ≤ -hi by omega)
        have hhi' : hi = -(k : Int) := by omega
        subst hhi'
        have h3 : D * (k * U) ≤ W := by
          have e : (D : Int) * (-(k : Int) * U) = -(((D * (k * U) : Nat) : Int)) := by
            rw [Int.natCast_mul, Int.natCast_mul, Int.neg_mul, Int.mul_neg]
          rw [e] at h2
          omega
        have := hge k (by omega) h3
        have := Int.ofNat_le.mpr this
        rw [Int.natCast_mul] at this
        rw [Int.neg_mul]
        omega

theorem sgn_decide (v : Int) : sgn (decide (v < 0)) v.natAbs = v := by
  unfold sgn
  by_cases h : v < 0
  · simp [h]; omega
  · simp [h]; omega

theorem in_zero (b : Bool) : In (zero b) 0 0 := by
  have hd : ∃ m e, decode (zero b) = .fin b m e := by cases b <;> with_unfolding_all exact ⟨_, _, rfl⟩
  obtain ⟨m, e, hd⟩ := hd
  have hv : val (zero b) = 0 := by
    unfold zero
    rw [val_pack b (t := 0) (by decide), V_zero]
    unfold sgn
    cases b <;> rfl
  refine ⟨⟨_, _, _, hd⟩, ?_, ?_⟩ <;> rw [hv] <;> simp

theorem In.wide {x : UInt64} {a b c d : Int} (h : In x a b) (h1 : c ≤ a) (h2 : b ≤ d) : In x c d := by
  have hUp : (0 : Int) ≤ (U : Int) := Int.natCast_nonneg _
  exact ⟨h.1, Int.le_trans (Int.mul_le_mul_of_nonneg_right h1 hUp) h.2.1, Int.le_trans h.2.2 (Int.mul_le_mul_of_nonneg_right h2 hUp)⟩

theorem in_exact {x : UInt64} {lo hi v : Int} {b : Bool} (hz : v = 0 → x = zero b) (hr : v ≠ 0 → Right x (decide (v < 0)) v.natAbs 1)
    (h1 : lo * U ≤ v) (h2 : v ≤ hi * U) (hlo : -2 ^ 52 ≤ lo) (hhi : hi ≤ 2 ^ 52) : In x lo hi := by
  have hUp : (0 : Int) < (U : Int) := Int.ofNat_lt.mpr U_pos
  by_cases h : v = 0
  · rw [hz h]
    subst h
    refine (in_zero b).wide ?_ ?_
    · rcases Int.lt_or_le 0 lo with h | h
      · have := Int.mul_pos h hUp; omega
      · exact h
    · rcases Int.lt_or_le hi 0 with h | h
      · have := Int.mul_neg_of_neg_of_pos h hUp; omega
      · exact h
  · refine in_of_right (hr h) (by decide) ?_ ?_ hlo hhi
    · rw [sgn_decide]; simpa using h1
    · rw [sgn_decide]; simpa using h2

theorem in_add {x y : UInt64} {a b c d : Int} (hx : In x a b) (hy : In y c d) (hlo : -2 ^ 52 ≤ a + c) (hhi : b + d ≤ 2 ^ 52) : In (add x y) (a + c) (b + d) := by
  obtain ⟨⟨sx, mx, ex, dx⟩, x1, x2⟩ := hx
  obtain ⟨⟨sy, my, ey, dy⟩, y1, y2⟩ := hy
  have h := add_right dx dy
  refine in_exact h.1 h.2 ?_ ?_ hlo hhi
  · rw [Int.add_mul]; omega
  · rw [Int.add_mul]; omega

theorem in_neg {y : UInt64} {c d : Int} (hy : In y c d) : In (neg y) (-d) (-c) := by
  obtain ⟨⟨sy, my, ey, dy⟩, y1, y2⟩ := hy
  refine ⟨⟨_, _, _, neg_decode dy⟩, ?_, ?_⟩
  · rw [neg_val dy, Int.neg_mul]; omega
  · rw [neg_val dy, Int.neg_mul]; omega

theorem in_sub {x y : UInt64} {a b c d : Int} (hx : In x a b) (hy : In y c d) (hlo : -2 ^ 52 ≤ a - d) (hhi : b - c ≤ 2 ^ 52) : In (sub x y) (a - d) (b - c) := by
  unfold sub
  exact in_add hx (in_neg hy) hlo hhi

theorem U74 : ((2 ^ 1074 : Nat) : Int) = (U : Int) * 2 ^ 22 := by
  rw [U_big, Int.natCast_mul]; rfl

theorem in_ofInt {n : Int} (h1 : -2 ^ 30 ≤ n) (h2 : n ≤ 2 ^ 30) : In (ofInt n) (n * 2 ^ 22) (n * 2 ^ 22) := by
  have e : sgn (decide (n < 0)) (n.natAbs * 2 ^ 1074) = n * 2 ^ 22 * (U : Int) := by
    rw [sgn_mul, sgn_decide, U74]
    ac_rfl
  refine in_of_right (ofInt_right n) (by decide) ?_ ?_ (by omega) (by omega)
  · rw [e]; simp
  · rw [e]; simp

theorem finite_of_in {x : UInt64} {a b : Int} (h : In x a b) : isFinite x = true := by
  obtain ⟨⟨_, _, _, hd⟩, _⟩ := h
  unfold isFinite
  rw [hd]
end
section
set_option exponentiation.threshold 3000
open PySem PySem.Float64 PySem.Flt
theorem Up : (0 : Int) < (U : Int) := Int.ofNat_lt.mpr U_pos
theorem U22 : (0 : Int) < (U : Int) * 2 ^ 22 := Int.mul_pos Up (by decide)

/-- n is exact in y, n an int that is small -/
theorem val_exact {y : UInt64} {n : Int} (h : In y (n * 2 ^ 22) (n * 2 ^ 22)) : val y = n * ((U : Int) * 2 ^ 22) := by
  have h1 := h.2.1
  have h2 := h.2.2
  have e : n * 2 ^ 22 * (U : Int) = n * ((U : Int) * 2 ^ 22) := by ac_rfl
  omega

theorem sgn_div {x : Int} {a b : Bool} (hx : sgn a x.natAbs = x ∨ x = 0) (hb : b = false) : sgn (a != b) x.natAbs = x := by
  subst hb
  have : (a != false) = a := by cases a <;> rfl
  rw [this]
  rcases hx with h | h
  · exact h
  · subst h; unfold sgn; cases a <;> simp

theorem val_sgn {x : UInt64} {a : Bool} {m : Nat} {e : Int} (h : decode x = .fin a m e) : sgn a (val x).natAbs = val x := by
  rw [val_eq h, sgn_natAbs]

theorem pos_sign {y : UInt64} {b : Bool} {k : Nat} {f : Int} (h : decode y = .fin b k f) (hp : 0 < val y) : b = false ∧ k ≠ 0 := by
  rw [val_eq h] at hp
  cases b with
  | false =>
    refine ⟨rfl, fun hk => ?_⟩
    subst hk
    unfold sgn at hp
    simp at hp
  | true =>
    exfalso
    unfold sgn at hp
    simp only [if_true] at hp
    omega

/-- a quotient: y lies in the grid, above nought -/
theorem in_div {x y : UInt64} {lo hi : Int} (fx : isFinite x = true) (fy : isFinite y = true) (hp : 0 < val y)
    (h1 : val y * lo ≤ val x * 2 ^ 22) (h2 : val x * 2 ^ 22 ≤ val y * hi) (hlo : -2 ^ 52 ≤ lo) (hhi : hi ≤ 2 ^ 52) : In (div x y) lo hi := by
  unfold isFinite at fx fy
  cases dx : decode x with
  | nan => rw [dx] at fx; cases fx
  | inf _ => rw [dx] at fx; cases fx
  | fin a m e =>
  cases dy : decode y with
  | nan => rw [dy] at fy; cases fy
  | inf _ => rw [dy] at fy; cases fy
  | fin b k f =>
  obtain ⟨hb, hk⟩ := pos_sign dy hp
  have hr := div_right dx dy hk
  have hD : ((val y).natAbs : Int) = val y := by omega
  have hs : sgn (a != b) ((val x).natAbs * 2 ^ 1074) = val x * ((U : Int) * 2 ^ 22) := by
    rw [sgn_mul, sgn_div (.inl (val_sgn dx)) hb, U74]
  have hU := Int.le_of_lt Up
  refine in_of_right hr (by omega) ?_ ?_ hlo hhi
  · rw [hs, hD]
    have := Int.mul_le_mul_of_nonneg_right h1 hU
    have e1 : val y * lo * (U : Int) = val y * (lo * U) := by ac_rfl
    have e2 : val x * 2 ^ 22 * (U : Int) = val x * ((U : Int) * 2 ^ 22) := by ac_rfl
    omega
  · rw [hs, hD]
    have := Int.mul_le_mul_of_nonneg_right h2 hU
    have e1 : val y * hi * (U : Int) = val y * (hi * U) := by ac_rfl
    have e2 : val x * 2 ^ 22 * (U : Int) = val x * ((U : Int) * 2 ^ 22) := by ac_rfl
    omega

theorem in_div_int {x : UInt64} {a b lo hi n : Int} (hx : In x a b) (hn : 0 < n) (hn2 : n ≤ 2 ^ 30)
    (h1 : lo * n ≤ a) (h2 : b ≤ hi * n) (hlo : -2 ^ 52 ≤ lo) (hhi : hi ≤ 2 ^ 52) : In (div x (ofInt n)) lo hi := by
  have hy := in_ofInt (n := n) (by omega) hn2
  have hv := val_exact hy
  have hU := Int.le_of_lt Up
  have h3 : 0 < val (ofInt n) := by rw [hv]; exact Int.mul_pos hn U22
  refine in_div (finite_of_in hx) (finite_of_in hy) h3 ?_ ?_ hlo hhi
  · rw [hv]
    have p1 := Int.mul_le_mul_of_nonneg_right h1 hU
    have p2 := hx.2.1
    have e : n * ((U : Int) * 2 ^ 22) * lo = lo * n * U * 2 ^ 22 := by ac_rfl
    omega
  · rw [hv]
    have p1 := Int.mul_le_mul_of_nonneg_right h2 hU
    have p2 := hx.2.2
    have e : n * ((U : Int) * 2 ^ 22) * hi = hi * n * U * 2 ^ 22 := by ac_rfl
    omega

/-- a quotient of two ints -/
theorem in_frac {a n lo hi : Int} (hn : 0 < n) (h1 : lo * n ≤ a * 2 ^ 22) (h2 : a * 2 ^ 22 ≤ hi * n) (hlo : -2 ^ 52 ≤ lo) (hhi : hi ≤ 2 ^ 52) :
    In (ofFrac (decide (a < 0) != decide (n < 0)) a.natAbs n.natAbs) lo hi := by
  have hb : decide (n < 0) = false := by simp; omega
  have hr : Right (ofFrac (decide (a < 0) != decide (n < 0)) a.natAbs n.natAbs) (decide (a < 0) != decide (n < 0)) (a.natAbs * 2 ^ 1074) n.natAbs :=
    ofFrac_right (by omega) rfl (by omega)
  have hs : sgn (decide (a < 0) != decide (n < 0)) (a.natAbs * 2 ^ 1074) = a * ((U : Int) * 2 ^ 22) := by
    rw [sgn_mul, sgn_div (.inl (sgn_decide a)) hb, U74]
  have hD : (n.natAbs : Int) = n := by omega
  have hU := Int.le_of_lt Up
  refine in_of_right hr (by omega) ?_ ?_ hlo hhi
  · rw [hs, hD]
    have := Int.mul_le_mul_of_nonneg_right h1 hU
    have e1 : lo * n * (U : Int) = n * (lo * U) := by ac_rfl
    have e2 : a * 2 ^ 22 * (U : Int) = a * ((U : Int) * 2 ^ 22) := by ac_rfl
    omega
  · rw [hs, hD]
    have := Int.mul_le_mul_of_nonneg_right h2 hU
    have e1 : hi * n * (U : Int) = n * (hi * U) := by ac_rfl
    have e2 : a * 2 ^ 22 * (U : Int) = a * ((U : Int) * 2 ^ 22) := by ac_rfl
    omega

/-- a product with an exact int -/
theorem in_mul_int {x : UInt64} {n lo hi : Int} (fx : isFinite x = true) (hn1 : -2 ^ 30 ≤ n) (hn2 : n ≤ 2 ^ 30)
    (h1 : lo * U ≤ val x * n) (h2 : val x * n ≤ hi * U) (hlo : -2 ^ 52 ≤ lo) (hhi : hi ≤ 2 ^ 52) : In (mul x (ofInt n)) lo hi := by
  have hy := in_ofInt (n := n) hn1 hn2
  have hv := val_exact hy
  have fy := finite_of_in hy
  unfold isFinite at fx fy
  cases dx : decode x with
  | nan => rw [dx] at fx; cases fx
  | inf _ => rw [dx] at fx; cases fx
  | fin a m e =>
  cases dy : decode (ofInt n) with
  | nan => rw [dy] at fy; cases fy
  | inf _ => rw [dy] at fy; cases fy
  | fin b k f =>
  have hr := mul_right dx dy
  have hs : sgn (a != b) ((val x).natAbs * (val (ofInt n)).natAbs) = val x * val (ofInt n) := by
    have s1 := val_sgn dx
    have s2 := val_sgn dy
    generalize (val x).natAbs = p at *
    generalize (val (ofInt n)).natAbs = q at *
    rw [← s1, ← s2]
    unfold sgn
    cases a <;> cases b <;> simp [Int.neg_mul, Int.mul_neg]
  have hU := Int.le_of_lt U22
  refine in_of_right hr (Nat.two_pow_pos _) ?_ ?_ hlo hhi
  · rw [hs, hv, U74]
    have := Int.mul_le_mul_of_nonneg_right h1 hU
    have e1 : lo * (U : Int) * ((U : Int) * 2 ^ 22) = (U : Int) * 2 ^ 22 * (lo * U) := by ac_rfl
    have e2 : val x * n * ((U : Int) * 2 ^ 22) = val x * (n * ((U : Int) * 2 ^ 22)) := by ac_rfl
    omega
  · rw [hs, hv, U74]
    have := Int.mul_le_mul_of_nonneg_right h2 hU
    have e1 : hi * (U : Int) * ((U : Int) * 2 ^ 22) = (U : Int) * 2 ^ 22 * (hi * U) := by ac_rfl
    have e2 : val x * n * ((U : Int) * 2 ^ 22) = val x * (n * ((U : Int) * 2 ^ 22)) := by ac_rfl
    omega

theorem mul_comm_bits (x y : UInt64) : mul x y = mul y x := by
  unfold mul
  cases decode x <;> cases decode y <;> simp only [bne_comm, Nat.mul_comm, Int.add_comm]

/-! floor, ceil, trunc, round -/
theorem floor_spec {s : Bool} {m : Nat} {e : Int} (he : -1074 ≤ e) :
    floorOf s m e * (2 ^ 1074 : Nat) ≤ sgn s (m * 2 ^ (e + 1074).toNat) ∧ sgn s (m * 2 ^ (e + 1074).toNat) < (floorOf s m e + 1) * (2 ^ 1074 : Nat) := by
  unfold floorOf
  rw [sgn_mul]
  split
  · rename_i h
    have e1 : (e + 1074).toNat = e.toNat + 1074 := by omega
    rw [e1, Nat.pow_add, Int.natCast_mul]
    have hp : (0 : Int) < ((2 ^ 1074 : Nat) : Int) := Int.ofNat_lt.mpr (Nat.two_pow_pos _)
    have e2 : ((2 ^ e.toNat : Nat) : Int) = (2 : Int) ^ e.toNat := by simp
    rw [e2, Int.add_mul, Int.mul_assoc]
    omega
  · rename_i h
    have hk : (2 ^ 1074 : Nat) = 2 ^ (e + 1074).toNat * 2 ^ (-e).toNat := by
      rw [← Nat.pow_add]
      congr 1
      omega
    rw [hk, Int.natCast_mul]
    have hpj : (0 : Int) < ((2 ^ (e + 1074).toNat : Nat) : Int) := Int.ofNat_lt.mpr (Nat.two_pow_pos _)
    have hpk : (0 : Int) < ((2 ^ (-e).toNat : Nat) : Int) := Int.ofNat_lt.mpr (Nat.two_pow_pos _)
    have e2 : (2 : Int) ^ (-e).toNat = ((2 ^ (-e).toNat : Nat) : Int) := by simp
    rw [e2]
    generalize ((2 ^ (e + 1074).toNat : Nat) : Int) = J at *
    generalize ((2 ^ (-e).toNat : Nat) : Int) = K at *
    generalize sgn s m = v at *
    have hq : v.fdiv K = v / K := Int.fdiv_eq_ediv_of_nonneg _ (Int.le_of_lt hpk)
    rw [hq]
    have h1 := Int.mul_ediv_add_emod v K
    have h2 := Int.emod_nonneg v (Int.ne_of_gt hpk)
    have h3 := Int.emod_lt_of_pos v hpk
    generalize v / K = q at *
    have f1 : K * q ≤ v := by omega
    have f2 : v < K * (q + 1) := by rw [Int.mul_add]; omega
    have g1 := Int.mul_le_mul_of_nonneg_right f1 (Int.le_of_lt hpj)
    have g2 := Int.mul_lt_mul_of_pos_right f2 hpj
    constructor
    · have e3 : q * (J * K) = K * q * J := by ac_rfl
      omega
    · have e3 : (q + 1) * (J * K) = K * (q + 1) * J := by ac_rfl
      omega

theorem floor_in {x : UInt64} {a b : Int} (h : In x a b) : a / 2 ^ 22 ≤ toInt floorOf x ∧ toInt floorOf x ≤ b / 2 ^ 22 := by
  obtain ⟨⟨s, m, e, d⟩, h1, h2⟩ := h
  rw [toInt_fin d]
  have hf := floor_spec (s := s) (m := m) (decode_ge d)
  rw [← val_eq d, U74] at hf
  generalize floorOf s m e = q at *
  have e1 : q * ((U : Int) * 2 ^ 22) = q * 2 ^ 22 * U := by ac_rfl
  have e2 : (q + 1) * ((U : Int) * 2 ^ 22) = (q + 1) * 2 ^ 22 * U := by ac_rfl
  rw [e1, e2] at hf
  have f1 : a * (U : Int) < (q + 1) * 2 ^ 22 * U := by omega
  have f2 : q * 2 ^ 22 * (U : Int) ≤ b * U := by omega
  have g1 := Int.lt_of_mul_lt_mul_right f1 (Int.le_of_lt Up)
  have g2 := Int.le_of_mul_le_mul_right f2 Up
  omega

theorem ceil_in {x : UInt64} {a b : Int} (h : In x a b) : -((-a) / 2 ^ 22) ≤ toInt ceilOf x ∧ toInt ceilOf x ≤ -((-b) / 2 ^ 22) := by
  have hn := in_neg h
  obtain ⟨⟨s, m, e, d⟩, h1, h2⟩ := h
  have hf := floor_in hn
  rw [toInt_fin (neg_decode d)] at hf
  rw [toInt_fin d]
  unfold ceilOf
  omega

theorem trunc_in {x : UInt64} {n : Int} (h : In x (n * 2 ^ 22) (n * 2 ^ 22)) : toInt truncOf x = n := by
  have hf := floor_in h
  have hc := ceil_in h
  obtain ⟨⟨s, m, e, d⟩, h1, h2⟩ := h
  rw [toInt_fin d] at *
  unfold truncOf
  split <;> omega

theorem near_spec {s : Bool} {m : Nat} {e : Int} (he : -1074 ≤ e) :
    2 * (nearestOf s m e * (2 ^ 1074 : Nat) - sgn s (m * 2 ^ (e + 1074).toNat)).natAbs ≤ 2 ^ 1074 := by
  unfold nearestOf
  have hs := shift_one m e 1074 (by omega)
  have hd := shift_pos m 1 e (by decide)
  generalize hE : (shift m 1 e) = nd at *
  obtain ⟨n, d⟩ := nd
  simp only at *
  have hb : 2 * Float64.dist n (d * halfEven n d) ≤ d := by
    have hn := Nat.div_add_mod n d
    have hr := Nat.mod_lt n hd
    generalize hq : n / d = q at *
    generalize hrr : n % d = r at *
    have hup : d * (q + 1) = d * q + d := by rw [Nat.mul_add, Nat.mul_one]
    unfold halfEven Float64.dist
    simp only [hq, hrr]
    split
    · rename_i h
      simp only [Bool.or_eq_true, decide_eq_true_eq, Bool.and_eq_true, beq_iff_eq] at h
      rw [hup]; omega
    · rename_i h
      simp only [Bool.or_eq_true, decide_eq_true_eq, Bool.and_eq_true, beq_iff_eq, not_or, not_and] at h
      omega
  have he2 : e + ((1074 : Nat) : Int) = e + 1074 := rfl
  rw [he2] at hs
  generalize 2 ^ (e + 1074).toNat = P at *
  generalize halfEven n d = q at *
  generalize (2 : Nat) ^ 1074 = T at *
  -- n * T = m * P * d
  have hx : (sgn s q * (T : Int) - sgn s (m * P)).natAbs = Float64.dist (q * T) (m * P) := by
    unfold sgn Float64.dist
    have e1 : ((q * T : Nat) : Int) = (q : Int) * T := Int.natCast_mul _ _
    generalize m * P = w at *
    cases s
    · simp only [Bool.false_eq_true, if_false]
      rw [← e1]; omega
    · simp only [if_true]
      rw [Int.neg_mul, ← e1]; omega
  rw [hx]
  have h2 : d * Float64.dist (q * T) (m * P) = T * Float64.dist n (d * q) := by
    rw [← dist_mul, ← dist_mul]
    have e1 : d * (q * T) = T * (d * q) := by ac_rfl
    have e2 : d * (m * P) = T * n := by rw [Nat.mul_comm T n, hs]; ac_rfl
    rw [e1, e2]
    unfold Float64.dist
    omega
  have h3 := Nat.mul_le_mul_left T hb
  have h4 : d * (2 * Float64.dist (q * T) (m * P)) ≤ d * T := by
    have e1 : d * (2 * Float64.dist (q * T) (m * P)) = 2 * (d * Float64.dist (q * T) (m * P)) := by ac_rfl
    rw [e1, h2]
    have e2 : T * (2 * Float64.dist n (d * q)) = 2 * (T * Float64.dist n (d * q)) := by ac_rfl
    rw [← e2, Nat.mul_comm d T]
    exact h3
  exact Nat.le_of_mul_le_mul_left h4 hd

theorem round_in {x : UInt64} {a b n : Int} (h : In x a b) (h1 : (2 * n - 1) * 2 ^ 21 < a) (h2 : b < (2 * n + 1) * 2 ^ 21) : toInt nearestOf x = n := by
  obtain ⟨⟨s, m, e, d⟩, g1, g2⟩ := h
  rw [toInt_fin d]
  have hf := near_spec (s := s) (m := m) (decode_ge d)
  rw [← val_eq d] at hf
  have hf2 : 2 * (nearestOf s m e * ((2 ^ 1074 : Nat) : Int) - val x) ≤ ((2 ^ 1074 : Nat) : Int) ∧ -((2 ^ 1074 : Nat) : Int) ≤ 2 * (nearestOf s m e * ((2 ^ 1074 : Nat) : Int) - val x) := by
    generalize (2 ^ 1074 : Nat) = T at *
    omega
  rw [U74] at hf2
  generalize nearestOf s m e = q at *
  have e1 : q * ((U : Int) * 2 ^ 22) = q * 2 ^ 22 * U := by ac_rfl
  rw [e1] at hf2
  have k1 : (2 * (q * 2 ^ 22) - 2 ^ 22) * (U : Int) ≤ (2 * b) * U := by
    rw [Int.sub_mul, Int.mul_assoc 2, Int.mul_assoc 2]
    have : (2 : Int) ^ 22 * U = (U : Int) * 2 ^ 22 := Int.mul_comm _ _
    omega
  have k2 : (2 * a) * (U : Int) ≤ (2 * (q * 2 ^ 22) + 2 ^ 22) * U := by
    rw [Int.add_mul, Int.mul_assoc 2, Int.mul_assoc 2]
    have : (2 : Int) ^ 22 * U = (U : Int) * 2 ^ 22 := Int.mul_comm _ _
    omega
  have l1 := Int.le_of_mul_le_mul_right k1 Up
  have l2 := Int.le_of_mul_le_mul_right k2 Up
  omega

/-! comparisons -/
theorem cmpInt_in {x : UInt64} {a b : Int} (h : In x a b) (i : Int) : cmpInt x i = some (compare (val x) (i * 2 ^ 22 * (U : Int))) := by
  obtain ⟨⟨s, m, e, d⟩, _⟩ := h
  rw [cmpInt_right d]
  have e1 : (2 : Int) ^ 1074 = ((2 ^ 1074 : Nat) : Int) := by simp
  rw [e1, U74]
  have e2 : i * ((U : Int) * 2 ^ 22) = i * 2 ^ 22 * U := by ac_rfl
  rw [e2]

theorem cmp_in {x y : UInt64} (fx : isFinite x = true) (fy : isFinite y = true) : cmp x y = some (compare (val x) (val y)) := by
  unfold isFinite at fx fy
  cases dx : decode x with
  | nan => rw [dx] at fx; cases fx
  | inf _ => rw [dx] at fx; cases fx
  | fin a m e =>
  cases dy : decode y with
  | nan => rw [dy] at fy; cases fy
  | inf _ => rw [dy] at fy; cases fy
  | fin b k f => exact cmp_right dx dy

/-- x is n halves, to the bit of its value -/
def Ex (x : UInt64) (n : Int) : Prop := In x (n * 2 ^ 21) (n * 2 ^ 21)

theorem Ex.in {x : UInt64} {n : Int} (h : Ex x n) : In x (n * 2 ^ 21) (n * 2 ^ 21) := h
theorem Ex.val {x : UInt64} {n : Int} (h : Ex x n) : Float64.val x = n * ((U : Int) * 2 ^ 21) := by
  have h1 := h.2.1
  have h2 := h.2.2
  have e : n * 2 ^ 21 * (U : Int) = n * ((U : Int) * 2 ^ 21) := by ac_rfl
  omega
theorem Ex.fin {x : UInt64} {n : Int} (h : Ex x n) : isFinite x = true := finite_of_in h
theorem Ex.of {x : UInt64} {n k : Int} (h : Ex x n) (e : n = k) : Ex x k := e ▸ h

theorem ex_ofInt {n : Int} (h1 : -2 ^ 30 ≤ n) (h2 : n ≤ 2 ^ 30) : Ex (ofInt n) (2 * n) := (in_ofInt h1 h2).wide (by omega) (by omega)
theorem ex_add {x y : UInt64} {n k : Int} (hx : Ex x n) (hy : Ex y k) (h1 : -2 ^ 30 ≤ n + k) (h2 : n + k ≤ 2 ^ 30) : Ex (add x y) (n + k) :=
  (in_add hx hy (by omega) (by omega)).wide (by omega) (by omega)
theorem ex_sub {x y : UInt64} {n k : Int} (hx : Ex x n) (hy : Ex y k) (h1 : -2 ^ 30 ≤ n - k) (h2 : n - k ≤ 2 ^ 30) : Ex (sub x y) (n - k) :=
  (in_sub hx hy (by omega) (by omega)).wide (by omega) (by omega)
theorem ex_mul {x : UInt64} {n k : Int} (hx : Ex x n) (hk1 : -2 ^ 30 ≤ k) (hk2 : k ≤ 2 ^ 30) (h1 : -2 ^ 30 ≤ n * k) (h2 : n * k ≤ 2 ^ 30) : Ex (mul x (ofInt k)) (n * k) := by
  have e : Float64.val x * k = n * k * 2 ^ 21 * (U : Int) := by rw [hx.val]; ac_rfl
  refine in_mul_int hx.fin hk1 hk2 ?_ ?_ ?_ ?_
  · omega
  · omega
  · generalize n * k = z at *; omega
  · generalize n * k = z at *; omega
theorem ex_floor {x : UInt64} {n : Int} (h : Ex x n) : toInt floorOf x = n / 2 := by
  have := floor_in h
  omega
theorem ex_trunc {x : UInt64} {n : Int} (h : Ex x (2 * n)) : toInt truncOf x = n := trunc_in (In.wide h (by omega) (by omega))
theorem ex_cmp {x y : UInt64} {n k : Int} (hx : Ex x n) (hy : Ex y k) : cmp x y = some (compare n k) := by
  rw [cmp_in hx.fin hy.fin, hx.val, hy.val]
  have hp : (0 : Int) < (U : Int) * 2 ^ 21 := Int.mul_pos Up (by decide)
  generalize (U : Int) * 2 ^ 21 = K at *
  congr 1
  rcases Int.lt_trichotomy n k with h | h | h
  · rw [Int.compare_eq_lt.mpr h, Int.compare_eq_lt.mpr (Int.mul_lt_mul_of_pos_right h hp)]
  · subst h; simp
  · rw [Int.compare_eq_gt.mpr h, Int.compare_eq_gt.mpr (Int.mul_lt_mul_of_pos_right h hp)]
theorem ex_cmpInt {x : UInt64} {n : Int} (hx : Ex x n) (i : Int) : cmpInt x i = some (compare n (2 * i)) := by
  rw [cmpInt_in hx, hx.val]
  have hp : (0 : Int) < (U : Int) * 2 ^ 21 := Int.mul_pos Up (by decide)
  have e : i * 2 ^ 22 * (U : Int) = 2 * i * ((U : Int) * 2 ^ 21) := by
    rw [show (2 : Int) ^ 22 = 2 * 2 ^ 21 by decide]; ac_rfl
  rw [e]
  generalize (U : Int) * 2 ^ 21 = K at *
  generalize 2 * i = k
  congr 1
  rcases Int.lt_trichotomy n k with h | h | h
  · rw [Int.compare_eq_lt.mpr h, Int.compare_eq_lt.mpr (Int.mul_lt_mul_of_pos_right h hp)]
  · subst h; simp
  · rw [Int.compare_eq_gt.mpr h, Int.compare_eq_gt.mpr (Int.mul_lt_mul_of_pos_right h hp)]
/-- a quotient of an exact x by an int, floored and raised -/
theorem ex_div {x : UInt64} {n k : Int} (hx : Ex x (2 * n)) (h1 : -2 ^ 29 ≤ n) (h2 : n ≤ 2 ^ 29) (hk : 0 < k) (hk2 : k ≤ 2 ^ 22) :
    toInt floorOf (div x (ofInt k)) = n / k ∧ toInt ceilOf (div x (ofInt k)) = -((-n) / k) ∧ isFinite (div x (ofInt k)) = true := by
  have hm := Int.mul_ediv_add_emod n k
  have hn := Int.emod_nonneg n (Int.ne_of_gt hk)
  have hl := Int.emod_lt_of_pos n hk
  have hm' := Int.mul_ediv_add_emod (-n) k
  have hn' := Int.emod_nonneg (-n) (Int.ne_of_gt hk)
  have hl' := Int.emod_lt_of_pos (-n) hk
  generalize n / k = q at *
  generalize n % k = r at *
  generalize (-n) / k = q' at *
  generalize (-n) % k = r' at *
  have hq1 : -2 ^ 29 ≤ q := by
    rcases Int.lt_or_le q (-2 ^ 29) with h | h
    · exfalso
      have h3 : k * q ≤ k * (-2 ^ 29 - 1) := Int.mul_le_mul_of_nonneg_left (by omega) (by omega)
      have h4 : k * (-2 ^ 29 - 1) ≤ 1 * (-2 ^ 29) - k := by
        rw [Int.mul_sub]
        have : k * (-2 ^ 29) ≤ 1 * (-2 ^ 29) := Int.mul_le_mul_of_nonpos_right (by omega) (by omega)
        omega
      omega
    · exact h
  have hq2 : q ≤ 2 ^ 29 := by
    rcases Int.lt_or_le (2 ^ 29) q with h | h
    · exfalso
      have h3 : k * (2 ^ 29 + 1) ≤ k * q := Int.mul_le_mul_of_nonneg_left (by omega) (by omega)
      have h4 : (2 : Int) ^ 29 + 1 ≤ k * (2 ^ 29 + 1) := by
        have : 1 * ((2 : Int) ^ 29 + 1) ≤ k * (2 ^ 29 + 1) := Int.mul_le_mul_of_nonneg_right (by omega) (by omega)
        omega
      omega
    · exact h
  have hq1' : -2 ^ 29 ≤ q' + 1 := by
    rcases Int.lt_or_le (q' + 1) (-2 ^ 29) with h | h
    · exfalso
      have h3 : k * q' ≤ k * (-2 ^ 29 - 2) := Int.mul_le_mul_of_nonneg_left (by omega) (by omega)
      have h4 : k * (-2 ^ 29 - 2) ≤ 1 * (-2 ^ 29 - 1) - k := by
        have : k * (-2 ^ 29 - 1) ≤ 1 * (-2 ^ 29 - 1) := Int.mul_le_mul_of_nonpos_right (by omega) (by omega)
        have e : k * (-2 ^ 29 - 2) = k * (-2 ^ 29 - 1) - k := by
          rw [show (-2 ^ 29 - 2 : Int) = (-2 ^ 29 - 1) - 1 by omega, Int.mul_sub, Int.mul_one]
        omega
      omega
    · exact h
  have hq2' : q' ≤ 2 ^ 29 := by
    rcases Int.lt_or_le (2 ^ 29) q' with h | h
    · exfalso
      have h3 : k * (2 ^ 29 + 1) ≤ k * q' := Int.mul_le_mul_of_nonneg_left (by omega) (by omega)
      have h4 : (2 : Int) ^ 29 + 1 ≤ k * (2 ^ 29 + 1) := by
        have : 1 * ((2 : Int) ^ 29 + 1) ≤ k * (2 ^ 29 + 1) := Int.mul_le_mul_of_nonneg_right (by omega) (by omega)
        omega
      omega
    · exact h
  have hin : In (div x (ofInt k)) (q * 2 ^ 22) (q * 2 ^ 22 + (2 ^ 22 - 1)) := by
    refine in_div_int hx hk (by omega) ?_ ?_ (by omega) (by omega)
    · have : q * 2 ^ 22 * k = k * q * 2 ^ 22 := by ac_rfl
      omega
    · have e : (q * 2 ^ 22 + (2 ^ 22 - 1)) * k = k * q * 2 ^ 22 + (2 ^ 22 * k - k) := by
        rw [Int.add_mul, Int.sub_mul]
        have : q * 2 ^ 22 * k = k * q * 2 ^ 22 := by ac_rfl
        omega
      omega
  have hin' : In (div x (ofInt k)) (-(q' * 2 ^ 22 + (2 ^ 22 - 1))) (-(q' * 2 ^ 22)) := by
    refine in_div_int hx hk (by omega) ?_ ?_ (by omega) (by omega)
    · have e : -(q' * 2 ^ 22 + (2 ^ 22 - 1)) * k = -(k * q' * 2 ^ 22 + (2 ^ 22 * k - k)) := by
        rw [Int.neg_mul, Int.add_mul, Int.sub_mul]
        have : q' * 2 ^ 22 * k = k * q' * 2 ^ 22 := by ac_rfl
        omega
      omega
    · have : -(q' * 2 ^ 22) * k = -(k * q' * 2 ^ 22) := by
        rw [Int.neg_mul]
        have : q' * 2 ^ 22 * k = k * q' * 2 ^ 22 := by ac_rfl
        omega
      omega
  have f := floor_in hin
  have c := ceil_in hin'
  exact ⟨by omega, by omega, finite_of_in hin⟩

theorem isZero_iff {x : UInt64} {n : Int} (h : Ex x n) : isZero x = decide (n = 0) := by
  have hv := h.val
  obtain ⟨⟨a, m, e, d⟩, _⟩ := h
  have hp : (0 : Int) < (U : Int) * 2 ^ 21 := Int.mul_pos Up (by decide)
  have hm := val_natAbs d
  unfold isZero
  rw [d]
  have h2 := Nat.two_pow_pos (e + 1074).toNat
  by_cases hn : n = 0
  · subst hn
    rw [hv] at hm
    simp only [Int.zero_mul, Int.natAbs_zero] at hm
    have : m = 0 := by
      rcases Nat.mul_eq_zero.mp hm.symm with h | h
      · exact h
      · omega
    subst this
    simp
  · have hz : Float64.val x ≠ 0 := by
      rw [hv]
      intro h
      rcases Int.mul_eq_zero.mp h with h | h
      · exact hn h
      · omega
    have : m ≠ 0 := by
      intro h
      subst h
      rw [Nat.zero_mul] at hm
      exact hz (Int.natAbs_eq_zero.mp hm)
    simp only [hn, decide_false]
    split
    · rename_i h; cases h; exact absurd rfl this
    · rfl

/-- the remainder of an exact x by an int -/
theorem ex_mod {x : UInt64} {n k : Int} (hx : Ex x (2 * n)) (h1 : -2 ^ 29 ≤ n) (h2 : n ≤ 2 ^ 29) (hk : 0 < k) (hk2 : k ≤ 2 ^ 28) :
    Ex (divmod x (ofInt k)).2 (2 * (n % k)) := by
  have hy := ex_ofInt (n := k) (by omega) (by omega)
  have hvx := hx.val
  have hvy := hy.val
  have hp : (0 : Int) < (U : Int) * 2 ^ 22 := U22
  have e22 : ((U : Int) * 2 ^ 22) = 2 * ((U : Int) * 2 ^ 21) := by omega
  obtain ⟨⟨a, m, e, dx⟩, _⟩ := id hx
  obtain ⟨⟨b, j, f, dy⟩, _⟩ := id hy
  have hb := pos_sign dy (by rw [hvy]; exact Int.mul_pos (by omega) (by omega))
  have he := decode_ge dx
  have hf := decode_ge dy
  have hR : Right (fmod x (ofInt k)) a ((Float64.val x).natAbs % (Float64.val (ofInt k)).natAbs) 1 := by
    have hfm : fmod x (ofInt k) = ofBin a ((m * 2 ^ (e - min e f).toNat) % (j * 2 ^ (f - min e f).toNat)) (min e f) := by
      unfold fmod
      rw [dx, dy]
      simp only
      rw [if_neg (by simpa using hb.2)]
      unfold align sgn
      simp only [Bool.false_eq_true, if_false, Int.toNat_natCast]
    rw [hfm, val_natAbs dx, val_natAbs dy]
    have g1 : m * 2 ^ (e + 1074).toNat = m * 2 ^ (e - min e f).toNat * 2 ^ (min e f + 1074).toNat := by
      rw [Nat.mul_assoc, ← Nat.pow_add]
      congr 2
      omega
    have g2 : j * 2 ^ (f + 1074).toNat = j * 2 ^ (f - min e f).toNat * 2 ^ (min e f + 1074).toNat := by
      rw [Nat.mul_assoc, ← Nat.pow_add]
      congr 2
      omega
    rw [g1, g2, Nat.mul_mod_mul_right]
    generalize m * 2 ^ (e - min e f).toNat % (j * 2 ^ (f - min e f).toNat) = z
    unfold ofBin
    refine ofFrac_right (shift_pos _ _ _ (by decide)) ?_ (by decide)
    have := shift_one z (min e f) 1074 (by omega)
    rw [Nat.mul_one]
    exact this
  have hW : (((Float64.val x).natAbs % (Float64.val (ofInt k)).natAbs : Nat) : Int) = ((n.natAbs % k.natAbs : Nat) : Int) * ((U : Int) * 2 ^ 22) := by
    have e1 : Float64.val x = n * ((U : Int) * 2 ^ 22) := by rw [hvx, e22]; ac_rfl
    have e2 : Float64.val (ofInt k) = k * ((U : Int) * 2 ^ 22) := by rw [hvy, e22]; ac_rfl
    have hz : ((((U : Int) * 2 ^ 22).natAbs : Nat) : Int) = (U : Int) * 2 ^ 22 := by omega
    rw [e1, e2]
    generalize (U : Int) * 2 ^ 22 = K at *
    rw [Int.natAbs_mul, Int.natAbs_mul, Nat.mul_mod_mul_right, Int.natCast_mul, hz]
  have hz : n.natAbs % k.natAbs < 2 ^ 28 := Nat.lt_of_lt_of_le (Nat.mod_lt _ (by omega)) (by omega)
  have hsg : a = true → n ≤ 0 := by
    intro ha
    subst ha
    rcases Int.lt_or_le 0 n with h | h
    · exfalso
      have hv : 0 < Float64.val x := by rw [hvx]; exact Int.mul_pos (by omega) (by omega)
      have := pos_sign dx hv
      cases this.1
    · exact h
  have hsg2 : a = false → 0 ≤ n := by
    intro ha
    subst ha
    rcases Int.lt_or_le n 0 with h | h
    · exfalso
      have hv : Float64.val x < 0 := by rw [hvx]; exact Int.mul_neg_of_neg_of_pos (by omega) (by omega)
      rw [val_eq dx] at hv
      unfold sgn at hv
      simp only [Bool.false_eq_true, if_false] at hv
      omega
    · exact h
  generalize hr : n.natAbs % k.natAbs = r at *
  have hm : Ex (fmod x (ofInt k)) (2 * sgn a r) := by
    have hs : sgn a ((Float64.val x).natAbs % (Float64.val (ofInt k)).natAbs) = sgn a r * 2 ^ 22 * U := by
      unfold sgn
      cases a
      · simp only [Bool.false_eq_true, if_false]; rw [hW]; ac_rfl
      · simp only [if_true]; rw [hW, Int.neg_mul, Int.neg_mul, Int.mul_assoc, Int.mul_comm (2 ^ 22 : Int)]
    refine In.wide (in_of_right (lo := sgn a r * 2 ^ 22) (hi := sgn a r * 2 ^ 22) hR (by decide) ?_ ?_ ?_ ?_) (by omega) (by omega)
    · rw [hs]; simp
    · rw [hs]; simp
    · unfold sgn; split <;> omega
    · unfold sgn; split <;> omega
  have hmod : n % k = if a = true ∧ r ≠ 0 then k - r else r := by
    have hdm := Nat.div_add_mod n.natAbs k.natAbs
    rw [hr] at hdm
    have hlt : r < k.natAbs := by rw [← hr]; exact Nat.mod_lt _ (by omega)
    generalize n.natAbs / k.natAbs = q at *
    have hkk : (k.natAbs : Int) = k := by omega
    have hdm' : k * (q : Int) + r = (n.natAbs : Int) := by rw [← hkk, ← Int.natCast_mul]; omega
    cases a with
    | false =>
      have := hsg2 rfl
      rw [if_neg (by simp)]
      have e1 : n = (r : Int) + k * q := by omega
      rw [e1, Int.add_mul_emod_self_left]
      exact Int.emod_eq_of_lt (by omega) (by omega)
    | true =>
      have := hsg rfl
      by_cases h0 : r = 0
      · rw [if_neg (by simp [h0])]
        subst h0
        have e1 : n = 0 + k * (-(q : Int)) := by rw [Int.mul_neg]; omega
        rw [e1, Int.add_mul_emod_self_left]
        simp
      · rw [if_pos ⟨rfl, h0⟩]
        have e1 : n = (k - r) + k * (-(q : Int) - 1) := by rw [Int.mul_sub, Int.mul_neg]; omega
        rw [e1, Int.add_mul_emod_self_left]
        exact Int.emod_eq_of_lt (by omega) (by omega)
  unfold divmod
  simp only
  rw [isZero_iff hm]
  by_cases h0 : r = 0
  · have hs0 : sgn a r = 0 := by rw [h0]; unfold sgn; simp
    rw [hs0]
    simp only [Int.mul_zero, decide_true, if_true]
    have hy0 : copysign (zero false) (ofInt k) = zero (signBit (ofInt k)) := by
      unfold copysign zero
      rw [if_neg (by decide +kernel)]
      congr 1
    rw [hy0, hmod, if_neg (by simp [h0]), h0]
    exact (in_zero _).wide (by decide) (by decide)
  · have hs0 : ¬ (2 * sgn a r = 0) := by unfold sgn; split <;> omega
    rw [if_neg (by simpa using hs0)]
    have hl1 : lt (ofInt k) (zero false) = false := by
      unfold lt
      rw [ex_cmp hy (show Ex (zero false) 0 from (in_zero _).wide (by decide) (by decide))]
      rw [Int.compare_eq_gt.mpr (by omega)]
      rfl
    have hl2 : lt (fmod x (ofInt k)) (zero false) = a := by
      unfold lt
      rw [ex_cmp hm (show Ex (zero false) 0 from (in_zero _).wide (by decide) (by decide))]
      cases a with
      | false => rw [Int.compare_eq_gt.mpr (by unfold sgn; simp; omega)]; rfl
      | true => rw [Int.compare_eq_lt.mpr (by unfold sgn; simp; omega)]; rfl
    rw [hl1, hl2, hmod]
    cases a with
    | false =>
      simp only [bne_self_eq_false, Bool.false_eq_true, if_false, false_and]
      exact hm.of (by unfold sgn; simp)
    | true =>
      have hlt : r < k.natAbs := by rw [← hr]; exact Nat.mod_lt _ (by omega)
      simp only [h0, ne_eq, not_false_eq_true, and_self, if_true]
      have hb2 : (false != true) = true := rfl
      rw [hb2]
      simp only [if_true]
      exact (ex_add hm hy (by unfold sgn; simp; omega) (by unfold sgn; simp; omega)).of (by unfold sgn; simp; omega)
end
section
def leapZ (y : Int) : Bool := decide (y % 4 = 0) && (!decide (y % 100 = 0) || decide (y % 400 = 0))
def dimZ (y m : Int) : Int := if m = 2 then (if leapZ y = true then 29 else 28) else if m = 4 ∨ m = 6 ∨ m = 9 ∨ m = 11 then 30 else 31
def adjZ (y m : Int) : Int := if m ≤ 2 then 0 else if leapZ y = true then -1 else -2
def baseZ (y : Int) : Int := 365 * (y - 1) + (y - 1) / 4 - (y - 1) / 100 + (y - 1) / 400
def gregN (y m d : Int) : Int := 365 * (y - 1) + (y - 1) / 4 - (y - 1) / 100 + (y - 1) / 400 + (367 * m - 362) / 12 + adjZ y m + d
def monZ (y m : Int) : Int := (367 * m - 362) / 12 + adjZ y m
theorem gregN_eq (y m d : Int) : gregN y m d = baseZ y + monZ y m + d := by unfold gregN baseZ monZ; omega
theorem leapZ_true {y : Int} : leapZ y = true ↔ y % 4 = 0 ∧ (y % 100 ≠ 0 ∨ y % 400 = 0) := by
  unfold leapZ
  simp only [Bool.and_eq_true, Bool.or_eq_true, Bool.not_eq_true', decide_eq_true_eq, decide_eq_false_iff_not, ne_eq]
theorem leapZ_false {y : Int} : leapZ y = false ↔ ¬ (y % 4 = 0 ∧ (y % 100 ≠ 0 ∨ y % 400 = 0)) := by
  rw [← leapZ_true]; simp
structure Valid (y m d : Int) : Prop where
  m1 : 1 ≤ m
  m2 : m ≤ 12
  d1 : 1 ≤ d
  d2 : d ≤ dimZ y m
theorem one_le_dim (y m : Int) : 1 ≤ dimZ y m := by
  unfold dimZ
  repeat' split
  all_goals omega
theorem dim_le (y m : Int) : dimZ y m ≤ 31 := by
  unfold dimZ
  repeat' split
  all_goals omega
def lenZ (y : Int) : Int := if leapZ y = true then 366 else 365
/-- the day of the year, from nought -/
theorem yday_range {y m d : Int} (h : Valid y m d) : 0 ≤ monZ y m + d - 1 ∧ monZ y m + d - 1 < lenZ y := by
  obtain ⟨h1, h2, h3, h4⟩ := h
  unfold dimZ at h4
  unfold monZ adjZ lenZ
  have hm : m = 1 ∨ m = 2 ∨ m = 3 ∨ m = 4 ∨ m = 5 ∨ m = 6 ∨ m = 7 ∨ m = 8 ∨ m = 9 ∨ m = 10 ∨ m = 11 ∨ m = 12 := by omega
  cases hl : leapZ y
  all_goals (rw [hl] at h4; rcases hm with rfl | rfl | rfl | rfl | rfl | rfl | rfl | rfl | rfl | rfl | rfl | rfl)
  all_goals (simp at h4 ⊢; omega)
theorem base_next (y : Int) : baseZ (y + 1) = baseZ y + lenZ y := by
  unfold lenZ baseZ
  by_cases h : leapZ y = true
  · rw [if_pos h]
    have := leapZ_true.mp h
    omega
  · rw [if_neg h]
    have h' : leapZ y = false := by simpa using h
    have := leapZ_false.mp h'
    omega
theorem len_range (y : Int) : 365 ≤ lenZ y ∧ lenZ y ≤ 366 := by unfold lenZ; split <;> omega
theorem base_mono {y y' : Int} (h : y < y') : baseZ y + 365 ≤ baseZ y' := by
  unfold baseZ
  omega
/-- a date is told by its number -/
theorem greg_unique {y m d y' m' d' : Int} (h : Valid y m d) (h' : Valid y' m' d') (e : gregN y m d = gregN y' m' d') : y = y' ∧ m = m' ∧ d = d' := by
  rw [gregN_eq, gregN_eq] at e
  have r := yday_range h
  have r' := yday_range h'
  have hy : y = y' := by
    rcases Int.lt_trichotomy y y' with hl | hl | hl
    · exfalso
      have b := base_next y
      rcases Int.lt_or_le (y + 1) y' with hq | hq
      · have := base_mono hq; omega
      · have : y' = y + 1 := by omega
        subst this
        omega
    · exact hl
    · exfalso
      have b := base_next y'
      rcases Int.lt_or_le (y' + 1) y with hq | hq
      · have := base_mono hq; omega
      · have : y = y' + 1 := by omega
        subst this
        omega
  subst hy
  refine ⟨rfl, ?_⟩
  obtain ⟨h1, h2, h3, h4⟩ := h
  obtain ⟨h1', h2', h3', h4'⟩ := h'
  unfold dimZ at h4 h4'
  unfold monZ adjZ at e
  have hm : m = 1 ∨ m = 2 ∨ m = 3 ∨ m = 4 ∨ m = 5 ∨ m = 6 ∨ m = 7 ∨ m = 8 ∨ m = 9 ∨ m = 10 ∨ m = 11 ∨ m = 12 := by omega
  have hm' : m' = 1 ∨ m' = 2 ∨ m' = 3 ∨ m' = 4 ∨ m' = 5 ∨ m' = 6 ∨ m' = 7 ∨ m' = 8 ∨ m' = 9 ∨ m' = 10 ∨ m' = 11 ∨ m' = 12 := by omega
  cases hl : leapZ y
  all_goals (rw [hl] at h4 h4' e; rcases hm with rfl | rfl | rfl | rfl | rfl | rfl | rfl | rfl | rfl | rfl | rfl | rfl)
  all_goals (simp at h4)
  all_goals (rcases hm' with rfl | rfl | rfl | rfl | rfl | rfl | rfl | rfl | rfl | rfl | rfl | rfl)
  all_goals (simp at h4' e; omega)

/-- the steps of from_jd down to the year -/
theorem greg_steps {y yd N : Int} (h0 : 0 ≤ yd) (h1 : yd < lenZ y) (hN : N = baseZ y + yd) :
    ∃ qc r1 cent r2 quad r3 yi : Int, N / 146097 = qc ∧ N % 146097 = r1 ∧ r1 / 36524 = cent ∧ r1 % 36524 = r2 ∧ r2 / 1461 = quad ∧ r2 % 1461 = r3 ∧ r3 / 365 = yi ∧
      (((cent = 4 ∨ yi = 4) ∧ yd = 365 ∧ qc * 400 + cent * 100 + quad * 4 + yi = y) ∨ (cent ≠ 4 ∧ yi ≠ 4 ∧ qc * 400 + cent * 100 + quad * 4 + yi + 1 = y)) := by
  have ha : ∃ a b c e : Int, y - 1 = 400 * a + 100 * b + 4 * c + e ∧ 0 ≤ b ∧ b ≤ 3 ∧ 0 ≤ c ∧ c ≤ 24 ∧ 0 ≤ e ∧ e ≤ 3 :=
    ⟨(y - 1) / 400, (y - 1) % 400 / 100, (y - 1) % 100 / 4, (y - 1) % 4, by omega⟩
  obtain ⟨a, b, c, e, he, b0, b3, c0, c24, e0, e3⟩ := ha
  have hy : y = 400 * a + 100 * b + 4 * c + e + 1 := by omega
  have hB : baseZ y = 146097 * a + 36524 * b + 1461 * c + 365 * e := by unfold baseZ; subst hy; omega
  rw [hB] at hN
  clear hB
  by_cases h365 : yd < 365
  · refine ⟨a, 36524 * b + 1461 * c + 365 * e + yd, b, 1461 * c + 365 * e + yd, c, 365 * e + yd, e, ?_, ?_, ?_, ?_, ?_, ?_, ?_, .inr ⟨?_, ?_, ?_⟩⟩ <;> omega
  · have hl : leapZ y = true := by
      unfold lenZ at h1
      split at h1
      · assumption
      · omega
    have hlp := leapZ_true.mp hl
    have e3' : e = 3 := by omega
    have yd' : yd = 365 := by unfold lenZ at h1; rw [if_pos hl] at h1; omega
    subst e3' yd'
    by_cases hc : c = 24
    · have : b = 3 := by omega
      subst this hc
      refine ⟨a, 146096, 4, 0, 0, 0, 0, ?_, ?_, ?_, ?_, ?_, ?_, ?_, .inl ⟨.inl rfl, rfl, ?_⟩⟩ <;> omega
    · refine ⟨a, 36524 * b + 1461 * c + 1460, b, 1461 * c + 1460, c, 1460, 4, ?_, ?_, ?_, ?_, ?_, ?_, ?_, .inl ⟨.inr rfl, rfl, ?_⟩⟩ <;> omega
/-- the month out of the day of the year -/
theorem greg_month {y m d yd : Int} (h : Valid y m d) (hyd : yd = monZ y m + d - 1) :
    (leapZ y = true → (yd < 59 → ((2 * yd + 2 * 0) * 12 + 2 * 373) / 2 / 367 = m) ∧ (¬ yd < 59 → ((2 * yd + 2 * 1) * 12 + 2 * 373) / 2 / 367 = m)) ∧
    (leapZ y = false → (yd < 58 → ((2 * yd + 2 * 0) * 12 + 2 * 373) / 2 / 367 = m) ∧ (¬ yd < 58 → ((2 * yd + 2 * 2) * 12 + 2 * 373) / 2 / 367 = m)) := by
  obtain ⟨h1, h2, h3, h4⟩ := h
  unfold dimZ at h4
  unfold monZ adjZ at hyd
  have hm : m = 1 ∨ m = 2 ∨ m = 3 ∨ m = 4 ∨ m = 5 ∨ m = 6 ∨ m = 7 ∨ m = 8 ∨ m = 9 ∨ m = 10 ∨ m = 11 ∨ m = 12 := by omega
  cases hl : leapZ y
  all_goals (rw [hl] at h4 hyd; rcases hm with rfl | rfl | rfl | rfl | rfl | rfl | rfl | rfl | rfl | rfl | rfl | rfl)
  all_goals (simp at h4 hyd; simp; omega)
end
section
def janZ (y : Int) : Int := baseZ y + 1721426
theorem jan_eq (y : Int) : 2451545 + 146097 * ((y - 2000) / 400) + 365 * ((y - 2000) % 400) + ((y - 2000) % 400 + 3) / 4 - (if (y - 2000) % 400 - 1 > 0 then (y - 2000) % 400 - 1 else 0) / 100 = janZ y := by
  unfold janZ baseZ
  split <;> omega
/-- the guess of the year is one off at most -/
theorem guess_year {y yd n : Int} (h0 : 0 ≤ yd) (h1 : yd < lenZ y) (hn : n = janZ y + yd) :
    2000 + ((n - 2451545) * 400) / 146097 = y - 1 ∨ 2000 + ((n - 2451545) * 400) / 146097 = y ∨ 2000 + ((n - 2451545) * 400) / 146097 = y + 1 := by
  have hl := len_range y
  unfold janZ baseZ at hn
  have ha : ∃ a b c e : Int, y - 1 = 400 * a + 100 * b + 4 * c + e ∧ 0 ≤ b ∧ b ≤ 3 ∧ 0 ≤ c ∧ c ≤ 24 ∧ 0 ≤ e ∧ e ≤ 3 :=
    ⟨(y - 1) / 400, (y - 1) % 400 / 100, (y - 1) % 100 / 4, (y - 1) % 4, by omega⟩
  obtain ⟨a, b, c, e, he, b0, b3, c0, c24, e0, e3⟩ := ha
  have hB : 365 * (y - 1) + (y - 1) / 4 - (y - 1) / 100 + (y - 1) / 400 = 146097 * a + 36524 * b + 1461 * c + 365 * e := by rw [he]; omega
  rw [hB] at hn
  clear hB
  have hy : y = 400 * a + 100 * b + 4 * c + e + 1 := by omega
  subst hy hn
  omega

def gLens (b : Int) : List Int := [31, b, 31, 30, 31, 30, 31, 31, 30, 31, 30, 31]
theorem gLens_eq {y b mm : Int} (hb : b = lenZ y - 337) (h1 : 1 ≤ mm) (h2 : mm ≤ 11) : (gLens b).getD (mm - 1).toNat 0 = monZ y (mm + 1) - monZ y mm := by
  have hm : mm = 1 ∨ mm = 2 ∨ mm = 3 ∨ mm = 4 ∨ mm = 5 ∨ mm = 6 ∨ mm = 7 ∨ mm = 8 ∨ mm = 9 ∨ mm = 10 ∨ mm = 11 := by omega
  unfold lenZ at hb
  unfold monZ adjZ gLens
  cases hl : leapZ y
  all_goals (rw [hl] at hb; rcases hm with rfl | rfl | rfl | rfl | rfl | rfl | rfl | rfl | rfl | rfl | rfl)
  all_goals (simp at hb ⊢; try omega)
theorem gLens_dim {y b mm : Int} (hb : b = lenZ y - 337) (h1 : 1 ≤ mm) (h2 : mm ≤ 12) : (gLens b).getD (mm - 1).toNat 0 = dimZ y mm := by
  have hm : mm = 1 ∨ mm = 2 ∨ mm = 3 ∨ mm = 4 ∨ mm = 5 ∨ mm = 6 ∨ mm = 7 ∨ mm = 8 ∨ mm = 9 ∨ mm = 10 ∨ mm = 11 ∨ mm = 12 := by omega
  unfold lenZ at hb
  unfold dimZ gLens
  cases hl : leapZ y
  all_goals (rw [hl] at hb; rcases hm with rfl | rfl | rfl | rfl | rfl | rfl | rfl | rfl | rfl | rfl | rfl | rfl)
  all_goals (simp at hb ⊢; try omega)
theorem mon_mono {y m m' : Int} (h1 : 1 ≤ m) (h2 : m < m') (h3 : m' ≤ 12) : monZ y (m + 1) ≤ monZ y m' := by
  unfold monZ adjZ
  cases leapZ y <;> simp <;> (repeat' split) <;> omega
theorem month_turn {y mo d n b mm dd : Int} (hv : Valid y mo d) (hn : n = gregN y mo d + 1721425) (hb : b = lenZ y - 337)
    (h1 : 1 ≤ mm ∧ mm ≤ mo ∧ dd = n - janZ y + 1 - monZ y mm) (ht : (gLens b).getD (mm - 1).toNat 0 < dd) :
    1 ≤ mm + 1 ∧ mm + 1 ≤ mo ∧ dd - (gLens b).getD (mm - 1).toNat 0 = n - janZ y + 1 - monZ y (mm + 1) := by
  obtain ⟨a1, a2, a3⟩ := h1
  have hg := gregN_eq y mo d
  have hmo := hv.m2
  have hlt : mm < mo := by
    rcases Int.lt_or_le mm mo with h | h
    · exact h
    · exfalso
      have e : mm = mo := by omega
      subst e
      rw [gLens_dim hb a1 hmo] at ht
      have := hv.d2
      unfold janZ at a3
      omega
  rw [gLens_eq hb a1 (by omega)]
  omega
theorem month_end {y mo d n b mm dd : Int} (hv : Valid y mo d) (hn : n = gregN y mo d + 1721425) (hb : b = lenZ y - 337)
    (h1 : 1 ≤ mm ∧ mm ≤ mo ∧ dd = n - janZ y + 1 - monZ y mm) (ht : ¬ (gLens b).getD (mm - 1).toNat 0 < dd) : mm = mo ∧ dd = d := by
  obtain ⟨a1, a2, a3⟩ := h1
  have hg := gregN_eq y mo d
  have hmo := hv.m2
  have hd := hv.d1
  have hlt : mm = mo := by
    rcases Int.lt_or_le mm mo with h | h
    · exfalso
      rw [gLens_eq hb a1 (by omega)] at ht
      have := mon_mono (y := y) a1 h hmo
      unfold janZ at a3
      omega
    · omega
  subst hlt
  unfold janZ at a3
  exact ⟨rfl, by omega⟩
end
section
theorem greg_exists (N : Int) : ∃ y m d, Valid y m (d + 1) ∧ gregN y m (d + 1) = N := by
  have hy : ∃ y, baseZ y + 1 ≤ N ∧ N ≤ baseZ (y + 1) := by
    obtain ⟨q, hq⟩ : ∃ q, q = N * 400 / 146097 := ⟨_, rfl⟩
    have h1 : baseZ q + 1 ≤ N := by unfold baseZ; omega
    have h2 : N ≤ baseZ (q + 3) := by unfold baseZ; omega
    by_cases c1 : N ≤ baseZ (q + 1)
    · exact ⟨q, h1, c1⟩
    · by_cases c2 : N ≤ baseZ (q + 1 + 1)
      · exact ⟨q + 1, by omega, c2⟩
      · refine ⟨q + 1 + 1, by omega, ?_⟩
        have e : q + 1 + 1 + 1 = q + 3 := by omega
        rw [e]
        exact h2
  obtain ⟨y, h1, h2⟩ := hy
  rw [base_next] at h2
  obtain ⟨yd, hyd⟩ : ∃ yd, yd = N - baseZ y - 1 := ⟨_, rfl⟩
  have hr : 0 ≤ yd ∧ yd < lenZ y := by omega
  have hm : ∃ m, 1 ≤ m ∧ m ≤ 12 ∧ monZ y m ≤ yd ∧ yd - monZ y m + 1 ≤ dimZ y m := by
    cases hl : leapZ y
    · have h3 : lenZ y = 365 := by unfold lenZ; rw [if_neg (by simp [hl])]
      have hc : (yd < 31) ∨ (31 ≤ yd ∧ yd < 59) ∨ (59 ≤ yd ∧ yd < 90) ∨ (90 ≤ yd ∧ yd < 120) ∨ (120 ≤ yd ∧ yd < 151) ∨ (151 ≤ yd ∧ yd < 181) ∨ (181 ≤ yd ∧ yd < 212) ∨ (212 ≤ yd ∧ yd < 243) ∨ (243 ≤ yd ∧ yd < 273) ∨ (273 ≤ yd ∧ yd < 304) ∨ (304 ≤ yd ∧ yd < 334) ∨ (334 ≤ yd ∧ yd < 365) := by omega
      unfold monZ adjZ dimZ
      rw [hl]
      rcases hc with c | c | c | c | c | c | c | c | c | c | c | c
      · exact ⟨1, by simp; omega⟩
      · exact ⟨2, by simp; omega⟩
      · exact ⟨3, by simp; omega⟩
      · exact ⟨4, by simp; omega⟩
      · exact ⟨5, by simp; omega⟩
      · exact ⟨6, by simp; omega⟩
      · exact ⟨7, by simp; omega⟩
      · exact ⟨8, by simp; omega⟩
      · exact ⟨9, by simp; omega⟩
      · exact ⟨10, by simp; omega⟩
      · exact ⟨11, by simp; omega⟩
      · exact ⟨12, by simp; omega⟩
    · have h3 : lenZ y = 366 := by unfold lenZ; rw [if_pos hl]
      have hc : (yd < 31) ∨ (31 ≤ yd ∧ yd < 60) ∨ (60 ≤ yd ∧ yd < 91) ∨ (91 ≤ yd ∧ yd < 121) ∨ (121 ≤ yd ∧ yd < 152) ∨ (152 ≤ yd ∧ yd < 182) ∨ (182 ≤ yd ∧ yd < 213) ∨ (213 ≤ yd ∧ yd < 244) ∨ (244 ≤ yd ∧ yd < 274) ∨ (274 ≤ yd ∧ yd < 305) ∨ (305 ≤ yd ∧ yd < 335) ∨ (335 ≤ yd ∧ yd < 366) := by omega
      unfold monZ adjZ dimZ
      rw [hl]
      rcases hc with c | c | c | c | c | c | c | c | c | c | c | c
      · exact ⟨1, by simp; omega⟩
      · exact ⟨2, by simp; omega⟩
      · exact ⟨3, by simp; omega⟩
      · exact ⟨4, by simp; omega⟩
      · exact ⟨5, by simp; omega⟩
      · exact ⟨6, by simp; omega⟩
      · exact ⟨7, by simp; omega⟩
      · exact ⟨8, by simp; omega⟩
      · exact ⟨9, by simp; omega⟩
      · exact ⟨10, by simp; omega⟩
      · exact ⟨11, by simp; omega⟩
      · exact ⟨12, by simp; omega⟩
  obtain ⟨m, a1, a2, a3, a4⟩ := hm
  refine ⟨y, m, yd - monZ y m, ⟨a1, a2, by omega, a4⟩, ?_⟩
  rw [gregN_eq]
  omega
theorem jan_mono {y y' : Int} (h : y < y') : janZ y + 365 ≤ janZ y' := by
  have := base_mono h
  unfold janZ
  omega
theorem jan_next (y : Int) : janZ (y + 1) = janZ y + lenZ y := by
  have := base_next y
  unfold janZ
  omega
/-- the year of a date, told by the day behind -/
theorem date_year {g m d D : Int} (hv : Valid g m (d + 1)) (h : gregN g m (d + 1) + 1721424 = D) : janZ g ≤ D + 1 ∧ D + 1 < janZ (g + 1) := by
  have h1 := yday_range hv
  have h2 := gregN_eq g m (d + 1)
  have h3 := jan_next g
  unfold janZ at *
  omega
end
open PySem PySem.W PyProof.Rows
section
set_option exponentiation.threshold 3000
set_option maxRecDepth 100000
open PySem PySem.Float64 PySem.Flt PySem.Calls PyProof.Rows
/-- an equation that omega does not see -/
def Eqn (a b : Int) : Prop := a = b
theorem Eqn.rf {a : Int} : Eqn a a := rfl
theorem Eqn.of {a b : Int} (h : a = b) : Eqn a b := h
theorem Eqn.out {a b : Int} (h : Eqn a b) : a = b := h
/-- n / k as a float, told by its floor and its ceil -/
def Quo (y : UInt64) (n k : Int) : Prop := isFinite y = true ∧ toInt floorOf y = n / k ∧ toInt ceilOf y = -((-n) / k)
/-- the floor of x -/
def Flr (x : UInt64) (j : Int) : Prop := In x (-2 ^ 52) (2 ^ 52) ∧ j * 2 ^ 22 * (U : Int) ≤ val x ∧ val x < (j + 1) * 2 ^ 22 * (U : Int)
def TY : UInt64 := 4645133024903820211
def tyc : Int := 1531936815
/-- n half days behind the epoch begin the year k + 1 -/
def PY (n k : Int) : Prop := -300000 ≤ n * 1000 - k * 730484 ∧ n * 1000 - k * 730484 ≤ 300000 ∧ -20000 ≤ k ∧ k ≤ 20000
def DivTY (y : UInt64) (n : Int) : Prop := ∀ k, PY n k → isFinite y = true ∧ toInt nearestOf y = k
/-- the floor of x less a half -/
def FS (x : UInt64) (d : Int) : Prop := isFinite (sub x 4602678819172646912) = true ∧ toInt floorOf (sub x 4602678819172646912) = d
def FloorIs (x : UInt64) (d : Int) : Prop := isFinite x = true ∧ toInt floorOf x = d

theorem ex_half : Ex 4602678819172646912 1 := by
  have hd : decode 4602678819172646912 = .fin false (2 ^ 52) (-53) := by kernel_rfl
  have hv : val 4602678819172646912 = 1 * 2 ^ 21 * (U : Int) := by
    rw [val_eq hd]; unfold U; decide +kernel
  exact ⟨⟨_, _, _, hd⟩, by rw [hv]; exact Int.le_refl _, by rw [hv]; exact Int.le_refl _⟩
theorem ex_epg : Ex 4700144277945057280 3442851 := by
  have hd : decode 4700144277945057280 = .fin false 7393466225000448 (-32) := by kernel_rfl
  have hv : val 4700144277945057280 = 3442851 * 2 ^ 21 * (U : Int) := by
    rw [val_eq hd]; unfold U; decide +kernel
  exact ⟨⟨_, _, _, hd⟩, by rw [hv]; exact Int.le_refl _, by rw [hv]; exact Int.le_refl _⟩
theorem ex_epp : Ex 4701118784549683200 3896641 := by
  have hd : decode 4701118784549683200 = .fin false 8367972829626368 (-32) := by kernel_rfl
  have hv : val 4701118784549683200 = 3896641 * 2 ^ 21 * (U : Int) := by
    rw [val_eq hd]; unfold U; decide +kernel
  exact ⟨⟨_, _, _, hd⟩, by rw [hv]; exact Int.le_refl _, by rw [hv]; exact Int.le_refl _⟩
theorem in_ty : In TY tyc (tyc + 1) := by
  have hd : decode 4645133024903820211 = .fin false 6425408712209331 (-44) := by kernel_rfl
  have h1 : tyc * (U : Int) ≤ val 4645133024903820211 := by rw [val_eq hd]; unfold U tyc; decide +kernel
  have h2 : val 4645133024903820211 ≤ (tyc + 1) * (U : Int) := by rw [val_eq hd]; unfold U tyc; decide +kernel
  exact ⟨⟨_, _, _, hd⟩, h1, h2⟩

theorem divTY_of {a : UInt64} {n : Int} (ha : Ex a n) : DivTY (div a TY) n := by
  intro k hk
  obtain ⟨h1, h2, h3, h4⟩ := hk
  have t1 := in_ty.2.1
  have t2 := in_ty.2.2
  have hp : 0 < val TY := by
    have := Up
    unfold tyc at t1
    omega
  have hU := Int.le_of_lt Up
  have hv := ha.val
  have key : ∀ z : Int, ((tyc * z ≤ n * 2 ^ 43 ∧ (tyc + 1) * z ≤ n * 2 ^ 43) → val TY * z ≤ val a * 2 ^ 22) ∧ ((n * 2 ^ 43 ≤ tyc * z ∧ n * 2 ^ 43 ≤ (tyc + 1) * z) → val a * 2 ^ 22 ≤ val TY * z) := by
    intro z
    have e1 : val a * 2 ^ 22 = n * 2 ^ 43 * (U : Int) := by rw [hv, show (2 : Int) ^ 43 = 2 ^ 21 * 2 ^ 22 by decide]; ac_rfl
    rw [e1]
    constructor
    · intro ⟨g1, g2⟩
      have p1 := Int.mul_le_mul_of_nonneg_right g1 hU
      have p2 := Int.mul_le_mul_of_nonneg_right g2 hU
      have q1 : tyc * z * (U : Int) = tyc * (U : Int) * z := by ac_rfl
      have q2 : (tyc + 1) * z * (U : Int) = (tyc + 1) * (U : Int) * z := by ac_rfl
      rcases Int.lt_or_le z 0 with h | h
      · have := Int.mul_le_mul_of_nonpos_right t1 (Int.le_of_lt h)
        omega
      · have := Int.mul_le_mul_of_nonneg_right t2 h
        omega
    · intro ⟨g1, g2⟩
      have p1 := Int.mul_le_mul_of_nonneg_right g1 hU
      have p2 := Int.mul_le_mul_of_nonneg_right g2 hU
      have q1 : tyc * z * (U : Int) = tyc * (U : Int) * z := by ac_rfl
      have q2 : (tyc + 1) * z * (U : Int) = (tyc + 1) * (U : Int) * z := by ac_rfl
      rcases Int.lt_or_le z 0 with h | h
      · have := Int.mul_le_mul_of_nonpos_right t2 (Int.le_of_lt h)
        omega
      · have := Int.mul_le_mul_of_nonneg_right t1 h
        omega
  have hin : In (div a TY) ((2 * k - 1) * 2 ^ 21 + 1) ((2 * k + 1) * 2 ^ 21 - 1) := by
    refine in_div ha.fin (finite_of_in in_ty) hp ((key _).1 ⟨?_, ?_⟩) ((key _).2 ⟨?_, ?_⟩) (by omega) (by omega) <;> unfold tyc <;> omega
  exact ⟨finite_of_in hin, round_in hin (by omega) (by omega)⟩

theorem finite_notInf {x : UInt64} (h : isFinite x = true) : ¬ Float64.isInf x = true := by
  rw [PySem.Flt.not_inf_of_finite h]; decide

theorem quo_frac {n k : Int} (h1 : -2 ^ 29 ≤ n) (h2 : n ≤ 2 ^ 29) (hk : 0 < k) (hk2 : k ≤ 2 ^ 22) : Quo (ofFrac (decide (n < 0) != decide (k < 0)) n.natAbs k.natAbs) n k := by
  have hx := ex_ofInt (n := n) (by omega) (by omega)
  have hy := ex_ofInt (n := k) (by omega) (by omega)
  have hq := ex_div hx h1 h2 hk hk2
  have e : div (ofInt n) (ofInt k) = ofFrac (decide (n < 0) != decide (k < 0)) n.natAbs k.natAbs ∨ True := .inr trivial
  have hm := Int.mul_ediv_add_emod n k
  have hn := Int.emod_nonneg n (Int.ne_of_gt hk)
  have hl := Int.emod_lt_of_pos n hk
  have hm' := Int.mul_ediv_add_emod (-n) k
  have hn' := Int.emod_nonneg (-n) (Int.ne_of_gt hk)
  have hl' := Int.emod_lt_of_pos (-n) hk
  unfold Quo
  generalize n / k = q at *
  generalize n % k = r at *
  generalize (-n) / k = q' at *
  generalize (-n) % k = r' at *
  have bd : ∀ z : Int, k * z ≤ 2 ^ 29 → -2 ^ 29 - k ≤ k * z → -2 ^ 29 - 1 ≤ z ∧ z ≤ 2 ^ 29 := by
    intro z z1 z2
    constructor
    · rcases Int.lt_or_le z (-2 ^ 29 - 1) with h | h
      · exfalso
        have h3 : k * z ≤ k * (-2 ^ 29 - 2) := Int.mul_le_mul_of_nonneg_left (by omega) (by omega)
        have h4 : k * (-2 ^ 29 - 1) ≤ 1 * (-2 ^ 29 - 1) := Int.mul_le_mul_of_nonpos_right (by omega) (by omega)
        have e : k * (-2 ^ 29 - 2) = k * (-2 ^ 29 - 1) - k := by
          rw [show (-2 ^ 29 - 2 : Int) = (-2 ^ 29 - 1) - 1 by omega, Int.mul_sub, Int.mul_one]
        omega
      · exact h
    · rcases Int.lt_or_le (2 ^ 29) z with h | h
      · exfalso
        have h3 : k * (2 ^ 29 + 1) ≤ k * z := Int.mul_le_mul_of_nonneg_left (by omega) (by omega)
        have h4 : 1 * ((2 : Int) ^ 29 + 1) ≤ k * (2 ^ 29 + 1) := Int.mul_le_mul_of_nonneg_right (by omega) (by omega)
        omega
      · exact h
  have b1 := bd q (by omega) (by omega)
  have b2 := bd q' (by omega) (by omega)
  have hin : In (ofFrac (decide (n < 0) != decide (k < 0)) n.natAbs k.natAbs) (q * 2 ^ 22) (q * 2 ^ 22 + (2 ^ 22 - 1)) := by
    refine in_frac hk ?_ ?_ (by omega) (by omega)
    · have : q * 2 ^ 22 * k = k * q * 2 ^ 22 := by ac_rfl
      omega
    · have e : (q * 2 ^ 22 + (2 ^ 22 - 1)) * k = k * q * 2 ^ 22 + (2 ^ 22 * k - k) := by
        rw [Int.add_mul, Int.sub_mul]
        have : q * 2 ^ 22 * k = k * q * 2 ^ 22 := by ac_rfl
        omega
      omega
  have hin' : In (ofFrac (decide (n < 0) != decide (k < 0)) n.natAbs k.natAbs) (-(q' * 2 ^ 22 + (2 ^ 22 - 1))) (-(q' * 2 ^ 22)) := by
    refine in_frac hk ?_ ?_ (by omega) (by omega)
    · have e : -(q' * 2 ^ 22 + (2 ^ 22 - 1)) * k = -(k * q' * 2 ^ 22 + (2 ^ 22 * k - k)) := by
        rw [Int.neg_mul, Int.add_mul, Int.sub_mul]
        have : q' * 2 ^ 22 * k = k * q' * 2 ^ 22 := by ac_rfl
        omega
      omega
    · have : -(q' * 2 ^ 22) * k = -(k * q' * 2 ^ 22) := by
        rw [Int.neg_mul]
        have : q' * 2 ^ 22 * k = k * q' * 2 ^ 22 := by ac_rfl
        omega
      omega
  have f := floor_in hin
  have c := ceil_in hin'
  exact ⟨finite_of_in hin, by omega, by omega⟩

theorem in_frac12 {a : Int} (h1 : -2 ^ 20 ≤ a) (h2 : a ≤ 2 ^ 20) : In (ofFrac (decide (a < 0) != decide ((12 : Int) < 0)) a.natAbs (12 : Int).natAbs) (a / 12 * 2 ^ 22) (a / 12 * 2 ^ 22 + 3844779) :=
  in_frac (by decide) (by omega) (by omega) (by omega) (by omega)

section
variable {prog : Program} {w : World} {A : Around} {E : Value → Shared → Prop} {s : Shared} {a b : UInt64} {n k : Int} {t u : Tok} {Q : Value → Shared → Prop}

abbrev Back (Q : Value → Shared → Prop) (s : Shared) (P : UInt64 → Prop) : Prop := ∀ x, P x → Q (.float x s.toks) { s with toks := s.toks + 1 }

theorem r_add_ff {z : Int} (ha : Ex a n) (hb : Ex b k) (e : Eqn (n + k) z) (h1 : -2 ^ 30 ≤ z ∧ z ≤ 2 ^ 30) (h : ∀ x, Ex x z → Q (.float x s.toks) { s with toks := s.toks + 1 }) : wpAny (model prog w) A (binaryOp .Add (.float a t) (.float b u)) Q E s := by
  cases e; exact add_float (h _ (ex_add ha hb h1.1 h1.2))
theorem r_sub_ff {z : Int} (ha : Ex a n) (hb : Ex b k) (e : Eqn (n - k) z) (h1 : -2 ^ 30 ≤ z ∧ z ≤ 2 ^ 30) (h : ∀ x, Ex x z → Q (.float x s.toks) { s with toks := s.toks + 1 }) : wpAny (model prog w) A (binaryOp .Sub (.float a t) (.float b u)) Q E s := by
  cases e; exact sub_float (h _ (ex_sub ha hb h1.1 h1.2))

theorem small_fits {k : Int} (h : -2 ^ 30 ≤ k ∧ k ≤ 2 ^ 30) : k.natAbs < 2 ^ 1023 :=
  Nat.lt_of_le_of_lt (show k.natAbs ≤ 2 ^ 30 by omega) (Nat.pow_lt_pow_right (by decide) (by decide))

theorem r_add_fi {z : Int} (ha : Ex a n) (e : Eqn (n + 2 * k) z) (hk : -2 ^ 30 ≤ k ∧ k ≤ 2 ^ 30) (h1 : -2 ^ 30 ≤ z ∧ z ≤ 2 ^ 30) (h : ∀ x, Ex x z → Q (.float x s.toks) { s with toks := s.toks + 1 }) : wpAny (model prog w) A (binaryOp .Add (.float a t) (.int k u)) Q E s := by
  cases e; exact add_fi_fits (small_fits hk) (h _ (ex_add ha (ex_ofInt hk.1 hk.2) h1.1 h1.2))
theorem r_add_if {z : Int} (ha : Ex a n) (e : Eqn (2 * k + n) z) (hk : -2 ^ 30 ≤ k ∧ k ≤ 2 ^ 30) (h1 : -2 ^ 30 ≤ z ∧ z ≤ 2 ^ 30) (h : ∀ x, Ex x z → Q (.float x s.toks) { s with toks := s.toks + 1 }) : wpAny (model prog w) A (binaryOp .Add (.int k u) (.float a t)) Q E s := by
  cases e; exact add_if_fits (small_fits hk) (h _ (ex_add (ex_ofInt hk.1 hk.2) ha h1.1 h1.2))
theorem r_sub_fi {z : Int} (ha : Ex a n) (e : Eqn (n - 2 * k) z) (hk : -2 ^ 30 ≤ k ∧ k ≤ 2 ^ 30) (h1 : -2 ^ 30 ≤ z ∧ z ≤ 2 ^ 30) (h : ∀ x, Ex x z → Q (.float x s.toks) { s with toks := s.toks + 1 }) : wpAny (model prog w) A (binaryOp .Sub (.float a t) (.int k u)) Q E s := by
  cases e; exact sub_fi_fits (small_fits hk) (h _ (ex_sub ha (ex_ofInt hk.1 hk.2) h1.1 h1.2))
theorem r_sub_if {z : Int} (ha : Ex a n) (e : Eqn (2 * k - n) z) (hk : -2 ^ 30 ≤ k ∧ k ≤ 2 ^ 30) (h1 : -2 ^ 30 ≤ z ∧ z ≤ 2 ^ 30) (h : ∀ x, Ex x z → Q (.float x s.toks) { s with toks := s.toks + 1 }) : wpAny (model prog w) A (binaryOp .Sub (.int k u) (.float a t)) Q E s := by
  cases e; exact sub_if_fits (small_fits hk) (h _ (ex_sub (ex_ofInt hk.1 hk.2) ha h1.1 h1.2))
theorem r_mul_fi {z : Int} (ha : Ex a n) (e : Eqn (n * k) z) (hk : -2 ^ 30 ≤ k ∧ k ≤ 2 ^ 30) (h1 : -2 ^ 30 ≤ z ∧ z ≤ 2 ^ 30) (h : ∀ x, Ex x z → Q (.float x s.toks) { s with toks := s.toks + 1 }) : wpAny (model prog w) A (binaryOp .Mult (.float a t) (.int k u)) Q E s := by
  cases e; exact mul_fi_fits (small_fits hk) (h _ (ex_mul ha hk.1 hk.2 h1.1 h1.2))
theorem over_small {k : Int} (h : -2 ^ 30 ≤ k ∧ k ≤ 2 ^ 30) : ¬ Over k := fun ho => absurd (inf_of_over ho) (finite_notInf (finite_of_in (in_ofInt h.1 h.2)))
theorem notZero_small {k : Int} (h : k ≠ 0) : ¬ Float64.isZero (Float64.ofInt k) = true := fun x => h ((isZero_ofInt k).mp x)
theorem r_div_fi {z : Int} (ha : Ex a n) (e : Eqn (n / 2) z) (hn : n % 2 = 0) (h1 : -2 ^ 30 ≤ n ∧ n ≤ 2 ^ 30) (hk : 0 < k ∧ k ≤ 2 ^ 22) (h : ∀ x, Quo x z k → Q (.float x s.toks) { s with toks := s.toks + 1 }) : wpAny (model prog w) A (binaryOp .Div (.float a t) (.int k u)) Q E s := by
  cases e
  exact AutoFloatOps.truediv_fi_2 (fin_of_fits (over_small ⟨by omega, by omega⟩)) (notZero_small (by omega)) (h _ (by
    have := ex_div (ha.of (show n = 2 * (n / 2) by omega)) (by omega) (by omega) hk.1 hk.2
    exact ⟨this.2.2, this.1, this.2.1⟩))
theorem r_mod_fi {z r : Int} (ha : Ex a n) (e : Eqn (n / 2) z) (e2 : Eqn (z % k) r) (hn : n % 2 = 0) (h1 : -2 ^ 30 ≤ n ∧ n ≤ 2 ^ 30) (hk : 0 < k ∧ k ≤ 2 ^ 22) (h : ∀ x, Ex x (2 * r) → Q (.float x s.toks) { s with toks := s.toks + 1 }) : wpAny (model prog w) A (binaryOp .Mod (.float a t) (.int k u)) Q E s := by
  cases e; cases e2
  exact AutoFloatOps.mod_fi_2 (fin_of_fits (over_small ⟨by omega, by omega⟩)) (notZero_small (by omega)) (h _
    (ex_mod (ha.of (show n = 2 * (n / 2) by omega)) (by omega) (by omega) hk.1 (by omega)))
theorem r_div_ii (h1 : -2 ^ 29 ≤ n ∧ n ≤ 2 ^ 29) (hk : 0 < k ∧ k ≤ 2 ^ 22) (h : ∀ x, Quo x n k → Q (.float x s.toks) { s with toks := s.toks + 1 }) : wpAny (model prog w) A (binaryOp .Div (.int n t) (.int k u)) Q E s := by
  have hq := quo_frac h1.1 h1.2 hk.1 hk.2
  exact AutoIntOps.truediv_2 (by simp; omega) (finite_notInf hq.1) (h _ hq)
theorem i_div_12 (h1 : -2 ^ 20 ≤ n ∧ n ≤ 2 ^ 20) (h : ∀ x, In x (n / 12 * 2 ^ 22) (n / 12 * 2 ^ 22 + 3844779) → Q (.float x s.toks) { s with toks := s.toks + 1 }) : wpAny (model prog w) A (binaryOp .Div (.int n t) (.int 12 u)) Q E s := by
  have hq := in_frac12 h1.1 h1.2
  exact AutoIntOps.truediv_2 (by simp) (finite_notInf (finite_of_in hq)) (h _ hq)
theorem r_div_TY (ha : Ex a n) (h : ∀ x, DivTY x n → Q (.float x s.toks) { s with toks := s.toks + 1 }) : wpAny (model prog w) A (binaryOp .Div (.float a t) (.float 4645133024903820211 u)) Q E s :=
  AutoFloatOps.truediv_1 (by decide +kernel) (h _ (divTY_of ha))
theorem i_mul_TY (hk : -20000 ≤ k ∧ k ≤ 20000) (h : ∀ x, In x (k * 1531936815 - 20000) (k * 1531936815 + 20000) → Q (.float x s.toks) { s with toks := s.toks + 1 }) : wpAny (model prog w) A (binaryOp .Mult (.float 4645133024903820211 t) (.int k u)) Q E s := by
  refine mul_fi_fits (small_fits ⟨by omega, by omega⟩) (h _ ?_)
  have t1 := in_ty.2.1
  have t2 := in_ty.2.2
  unfold TY tyc at t1 t2
  have hU := Up
  refine in_mul_int (finite_of_in in_ty) (by omega) (by omega) ?_ ?_ (by omega) (by omega)
  · rcases Int.lt_or_le k 0 with h | h
    · have p := Int.mul_le_mul_of_nonpos_right t2 (Int.le_of_lt h)
      have e : (1531936815 + 1) * (U : Int) * k = (k * 1531936815 + k) * U := by rw [show (1531936815 + 1 : Int) * U * k = (k * (1531936815 + 1)) * U by ac_rfl, Int.mul_add, Int.mul_one]
      have q : (k * 1531936815 - 20000) * (U : Int) ≤ (k * 1531936815 + k) * U := Int.mul_le_mul_of_nonneg_right (by omega) (Int.le_of_lt hU)
      omega
    · have p := Int.mul_le_mul_of_nonneg_right t1 h
      have e : 1531936815 * (U : Int) * k = (k * 1531936815) * U := by ac_rfl
      have q : (k * 1531936815 - 20000) * (U : Int) ≤ (k * 1531936815) * U := Int.mul_le_mul_of_nonneg_right (by omega) (Int.le_of_lt hU)
      omega
  · rcases Int.lt_or_le k 0 with h | h
    · have p := Int.mul_le_mul_of_nonpos_right t1 (Int.le_of_lt h)
      have e : 1531936815 * (U : Int) * k = (k * 1531936815) * U := by ac_rfl
      have q : (k * 1531936815) * (U : Int) ≤ (k * 1531936815 + 20000) * U := Int.mul_le_mul_of_nonneg_right (by omega) (Int.le_of_lt hU)
      omega
    · have p := Int.mul_le_mul_of_nonneg_right t2 h
      have e : (1531936815 + 1) * (U : Int) * k = (k * 1531936815 + k) * U := by rw [show (1531936815 + 1 : Int) * U * k = (k * (1531936815 + 1)) * U by ac_rfl, Int.mul_add, Int.mul_one]
      have q : (k * 1531936815 + k) * (U : Int) ≤ (k * 1531936815 + 20000) * U := Int.mul_le_mul_of_nonneg_right (by omega) (Int.le_of_lt hU)
      omega
variable {lo hi lo' hi' j : Int}
theorem i_add_ff (ha : In a lo hi) (hb : In b lo' hi') (h1 : -2 ^ 52 ≤ lo + lo' ∧ hi + hi' ≤ 2 ^ 52) (h : ∀ x, In x (lo + lo') (hi + hi') → Q (.float x s.toks) { s with toks := s.toks + 1 }) : wpAny (model prog w) A (binaryOp .Add (.float a t) (.float b u)) Q E s :=
  add_float (h _ (in_add ha hb h1.1 h1.2))
theorem i_add_fi (ha : In a lo hi) (hk : -2 ^ 30 ≤ k ∧ k ≤ 2 ^ 30) (h1 : -2 ^ 52 ≤ lo + k * 2 ^ 22 ∧ hi + k * 2 ^ 22 ≤ 2 ^ 52) (h : ∀ x, In x (lo + k * 2 ^ 22) (hi + k * 2 ^ 22) → Q (.float x s.toks) { s with toks := s.toks + 1 }) : wpAny (model prog w) A (binaryOp .Add (.float a t) (.int k u)) Q E s :=
  add_fi_fits (small_fits hk) (h _ (in_add ha (in_ofInt hk.1 hk.2) h1.1 h1.2))
theorem i_add_if (ha : In a lo hi) (hk : -2 ^ 30 ≤ k ∧ k ≤ 2 ^ 30) (h1 : -2 ^ 52 ≤ k * 2 ^ 22 + lo ∧ k * 2 ^ 22 + hi ≤ 2 ^ 52) (h : ∀ x, In x (k * 2 ^ 22 + lo) (k * 2 ^ 22 + hi) → Q (.float x s.toks) { s with toks := s.toks + 1 }) : wpAny (model prog w) A (binaryOp .Add (.int k u) (.float a t)) Q E s :=
  add_if_fits (small_fits hk) (h _ (in_add (in_ofInt hk.1 hk.2) ha h1.1 h1.2))
theorem i_sub_half (hf : FS a j) (h : ∀ x, FloorIs x j → Q (.float x s.toks) { s with toks := s.toks + 1 }) : wpAny (model prog w) A (binaryOp .Sub (.float a t) (.float 4602678819172646912 u)) Q E s :=
  sub_float (h _ hf)

theorem fin_three {x : UInt64} (h : isFinite x = true) : Float64.isNaN x = true → False := fun e => by rw [PySem.Flt.not_nan_of_finite h] at e; cases e
theorem fin_three' {x : UInt64} (h : isFinite x = true) : Float64.isInf x = true → False := fun e => by rw [PySem.Flt.not_inf_of_finite h] at e; cases e

theorem r_floor_quo {z : Int} (hq : Quo a n k) (e : Eqn (n / k) z) (h : Q (.int z s.toks) { s with toks := s.toks + 1 }) (hA : A.handled = none := by rfl) : wpAny (model prog w) A (call (.builtin "math.floor") [.float a t]) Q E s :=
  call_floor_float hA (fun e => (fin_three hq.1 e).elim) (fun e => (fin_three' hq.1 e).elim) (fun _ => by rw [hq.2.1, e.out]; exact h)
theorem r_floor_is (hq : FloorIs a j) (h : Q (.int j s.toks) { s with toks := s.toks + 1 }) (hA : A.handled = none := by rfl) : wpAny (model prog w) A (call (.builtin "math.floor") [.float a t]) Q E s :=
  call_floor_float hA (fun e => (fin_three hq.1 e).elim) (fun e => (fin_three' hq.1 e).elim) (fun _ => by rw [hq.2]; exact h)
theorem r_floor_ex {z : Int} (hq : Ex a n) (e : Eqn (n / 2) z) (h : Q (.int z s.toks) { s with toks := s.toks + 1 }) (hA : A.handled = none := by rfl) : wpAny (model prog w) A (call (.builtin "math.floor") [.float a t]) Q E s :=
  call_floor_float hA (fun e => (fin_three hq.fin e).elim) (fun e => (fin_three' hq.fin e).elim) (fun _ => by rw [ex_floor hq, e.out]; exact h)
theorem r_floor_in (hq : In a lo hi) (h1 : lo / 2 ^ 22 = hi / 2 ^ 22) (h : Q (.int (lo / 2 ^ 22) s.toks) { s with toks := s.toks + 1 }) (hA : A.handled = none := by rfl) : wpAny (model prog w) A (call (.builtin "math.floor") [.float a t]) Q E s :=
  call_floor_float hA (fun e => (fin_three (finite_of_in hq) e).elim) (fun e => (fin_three' (finite_of_in hq) e).elim) (fun _ => by
    have := floor_in hq
    rw [show toInt floorOf a = lo / 2 ^ 22 by omega]; exact h)
theorem r_ceil_quo {z : Int} (hq : Quo a n k) (e : Eqn (-((-n) / k)) z) (h : Q (.int z s.toks) { s with toks := s.toks + 1 }) (hA : A.handled = none := by rfl) : wpAny (model prog w) A (call (.builtin "math.ceil") [.float a t]) Q E s :=
  call_ceil_float hA (fun e => (fin_three hq.1 e).elim) (fun e => (fin_three' hq.1 e).elim) (fun _ => by rw [hq.2.2, e.out]; exact h)
theorem r_trunc_ex {z : Int} (hq : Ex a n) (e : Eqn (n / 2) z) (hn : n % 2 = 0) (h : Q (.int z s.toks) { s with toks := s.toks + 1 }) (hA : A.handled = none := by rfl) : wpAny (model prog w) A (call (.builtin "math.trunc") [.float a t]) Q E s :=
  call_trunc_float hA (fun e => (fin_three hq.fin e).elim) (fun e => (fin_three' hq.fin e).elim) (fun _ => by rw [ex_trunc (hq.of (show n = 2 * (n / 2) by omega)), e.out]; exact h)
theorem r_int_ex {z : Int} (hq : Ex a n) (e : Eqn (n / 2) z) (hn : n % 2 = 0) (h : Q (.int z s.toks) { s with toks := s.toks + 1 }) (hA : A.handled = none := by rfl) : wpAny (model prog w) A (call (.type "int") [.float a t]) Q E s :=
  call_int_float3 hA (fun e => (fin_three hq.fin e).elim) (fun e => (fin_three' hq.fin e).elim) (fun _ => by rw [ex_trunc (hq.of (show n = 2 * (n / 2) by omega)), e.out]; exact h)
theorem r_round_TY (hq : DivTY a n) (hp : PY n k) (h : Q (.int k s.toks) { s with toks := s.toks + 1 }) (hA : A.handled = none := by rfl) : wpAny (model prog w) A (call (.builtin "round") [.float a t]) Q E s :=
  have q := hq k hp
  call_round_float hA (fun e => (fin_three q.1 e).elim) (fun e => (fin_three' q.1 e).elim) (fun _ => by rw [q.2]; exact h)

theorem cmp_some {x y : Int} (o : Ordering) : (some (compare x y) == some o) = (compare x y == o) := rfl
theorem cmp_lt (x y : Int) : (compare x y == Ordering.lt) = decide (x < y) := by
  rcases Int.lt_trichotomy x y with h | h | h
  · rw [Int.compare_eq_lt.mpr h]; simp [h]
  · subst h; simp
  · rw [Int.compare_eq_gt.mpr h]; simp; omega
theorem cmp_eq (x y : Int) : (compare x y == Ordering.eq) = decide (x = y) := by
  rcases Int.lt_trichotomy x y with h | h | h
  · rw [Int.compare_eq_lt.mpr h]; simp; omega
  · subst h; simp
  · rw [Int.compare_eq_gt.mpr h]; simp; omega
theorem cmp_gt (x y : Int) : (compare x y == Ordering.gt) = decide (y < x) := by
  rcases Int.lt_trichotomy x y with h | h | h
  · rw [Int.compare_eq_lt.mpr h]; simp; omega
  · subst h; simp
  · rw [Int.compare_eq_gt.mpr h]; simp [h]
theorem r_lt_fi (ha : Ex a n) (h : Q (.bool (decide (n < 2 * k))) s) : wpAny (model prog w) A (compareOp .Lt (.float a t) (.int k u)) Q E s :=
  lt_fi (by rw [ex_cmpInt ha, cmp_some, cmp_lt]; exact h)
theorem r_le_fi (ha : Ex a n) (h : Q (.bool (decide (n ≤ 2 * k))) s) : wpAny (model prog w) A (compareOp .LtE (.float a t) (.int k u)) Q E s :=
  le_fi (by
    rw [ex_cmpInt ha, cmp_some, cmp_some, cmp_lt, cmp_eq]
    have e : (decide (n < 2 * k) || decide (n = 2 * k)) = decide (n ≤ 2 * k) := by rw [← Bool.decide_or]; exact decide_eq_decide.mpr (by omega)
    rw [e]; exact h)
theorem r_gt_fi (ha : Ex a n) (h : Q (.bool (decide (2 * k < n))) s) : wpAny (model prog w) A (compareOp .Gt (.float a t) (.int k u)) Q E s :=
  gt_fi (by rw [ex_cmpInt ha, cmp_some, cmp_gt]; exact h)
theorem r_eq_ff (ha : Ex a n) (hb : Ex b k) (h : Q (.bool (decide (n = k))) s) : wpAny (model prog w) A (compareOp .Eq (.float a t) (.float b u)) Q E s :=
  AutoFloatOps.eq_0 (by rw [ex_cmp ha hb, cmp_some, cmp_eq]; exact h)
theorem r_ne_ff (ha : Ex a n) (hb : Ex b k) (h : Q (.bool (!decide (n = k))) s) : wpAny (model prog w) A (compareOp .NotEq (.float a t) (.float b u)) Q E s :=
  AutoFloatOps.ne_0 (by
    have e : (Float64.cmp a b != some Ordering.eq) = !decide (n = k) := by
      show (!(Float64.cmp a b == some Ordering.eq)) = _
      rw [ex_cmp ha hb, cmp_some, cmp_eq]
    rw [e]; exact h)

theorem flr_cmp (hf : Flr a j) (i : Int) : (cmpInt a i == some Ordering.lt) = decide (j < i) ∧ (cmpInt a i == some Ordering.gt || cmpInt a i == some Ordering.eq) = decide (i ≤ j) := by
  obtain ⟨h0, h1, h2⟩ := hf
  rw [cmpInt_in h0]
  rw [cmp_some, cmp_some, cmp_some, cmp_lt, cmp_gt, cmp_eq]
  have e1 : (val a < i * 2 ^ 22 * (U : Int)) ↔ j < i := by
    constructor
    · intro h
      have : j * 2 ^ 22 * (U : Int) < i * 2 ^ 22 * U := by omega
      have := Int.lt_of_mul_lt_mul_right this (Int.le_of_lt Up)
      omega
    · intro h
      have : (j + 1) * 2 ^ 22 * (U : Int) ≤ i * 2 ^ 22 * U := Int.mul_le_mul_of_nonneg_right (by omega) (Int.le_of_lt Up)
      omega
  refine ⟨decide_eq_decide.mpr e1, ?_⟩
  rw [← Bool.decide_or]
  exact decide_eq_decide.mpr (by omega)
theorem r_gt_if_flr (hf : Flr a j) (h : Q (.bool (decide (j < n))) s) : wpAny (model prog w) A (compareOp .Gt (.int n u) (.float a t)) Q E s :=
  gt_if (by rw [(flr_cmp hf n).1]; exact h)
theorem r_le_if_flr (hf : Flr a j) (h : Q (.bool (decide (n ≤ j))) s) : wpAny (model prog w) A (compareOp .LtE (.int n u) (.float a t)) Q E s :=
  le_if (by rw [(flr_cmp hf n).2]; exact h)
theorem r_lt_fi_flr (hf : Flr a j) (h : Q (.bool (decide (j < n))) s) : wpAny (model prog w) A (compareOp .Lt (.float a t) (.int n u)) Q E s :=
  lt_fi (by rw [(flr_cmp hf n).1]; exact h)
end
end
/-- a call of f with vs, told by what its return asks -/
abbrev Cl (w : World) (k : Nat) (f : Addr) (vs : List Value) (news : List (Addr × Obj)) (R : Heap → Addr → (Str → Option Value) → Shared → (Value → Shared → Prop) → Prop) : Prop :=
  ∀ {p : Program} {loose : List Str} {mean : ExcName → Option Value} {mg mb : Str → Option Value}
    {dp un : Nat} {gd : Option (List Code)} {cn : Str} {cs : Scope} {a : Addr} {ccd : Value} {cl : List (Str × Addr)} {outer : List Env} {A₀ : Around} {base h₀ : Heap} {L : Addr} {m : Str → Option Value} {s : Shared} {Q E : Value → Shared → Prop},
    Below A₀ base outer h₀ → Fr h₀ L s.heap m → (hd.heap_39 w.params).In h₀ → News h₀ L s.heap news → Top p loose mean mg mb h₀ → cs.kind = .function →
    dp + k < recursionLimit → un + 8 * k + 8 < cLine → R h₀ L m s Q →
      wpAny (model PySem.Challenge.rw_ak5011_01.row.prog w) (ktrTop dp un gd cn cs L a ccd cl outer) (call (.ref f) vs) Q E s

abbrev RetI (news : List (Addr × Obj)) (v : Int) (h₀ : Heap) (L : Addr) (m : Str → Option Value) (s : Shared) (Q : Value → Shared → Prop) : Prop :=
  ∀ (t : Tok) (h' : Heap) (tk' : Nat), Fr h₀ L h' m → News h₀ L h' news → Q (.int v t) { s with heap := h', toks := tk' }
abbrev RetB (news : List (Addr × Obj)) (v : Bool) (h₀ : Heap) (L : Addr) (m : Str → Option Value) (s : Shared) (Q : Value → Shared → Prop) : Prop :=
  ∀ (h' : Heap) (tk' : Nat), Fr h₀ L h' m → News h₀ L h' news → Q (.bool v) { s with heap := h', toks := tk' }
abbrev RetF (news : List (Addr × Obj)) (P : UInt64 → Prop) (h₀ : Heap) (L : Addr) (m : Str → Option Value) (s : Shared) (Q : Value → Shared → Prop) : Prop :=
  ∀ (x : UInt64) (t : Tok) (h' : Heap) (tk' : Nat), P x → Fr h₀ L h' m → News h₀ L h' news → Q (.float x t) { s with heap := h', toks := tk' }
abbrev tupO (vs : List Value) : Obj := { cls := .type "tuple", data := .seq vs.toArray }
abbrev RetT2 (news : List (Addr × Obj)) (a b : Int) (h₀ : Heap) (L : Addr) (m : Str → Option Value) (s : Shared) (Q : Value → Shared → Prop) : Prop :=
  ∀ (q : Addr) (t u : Tok) (h' : Heap) (tk' : Nat), Fr h₀ L h' m → News h₀ L h' ((q, tupO [.int a t, .int b u]) :: news) → (∀ p ∈ news, p.1 < q) → Q (.ref q) { s with heap := h', toks := tk' }
abbrev RetT3 (news : List (Addr × Obj)) (a b c : Int) (h₀ : Heap) (L : Addr) (m : Str → Option Value) (s : Shared) (Q : Value → Shared → Prop) : Prop :=
  ∀ (q : Addr) (t u v : Tok) (h' : Heap) (tk' : Nat), Fr h₀ L h' m → News h₀ L h' ((q, tupO [.int a t, .int b u, .int c v]) :: news) → (∀ p ∈ news, p.1 < q) → Q (.ref q) { s with heap := h', toks := tk' }

theorem News.some_of {h₀ h : Heap} {L : Addr} {a b : List (Addr × Obj)} (N : News h₀ L h a) (hs : ∀ p ∈ b, p ∈ a) : News h₀ L h b := fun p hp => N p (hs p hp)
theorem fm4 (a : Int) : a.fmod 4 = a % 4 := Int.fmod_eq_emod_of_nonneg a (by decide)
theorem fm100 (a : Int) : a.fmod 100 = a % 100 := Int.fmod_eq_emod_of_nonneg a (by decide)
theorem fm400 (a : Int) : a.fmod 400 = a % 400 := Int.fmod_eq_emod_of_nonneg a (by decide)
theorem fm7 (a : Int) : a.fmod 7 = a % 7 := Int.fmod_eq_emod_of_nonneg a (by decide)
theorem fm2 (a : Int) : a.fmod 2 = a % 2 := Int.fmod_eq_emod_of_nonneg a (by decide)
theorem fd4 (a : Int) : a.fdiv 4 = a / 4 := Int.fdiv_eq_ediv_of_nonneg a (by decide)
theorem fd100 (a : Int) : a.fdiv 100 = a / 100 := Int.fdiv_eq_ediv_of_nonneg a (by decide)
theorem fd400 (a : Int) : a.fdiv 400 = a / 400 := Int.fdiv_eq_ediv_of_nonneg a (by decide)

section
variable {prog : Program} {w : World} {A : Around} {E : Value → Shared → Prop} {s : Shared} {K : Frag} {L : Addr} {h₀ : Heap} {m : Str → Option Value} {Q : Value → Shared → Prop} {a : Addr} {od : Option Addr} {n : Nat} {sl : Array (Option Value)} {x : Int} {u : Tok}
theorem inK_tup {items : Array Value} {ns : List Int} {b : Bool} (F : Fr h₀ L s.heap m) (X : K.In h₀) (hl : K.lookup a = some ⟨.type "tuple", od, .seq items n, sl⟩) (hi : IntsAre items.toList ns)
    (hP : (ns.any (· == x)) = b) (h : Q (.bool b) s) : wpAny (model prog w) A (compareOp .In (.int x u) (.ref a)) Q E s :=
  in_tuple_ints ⟨_, F.keep _ _ (X _ _ hl), rfl, _, rfl⟩ hi (by rw [hP]; exact h)
theorem any_30g (x : Int) : ([4, 6, 9, 11].any (· == x)) = decide (x = 4 ∨ x = 6 ∨ x = 9 ∨ x = 11) := by
  simp only [List.any_cons, List.any_nil, Bool.or_false, Bool.decide_or]
  simp [BEq.beq, eq_comm]
theorem any_31p (x : Int) : ([1, 2, 3, 4, 5, 6].any (· == x)) = decide (1 ≤ x ∧ x ≤ 6) := by
  rw [Bool.eq_iff_iff]
  simp only [List.any_cons, List.any_nil, Bool.or_false, Bool.or_eq_true, beq_iff_eq, decide_eq_true_eq]
  omega
theorem any_30p (x : Int) : ([7, 8, 9, 10, 11].any (· == x)) = decide (7 ≤ x ∧ x ≤ 11) := by
  rw [Bool.eq_iff_iff]
  simp only [List.any_cons, List.any_nil, Bool.or_false, Bool.or_eq_true, beq_iff_eq, decide_eq_true_eq]
  omega

theorem ite_y {c : Prop} [Decidable c] {A B : Prop} (h : c) (a : A) : if c then A else B := by rw [if_pos h]; exact a
theorem ite_n {c : Prop} [Decidable c] {A B : Prop} (h : ¬ c) (b : B) : if c then A else B := by rw [if_neg h]; exact b
end
local macro_rules | `(tactic| walk_at "binaryOp Add float float") => `(tactic| first
  | (refine' Mine.r_add_ff ?k1 ?k2 ?ke ?k3 ?_; (case k1 => first | assumption | exact Mine.ex_half | exact Mine.ex_epg | exact Mine.ex_epp); (case k2 => first | assumption | exact Mine.ex_half | exact Mine.ex_epg | exact Mine.ex_epp); (case ke => first | assumption | exact Mine.Eqn.rf); (case k3 => omega); intro x9 hx9; (try dsimp only))
  | (refine' Mine.i_add_ff ?k1 ?k2 ?k3 ?_; (case k1 => first | assumption | exact Mine.Ex.in (by assumption)); (case k2 => first | assumption | exact Mine.Ex.in (by assumption)); (case k3 => omega); intro x9 hx9; (try dsimp only)))
local macro_rules | `(tactic| walk_at "binaryOp Sub float float") => `(tactic| first
  | (refine' Mine.r_sub_ff ?k1 ?k2 ?ke ?k3 ?_; (case k1 => first | assumption | exact Mine.ex_half | exact Mine.ex_epg | exact Mine.ex_epp); (case k2 => first | assumption | exact Mine.ex_half | exact Mine.ex_epg | exact Mine.ex_epp); (case ke => first | assumption | exact Mine.Eqn.rf); (case k3 => omega); intro x9 hx9; (try dsimp only))
  | (refine' Mine.i_sub_half ?k1 ?_; (case k1 => assumption); intro x9 hx9; (try dsimp only)))
local macro_rules | `(tactic| walk_at "binaryOp Add float int") => `(tactic| first
  | (refine' Mine.r_add_fi ?k1 ?ke ?k2 ?k3 ?_; (case k1 => first | assumption | exact Mine.ex_half | exact Mine.ex_epg | exact Mine.ex_epp); (case ke => first | assumption | exact Mine.Eqn.rf); (case k2 => omega); (case k3 => omega); intro x9 hx9; (try dsimp only))
  | (refine' Mine.i_add_fi ?k1 ?k2 ?k3 ?_; (case k1 => assumption); (case k2 => omega); (case k3 => omega); intro x9 hx9; (try dsimp only)))
local macro_rules | `(tactic| walk_at "binaryOp Add int float") => `(tactic| first
  | (refine' Mine.r_add_if ?k1 ?ke ?k2 ?k3 ?_; (case k1 => first | assumption | exact Mine.ex_half | exact Mine.ex_epg | exact Mine.ex_epp); (case ke => first | assumption | exact Mine.Eqn.rf); (case k2 => omega); (case k3 => omega); intro x9 hx9; (try dsimp only))
  | (refine' Mine.i_add_if ?k1 ?k2 ?k3 ?_; (case k1 => assumption); (case k2 => omega); (case k3 => omega); intro x9 hx9; (try dsimp only)))
local macro_rules | `(tactic| walk_at "binaryOp Sub float int") => `(tactic| first
  | (refine' Mine.r_sub_fi ?k1 ?ke ?k2 ?k3 ?_; (case k1 => first | assumption | exact Mine.ex_half | exact Mine.ex_epg | exact Mine.ex_epp); (case ke => first | assumption | exact Mine.Eqn.rf); (case k2 => omega); (case k3 => omega); intro x9 hx9; (try dsimp only)))
local macro_rules | `(tactic| walk_at "binaryOp Sub int float") => `(tactic| first
  | (refine' Mine.r_sub_if ?k1 ?ke ?k2 ?k3 ?_; (case k1 => first | assumption | exact Mine.ex_half | exact Mine.ex_epg | exact Mine.ex_epp); (case ke => first | assumption | exact Mine.Eqn.rf); (case k2 => omega); (case k3 => omega); intro x9 hx9; (try dsimp only)))
local macro_rules | `(tactic| walk_at "binaryOp Mult float int") => `(tactic| first
  | (refine' Mine.r_mul_fi ?k1 ?ke ?k2 ?k3 ?_; (case k1 => assumption); (case ke => first | assumption | exact Mine.Eqn.rf); (case k2 => omega); (case k3 => omega); intro x9 hx9; (try dsimp only))
  | (refine' Mine.i_mul_TY ?k2 ?_; (case k2 => omega); intro x9 hx9; (try dsimp only)))
local macro_rules | `(tactic| walk_at "binaryOp Div float int") => `(tactic|
  (refine' Mine.r_div_fi ?k1 ?ke ?k2 ?k3 ?k4 ?_; (case k1 => assumption); (case ke => first | assumption | exact Mine.Eqn.rf); (case k2 => omega); (case k3 => omega); (case k4 => omega); intro x9 hx9; (try dsimp only)))
local macro_rules | `(tactic| walk_at "binaryOp Mod float int") => `(tactic|
  (refine' Mine.r_mod_fi ?k1 ?ke ?ke2 ?k2 ?k3 ?k4 ?_; (case k1 => assumption); (case ke => first | assumption | exact Mine.Eqn.rf); (case ke2 => first | assumption | exact Mine.Eqn.rf); (case k2 => omega); (case k3 => omega); (case k4 => omega); intro x9 hx9; (try dsimp only)))
local macro_rules | `(tactic| walk_at "binaryOp Div int int") => `(tactic| first
  | (refine' Mine.i_div_12 ?k1 ?_; (case k1 => omega); intro x9 hx9; (try dsimp only))
  | (refine' Mine.r_div_ii ?k1 ?k2 ?_; (case k1 => omega); (case k2 => omega); intro x9 hx9; (try dsimp only)))
local macro_rules | `(tactic| walk_at "binaryOp Div float float") => `(tactic|
  (refine' Mine.r_div_TY ?k1 ?_; (case k1 => assumption); intro x9 hx9; (try dsimp only)))
local macro_rules | `(tactic| walk_at "call builtin:math.floor") => `(tactic| first
  | (refine' Mine.r_floor_quo ?k1 ?ke ?_ ?k2; (case k1 => assumption); (case ke => first | assumption | exact Mine.Eqn.rf); (case k2 => k_dflt (exact rfl)); (try dsimp only))
  | (refine' Mine.r_floor_is ?k1 ?_ ?k2; (case k1 => assumption); (case k2 => k_dflt (exact rfl)); (try dsimp only))
  | (refine' Mine.r_floor_ex ?k1 ?ke ?_ ?k2; (case k1 => assumption); (case ke => first | assumption | exact Mine.Eqn.rf); (case k2 => k_dflt (exact rfl)); (try dsimp only))
  | (refine' Mine.r_floor_in ?k1 ?k3 ?_ ?k2; (case k1 => assumption); (case k3 => omega); (case k2 => k_dflt (exact rfl)); (try dsimp only)))
local macro_rules | `(tactic| walk_at "call builtin:math.ceil") => `(tactic|
  (refine' Mine.r_ceil_quo ?k1 ?ke ?_ ?k2; (case k1 => assumption); (case ke => first | assumption | exact Mine.Eqn.rf); (case k2 => k_dflt (exact rfl)); (try dsimp only)))
local macro_rules | `(tactic| walk_at "call builtin:math.trunc") => `(tactic|
  (refine' Mine.r_trunc_ex ?k1 ?ke ?k3 ?_ ?k2; (case k1 => assumption); (case ke => first | assumption | exact Mine.Eqn.rf); (case k3 => omega); (case k2 => k_dflt (exact rfl)); (try dsimp only)))
local macro_rules | `(tactic| walk_at "call type:int") => `(tactic|
  (refine' Mine.r_int_ex ?k1 ?ke ?k3 ?_ ?k2; (case k1 => assumption); (case ke => first | assumption | exact Mine.Eqn.rf); (case k3 => omega); (case k2 => k_dflt (exact rfl)); (try dsimp only)))
local macro_rules | `(tactic| walk_at "call builtin:round") => `(tactic|
  (refine' Mine.r_round_TY ?k1 ?k3 ?_ ?k2; (case k1 => assumption); (case k3 => assumption); (case k2 => k_dflt (exact rfl)); (try dsimp only)))
local macro_rules | `(tactic| walk_at "compareOp Lt float int") => `(tactic| first
  | (refine' Mine.r_lt_fi ?k1 ?_; (case k1 => assumption))
  | (refine' Mine.r_lt_fi_flr ?k1 ?_; (case k1 => assumption)))
local macro_rules | `(tactic| walk_at "compareOp LtE float int") => `(tactic| (refine' Mine.r_le_fi ?k1 ?_; (case k1 => assumption)))
local macro_rules | `(tactic| walk_at "compareOp Gt float int") => `(tactic| (refine' Mine.r_gt_fi ?k1 ?_; (case k1 => assumption)))
local macro_rules | `(tactic| walk_at "compareOp Eq float float") => `(tactic| (refine' Mine.r_eq_ff ?k1 ?k2 ?_; (case k1 => assumption); (case k2 => assumption)))
local macro_rules | `(tactic| walk_at "compareOp NotEq float float") => `(tactic| (refine' Mine.r_ne_ff ?k1 ?k2 ?_; (case k1 => assumption); (case k2 => assumption)))
local macro_rules | `(tactic| walk_at "compareOp Gt int float") => `(tactic| (refine' Mine.r_gt_if_flr ?k1 ?_; (case k1 => assumption)))
local macro_rules | `(tactic| walk_at "compareOp LtE int float") => `(tactic| (refine' Mine.r_le_if_flr ?k1 ?_; (case k1 => assumption)))
local macro_rules | `(tactic| walk_at "compareOp In int ref") => `(tactic| (k_here; k_dflt (refine' Mine.inK_tup ?mnF ?mnX ?mnl ?mni ?mnp ?_; (case mnF => k_asm); (case mnX => k_asm); (case mnl => k_is); (case mni => repeat constructor); (case mnp => first | exact Mine.any_30g _ | exact Mine.any_31p _ | exact Mine.any_30p _))))
local macro_rules | `(tactic| walk_at "ite") => `(tactic| first
  | (refine Mine.ite_y (by first | omega | assumption | (simp only [decide_eq_true_eq, bne_iff_ne, beq_iff_eq, ne_eq, eq_self, if_true, if_false, Bool.false_eq_true]; omega) | (simp only [*]; decide)) ?_)
  | (refine Mine.ite_n (by first | omega | assumption | (simp only [decide_eq_true_eq, bne_iff_ne, beq_iff_eq, ne_eq, eq_self, if_true, if_false, Bool.false_eq_true]; omega) | (simp only [*]; decide)) ?_))
local macro_rules | `(tactic| walk_at "eval Call") => `(tactic| ((with_reducible show wpAny _ _ (eval (PySem.Expr.Call (PySem.Expr.Name _ _) _ [] _) _) _ _ _); k_dflt (refine Call_ ?_)))
set_option maxRecDepth 100000 in
set_option maxHeartbeats 1000000 in
theorem isleap_cl {w : World} {y : Int} {t : Tok} {news : List (Addr × Obj)} : Cl w 3 62 [.int y t] news (RetB news (leapZ y)) := by
  intro p loose mean mg mb dp un gd cn cs a ccd cl outer A₀ base h₀ L m s Q E B F X N T hk hd hu hret
  w_top off; refine wpAny_call ?_
  k_dflt cell_enter
  k_steps
  all_goals (refine cb_retB (Q := Q) (fun _ => hret) ?_ (by k_asm) (by k_asm))
  all_goals (simp only [fm4, fm100, fm400] at *)
  all_goals (unfold leapZ; simp [*, bne, BEq.beq])

theorem isleap_e {w : World} {y y' : Int} {b : Bool} {t : Tok} {news : List (Addr × Obj)} (e1 : Eqn y' y) (e2 : leapZ y = b) : Cl w 3 62 [.int y' t] news (RetB news b) := by
  cases e1; subst e2; exact isleap_cl
local macro_rules | `(tactic| walk_at "call ref") => `(tactic| k_dflt (refine' isleap_e ?mne1 ?mne2 ?mnB ?mnF ?mnX ?mnN ?mnT ?mnk ?mnd ?mnu ?_; (case mne1 => first | with_reducible assumption | exact Eqn.rf); (case mne2 => first | with_reducible assumption | exact rfl); (case mnB => k_asm); (case mnF => k_asm); (case mnX => k_asm); (case mnN => k_asm); (case mnT => k_asm); (case mnk => first | exact rfl | assumption); (case mnd => ktr_room); (case mnu => ktr_units); intro h9 tk9 F9 N9; (try dsimp only); (try k_fold)))

set_option maxRecDepth 100000 in
set_option maxHeartbeats 1000000 in
theorem legal_cl {w : World} {y mo d : Int} {t u v : Tok} {news : List (Addr × Obj)} (hd1 : 1 ≤ d) (hd2 : d ≤ dimZ y mo) : Cl w 5 69 [.int y t, .int mo u, .int d v] news (RetB news true) := by
  intro p loose mean mg mb dp un gd cn cs a ccd cl outer A₀ base h₀ L m s Q E B F X N T hk hd hu hret
  have hday : (mo = 2 ∧ leapZ y = true ∧ d ≤ 29) ∨ (mo = 2 ∧ leapZ y = false ∧ d ≤ 28) ∨ (mo = 4 ∧ d ≤ 30) ∨ (mo = 6 ∧ d ≤ 30) ∨ (mo = 9 ∧ d ≤ 30) ∨ (mo = 11 ∧ d ≤ 30) ∨ (mo ≠ 2 ∧ mo ≠ 4 ∧ mo ≠ 6 ∧ mo ≠ 9 ∧ mo ≠ 11 ∧ d ≤ 31) := by
    unfold dimZ at hd2
    by_cases h2 : mo = 2
    · subst h2
      rw [if_pos rfl] at hd2
      cases hL : leapZ y
      · rw [hL] at hd2; simp at hd2; simp [hd2]
      · rw [hL] at hd2; simp at hd2; simp [hd2]
    · rw [if_neg h2] at hd2
      by_cases h3 : mo = 4 ∨ mo = 6 ∨ mo = 9 ∨ mo = 11
      · rw [if_pos h3] at hd2; omega
      · rw [if_neg h3] at hd2; omega
  clear hd2
  rcases hday with ⟨rfl, hl, hd2⟩ | ⟨rfl, hl, hd2⟩ | ⟨rfl, hd2⟩ | ⟨rfl, hd2⟩ | ⟨rfl, hd2⟩ | ⟨rfl, hd2⟩ | ⟨e1, e2, e3, e4, e5, hd2⟩
  all_goals (w_top off; refine wpAny_call ?_; k_dflt cell_enter; k_steps)
  all_goals exact hret _ _ (by k_asm) (by k_asm)
local macro_rules | `(tactic| walk_at "call ref") => `(tactic| k_dflt (refine' legal_cl ?mnh1 ?mnh2 ?mnB ?mnF ?mnX ?mnN ?mnT ?mnk ?mnd ?mnu ?_; (case mnh1 => assumption); (case mnh2 => assumption); (case mnB => k_asm); (case mnF => k_asm); (case mnX => k_asm); (case mnN => k_asm); (case mnT => k_asm); (case mnk => first | exact rfl | assumption); (case mnd => ktr_room); (case mnu => ktr_units); intro h9 tk9 F9 N9; (try dsimp only); (try k_fold)))
set_option maxRecDepth 100000 in
set_option maxHeartbeats 1000000 in
theorem tojdg_cl {w : World} {y mo d : Int} {t u v : Tok} {news : List (Addr × Obj)} (hd1 : 1 ≤ d) (hd2 : d ≤ dimZ y mo) (hm1 : 1 ≤ mo) (hm2 : mo ≤ 12) (hy1 : -20000 ≤ y) (hy2 : y ≤ 20000) :
    Cl w 8 76 [.int y t, .int mo u, .int d v] news (RetF news fun x => Ex x (2 * gregN y mo d + 3442849)) := by
  intro p loose mean mg mb dp un gd cn cs a ccd cl outer A₀ base h₀ L m s Q E B F X N T hk hd hu hret
  have hd3 : d ≤ 31 := by
    refine Int.le_trans hd2 ?_
    unfold dimZ
    repeat' split
    all_goals omega
  have hadj : (mo ≤ 2 ∧ adjZ y mo = 0) ∨ (¬ mo ≤ 2 ∧ leapZ y = true ∧ adjZ y mo = -1) ∨ (¬ mo ≤ 2 ∧ leapZ y = false ∧ adjZ y mo = -2) := by
    unfold adjZ
    by_cases h : mo ≤ 2
    · simp [h]
    · cases hl : leapZ y <;> simp [h]
  rcases hadj with ⟨h1, h2⟩ | ⟨h1, hl, h2⟩ | ⟨h1, hl, h2⟩
  all_goals (w_top off; refine wpAny_call ?_; k_dflt cell_enter; k_steps)
  all_goals (first | (refine hret _ _ _ _ (Ex.of (by assumption) ?_) (by k_asm) (by k_asm); unfold gregN; omega))
theorem tojdg_e {w : World} {y y' mo d : Int} {t u v : Tok} {news : List (Addr × Obj)} (e : Eqn y' y) (hd1 : 1 ≤ d) (hd2 : d ≤ dimZ y mo) (hm1 : 1 ≤ mo) (hm2 : mo ≤ 12) (hy1 : -20000 ≤ y) (hy2 : y ≤ 20000) :
    Cl w 8 76 [.int y' t, .int mo u, .int d v] news (RetF news fun x => Ex x (2 * gregN y mo d + 3442849)) := by
  cases e; exact tojdg_cl hd1 hd2 hm1 hm2 hy1 hy2
local macro_rules | `(tactic| walk_at "call ref") => `(tactic| k_dflt (refine' tojdg_e ?mne ?mnh1 ?mnh2 ?mnh3 ?mnh4 ?mnh5 ?mnh6 ?mnB ?mnF ?mnX ?mnN ?mnT ?mnk ?mnd ?mnu ?_; (case mne => first | with_reducible assumption | exact Eqn.rf); (case mnh1 => omega); (case mnh2 => first | with_reducible assumption | exact one_le_dim _ _); (case mnh3 => omega); (case mnh4 => omega); (case mnh5 => omega); (case mnh6 => omega); (case mnB => k_asm); (case mnF => k_asm); (case mnX => k_asm); (case mnN => k_asm); (case mnT => k_asm); (case mnk => first | exact rfl | assumption); (case mnd => ktr_room); (case mnu => ktr_units); intro x9 t9 h9 tk9 hx9 F9 N9; (try dsimp only); (try k_fold)))
set_option maxRecDepth 100000 in
set_option maxHeartbeats 2000000 in
theorem fromjdg_cl {w : World} {x : UInt64} {y mo d : Int} {t : Tok} {news : List (Addr × Obj)} (hv : Valid y mo (d + 1)) (hy1 : -20000 ≤ y) (hy2 : y ≤ 20000) (hx : FS x (gregN y mo (d + 1) + 1721424)) :
    Cl w 12 83 [.float x t] news (RetT3 news y mo (d + 1)) := by
  intro p loose mean mg mb dp un gd cn cs a ccd cl outer A₀ base h₀ L m s Q E B F X N T hk hd hu hret
  have hyr := yday_range hv
  have hge := gregN_eq y mo (d + 1)
  have hg1 := gregN_eq y 1 1
  have hg2 := gregN_eq y mo 1
  have hmo1 := hv.m1
  have hmo2 := hv.m2
  have hm1 : monZ y 1 = 0 := by unfold monZ adjZ; simp
  obtain ⟨yd, hyd⟩ : ∃ yd, yd = monZ y mo + (d + 1) - 1 := ⟨_, rfl⟩
  have hmon := greg_month hv hyd
  have hlen := len_range y
  obtain ⟨N', hN'⟩ : ∃ N', N' = baseZ y + yd := ⟨_, rfl⟩
  obtain ⟨qc, r1, cent, r2, quad, r3, yi, s1, s2, s3, s4, s5, s6, s7, s8⟩ := greg_steps (by omega) (by omega) hN'
  have hbb : -10000000 ≤ baseZ y ∧ baseZ y ≤ 10000000 := by unfold baseZ; omega
  obtain ⟨W, hW⟩ : ∃ W, 2 * (gregN y mo (d + 1) + 1721424) + 1 = W := ⟨_, rfl⟩
  have g0 : Eqn (2 * (gregN y mo (d + 1) + 1721424) + 1) W := hW
  have g1 : Eqn (W - 3442851) (2 * N') := Eqn.of (by omega)
  have g2 : Eqn (2 * N' / 2) N' := Eqn.of (by omega)
  have g3 : Eqn (2 * r1 / 2) r1 := Eqn.of (by omega)
  have g4 : Eqn (2 * r2 / 2) r2 := Eqn.of (by omega)
  have g5 : Eqn (2 * r3 / 2) r3 := Eqn.of (by omega)
  have g6 : Eqn (W - (2 * gregN y 1 1 + 3442849)) (2 * yd) := Eqn.of (by omega)
  have g7 : Eqn (W - (2 * gregN y mo 1 + 3442849)) (2 * d) := Eqn.of (by omega)
  have g8 : Eqn (2 * d / 2) d := Eqn.of (by omega)
  have c0 : -20000000 ≤ N' ∧ N' ≤ 20000000 := by omega
  have c1 : 0 ≤ r1 ∧ r1 < 146097 := by omega
  have c2 : 0 ≤ r2 ∧ r2 < 36524 := by omega
  have c3 : 0 ≤ r3 ∧ r3 < 1461 := by omega
  have c4 : 0 ≤ yd ∧ yd ≤ 365 := by omega
  have c5 : -40000000 ≤ W ∧ W ≤ 40000000 := by omega
  have c6 : -10000000 ≤ gregN y mo (d + 1) + 1721424 ∧ gregN y mo (d + 1) + 1721424 ≤ 10000000 := by omega
  replace s1 := Eqn.of s1
  replace s2 := Eqn.of s2
  replace s3 := Eqn.of s3
  replace s4 := Eqn.of s4
  replace s5 := Eqn.of s5
  replace s6 := Eqn.of s6
  replace s7 := Eqn.of s7
  have hd5 : 0 ≤ d ∧ d ≤ 30 := ⟨by have := hv.d1; omega, by have := hv.d2; have := dim_le y mo; omega⟩
  have hpc : (leapZ y = true ∧ yd < 59 ∧ ((2 * yd + 2 * 0) * 12 + 2 * 373) / 2 / 367 = mo ∧ ¬ yd = 365) ∨ (leapZ y = true ∧ ¬ yd < 59 ∧ ((2 * yd + 2 * 1) * 12 + 2 * 373) / 2 / 367 = mo) ∨
      (leapZ y = false ∧ yd < 58 ∧ ((2 * yd + 2 * 0) * 12 + 2 * 373) / 2 / 367 = mo ∧ ¬ yd = 365) ∨ (leapZ y = false ∧ ¬ yd < 58 ∧ ((2 * yd + 2 * 2) * 12 + 2 * 373) / 2 / 367 = mo ∧ ¬ yd = 365) := by
    cases hl : leapZ y
    · have h5 : lenZ y = 365 := by unfold lenZ; rw [if_neg (by simp [hl])]
      by_cases h : yd < 58
      · exact .inr (.inr (.inl ⟨rfl, h, (hmon.2 hl).1 h, by omega⟩))
      · exact .inr (.inr (.inr ⟨rfl, h, (hmon.2 hl).2 h, by omega⟩))
    · by_cases h : yd < 59
      · exact .inl ⟨rfl, h, (hmon.1 hl).1 h, by omega⟩
      · exact .inr (.inl ⟨rfl, h, (hmon.1 hl).2 h⟩)
  clear hmon
  have hend : ∀ (q : Addr) (t' u' v' : Tok) (h' : Heap) (tk' : Nat) (z : Int), z = y → Fr h₀ L h' m → ∀ nn, News h₀ L h' ((q, tupO [.int z t', .int mo u', .int (d + 1) v']) :: nn) → (∀ p ∈ news, p ∈ nn) → (∀ p ∈ news, p.1 < q) → Q (.ref q) { s with heap := h', toks := tk' } := by
    intro q t' u' v' h' tk' z ez F1 nn N1 hs hl
    subst ez
    exact hret q t' u' v' h' tk' F1 (fun p hp => by
      rcases List.mem_cons.mp hp with rfl | hp
      · exact N1 _ (.head _)
      · exact N1 _ (.tail _ (hs p hp))) hl
  have h5 : lenZ y = 365 ∨ lenZ y = 366 := by unfold lenZ; split <;> omega
  clear hW hN' hyd hyr hlen hbb h5 hge hg1 hg2 hm1
  rcases s8 with ⟨s8 | s8, s11, s9⟩ | ⟨s8, s9, s10⟩
  · replace s9 := Eqn.of s9
    rcases hpc with ⟨hl, p1, p2, p3⟩ | ⟨hl, p1, p2⟩ | ⟨hl, p1, p2, p3⟩ | ⟨hl, p1, p2, p3⟩
    · exact absurd s11 p3
    · replace p2 := Eqn.of p2
      w_top off; refine wpAny_call ?_; k_dflt cell_enter; k_steps
      all_goals exact hend _ _ _ _ _ _ _ s9.out (by k_asm) _ (by k_asm) (fun p hp => hp) (by k_asm)
    · exact absurd s11 p3
    · exact absurd s11 p3
  · replace s9 := Eqn.of s9
    have s8' : ¬ cent = 4 := by
      intro hc
      have := s3.out; have := s4.out; have := s5.out; have := s6.out; have := s7.out
      omega
    rcases hpc with ⟨hl, p1, p2, p3⟩ | ⟨hl, p1, p2⟩ | ⟨hl, p1, p2, p3⟩ | ⟨hl, p1, p2, p3⟩
    · exact absurd s11 p3
    · replace p2 := Eqn.of p2
      w_top off; refine wpAny_call ?_; k_dflt cell_enter; k_steps
      all_goals exact hend _ _ _ _ _ _ _ s9.out (by k_asm) _ (by k_asm) (fun p hp => hp) (by k_asm)
    · exact absurd s11 p3
    · exact absurd s11 p3
  · replace s10 := Eqn.of s10
    rcases hpc with ⟨hl, p1, p2, p3⟩ | ⟨hl, p1, p2⟩ | ⟨hl, p1, p2, p3⟩ | ⟨hl, p1, p2, p3⟩
    all_goals (replace p2 := Eqn.of p2; w_top off; refine wpAny_call ?_; k_dflt cell_enter; k_steps)
    all_goals exact hend _ _ _ _ _ _ _ s10.out (by k_asm) _ (by k_asm) (fun p hp => hp) (by k_asm)
local macro_rules | `(tactic| walk_at "call ref") => `(tactic| k_dflt (refine' fromjdg_cl ?mnv ?mnh5 ?mnh6 ?mnx ?mnB ?mnF ?mnX ?mnN ?mnT ?mnk ?mnd ?mnu ?_; (case mnx => with_reducible assumption); (case mnv => with_reducible assumption); (case mnh5 => omega); (case mnh6 => omega); (case mnB => k_asm); (case mnF => k_asm); (case mnX => k_asm); (case mnN => k_asm); (case mnT => k_asm); (case mnk => first | exact rfl | assumption); (case mnd => ktr_room); (case mnu => ktr_units); intro q9 t9 u9 v9 h9 tk9 F9 N9 l9; (try dsimp only); (try k_fold)))
/-- ea is a function of ints, f, over the ledger -/
def EqFun (w : World) (ea : Addr) (news : List (Addr × Obj)) (f : Int → Int) (lo hi : Int) : Prop :=
  (∃ oc od fd sl, (ea, (⟨oc, od, .func fd, sl⟩ : Obj)) ∈ news) ∧ ∀ big, (∀ p ∈ news, p ∈ big) → ∀ (n : Int) (t : Tok), lo ≤ n → n ≤ hi → Cl w 9 ea [.int n t] big (RetI big (f n))
theorem EqFun.at {w : World} {ea : Addr} {news big : List (Addr × Obj)} {f : Int → Int} {lo hi : Int} {h₀ h : Heap} {L : Addr} (e : EqFun w ea news f lo hi) (N : News h₀ L h big) (hs : ∀ p ∈ news, p ∈ big) : FnAt ea h :=
  let ⟨⟨oc, od, fd, sl, hm⟩, _⟩ := e
  ⟨oc, od, fd, sl, (N _ (hs _ hm)).1⟩
theorem EqFun.call {w : World} {ea : Addr} {news big : List (Addr × Obj)} {f : Int → Int} {lo hi n : Int} {t : Tok} (h : EqFun w ea news f lo hi) (hs : ∀ p ∈ news, p ∈ big) (h1 : lo ≤ n) (h2 : n ≤ hi) : Cl w 9 ea [.int n t] big (RetI big (f n)) := h.2 big hs n t h1 h2
theorem EqFun.wide {w : World} {ea : Addr} {news big : List (Addr × Obj)} {f : Int → Int} {lo hi : Int} (h : EqFun w ea news f lo hi) (hs : ∀ p ∈ news, p ∈ big) : EqFun w ea big f lo hi :=
  ⟨let ⟨a, b, c, d, hm⟩ := h.1; ⟨a, b, c, d, hs _ hm⟩, fun b hb n t => h.2 b (fun p hp => hb p (hs p hp)) n t⟩
local macro_rules | `(tactic| walk_at "call ref") => `(tactic| k_dflt (refine' EqFun.call ?mnf ?mns ?mnh5 ?mnh6 ?mnB ?mnF ?mnX ?mnN ?mnT ?mnk ?mnd ?mnu ?_; (case mnf => with_reducible assumption); (case mnB => k_asm); (case mnF => k_asm); (case mnX => k_asm); (case mnN => k_asm); (case mns => (intro p hp; first | exact hp | exact .tail _ hp | exact .tail _ (.tail _ hp) | exact .tail _ (.tail _ (.tail _ hp)) | exact .tail _ (.tail _ (.tail _ (.tail _ hp))))); (case mnh5 => omega); (case mnh6 => omega); (case mnT => k_asm); (case mnk => first | exact rfl | assumption); (case mnd => ktr_room); (case mnu => ktr_units); intro t9 h9 tk9 F9 N9; (try dsimp only); (try k_fold)))
local macro_rules | `(tactic| walk_at "callWith ref") => `(tactic| k_dflt (refine' callWith_F (EqFun.at ?mnf ?mnN ?mns) ?_ ?mn1 ?mn2; (case mnf => with_reducible assumption); (case mnN => k_asm); (case mns => (intro p hp; first | exact hp | exact .tail _ hp | exact .tail _ (.tail _ hp) | exact .tail _ (.tail _ (.tail _ hp)) | exact .tail _ (.tail _ (.tail _ (.tail _ hp))))); (case mn1 => exact rfl); (case mn2 => exact rfl)))
local macro_rules | `(tactic| walk_at "FnAt") => `(tactic| k_dflt (refine' EqFun.at ?mnf ?mnN ?mns; (case mnf => with_reducible assumption); (case mnN => k_asm); (case mns => (intro p hp; first | exact hp | exact .tail _ hp | exact .tail _ (.tail _ hp) | exact .tail _ (.tail _ (.tail _ hp)) | exact .tail _ (.tail _ (.tail _ (.tail _ hp)))))))
local macro_rules | `(tactic| walk_at "exec While") => `(tactic| (k_here; k_dflt (refine whl_start 100 ?_)))
local macro_rules | `(tactic| walk_at "WhlIf") => `(tactic| first
  | (refine WhlIf.yes (by first | (simp only [Bool.not_eq_true', decide_eq_true_eq, decide_eq_false_iff_not]; omega) | (simp only [*]; decide)) ?_)
  | (refine WhlIf.no (by first | (simp only [Bool.not_eq_false', decide_eq_true_eq, decide_eq_false_iff_not]; omega) | (simp only [*]; decide)) ?_))
set_option maxRecDepth 100000 in
set_option maxHeartbeats 2000000 in
theorem lasteq_cl {w : World} {x : UInt64} {j g mo d : Int} {t : Tok} {ea : Addr} {news : List (Addr × Obj)} {f : Int → Int} {lo hi y : Int} (hf : EqFun w ea news f lo hi)
    (hv : Valid g mo (d + 1)) (hy1 : -20000 ≤ g) (hy2 : g ≤ 20000) (hx : FS x (gregN g mo (d + 1) + 1721424)) (hj : Flr x j) (hlo : lo ≤ g - 1) (hhi : g + 1 ≤ hi)
    (hc : (y = g ∧ f g ≤ j ∧ j < f (g + 1)) ∨ (y = g - 1 ∧ j < f g ∧ f (g - 1) ≤ j)) :
    Cl w 16 99 [.float x t, .ref ea] news (RetI news (f y - 1)) := by
  intro p loose mean mg mb dp un gd cn cs a ccd cl outer A₀ base h₀ L m s Q E B F X N T hk hd hu hret
  rcases hc with ⟨rfl, c1, c2⟩ | ⟨rfl, c1, c2⟩
  · w_top off; refine wpAny_call ?_; k_dflt cell_enter; k_steps
    all_goals exact hret _ _ _ (by k_asm) (News.some_of (by k_asm) fun p hp => .tail _ hp)
  · have c3 : j < f (g - 1 + 1) := by rw [Int.sub_add_cancel]; exact c1
    w_top off; refine wpAny_call ?_; k_dflt cell_enter; k_steps
    all_goals exact hret _ _ _ (by k_asm) (News.some_of (by k_asm) fun p hp => .tail _ hp)
/-- last_equinox_jd(x, ea) is r -/
def Is99 (w : World) (ea : Addr) (news : List (Addr × Obj)) (x : UInt64) (r : Int) : Prop :=
  ∀ big, (∀ p ∈ news, p ∈ big) → ∀ (t : Tok), Cl w 16 99 [.float x t, .ref ea] big (RetI big r)
theorem Is99.call {w : World} {ea : Addr} {news big : List (Addr × Obj)} {x : UInt64} {r : Int} {t : Tok} (h : Is99 w ea news x r) (hs : ∀ p ∈ news, p ∈ big) : Cl w 16 99 [.float x t, .ref ea] big (RetI big r) := h big hs t
/-- jd_to_pyear(x, ea) is (k, r) -/
def Is106 (w : World) (ea : Addr) (news : List (Addr × Obj)) (x : UInt64) (k r : Int) : Prop :=
  ∀ big, (∀ p ∈ news, p ∈ big) → ∀ (t : Tok), Cl w 20 106 [.float x t, .ref ea] big (RetT2 big k r)
theorem Is106.call {w : World} {ea : Addr} {news big : List (Addr × Obj)} {x : UInt64} {k r : Int} {t : Tok} (h : Is106 w ea news x k r) (hs : ∀ p ∈ news, p ∈ big) : Cl w 20 106 [.float x t, .ref ea] big (RetT2 big k r) := h big hs t
theorem Is99.wide {w : World} {ea : Addr} {news big : List (Addr × Obj)} {x : UInt64} {r : Int} (h : Is99 w ea news x r) (hs : ∀ p ∈ news, p ∈ big) : Is99 w ea big x r := fun b hb => h b fun p hp => hb p (hs p hp)
theorem Is106.wide {w : World} {ea : Addr} {news big : List (Addr × Obj)} {x : UInt64} {k r : Int} (h : Is106 w ea news x k r) (hs : ∀ p ∈ news, p ∈ big) : Is106 w ea big x k r := fun b hb => h b fun p hp => hb p (hs p hp)
theorem is99_of {w : World} {x : UInt64} {j g mo d : Int} {ea : Addr} {news : List (Addr × Obj)} {f : Int → Int} {lo hi y : Int} (hf : EqFun w ea news f lo hi)
    (hv : Valid g mo (d + 1)) (hy1 : -20000 ≤ g) (hy2 : g ≤ 20000) (hx : FS x (gregN g mo (d + 1) + 1721424)) (hj : Flr x j) (hlo : lo ≤ g - 1) (hhi : g + 1 ≤ hi)
    (hc : (y = g ∧ f g ≤ j ∧ j < f (g + 1)) ∨ (y = g - 1 ∧ j < f g ∧ f (g - 1) ≤ j)) : Is99 w ea news x (f y - 1) :=
  fun _ hb _ => lasteq_cl (hf.wide hb) hv hy1 hy2 hx hj hlo hhi hc
local macro_rules | `(tactic| walk_at "call ref") => `(tactic| k_dflt (refine' Is99.call ?mnf ?mns ?mnB ?mnF ?mnX ?mnN ?mnT ?mnk ?mnd ?mnu ?_; (case mnf => first | with_reducible assumption | (rename ∀ x, Ex x _ → Is99 _ _ _ x _ => h99; exact h99 _ (by with_reducible assumption))); (case mnB => k_asm); (case mnF => k_asm); (case mnX => k_asm); (case mnN => k_asm); (case mns => (intro p hp; first | exact hp | exact .tail _ hp | exact .tail _ (.tail _ hp) | exact .tail _ (.tail _ (.tail _ hp)))); (case mnT => k_asm); (case mnk => first | exact rfl | assumption); (case mnd => ktr_room); (case mnu => ktr_units); intro t9 h9 tk9 F9 N9; (try dsimp only); (try k_fold)))
set_option maxRecDepth 100000 in
set_option maxHeartbeats 2000000 in
theorem is106_of {w : World} {x : UInt64} {k r : Int} {ea : Addr} {news : List (Addr × Obj)} (h9 : Is99 w ea news x r) (hp : PY (2 * r - 3896641) k) (hr : -10000000 ≤ r ∧ r ≤ 10000000) : Is106 w ea news x (k + 1) r := by
  intro big hb t p loose mean mg mb dp un gd cn cs a ccd cl outer A₀ base h₀ L m s Q E B F X N T hk hd hu hret
  replace h9 := h9.wide hb
  clear hb
  w_top off; refine wpAny_call ?_; k_dflt cell_enter; k_steps
  all_goals exact hret _ _ _ _ _ (by k_asm) (by k_asm) (by k_asm)
set_option maxRecDepth 100000 in
set_option maxHeartbeats 2000000 in
theorem fromjdp_cl {w : World} {x : UInt64} {k r z yd mo d : Int} {t : Tok} {ea : Addr} {news : List (Addr × Obj)} (hx : Ex x z) (hz : -20000000 ≤ z ∧ z ≤ 20000000) (h99 : ∀ x', Ex x' (2 * (z / 2) + 1) → Is99 w ea news x' r) (hp : PY (2 * r - 3896641) k) (hr : -10000000 ≤ r ∧ r ≤ 10000000)
    (hyd : 2 * (z / 2) + 1 - (2 * r + 1) = 2 * yd) (y1 : 1 ≤ yd) (y2 : yd ≤ 366)
    (hc : (yd ≤ 186 ∧ -((-yd) / 31) = mo ∧ yd - (mo - 1) * 31 = d) ∨ (¬ yd ≤ 186 ∧ -((-(yd - 6)) / 30) = mo ∧ yd - (mo - 1) * 30 - 6 = d)) :
    Cl w 20 120 [.float x t, .ref ea] news (RetT3 news (k + 1) mo d) := by
  intro p loose mean mg mb dp un gd cn cs a ccd cl outer A₀ base h₀ L m s Q E B F X N T hk hd hu hret
  have e1 := Eqn.of hyd
  have e2 : Eqn (2 * yd / 2) yd := Eqn.of (by omega)
  obtain ⟨z2, hz2⟩ : ∃ z2, z / 2 = z2 := ⟨_, rfl⟩
  rw [hz2] at h99 e1
  have hz3 : -10000000 ≤ z2 ∧ z2 ≤ 10000000 := by omega
  replace hz2 := Eqn.of hz2
  clear hyd
  have e6 : Eqn (2 * d / 2) d := Eqn.of (by omega)
  rcases hc with ⟨c1, c2, c3⟩ | ⟨c1, c2, c3⟩
  · have e3 := Eqn.of c2
    have e4 : Eqn (2 * yd - 2 * ((mo - 1) * 31)) (2 * d) := Eqn.of (by omega)
    have hm : 1 ≤ mo ∧ mo ≤ 12 := by omega
    have hdd : -1000 ≤ d ∧ d ≤ 1000 := by omega
    clear c2 c3
    w_top off; refine wpAny_call ?_; k_dflt cell_enter; k_steps
    all_goals exact hret _ _ _ _ _ _ (by k_asm) (by k_asm) (by k_asm)
  · have e3 := Eqn.of c2
    have e5 : Eqn ((2 * yd - 2 * 6) / 2) (yd - 6) := Eqn.of (by omega)
    have e4 : Eqn (2 * yd - 2 * ((mo - 1) * 30) - 2 * 6) (2 * d) := Eqn.of (by omega)
    have hm : 1 ≤ mo ∧ mo ≤ 13 := by omega
    have hdd : -1000 ≤ d ∧ d ≤ 1000 := by omega
    clear c2 c3
    w_top off; refine wpAny_call ?_; k_dflt cell_enter; k_steps
    all_goals exact hret _ _ _ _ _ _ (by k_asm) (by k_asm) (by k_asm)
def St2 (w : World) (ea : Addr) (news : List (Addr × Obj)) (lo hi k r k' r' : Int) : Prop := ∀ x, In x lo hi → Is106 w ea news x k r ∨ Is106 w ea news x k' r'
def St1 (w : World) (ea : Addr) (news : List (Addr × Obj)) (lo hi k r : Int) : Prop := ∀ x, In x lo hi → Is106 w ea news x k r
theorem St2.use {w : World} {ea : Addr} {news : List (Addr × Obj)} {lo hi k r k' r' : Int} {x : UInt64} (h : St2 w ea news lo hi k r k' r') (hx : In x lo hi) : Is106 w ea news x k r ∨ Is106 w ea news x k' r' := h x hx
theorem St1.use {w : World} {ea : Addr} {news : List (Addr × Obj)} {lo hi k r : Int} {x : UInt64} (h : St1 w ea news lo hi k r) (hx : In x lo hi) : Is106 w ea news x k r := h x hx
theorem St1.call {w : World} {ea : Addr} {news big : List (Addr × Obj)} {lo hi k r : Int} {x : UInt64} {t : Tok} (h : St1 w ea news lo hi k r) (hx : In x lo hi) (hs : ∀ p ∈ news, p ∈ big) : Cl w 20 106 [.float x t, .ref ea] big (RetT2 big k r) := (h x hx).call hs
abbrev RetT2or (news : List (Addr × Obj)) (a b a' b' : Int) (h₀ : Heap) (L : Addr) (m : Str → Option Value) (s : Shared) (Q : Value → Shared → Prop) : Prop := RetT2 news a b h₀ L m s Q ∧ RetT2 news a' b' h₀ L m s Q
theorem St2.call {w : World} {ea : Addr} {news big : List (Addr × Obj)} {lo hi k r k' r' : Int} {x : UInt64} {t : Tok} (h : St2 w ea news lo hi k r k' r') (hx : In x lo hi) (hs : ∀ p ∈ news, p ∈ big) : Cl w 20 106 [.float x t, .ref ea] big (RetT2or big k r k' r') := by
  intro p loose mean mg mb dp un gd cn cs a ccd cl outer A₀ base h₀ L m s Q E B F X N T hk hd hu hret
  rcases h x hx with h1 | h1
  · exact h1.call hs B F X N T hk hd hu hret.1
  · exact h1.call hs B F X N T hk hd hu hret.2
local macro_rules | `(tactic| walk_at "call ref") => `(tactic| k_dflt (refine' Is106.call ?mnf ?mns ?mnB ?mnF ?mnX ?mnN ?mnT ?mnk ?mnd ?mnu ?_; (case mnf => with_reducible assumption); (case mnB => k_asm); (case mnF => k_asm); (case mnX => k_asm); (case mnN => k_asm); (case mns => (intro p hp; first | exact hp | exact .tail _ hp | exact .tail _ (.tail _ hp) | exact .tail _ (.tail _ (.tail _ hp)))); (case mnT => k_asm); (case mnk => first | exact rfl | assumption); (case mnd => ktr_room); (case mnu => ktr_units); intro q9 t9 u9 h9 tk9 F9 N9 l9; (try dsimp only); (try k_fold)))
local macro_rules | `(tactic| walk_at "call ref") => `(tactic| k_dflt (refine' St1.call ?mnf ?mnx ?mns ?mnB ?mnF ?mnX ?mnN ?mnT ?mnk ?mnd ?mnu ?_; (case mnx => with_reducible assumption); (case mnf => with_reducible assumption); (case mnB => k_asm); (case mnF => k_asm); (case mnX => k_asm); (case mnN => k_asm); (case mns => (intro p hp; first | exact hp | exact .tail _ hp | exact .tail _ (.tail _ hp) | exact .tail _ (.tail _ (.tail _ hp)))); (case mnT => k_asm); (case mnk => first | exact rfl | assumption); (case mnd => ktr_room); (case mnu => ktr_units); intro q9 t9 u9 h9 tk9 F9 N9 l9; (try dsimp only); (try k_fold)))
local macro_rules | `(tactic| walk_at "call ref") => `(tactic| k_dflt (refine' St2.call ?mnf ?mnx ?mns ?mnB ?mnF ?mnX ?mnN ?mnT ?mnk ?mnd ?mnu ⟨?_, ?_⟩; (case mnx => with_reducible assumption); (case mnf => with_reducible assumption); (case mnB => k_asm); (case mnF => k_asm); (case mnX => k_asm); (case mnN => k_asm); (case mns => (intro p hp; first | exact hp | exact .tail _ hp | exact .tail _ (.tail _ hp) | exact .tail _ (.tail _ (.tail _ hp)))); (case mnT => k_asm); (case mnk => first | exact rfl | assumption); (case mnd => ktr_room); (case mnu => ktr_units); all_goals (intro q9 t9 u9 h9 tk9 F9 N9 l9; (try dsimp only); (try k_fold))))
def mZ (mo : Int) : Int := if mo ≤ 7 then (mo - 1) * 31 else (mo - 1) * 30 + 6
set_option maxRecDepth 100000 in
set_option maxHeartbeats 2000000 in
theorem tojdp_cl {w : World} {y mo d r0 r1 r2 : Int} {t u v : Tok} {ea : Addr} {news : List (Addr × Obj)}
    (s0 : St2 w ea news ((3896641 - 2 * 1) * 2 ^ 21 + ((y - 1 - 1) * 1531936815 - 20000)) ((3896641 - 2 * 1) * 2 ^ 21 + ((y - 1 - 1) * 1531936815 + 20000)) (y - 2) r0 (y - 1) r1)
    (s1 : St1 w ea news (r0 * 2 ^ 22 + 1531936815 + 2 * 2 ^ 22) (r0 * 2 ^ 22 + 1531936816 + 2 * 2 ^ 22) (y - 1) r1)
    (s2 : St1 w ea news (r1 * 2 ^ 22 + 1531936815 + 2 * 2 ^ 22) (r1 * 2 ^ 22 + 1531936816 + 2 * 2 ^ 22) y r2)
    (hy : -15000 ≤ y ∧ y ≤ 15000) (h0 : -10000000 ≤ r0 ∧ r0 ≤ 10000000) (h1 : -10000000 ≤ r1 ∧ r1 ≤ 10000000) (h2 : -10000000 ≤ r2 ∧ r2 ≤ 10000000) (hm : 1 ≤ mo ∧ mo ≤ 12) (hdd : 1 ≤ d ∧ d ≤ 31) :
    Cl w 24 113 [.int y t, .int mo u, .int d v, .ref ea] news (RetF news fun x => Ex x (2 * (r2 + mZ mo + d) + 1)) := by
  intro p loose mean mg mb dp un gd cn cs a ccd cl outer A₀ base h₀ L m s Q E B F X N T hk hd hu hret
  have hTY : In 4645133024903820211 1531936815 1531936816 := in_ty
  have hmo : (mo ≤ 7 ∧ mZ mo = (mo - 1) * 31) ∨ (¬ mo ≤ 7 ∧ mZ mo = (mo - 1) * 30 + 6) := by
    unfold mZ
    by_cases h : mo ≤ 7 <;> simp [h]
  rcases hmo with ⟨c1, c2⟩ | ⟨c1, c2⟩
  all_goals (w_top off; refine wpAny_call ?_; k_dflt cell_enter; k_steps)
  all_goals (refine hret _ _ _ _ (Ex.of (by assumption) (by rw [c2])) (by k_asm) (News.some_of (by k_asm) (fun p hp => ?_)); first | exact .tail _ (.tail _ (.tail _ (.tail _ hp))) | exact .tail _ (.tail _ (.tail _ hp)))
/-- to_jd_persian(y, mo, d, ea) is z halves -/
def Is113 (w : World) (ea : Addr) (news : List (Addr × Obj)) (y mo d z : Int) : Prop :=
  ∀ big, (∀ p ∈ news, p ∈ big) → ∀ (t u v : Tok), Cl w 24 113 [.int y t, .int mo u, .int d v, .ref ea] big (RetF big fun x => Ex x z)
theorem Is113.call {w : World} {ea : Addr} {news big : List (Addr × Obj)} {y mo d z : Int} {t u v : Tok} (h : Is113 w ea news y mo d z) (hs : ∀ p ∈ news, p ∈ big) : Cl w 24 113 [.int y t, .int mo u, .int d v, .ref ea] big (RetF big fun x => Ex x z) := h big hs t u v
theorem Is113.wide {w : World} {ea : Addr} {news big : List (Addr × Obj)} {y mo d z : Int} (h : Is113 w ea news y mo d z) (hs : ∀ p ∈ news, p ∈ big) : Is113 w ea big y mo d z := fun b hb => h b fun p hp => hb p (hs p hp)
/-- from_jd_persian of z halves is (k, mo, d) -/
def Is120 (w : World) (ea : Addr) (news : List (Addr × Obj)) (z k mo d : Int) : Prop :=
  ∀ big, (∀ p ∈ news, p ∈ big) → ∀ (x : UInt64) (t : Tok), Ex x z → Cl w 20 120 [.float x t, .ref ea] big (RetT3 big k mo d)
theorem Is120.call {w : World} {ea : Addr} {news big : List (Addr × Obj)} {z k mo d : Int} {x : UInt64} {t : Tok} (h : Is120 w ea news z k mo d) (hx : Ex x z) (hs : ∀ p ∈ news, p ∈ big) : Cl w 20 120 [.float x t, .ref ea] big (RetT3 big k mo d) := h big hs x t hx
/-- leap(y, ea) is b -/
def Is92 (w : World) (ea : Addr) (news : List (Addr × Obj)) (y : Int) (b : Bool) : Prop :=
  ∀ big, (∀ p ∈ news, p ∈ big) → ∀ (t : Tok), Cl w 28 92 [.int y t, .ref ea] big (RetB big b)
theorem Is92.call {w : World} {ea : Addr} {news big : List (Addr × Obj)} {y : Int} {b : Bool} {t : Tok} (h : Is92 w ea news y b) (hs : ∀ p ∈ news, p ∈ big) : Cl w 28 92 [.int y t, .ref ea] big (RetB big b) := h big hs t
theorem Is92.wide {w : World} {ea : Addr} {news big : List (Addr × Obj)} {y : Int} {b : Bool} (h : Is92 w ea news y b) (hs : ∀ p ∈ news, p ∈ big) : Is92 w ea big y b := fun c hb => h c fun p hp => hb p (hs p hp)
local macro_rules | `(tactic| walk_at "call ref") => `(tactic| k_dflt (refine' Is113.call ?mnf ?mns ?mnB ?mnF ?mnX ?mnN ?mnT ?mnk ?mnd ?mnu ?_; (case mnf => with_reducible assumption); (case mnB => k_asm); (case mnF => k_asm); (case mnX => k_asm); (case mnN => k_asm); (case mns => (intro p hp; first | exact hp | exact .tail _ hp | exact .tail _ (.tail _ hp) | exact .tail _ (.tail _ (.tail _ hp)))); (case mnT => k_asm); (case mnk => first | exact rfl | assumption); (case mnd => ktr_room); (case mnu => ktr_units); intro x9 t9 h9 tk9 hx9 F9 N9; (try dsimp only); (try k_fold)))
local macro_rules | `(tactic| walk_at "call ref") => `(tactic| k_dflt (refine' Is120.call ?mnf ?mnx ?mns ?mnB ?mnF ?mnX ?mnN ?mnT ?mnk ?mnd ?mnu ?_; (case mnx => with_reducible assumption); (case mnf => with_reducible assumption); (case mnB => k_asm); (case mnF => k_asm); (case mnX => k_asm); (case mnN => k_asm); (case mns => (intro p hp; first | exact hp | exact .tail _ hp | exact .tail _ (.tail _ hp) | exact .tail _ (.tail _ (.tail _ hp)))); (case mnT => k_asm); (case mnk => first | exact rfl | assumption); (case mnd => ktr_room); (case mnu => ktr_units); intro q9 t9 u9 v9 h9 tk9 F9 N9 l9; (try dsimp only); (try k_fold)))
local macro_rules | `(tactic| walk_at "call ref") => `(tactic| k_dflt (refine' Is92.call ?mnf ?mns ?mnB ?mnF ?mnX ?mnN ?mnT ?mnk ?mnd ?mnu ?_; (case mnf => with_reducible assumption); (case mnB => k_asm); (case mnF => k_asm); (case mnX => k_asm); (case mnN => k_asm); (case mns => (intro p hp; first | exact hp | exact .tail _ hp | exact .tail _ (.tail _ hp) | exact .tail _ (.tail _ (.tail _ hp)))); (case mnT => k_asm); (case mnk => first | exact rfl | assumption); (case mnd => ktr_room); (case mnu => ktr_units); intro h9 tk9 F9 N9; (try dsimp only); (try k_fold)))
def FSof (z n : Int) : Prop := ∀ x, Ex x z → FS x n
theorem FSof.use {z n : Int} {x : UInt64} (h : FSof z n) (hx : Ex x z) : FS x n := h x hx
theorem fsof_of {z n : Int} (h : z = 2 * n + 1) (h1 : -2 ^ 29 ≤ n) (h2 : n ≤ 2 ^ 28) : FSof z n := fun x hx => by
  have h3 := ex_sub hx ex_half (by omega) (by omega)
  exact ⟨h3.fin, by rw [ex_floor h3]; omega⟩
local macro_rules | `(tactic| walk_at "call ref") => `(tactic| k_dflt (refine' fromjdg_cl ?mnv ?mnh5 ?mnh6 (FSof.use ?mnf ?mnx) ?mnB ?mnF ?mnX ?mnN ?mnT ?mnk ?mnd ?mnu ?_; (case mnx => with_reducible assumption); (case mnf => with_reducible assumption); (case mnv => with_reducible assumption); (case mnh5 => omega); (case mnh6 => omega); (case mnB => k_asm); (case mnF => k_asm); (case mnX => k_asm); (case mnN => k_asm); (case mnT => k_asm); (case mnk => first | exact rfl | assumption); (case mnd => ktr_room); (case mnu => ktr_units); intro q9 t9 u9 v9 h9 tk9 F9 N9 l9; (try dsimp only); (try k_fold)))
set_option maxRecDepth 100000 in
set_option maxHeartbeats 2000000 in
theorem is92_of {w : World} {ea : Addr} {news : List (Addr × Obj)} {y z0 z1 : Int} {b : Bool} (h0 : Is113 w ea news y 1 1 z0) (h1 : Is113 w ea news (y + 1) 1 1 z1) (hz : 0 ≤ z1 - z0 ∧ z1 - z0 ≤ 1000) (hb : decide (2 * 365 < z1 - z0) = b) : Is92 w ea news y b := by
  intro big hbg t p loose mean mg mb dp un gd cn cs a ccd cl outer A₀ base h₀ L m s Q E B F X N T hk hd hu hret
  replace h0 := h0.wide hbg
  replace h1 := h1.wide hbg
  clear hbg
  subst hb
  w_top off; refine wpAny_call ?_; k_dflt cell_enter; k_steps
  all_goals exact hret _ _ (by k_asm) (by k_asm)
set_option maxRecDepth 100000 in
set_option maxHeartbeats 2000000 in
theorem fromg_cl {w : World} {y mo d k pm pd : Int} {t u v : Tok} {ea : Addr} {news : List (Addr × Obj)} (hv : Valid y mo d) (hy1 : -20000 ≤ y) (hy2 : y ≤ 20000) (h : Is120 w ea news (2 * gregN y mo d + 3442849) k pm pd) :
    Cl w 28 127 [.int y t, .int mo u, .int d v, .ref ea] news (RetT3 news k pm pd) := by
  intro p loose mean mg mb dp un gd cn cs a ccd cl outer A₀ base h₀ L m s Q E B F X N T hk hd hu hret
  have v1 := hv.m1
  have v2 := hv.m2
  have v3 := hv.d1
  have v4 := hv.d2
  w_top off; refine wpAny_call ?_; k_dflt cell_enter; k_steps
  all_goals exact hret _ _ _ _ _ _ (by k_asm) (by k_asm) (by k_asm)
set_option maxRecDepth 100000 in
set_option maxHeartbeats 2000000 in
theorem tog_cl {w : World} {y mo d z gy gm gd : Int} {t u v : Tok} {ea : Addr} {news : List (Addr × Obj)} (h : Is113 w ea news y mo d z) (hf : FSof z (gregN gy gm (gd + 1) + 1721424)) (hv : Valid gy gm (gd + 1)) (hy1 : -20000 ≤ gy) (hy2 : gy ≤ 20000) :
    Cl w 28 134 [.int y t, .int mo u, .int d v, .ref ea] news (RetT3 news gy gm (gd + 1)) := by
  intro p loose mean mg mb dp un gd' cn cs a ccd cl outer A₀ base h₀ L m s Q E B F X N T hk hd hu hret
  w_top off; refine wpAny_call ?_; k_dflt cell_enter; k_steps
  all_goals exact hret _ _ _ _ _ _ (by k_asm) (by k_asm) (by k_asm)
def mlZ (mo : Int) (b : Bool) : Int := if mo ≤ 6 then 31 else if mo ≤ 11 then 30 else if b = true then 30 else 29
set_option maxRecDepth 100000 in
set_option maxHeartbeats 2000000 in
theorem mlen_cl {w : World} {y mo : Int} {b : Bool} {t u : Tok} {ea : Addr} {news : List (Addr × Obj)} (h : Is92 w ea news y b) (h1 : 1 ≤ mo) (h2 : mo ≤ 12) :
    Cl w 32 141 [.int y t, .int mo u, .ref ea] news (RetI news (mlZ mo b)) := by
  intro p loose mean mg mb dp un gd cn cs a ccd cl outer A₀ base h₀ L m s Q E B F X N T hk hd hu hret
  have hc : (mo ≤ 6 ∧ mlZ mo b = 31) ∨ (7 ≤ mo ∧ mo ≤ 11 ∧ mlZ mo b = 30) ∨ (mo = 12 ∧ b = true ∧ mlZ mo b = 30) ∨ (mo = 12 ∧ b = false ∧ mlZ mo b = 29) := by
    unfold mlZ
    by_cases c1 : mo ≤ 6
    · simp [c1]
    · by_cases c2 : mo ≤ 11
      · simp [c1, c2]; omega
      · have : mo = 12 := by omega
        subst this
        cases b <;> simp
  rcases hc with ⟨c1, c3⟩ | ⟨c1, c2, c3⟩ | ⟨rfl, rfl, c3⟩ | ⟨rfl, rfl, c3⟩
  all_goals (w_top off; refine wpAny_call ?_; k_dflt cell_enter; k_steps)
  all_goals (first | (refine c3 ▸ hret _ _ _ (by k_asm) (by k_asm)))
set_option maxRecDepth 100000 in
set_option maxHeartbeats 2000000 in
theorem jwday_cl {w : World} {x : UInt64} {n : Int} {t : Tok} {news : List (Addr × Obj)} (hx : Ex x (2 * n - 1)) (h1 : -2 ^ 28 ≤ n) (h2 : n ≤ 2 ^ 28) :
    Cl w 5 49 [.float x t] news (RetI news (n % 7)) := by
  intro p loose mean mg mb dp un gd cn cs a ccd cl outer A₀ base h₀ L m s Q E B F X N T hk hd hu hret
  have e1 : Eqn (2 * n - 1 + 1) (2 * n) := Eqn.of (by omega)
  have e2 : Eqn (2 * n / 2) n := Eqn.of (by omega)
  rw [← fm7] at hret
  w_top off; refine wpAny_call ?_; k_dflt cell_enter; k_steps
  all_goals exact hret _ _ _ (by k_asm) (by k_asm)
set_option maxRecDepth 100000 in
set_option maxHeartbeats 8000000 in
theorem jan_cl {w : World} {y y' : Int} {t : Tok} {news : List (Addr × Obj)} (e : Eqn y' y) : Cl w 3 155 [.int y' t] news (RetI news (janZ y)) := by
  cases e
  intro p loose mean mg mb dp un gd cn cs a ccd cl outer A₀ base h₀ L m s Q E B F X N T hk hd hu hret
  rw [← jan_eq] at hret
  simp only [← fm400, ← fd400, ← fd4, ← fd100] at hret
  w_top off; refine wpAny_call ?_
  k_dflt cell_enter
  k_steps
  all_goals exact hret _ _ _ (by k_asm) (News.some_of (by k_asm) fun p hp => .tail _ hp)
local macro_rules | `(tactic| walk_at "call ref") => `(tactic| k_dflt (refine' jan_cl ?mne ?mnB ?mnF ?mnX ?mnN ?mnT ?mnk ?mnd ?mnu ?_; (case mne => first | with_reducible assumption | exact Eqn.rf); (case mnB => k_asm); (case mnF => k_asm); (case mnX => k_asm); (case mnN => k_asm); (case mnT => k_asm); (case mnk => first | exact rfl | assumption); (case mnd => ktr_room); (case mnu => ktr_units); intro t9 h9 tk9 F9 N9; (try dsimp only); (try k_fold)))
theorem allLt_out {q : Addr} {l : List (Addr × Obj)} (h : AllLt q l) : ∀ p ∈ l, p.1 < q := by
  induction l with
  | nil => intro p hp; cases hp
  | cons x r ih =>
    intro p hp
    unfold AllLt at h
    rcases List.mem_cons.mp hp with rfl | hp
    · exact h.1
    · exact ih h.2 p hp
set_option maxRecDepth 100000 in
set_option maxHeartbeats 8000000 in
theorem lawdate_cl {w : World} {y mo d n : Int} {t : Tok} {news : List (Addr × Obj)} (hv : Valid y mo d) (hn : n = gregN y mo d + 1721425) : Cl w 8 162 [.int n t] news (RetT3 news y mo d) := by
  intro p loose mean mg mb dp un gd cn cs a ccd cl outer A₀ base h₀ L m s Q E B F X N T hk hd hu hret
  have hyr := yday_range hv
  have hge := gregN_eq y mo d
  have hlen := len_range y
  obtain ⟨yd, hyd⟩ : ∃ yd, yd = monZ y mo + d - 1 := ⟨_, rfl⟩
  have hn' : n = janZ y + yd := by unfold janZ; omega
  have hgu := guess_year (by omega) (by omega) hn'
  have b1 := base_next y
  have b2 := base_mono (show y - 1 < y by omega)
  have e1 : Eqn (y - 1 + 1) y := Eqn.of (by omega)
  have e2 : Eqn (y + 1 - 1) y := Eqn.of (by omega)
  have e3 : Eqn (y + 1 - 1 + 1) (y + 1) := Eqn.of (by omega)
  have e4 : Eqn (y - 1 + 1 + 1) (y + 1) := Eqn.of (by omega)
  have j0 : janZ y ≤ n := by unfold janZ at *; omega
  have j1 : n < janZ (y + 1) := by unfold janZ at *; omega
  have j2 : janZ (y - 1) ≤ n := by unfold janZ at *; omega
  have j3 : janZ (y + 1) - janZ y - 337 = lenZ y - 337 := by unfold janZ; omega
  rw [← Int.fdiv_eq_ediv_of_nonneg _ (show (0 : Int) ≤ 146097 by decide)] at hgu
  have k1 := hv.m1
  have k2 := hv.m2
  have k0 : monZ y 1 = 0 := by unfold monZ adjZ; simp
  have hb : janZ (y + 1) - janZ y - 337 = lenZ y - 337 := by unfold janZ; omega
  have hend : ∀ (nn : List (Addr × Obj)) (q : Addr) (t' u' v' : Tok) (h' : Heap) (tk' : Nat) (z mm dd : Int), Fr h₀ L h' m → News h₀ L h' ((q, tupO [.int z t', .int mm u', .int dd v']) :: nn) →
      z = y → 1 ≤ mm → mm ≤ mo → dd = n - janZ y + 1 - monZ y mm → ¬ (gLens (janZ (y + 1) - janZ y - 337)).getD (mm - 1).toNat 0 < dd → (∀ p ∈ news, p ∈ nn) → AllLt q news → Q (.ref q) { s with heap := h', toks := tk' } := by
    intro nn q t' u' v' h' tk' z mm dd F1 N1 ez m1 m2 m3 ht hs hl
    obtain ⟨r1, r2⟩ := month_end hv hn hb ⟨m1, m2, m3⟩ ht
    subst ez r1 r2
    exact hret q t' u' v' h' tk' F1 (fun p hp => by
      rcases List.mem_cons.mp hp with rfl | hp
      · exact N1 _ (.head _)
      · exact N1 _ (.tail _ (hs p hp))) (allLt_out hl)
  clear hge hyr hlen b1 b2 e1 e2 e3 e4 hn' hyd j3
  rcases hgu with hg | hg | hg
  · have g0 := Eqn.of hg
    have g1 : Eqn (2000 + ((n - 2451545) * 400).fdiv 146097 + 1) y := Eqn.of (by omega)
    have g2 : Eqn (2000 + ((n - 2451545) * 400).fdiv 146097 + 1 + 1) (y + 1) := Eqn.of (by omega)
    clear hg
    w_top off; refine wpAny_call ?_
    k_dflt cell_enter
    k_with_none
    k_with "exec While Compare cons nil" => k_while (fun (_ : List Int) dd mm => 1 ≤ mm ∧ mm ≤ mo ∧ dd = n - janZ y + 1 - monZ y mm) (fun (_ : List Int) _ mm => (13 - mm).toNat) "day" "month"
    k_with "state" => k_dflt (exact month_turn hv hn hb ⟨by assumption, by assumption, by assumption⟩ (by assumption))
    k_steps
    all_goals exact hend _ _ _ _ _ _ _ _ _ _ (by k_asm) (by k_asm) g1.out (by assumption) (by assumption) (by assumption) (by assumption) (fun p hp => .tail _ hp) (And.right (by assumption))
  · have g0 := Eqn.of hg
    have g1 : Eqn (2000 + ((n - 2451545) * 400).fdiv 146097 + 1) (y + 1) := Eqn.of (by omega)
    clear hg
    w_top off; refine wpAny_call ?_
    k_dflt cell_enter
    k_with_none
    k_with "exec While Compare cons nil" => k_while (fun (_ : List Int) dd mm => 1 ≤ mm ∧ mm ≤ mo ∧ dd = n - janZ y + 1 - monZ y mm) (fun (_ : List Int) _ mm => (13 - mm).toNat) "day" "month"
    k_with "state" => k_dflt (exact month_turn hv hn hb ⟨by assumption, by assumption, by assumption⟩ (by assumption))
    k_steps
    all_goals exact hend _ _ _ _ _ _ _ _ _ _ (by k_asm) (by k_asm) g0.out (by assumption) (by assumption) (by assumption) (by assumption) (fun p hp => .tail _ hp) (And.right (by assumption))
  · have g0 := Eqn.of hg
    have g1 : Eqn (2000 + ((n - 2451545) * 400).fdiv 146097 - 1) y := Eqn.of (by omega)
    have g2 : Eqn (2000 + ((n - 2451545) * 400).fdiv 146097 - 1 + 1) (y + 1) := Eqn.of (by omega)
    clear hg
    w_top off; refine wpAny_call ?_
    k_dflt cell_enter
    k_with_none
    k_with "exec While Compare cons nil" => k_while (fun (_ : List Int) dd mm => 1 ≤ mm ∧ mm ≤ mo ∧ dd = n - janZ y + 1 - monZ y mm) (fun (_ : List Int) _ mm => (13 - mm).toNat) "day" "month"
    k_with "state" => k_dflt (exact month_turn hv hn hb ⟨by assumption, by assumption, by assumption⟩ (by assumption))
    k_steps
    all_goals exact hend _ _ _ _ _ _ _ _ _ _ (by k_asm) (by k_asm) g1.out (by assumption) (by assumption) (by assumption) (by assumption) (fun p hp => .tail _ hp) (And.right (by assumption))
section
set_option exponentiation.threshold 3000
set_option maxRecDepth 100000
open PySem PySem.W PySem.Float64 PySem.Flt PyProof.Rows
theorem flr_in {x : UInt64} {lo hi : Int} (h : In x lo hi) (h1 : -2 ^ 52 ≤ lo) (h2 : hi ≤ 2 ^ 52) : ∃ j, Flr x j ∧ lo / 2 ^ 22 ≤ j ∧ j ≤ hi / 2 ^ 22 := by
  have hf := floor_in h
  refine ⟨toInt floorOf x, ⟨h.wide h1 h2, ?_⟩, hf.1, hf.2⟩
  obtain ⟨⟨s, m, e, d⟩, g1, g2⟩ := h
  rw [toInt_fin d]
  have hs := floor_spec (s := s) (m := m) (decode_ge d)
  rw [← val_eq d, U74] at hs
  generalize floorOf s m e = q at *
  have e1 : q * ((U : Int) * 2 ^ 22) = q * 2 ^ 22 * U := by ac_rfl
  have e2 : (q + 1) * ((U : Int) * 2 ^ 22) = (q + 1) * 2 ^ 22 * U := by ac_rfl
  rw [e1, e2] at hs
  exact hs
theorem fs_flr {x : UInt64} {j : Int} (h : Flr x j) (h1 : -2 ^ 28 ≤ j) (h2 : j ≤ 2 ^ 28) : ∃ D, FS x D ∧ j - 1 ≤ D ∧ D ≤ j := by
  have hx : In x (j * 2 ^ 22) ((j + 1) * 2 ^ 22) := ⟨h.1.1, h.2.1, Int.le_of_lt h.2.2⟩
  have hs := in_sub hx ex_half (by omega) (by omega)
  have hf := floor_in hs
  exact ⟨_, ⟨finite_of_in hs, rfl⟩, by omega, by omega⟩
theorem is99_mid {w : World} {x : UInt64} {j y lo hi : Int} {ea : Addr} {news : List (Addr × Obj)} {f : Int → Int} (hf : EqFun w ea news f lo hi) (hj : Flr x j)
    (hj1 : -2 ^ 28 ≤ j) (hj2 : j ≤ 2 ^ 28) (h1 : f y ≤ j) (h2 : j < f (y + 1)) (m1 : janZ y + 5 ≤ f y) (m2 : f (y + 1) + 5 ≤ janZ (y + 2)) (hlo : lo ≤ y - 1) (hhi : y + 2 ≤ hi) (hy1 : -19000 ≤ y) (hy2 : y ≤ 19000) :
    Is99 w ea news x (f y - 1) := by
  obtain ⟨D, hD, d1, d2⟩ := fs_flr hj hj1 hj2
  obtain ⟨g, m, d, hv, hg⟩ := greg_exists (D - 1721424)
  have hy := date_year hv (show gregN g m (d + 1) + 1721424 = D by omega)
  have hD' : FS x (gregN g m (d + 1) + 1721424) := by rw [hg]; rw [show D - 1721424 + 1721424 = D by omega]; exact hD
  have g1 : y ≤ g := by
    rcases Int.lt_or_le g y with h | h
    · exfalso
      rcases Int.lt_or_le (g + 1) y with h' | h'
      · have := jan_mono h'; omega
      · have : y = g + 1 := by omega
        subst this
        omega
    · exact h
  have g2 : g ≤ y + 1 := by
    rcases Int.lt_or_le (y + 1) g with h | h
    · exfalso
      rcases Int.lt_or_le (y + 2) g with h' | h'
      · have := jan_mono h'; omega
      · have : g = y + 2 := by omega
        subst this
        omega
    · exact h
  refine is99_of hf hv (by omega) (by omega) hD' hj (by omega) (by omega) ?_
  rcases Int.lt_or_le y g with h | h
  · have e : g = y + 1 := by omega
    subst e
    exact .inr ⟨by omega, h2, by rw [Int.add_sub_cancel]; exact h1⟩
  · have e : g = y := by omega
    subst e
    exact .inl ⟨rfl, h1, h2⟩
theorem is99_in {w : World} {x : UInt64} {y lo hi a b : Int} {ea : Addr} {news : List (Addr × Obj)} {f : Int → Int} (hf : EqFun w ea news f lo hi) (hx : In x a b)
    (h1 : f y * 2 ^ 22 ≤ a) (h2 : b < f (y + 1) * 2 ^ 22) (m1 : janZ y + 5 ≤ f y) (m2 : f (y + 1) + 5 ≤ janZ (y + 2)) (hlo : lo ≤ y - 1) (hhi : y + 2 ≤ hi) (hy1 : -19000 ≤ y) (hy2 : y ≤ 19000) :
    Is99 w ea news x (f y - 1) := by
  have hb : -10000000 ≤ f y ∧ f (y + 1) ≤ 10000000 := by unfold janZ baseZ at *; omega
  obtain ⟨j, hj, j1, j2⟩ := flr_in (hx.wide h1 (Int.le_refl b)) (by omega) (by omega)
  exact is99_mid hf hj (by omega) (by omega) (by omega) (by omega) m1 m2 hlo hhi hy1 hy2

theorem py_mid {y r : Int} (h1 : janZ y + 50 ≤ r) (h2 : r ≤ janZ y + 110) (hy1 : -2100 ≤ y) (hy2 : y ≤ 10100) : PY (2 * r - 3896641) (y - 622) := by
  unfold janZ baseZ at *
  unfold PY
  omega
theorem jan_bd {y : Int} (h1 : -2200 ≤ y) (h2 : y ≤ 10200) : -9000000 ≤ janZ y ∧ janZ y ≤ 9000000 := by
  unfold janZ baseZ
  omega
/-- f's days about the year y -/
structure Mid (f : Int → Int) (y : Int) : Prop where
  s0 : f y + 365 ≤ f (y + 1)
  s1 : f (y + 1) ≤ f y + 366
  m0 : janZ y + 55 ≤ f y
  m1 : f y ≤ janZ y + 105
theorem Mid.a {f : Int → Int} {y : Int} (h : Mid f y) (h' : Mid f (y + 1)) : janZ y + 5 ≤ f y ∧ f (y + 1) + 5 ≤ janZ (y + 2) := by
  have a := h.m0
  have b := h'.m1
  have c := jan_next (y + 1)
  have d := len_range (y + 1)
  rw [show y + 1 + 1 = y + 2 by omega] at c
  omega
theorem is106_in {w : World} {x : UInt64} {y lo hi a b k : Int} {ea : Addr} {news : List (Addr × Obj)} {f : Int → Int} (hf : EqFun w ea news f lo hi) (hx : In x a b)
    (h1 : f y * 2 ^ 22 ≤ a) (h2 : b < f (y + 1) * 2 ^ 22) (m : Mid f y) (m' : Mid f (y + 1)) (hlo : lo ≤ y - 1) (hhi : y + 2 ≤ hi) (hy1 : -2100 ≤ y) (hy2 : y ≤ 10100) (hk : y - 622 + 1 = k) :
    Is106 w ea news x k (f y - 1) := by
  subst hk
  have hm := m.a m'
  have a1 := m.m0
  have a2 := m.m1
  have jb := jan_bd (y := y) (by omega) (by omega)
  refine is106_of (is99_in hf hx h1 h2 hm.1 hm.2 hlo hhi (by omega) (by omega)) (py_mid (by omega) (by omega) hy1 hy2) ?_
  omega
theorem is106_or {w : World} {x : UInt64} {y lo hi a b k k' : Int} {ea : Addr} {news : List (Addr × Obj)} {f : Int → Int} (hf : EqFun w ea news f lo hi) (hx : In x a b)
    (h1 : f y * 2 ^ 22 ≤ a) (h2 : b < f (y + 2) * 2 ^ 22) (m : Mid f y) (m' : Mid f (y + 1)) (m'' : Mid f (y + 2)) (hlo : lo ≤ y - 1) (hhi : y + 3 ≤ hi) (hy1 : -2100 ≤ y) (hy2 : y ≤ 10000) (hk : y - 622 + 1 = k) (hk' : y - 621 + 1 = k') :
    Is106 w ea news x k (f y - 1) ∨ Is106 w ea news x k' (f (y + 1) - 1) := by
  subst hk hk'
  have e1 : y + 1 + 1 = y + 2 := by omega
  have hm := m.a m'
  have hm' := m'.a (by rw [e1]; exact m'')
  rw [e1] at hm'
  have a1 := m.m0
  have a2 := m.m1
  have b1 := m'.m0
  have b2 := m'.m1
  have c2 := m''.m1
  have jb := jan_bd (y := y) (by omega) (by omega)
  have jb1 := jan_bd (y := y + 1) (by omega) (by omega)
  have jb2 := jan_bd (y := y + 2) (by omega) (by omega)
  obtain ⟨j, hj, j1, j2⟩ := flr_in (hx.wide h1 (Int.le_refl b)) (by omega) (by omega)
  rcases Int.lt_or_le j (f (y + 1)) with h | h
  · refine .inl (is106_of (is99_mid hf hj (by omega) (by omega) (by omega) h hm.1 hm.2 hlo (by omega) (by omega) (by omega)) (py_mid (by omega) (by omega) hy1 (by omega)) ?_)
    omega
  · have := is106_of (is99_mid (y := y + 1) hf hj (by omega) (by omega) h (by rw [e1]; omega) hm'.1 (by rw [e1]; exact hm'.2) (by omega) (by omega) (by omega) (by omega)) (py_mid (y := y + 1) (by omega) (by omega) (by omega) (by omega)) (by omega)
    rw [show y + 1 - 622 + 1 = y - 621 + 1 by omega] at this
    exact .inr this
theorem is113_of {w : World} {q yp lo hi mo d z : Int} {ea : Addr} {news : List (Addr × Obj)} {f : Int → Int} (hf : EqFun w ea news f lo hi)
    (ma : Mid f q) (mb : Mid f (q + 1)) (mc : Mid f (q + 2)) (md : Mid f (q + 3)) (hlo : lo ≤ q - 1) (hhi : q + 4 ≤ hi) (hy1 : -2050 ≤ q) (hy2 : q ≤ 10000) (hm : 1 ≤ mo ∧ mo ≤ 12) (hdd : 1 ≤ d ∧ d ≤ 31)
    (hyp : q + 2 - 621 = yp) (hz : 2 * (f (q + 2) - 1 + mZ mo + d) + 1 = z) : Is113 w ea news yp mo d z := by
  subst hz hyp
  intro big hb t u v
  replace hf := hf.wide hb
  clear hb
  have a0 := ma.s0
  have a1 := ma.s1
  have a2 := ma.m0
  have a3 := ma.m1
  have b0 := mb.s0
  have b1 := mb.s1
  have b2 := mb.m0
  have b3 := mb.m1
  have c0 := mc.s0
  have c1 := mc.s1
  have c2 := mc.m0
  have c3 := mc.m1
  have e1 : q + 1 + 1 = q + 2 := by omega
  have e2 : q + 2 + 1 = q + 3 := by omega
  rw [e1] at b0 b1
  rw [e2] at c0 c1
  have jb := jan_bd (y := q) (by omega) (by omega)
  have jb1 := jan_bd (y := q + 1) (by omega) (by omega)
  have jb2 := jan_bd (y := q + 2) (by omega) (by omega)
  have g0 : f q * 2 ^ 22 ≤ (3896641 - 2 * 1) * 2 ^ 21 + ((q + 2 - 621 - 1 - 1) * 1531936815 - 20000) := by
    clear b2 b3 c2 c3 b0 b1 c0 c1 a0 a1 jb jb1 jb2
    unfold janZ baseZ at *
    omega
  have g1 : (3896641 - 2 * 1) * 2 ^ 21 + ((q + 2 - 621 - 1 - 1) * 1531936815 + 20000) < f (q + 2) * 2 ^ 22 := by
    clear a2 a3 b2 b3 b0 b1 c0 c1 a0 a1 jb jb1 jb2 g0
    unfold janZ baseZ at *
    omega
  have t0 : St2 w ea big ((3896641 - 2 * 1) * 2 ^ 21 + ((q + 2 - 621 - 1 - 1) * 1531936815 - 20000)) ((3896641 - 2 * 1) * 2 ^ 21 + ((q + 2 - 621 - 1 - 1) * 1531936815 + 20000)) (q + 2 - 621 - 2) (f q - 1) (q + 2 - 621 - 1) (f (q + 1) - 1) := fun x hx =>
    is106_or (y := q) hf hx g0 g1 ma mb mc (by omega) (by omega) (by omega) (by omega) (by omega) (by omega)
  have t1 : St1 w ea big ((f q - 1) * 2 ^ 22 + 1531936815 + 2 * 2 ^ 22) ((f q - 1) * 2 ^ 22 + 1531936816 + 2 * 2 ^ 22) (q + 2 - 621 - 1) (f (q + 1) - 1) := fun x hx =>
    is106_in (y := q + 1) hf hx (by omega) (by rw [e1]; omega) mb (by rw [e1]; exact mc) (by omega) (by omega) (by omega) (by omega) (by omega)
  have t2 : St1 w ea big ((f (q + 1) - 1) * 2 ^ 22 + 1531936815 + 2 * 2 ^ 22) ((f (q + 1) - 1) * 2 ^ 22 + 1531936816 + 2 * 2 ^ 22) (q + 2 - 621) (f (q + 2) - 1) := fun x hx =>
    is106_in (y := q + 2) hf hx (by omega) (by rw [e2]; omega) mc (by rw [e2]; exact md) (by omega) (by omega) (by omega) (by omega) (by omega)
  intro p loose mean mg mb dp un gd cn cs a ccd cl outer A₀ base h₀ L m s Q E
  exact tojdp_cl t0 t1 t2 ⟨by omega, by omega⟩ ⟨by omega, by omega⟩ ⟨by omega, by omega⟩ ⟨by omega, by omega⟩ hm hdd
end
section
set_option exponentiation.threshold 3000
set_option maxRecDepth 100000
open PySem PySem.W PySem.Float64 PySem.Flt PyProof.Rows
def firstZ (Y S : Int) (xs : List Int) (n : Int) : Int := if Y ≤ n then S + 365 * (n - Y) + (xs.take (n - Y).toNat).sum else S + 365 * (n - Y) - ((xs.drop 8).take (Y - n).toNat).sum
structure Good (Y S : Int) (f : Int → Int) : Prop where
  val : f Y = S
  step : ∀ n, Y - 8 ≤ n → n < Y + 8 → f n + 365 ≤ f (n + 1) ∧ f (n + 1) ≤ f n + 366
theorem take_step : ∀ (xs : List Int) (k : Nat), (∀ v ∈ xs, 0 ≤ v ∧ v ≤ 1) → (xs.take k).sum ≤ (xs.take (k + 1)).sum ∧ (xs.take (k + 1)).sum ≤ (xs.take k).sum + 1
  | [], k, _ => by simp
  | x :: r, 0, h => by
    have := h x (.head _)
    simp
    omega
  | x :: r, k + 1, h => by
    have := take_step r k (fun v hv => h v (.tail _ hv))
    simp only [List.take_succ_cons, List.sum_cons]
    omega
theorem first_good {Y S : Int} {xs : List Int} (hx : ∀ v ∈ xs, 0 ≤ v ∧ v ≤ 1) : Good Y S (firstZ Y S xs) := by
  refine ⟨?_, ?_⟩
  · unfold firstZ
    simp
  · intro n h1 h2
    unfold firstZ
    by_cases h : Y ≤ n
    · rw [if_pos h, if_pos (by omega)]
      have e : (n + 1 - Y).toNat = (n - Y).toNat + 1 := by omega
      have := take_step xs (n - Y).toNat hx
      rw [e]
      omega
    · rw [if_neg h]
      have hd : ∀ v ∈ xs.drop 8, 0 ≤ v ∧ v ≤ 1 := fun v hv => hx v (List.mem_of_mem_drop hv)
      by_cases h3 : Y ≤ n + 1
      · rw [if_pos h3]
        have e1 : (n + 1 - Y).toNat = 0 := by omega
        have e2 : (Y - n).toNat = 0 + 1 := by omega
        have := take_step (xs.drop 8) 0 hd
        rw [e1, e2]
        simp only [List.take_zero, List.sum_nil] at *
        omega
      · rw [if_neg h3]
        have e : (Y - n).toNat = (Y - (n + 1)).toNat + 1 := by omega
        have := take_step (xs.drop 8) (Y - (n + 1)).toNat hd
        rw [e]
        omega
theorem Good.eve {Y S : Int} {f : Int → Int} (h : Good Y S f) : Good Y (S - 1) (fun n => f n - 1) :=
  ⟨by have := h.val; omega, fun n h1 h2 => by have := h.step n h1 h2; omega⟩
theorem good_mid {Y T : Int} {f : Int → Int} (h : Good Y T f) (h1 : janZ Y + 70 ≤ T) (h2 : T ≤ janZ Y + 90) : Mid f (Y - 2) ∧ Mid f (Y - 1) ∧ Mid f Y ∧ Mid f (Y + 1) ∧ Mid f (Y + 2) := by
  have v := h.val
  have a := h.step (Y - 2) (by omega) (by omega)
  have b := h.step (Y - 1) (by omega) (by omega)
  have c := h.step Y (by omega) (by omega)
  have d := h.step (Y + 1) (by omega) (by omega)
  have e := h.step (Y + 2) (by omega) (by omega)
  have j1 := jan_next (Y - 2)
  have j2 := jan_next (Y - 1)
  have j3 := jan_next Y
  have j4 := jan_next (Y + 1)
  have l1 := len_range (Y - 2)
  have l2 := len_range (Y - 1)
  have l3 := len_range Y
  have l4 := len_range (Y + 1)
  have e1 : Y - 2 + 1 = Y - 1 := by omega
  have e2 : Y - 1 + 1 = Y := by omega
  have e3 : Y + 1 + 1 = Y + 2 := by omega
  rw [e1] at a j1
  rw [e2] at b j2
  rw [e3] at d j4
  refine ⟨⟨?_, ?_, ?_, ?_⟩, ⟨?_, ?_, ?_, ?_⟩, ⟨?_, ?_, ?_, ?_⟩, ⟨?_, ?_, ?_, ?_⟩, ⟨?_, ?_, ?_, ?_⟩⟩
  all_goals (first | rw [e1] | rw [e2] | rw [e3] | skip)
  all_goals omega
end
section
set_option exponentiation.threshold 3000
set_option maxRecDepth 100000
open PySem PySem.W PySem.Float64 PySem.Flt PyProof.Rows
theorem ex_is99 {w : World} {x : UInt64} {y j lo hi z r : Int} {ea : Addr} {news : List (Addr × Obj)} {f : Int → Int} (hf : EqFun w ea news f lo hi) (hx : Ex x z) (hz : z = 2 * j + 1)
    (h1 : f y ≤ j) (h2 : j < f (y + 1)) (m : Mid f y) (m' : Mid f (y + 1)) (hlo : lo ≤ y - 1) (hhi : y + 2 ≤ hi) (hy1 : -2100 ≤ y) (hy2 : y ≤ 10100) (hr : f y - 1 = r) : Is99 w ea news x r := by
  subst hz hr
  have hm := m.a m'
  exact is99_in hf hx.in (by omega) (by omega) hm.1 hm.2 hlo hhi (by omega) (by omega)
/-- the month and the day out of the day of the year, by the law's own reckoning -/
theorem pers_day {P mm dd b : Int} (hm1 : 1 ≤ mm) (hm2 : mm ≤ 12) (hd : dd = P + 1 - mZ mm) (hd1 : 1 ≤ dd) (hb : b = 29 ∨ b = 30)
    (hl : (mm ≤ 6 ∧ dd ≤ 31) ∨ (7 ≤ mm ∧ mm ≤ 11 ∧ dd ≤ 30) ∨ (mm = 12 ∧ dd ≤ b)) :
    (P + 1 ≤ 186 ∧ -((-(P + 1)) / 31) = mm ∧ (P + 1) - (mm - 1) * 31 = dd) ∨ (¬ P + 1 ≤ 186 ∧ -((-((P + 1) - 6)) / 30) = mm ∧ (P + 1) - (mm - 1) * 30 - 6 = dd) := by
  unfold mZ at hd
  rcases hl with ⟨h1, h2⟩ | ⟨h1, h2, h3⟩ | ⟨h1, h2⟩
  · rw [if_pos (by omega)] at hd
    left
    omega
  · right
    by_cases h7 : mm ≤ 7
    · rw [if_pos h7] at hd
      omega
    · rw [if_neg h7] at hd
      omega
  · subst h1
    rw [if_neg (by omega)] at hd
    right
    omega
structure Bundle (w : World) (ea fa : Addr) (news : List (Addr × Obj)) (Y S P mm dd : Int) (b : Bool) (gy gm gd : Int) : Prop where
  val : Valid gy gm (gd + 1)
  num : S + P = gregN gy gm (gd + 1) + 1721425
  gy1 : -20000 ≤ gy
  gy2 : gy ≤ 20000
  sp1 : -10000000 ≤ S + P
  sp2 : S + P ≤ 10000000
  sm1 : -10000000 ≤ S + mZ mm
  sm2 : S + mZ mm ≤ 10000000
  a1 : Is120 w ea news (2 * (S + P) - 1) (Y - 621) mm dd
  a2 : Is113 w ea news (Y - 621) mm dd (2 * (S + P) - 1)
  a3 : Is120 w fa news (2 * (S + P) + 1) (Y - 621) mm dd
  a4 : Is92 w ea news (Y - 621) b
  a5 : Is120 w ea news (2 * gregN gy gm (gd + 1) + 3442849) (Y - 621) mm dd
  a6 : FSof (2 * (S + P) - 1) (gregN gy gm (gd + 1) + 1721424)
  a7 : ∀ x, Ex x (2 * (S + P) - 1) → Is106 w ea news x (Y - 621) (S - 2)
  a8 : Is113 w ea news (Y - 621) mm 1 (2 * (S + mZ mm) - 1)
theorem bundle {w : World} {ea fa : Addr} {news : List (Addr × Obj)} {Y S P mm dd : Int} {f : Int → Int} {b : Bool} (hE : EqFun w ea news (fun n => f n - 1) (Y - 8) (Y + 8)) (hF : EqFun w fa news f (Y - 8) (Y + 8))
    (hg : Good Y S f) (hS : janZ (Y + 1) - 306 + 13 ≤ S ∧ S ≤ janZ (Y + 1) - 306 + 27) (hY : -2000 ≤ Y ∧ Y ≤ 10000) (hP : 0 ≤ P ∧ P < f (Y + 1) - S) (hm1 : 1 ≤ mm) (hm2 : mm ≤ 12) (hd : dd = P + 1 - mZ mm) (hd1 : 1 ≤ dd)
    (hl : (mm ≤ 6 ∧ dd ≤ 31) ∨ (7 ≤ mm ∧ mm ≤ 11 ∧ dd ≤ 30) ∨ (mm = 12 ∧ dd ≤ f (Y + 1) - S - 336)) (hb : decide (f (Y + 1) - S = 366) = b) :
    ∃ gy gm gd, Bundle w ea fa news Y S P mm dd b gy gm gd := by
  obtain ⟨gy, gm, gd, hv, hN⟩ := greg_exists (S + P - 1721425)
  have j1 := jan_next Y
  have l1 := len_range Y
  have jb := jan_bd (y := Y) (by omega) (by omega)
  have hge := hg.eve
  obtain ⟨ma, mb, mc, md, me⟩ := good_mid hg (by omega) (by omega)
  obtain ⟨na, nb, nc, nd, ne⟩ := good_mid hge (by omega) (by omega)
  have hval := hg.val
  have st := hg.step Y (by omega) (by omega)
  have st1 := hg.step (Y + 1) (by omega) (by omega)
  have e1 : Y - 2 + 1 = Y - 1 := by omega
  have e2 : Y - 2 + 2 = Y := by omega
  have e3 : Y - 2 + 3 = Y + 1 := by omega
  have f1 : Y - 1 + 1 = Y := by omega
  have f2 : Y - 1 + 2 = Y + 1 := by omega
  have f3 : Y - 1 + 3 = Y + 2 := by omega
  have hdate := date_year hv (show gregN gy gm (gd + 1) + 1721424 = S + P - 1 by omega)
  have hg1 : Y - 1 ≤ gy := by
    rcases Int.lt_or_le gy (Y - 1) with h | h
    · exfalso
      rcases Int.lt_or_le (gy + 1) Y with h' | h'
      · have := jan_mono h'; omega
      · omega
    · exact h
  have hg2 : gy ≤ Y + 2 := by
    rcases Int.lt_or_le (Y + 2) gy with h | h
    · exfalso
      have := jan_mono (show Y + 1 < gy by omega)
      have j2 := jan_next (Y + 1)
      have l2 := len_range (Y + 1)
      rcases Int.lt_or_le (Y + 1 + 1) gy with h' | h'
      · have := jan_mono h'; omega
      · omega
    · exact h
  have hpd := pers_day (b := f (Y + 1) - S - 336) hm1 hm2 hd hd1 (by omega) hl
  have hdd : 1 ≤ dd ∧ dd ≤ 31 := ⟨hd1, by omega⟩
  have hPY : PY (2 * (S - 2) - 3896641) (Y - 622) := py_mid (by omega) (by omega) (by omega) (by omega)
  have hPY' : PY (2 * (S - 1) - 3896641) (Y - 622) := py_mid (by omega) (by omega) (by omega) (by omega)
  have h113 : ∀ mo d z, 1 ≤ mo ∧ mo ≤ 12 → 1 ≤ d ∧ d ≤ 31 → 2 * (S - 2 + mZ mo + d) + 1 = z → Is113 w ea news (Y - 621) mo d z := by
    intro mo d z h1 h2 h3
    refine is113_of (q := Y - 2) hE na (by rw [e1]; exact nb) (by rw [e2]; exact nc) (by rw [e3]; exact nd) (by omega) (by omega) (by omega) (by omega) h1 h2 (by omega) ?_
    rw [e2]
    omega
  have h113' : Is113 w ea news (Y - 621 + 1) 1 1 (2 * (f (Y + 1) - 2 + mZ 1 + 1) + 1) := by
    refine is113_of (q := Y - 1) hE nb (by rw [f1]; exact nc) (by rw [f2]; exact nd) (by rw [f3]; exact ne) (by omega) (by omega) (by omega) (by omega) ⟨by omega, by omega⟩ ⟨by omega, by omega⟩ (by omega) ?_
    rw [f2]
    omega
  have q99 : ∀ x', Ex x' (2 * ((2 * (S + P) - 1) / 2) + 1) → Is99 w ea news x' (S - 2) := fun x' hx' =>
    ex_is99 (y := Y) (j := S + P - 1) hE hx' (by omega) (by omega) (by omega) nc nd (by omega) (by omega) (by omega) (by omega) (by omega)
  have q99' : ∀ x', Ex x' (2 * ((2 * (S + P) + 1) / 2) + 1) → Is99 w fa news x' (S - 1) := fun x' hx' =>
    ex_is99 (y := Y) (j := S + P) hF hx' (by omega) (by omega) (by omega) mc md (by omega) (by omega) (by omega) (by omega) (by omega)
  have e621 : Y - 622 + 1 = Y - 621 := by omega
  have hmz : 0 ≤ mZ mm ∧ mZ mm ≤ 336 := by unfold mZ; split <;> omega
  have h120 : Is120 w ea news (2 * (S + P) - 1) (Y - 621) mm dd := by
    rw [← e621]
    intro big hbg x t hx p loose mean mg mb' dp un gd' cn cs a ccd cl outer A₀ base h₀ L m s Q E
    exact fromjdp_cl (yd := P + 1) hx ⟨by omega, by omega⟩ (fun x' hx' => (q99 x' hx').wide hbg) hPY ⟨by omega, by omega⟩ (by omega) (by omega) (by omega) hpd
  have h120' : Is120 w fa news (2 * (S + P) + 1) (Y - 621) mm dd := by
    rw [← e621]
    intro big hbg x t hx p loose mean mg mb' dp un gd' cn cs a ccd cl outer A₀ base h₀ L m s Q E
    exact fromjdp_cl (yd := P + 1) hx ⟨by omega, by omega⟩ (fun x' hx' => (q99' x' hx').wide hbg) hPY' ⟨by omega, by omega⟩ (by omega) (by omega) (by omega) hpd
  have hz : 2 * gregN gy gm (gd + 1) + 3442849 = 2 * (S + P) - 1 := by omega
  have m1 : mZ 1 = 0 := by unfold mZ; simp
  refine ⟨gy, gm, gd, hv, by omega, by omega, by omega, by omega, by omega, by omega, by omega, h120, h113 mm dd _ ⟨hm1, hm2⟩ hdd (by omega), h120', ?_, by rw [hz]; exact h120, fsof_of (by omega) (by omega) (by omega), ?_, h113 mm 1 _ ⟨hm1, hm2⟩ ⟨by omega, by omega⟩ (by omega)⟩
  · refine is92_of (h113 1 1 (2 * (S - 2 + mZ 1 + 1) + 1) ⟨by omega, by omega⟩ ⟨by omega, by omega⟩ rfl) h113' ⟨by omega, by omega⟩ ?_
    rw [← hb]
    exact decide_eq_decide.mpr (by omega)
  · intro x hx
    rw [← e621]
    refine is106_of (q99 x ?_) hPY ⟨by omega, by omega⟩
    exact hx.of (by omega)
end
section
open PySem PySem.W PySem.Float64 PySem.Flt PyProof.Rows
def pLens (b : Int) : List Int := [31, 31, 31, 31, 31, 31, 30, 30, 30, 30, 30, b]
theorem p_turn {P mm dd b : Int} (hP : P + 1 ≤ 336 + b) (h : 1 ≤ mm ∧ mm ≤ 12 ∧ dd = P + 1 - mZ mm ∧ 1 ≤ dd) (ht : (pLens b).getD (mm - 1).toNat 0 < dd) :
    1 ≤ mm + 1 ∧ mm + 1 ≤ 12 ∧ dd - (pLens b).getD (mm - 1).toNat 0 = P + 1 - mZ (mm + 1) ∧ 1 ≤ dd - (pLens b).getD (mm - 1).toNat 0 := by
  obtain ⟨h1, h2, h3, h4⟩ := h
  have hm : mm = 1 ∨ mm = 2 ∨ mm = 3 ∨ mm = 4 ∨ mm = 5 ∨ mm = 6 ∨ mm = 7 ∨ mm = 8 ∨ mm = 9 ∨ mm = 10 ∨ mm = 11 ∨ mm = 12 := by omega
  unfold mZ pLens at *
  rcases hm with rfl | rfl | rfl | rfl | rfl | rfl | rfl | rfl | rfl | rfl | rfl | rfl
  all_goals (simp at ht h3 ⊢; omega)
theorem p_end {mm dd b : Int} (h1 : 1 ≤ mm) (h2 : mm ≤ 12) (ht : ¬ (pLens b).getD (mm - 1).toNat 0 < dd) :
    (mm ≤ 6 ∧ dd ≤ 31) ∨ (7 ≤ mm ∧ mm ≤ 11 ∧ dd ≤ 30) ∨ (mm = 12 ∧ dd ≤ b) := by
  have hm : mm = 1 ∨ mm = 2 ∨ mm = 3 ∨ mm = 4 ∨ mm = 5 ∨ mm = 6 ∨ mm = 7 ∨ mm = 8 ∨ mm = 9 ∨ mm = 10 ∨ mm = 11 ∨ mm = 12 := by omega
  unfold pLens at ht
  rcases hm with rfl | rfl | rfl | rfl | rfl | rfl | rfl | rfl | rfl | rfl | rfl | rfl
  all_goals (simp at ht; omega)
theorem p_len {mm b : Int} (h1 : 1 ≤ mm) (h2 : mm ≤ 12) : (pLens b).getD (mm - 1).toNat 0 = if mm ≤ 6 then 31 else if mm ≤ 11 then 30 else b := by
  have hm : mm = 1 ∨ mm = 2 ∨ mm = 3 ∨ mm = 4 ∨ mm = 5 ∨ mm = 6 ∨ mm = 7 ∨ mm = 8 ∨ mm = 9 ∨ mm = 10 ∨ mm = 11 ∨ mm = 12 := by omega
  unfold pLens
  rcases hm with rfl | rfl | rfl | rfl | rfl | rfl | rfl | rfl | rfl | rfl | rfl | rfl <;> simp
/-- jd_to_pyear of z halves is (k, r) -/
def ExIs106 (w : World) (ea : Addr) (news : List (Addr × Obj)) (z k r : Int) : Prop := ∀ x, Ex x z → Is106 w ea news x k r
theorem ExIs106.call {w : World} {ea : Addr} {news big : List (Addr × Obj)} {z k r : Int} {x : UInt64} {t : Tok} (h : ExIs106 w ea news z k r) (hx : Ex x z) (hs : ∀ p ∈ news, p ∈ big) : Cl w 20 106 [.float x t, .ref ea] big (RetT2 big k r) := (h x hx).call hs
theorem Is120.wide {w : World} {ea : Addr} {news big : List (Addr × Obj)} {z k mo d : Int} (h : Is120 w ea news z k mo d) (hs : ∀ p ∈ news, p ∈ big) : Is120 w ea big z k mo d := fun b hb => h b fun p hp => hb p (hs p hp)
theorem fromg_w {w : World} {y mo d k pm pd : Int} {t u v : Tok} {ea : Addr} {news big : List (Addr × Obj)} (hv : Valid y mo d) (hy1 : -20000 ≤ y) (hy2 : y ≤ 20000) (h : Is120 w ea news (2 * gregN y mo d + 3442849) k pm pd) (hs : ∀ p ∈ news, p ∈ big) :
    Cl w 28 127 [.int y t, .int mo u, .int d v, .ref ea] big (RetT3 big k pm pd) := fromg_cl hv hy1 hy2 (h.wide hs)
theorem tog_w {w : World} {y mo d z gy gm gd : Int} {t u v : Tok} {ea : Addr} {news big : List (Addr × Obj)} (h : Is113 w ea news y mo d z) (hf : FSof z (gregN gy gm (gd + 1) + 1721424)) (hv : Valid gy gm (gd + 1)) (hy1 : -20000 ≤ gy) (hy2 : gy ≤ 20000) (hs : ∀ p ∈ news, p ∈ big) :
    Cl w 28 134 [.int y t, .int mo u, .int d v, .ref ea] big (RetT3 big gy gm (gd + 1)) := tog_cl (h.wide hs) hf hv hy1 hy2
theorem mlen_e {w : World} {y mo r : Int} {b : Bool} {t u : Tok} {ea : Addr} {news big : List (Addr × Obj)} (e : Eqn (mlZ mo b) r) (h : Is92 w ea news y b) (h1 : 1 ≤ mo) (h2 : mo ≤ 12) (hs : ∀ p ∈ news, p ∈ big) :
    Cl w 32 141 [.int y t, .int mo u, .ref ea] big (RetI big r) := e.out ▸ mlen_cl (h.wide hs) h1 h2
theorem mlen_w {w : World} {y mo : Int} {b : Bool} {t u : Tok} {ea : Addr} {news big : List (Addr × Obj)} (h : Is92 w ea news y b) (h1 : 1 ≤ mo) (h2 : mo ≤ 12) (hs : ∀ p ∈ news, p ∈ big) :
    Cl w 32 141 [.int y t, .int mo u, .ref ea] big (RetI big (mlZ mo b)) := mlen_cl (h.wide hs) h1 h2
theorem pl_ml {f1 S mm : Int} (h1 : 1 ≤ mm) (h2 : mm ≤ 12) (hL : 365 ≤ f1 - S ∧ f1 - S ≤ 366) : mlZ mm (decide (f1 - S = 366)) = (pLens (f1 - S - 336)).getD (mm - 1).toNat 0 := by
  rw [p_len h1 h2]
  unfold mlZ
  by_cases a : mm ≤ 6
  · rw [if_pos a, if_pos a]
  · rw [if_neg a, if_neg a]
    by_cases b : mm ≤ 11
    · rw [if_pos b, if_pos b]
    · rw [if_neg b, if_neg b]
      by_cases c : f1 - S = 366
      · rw [decide_eq_true c, if_pos rfl]; omega
      · rw [decide_eq_false c, if_neg (by decide)]; omega
theorem pl_range {b mm : Int} (h1 : 1 ≤ mm) (h2 : mm ≤ 12) (hb : 29 ≤ b ∧ b ≤ 30) : 29 ≤ (pLens b).getD (mm - 1).toNat 0 ∧ (pLens b).getD (mm - 1).toNat 0 ≤ 31 := by
  rw [p_len h1 h2]
  repeat' split
  all_goals omega
end
/-- the leaf's cell at the place k: c empty places, n days -/
def cellD (c n : Int) (k : Nat) : PyData := if c ≤ (k : Int) ∧ (k : Int) < c + n then .int ((k : Int) - c + 1) else .none
def rowD (c n : Int) (r : Nat) : List PyData := (List.range 7).map fun k => cellD c n (7 * r + k)
def calD (c n : Int) (R : Nat) : PyData := .list ((List.range R).map fun r => .list (rowD c n r))
/-- a value that is a leaf's cell -/
inductive CellV : Value → PyData → Prop
  | none : CellV .none .none
  | int (i : Int) (t : Tok) : CellV (.int i t) (.int i)
def CellsV (vs : List Value) (f : Nat → PyData) (len : Nat) : Prop := vs.length = len ∧ ∀ k v, vs[k]? = some v → CellV v (f k)
theorem CellV.reads {v : Value} {d : PyData} (h : CellV v d) (hp : Heap) : Reads hp v d [] := by
  cases h with
  | none => exact .none
  | int i t => exact .int i t
theorem cells_reads (hp : Heap) : ∀ (vs : List Value) (f : Nat → PyData), (∀ k v, vs[k]? = some v → CellV v (f k)) → ∃ as, ReadsAll hp vs ((List.range vs.length).map f) as
  | [], _, _ => ⟨[], .nil⟩
  | v :: r, f, h => by
    obtain ⟨as, h1⟩ := cells_reads hp r (fun k => f (k + 1)) fun k v hk => h (k + 1) v hk
    have h0 := (h 0 v rfl).reads hp
    rw [List.length_cons, List.range_succ_eq_map, List.map_cons, List.map_map]
    exact ⟨_, .cons h0 h1⟩
theorem CellsV.reads {vs : List Value} {f : Nat → PyData} {n : Nat} (h : CellsV vs f n) (hp : Heap) : ∃ as, ReadsAll hp vs ((List.range n).map f) as := by
  have := cells_reads hp vs f h.2
  rw [h.1] at this
  exact this
def IsDays (c n : Int) (vs : List Value) : Prop := CellsV vs (cellD c n) (c.toNat + n.toNat + 7)
theorem rep_flat (k : Nat) : (List.replicate k [Value.none]).flatten = List.replicate k Value.none := by
  induction k with
  | zero => rfl
  | succ k ih => rw [List.replicate_succ, List.flatten_cons, ih]; rfl
theorem days_of {c n : Int} {us : List Value} (hc : 0 ≤ c) (hn : 0 ≤ n) (hu : IntsAre us (rangeKs 1 n.toNat)) :
    IsDays c n (((List.replicate c.toNat [Value.none]).flatten ++ us) ++ (List.replicate (Int.toNat 7) [Value.none]).flatten) := by
  have hl : us.length = n.toNat := by rw [hu.length, rangeKs_length]
  rw [rep_flat, rep_flat]
  refine ⟨by simp [hl]; omega, ?_⟩
  intro k v hk
  unfold cellD
  by_cases h1 : k < c.toNat
  · rw [List.append_assoc, List.getElem?_append_left (by simpa using h1), List.getElem?_replicate_of_lt h1] at hk
    cases hk
    rw [if_neg (by omega)]
    exact .none
  · by_cases h2 : k < c.toNat + n.toNat
    · rw [List.getElem?_append_left (by simp [hl]; omega), List.getElem?_append_right (by simp; omega), List.length_replicate] at hk
      have h3 : (rangeKs 1 n.toNat)[k - c.toNat]? = some (1 + ((k - c.toNat : Nat) : Int)) := by
        unfold rangeKs
        rw [List.getElem?_map, List.getElem?_range (by omega)]
        rfl
      obtain ⟨t, ht⟩ := hu.get _ _ h3
      rw [ht] at hk
      cases hk
      rw [if_pos (by omega)]
      have e : 1 + ((k - c.toNat : Nat) : Int) = (k : Int) - c + 1 := by omega
      rw [e]
      exact .int _ _
    · rw [List.getElem?_append_right (by simp [hl]; omega)] at hk
      have h4 := List.mem_of_getElem? hk
      rw [List.mem_replicate] at h4
      rw [h4.2, if_neg (by omega)]
      exact .none
theorem pick_cells {c n x y : Int} {vs : List Value} {r : Nat} (h : IsDays c n vs) (hx : x = 7 * (r : Int)) (hy : y = 7 * (r : Int) + 7) (hc : 0 ≤ c) (hn : 0 ≤ n) (hr : 7 * (r : Int) ≤ c + n) :
    CellsV (kms_pick vs (some x) (some y)) (fun k => cellD c n (7 * r + k)) 7 := by
  have hl := h.1
  have e1 : kms_lo (some x) vs.length = 7 * r := by
    unfold kms_lo
    simp only
    rw [if_neg (by omega)]
    omega
  have e2 : kms_hi (some y) vs.length = 7 * r + 7 := by
    unfold kms_hi
    simp only
    rw [if_neg (by omega)]
    omega
  unfold kms_pick
  rw [e1, e2, show 7 * r + 7 - 7 * r = 7 by omega]
  refine ⟨by simp; omega, ?_⟩
  intro k v hk
  have h7 : k < 7 := by
    have h7 := List.getElem?_eq_some_iff.mp hk
    obtain ⟨h8, _⟩ := h7
    simp at h8
    omega
  rw [List.getElem?_take_of_lt h7, List.getElem?_drop] at hk
  exact h.2 _ _ hk
theorem calD_five (c n : Int) : calD c n 5 = .list [.list (rowD c n 0), .list (rowD c n 1), .list (rowD c n 2), .list (rowD c n 3), .list (rowD c n 4)] := rfl
theorem calD_six (c n : Int) : calD c n 6 = .list [.list (rowD c n 0), .list (rowD c n 1), .list (rowD c n 2), .list (rowD c n 3), .list (rowD c n 4), .list (rowD c n 5)] := rfl
theorem row_reads {c n : Int} {r : Nat} {vs : List Value} {k : Nat} {E : Addr} {hp : Heap} (h : CellsV vs (fun k => cellD c n (7 * r + k)) 7) (hg : hp.get? E = some (listOf vs.toArray k)) : ∃ as, Reads hp (.ref E) (.list (rowD c n r)) as := by
  obtain ⟨as, ha⟩ := h.reads hp
  exact ⟨_, .list hg rfl rfl ha⟩
/-- a value that reads as d, whatever the addresses -/
def ReadsX (hp : Heap) (v : Value) (d : PyData) : Prop := ∃ as, Reads hp v d as
def ReadsXs (hp : Heap) (vs : List Value) (ds : List PyData) : Prop := ∃ as, ReadsAll hp vs ds as
theorem ReadsXs.nil {hp : Heap} : ReadsXs hp [] [] := ⟨_, .nil⟩
theorem ReadsXs.cons {hp : Heap} {v : Value} {d : PyData} {vs : List Value} {ds : List PyData} (h : ReadsX hp v d) (hs : ReadsXs hp vs ds) : ReadsXs hp (v :: vs) (d :: ds) :=
  let ⟨_, a⟩ := h; let ⟨_, b⟩ := hs; ⟨_, .cons a b⟩
theorem ReadsX.list {hp : Heap} {a : Addr} {vs : List Value} {k : Nat} {ds : List PyData} (hg : hp.get? a = some (listOf vs.toArray k)) (h : ReadsXs hp vs ds) : ReadsX hp (.ref a) (.list ds) :=
  let ⟨_, b⟩ := h; ⟨_, .list hg rfl rfl b⟩
theorem row_readsX {c n : Int} {r : Nat} {vs : List Value} {k : Nat} {E : Addr} {hp : Heap} (h : CellsV vs (fun k => cellD c n (7 * r + k)) 7) (hg : hp.get? E = some (listOf vs.toArray k)) : ReadsX hp (.ref E) (.list (rowD c n r)) := row_reads h hg
theorem lay_map (f : Nat → PyData) (h : ∀ k, (f k).canLay0 = true) : ∀ l : List Nat, PyData.canLayAll0 (l.map f) = true
  | [] => rfl
  | k :: r => by
    rw [List.map_cons]
    show ((f k).canLay0 && PyData.canLayAll0 (r.map f)) = true
    rw [h k, lay_map f h r]
    rfl
theorem depth_map (f : Nat → PyData) (b : Nat) (h : ∀ k, (f k).depth ≤ b) : ∀ l : List Nat, PyData.depthAll (l.map f) ≤ b
  | [] => Nat.zero_le _
  | k :: r => by
    rw [List.map_cons]
    show max (f k).depth (PyData.depthAll (r.map f)) ≤ b
    exact Nat.max_le.mpr ⟨h k, depth_map f b h r⟩
theorem cell_lay (c n : Int) (k : Nat) : (cellD c n k).canLay0 = true ∧ (cellD c n k).depth ≤ 0 := by
  unfold cellD
  split <;> exact ⟨rfl, Nat.le_refl _⟩
theorem cal_lay (c n : Int) (R : Nat) : (calD c n R).canLay0 = true ∧ (calD c n R).depth ≤ 2 := by
  refine ⟨lay_map _ (fun r => ?_) _, ?_⟩
  · exact lay_map _ (fun k => (cell_lay c n _).1) _
  · show PyData.depthAll _ + 1 ≤ 2
    have := depth_map (fun r => PyData.list (rowD c n r)) 1 (fun r => by
      show PyData.depthAll _ + 1 ≤ 1
      have := depth_map (fun k => cellD c n (7 * r + k)) 0 (fun k => (cell_lay c n _).2) (List.range 7)
      unfold rowD
      omega) (List.range R)
    omega
theorem cal_shaped (c n : Int) (R : Nat) : SeqAt.shaped (calD c n R) = true := by
  have h := cal_lay c n R
  unfold SeqAt.shaped
  rw [h.1, decide_eq_true (by omega : (calD c n R).depth ≤ 64)]
  rfl
theorem cal_eq {prog : Program} {w : World} {A : Around} {E : Value → Shared → Prop} {s : Shared} {a b : Value} {c n : Int} {R : Nat} {Q : Value → Shared → Prop} (r1 : ReadsX s.heap a (calD c n R)) (r2 : ReadsX s.heap b (calD c n R)) (hu : A.units + 64 < cLine) (h : Q (.bool true) s) :
    wpAny (model prog w) A (compareOp .Eq a b) Q E s := by
  obtain ⟨as, ra⟩ := r1
  obtain ⟨bs, rb⟩ := r2
  refine eq_dataH ra rb (cal_shaped c n R) (cal_shaped c n R) hu ?_
  rw [SeqAt.eqv_refl _ (cal_lay c n R).1]
  exact h
section
variable {prog : Program} {w : World} {A : Around} {E : Value → Shared → Prop} {s : Shared} {a b : Int} {t u : Tok} {Q : Value → Shared → Prop} {h₀ : Heap} {L : Addr} {m : Str → Option Value} {news : List (Addr × Obj)} {env : Env}
theorem mod_e {c : Int} (e : Eqn (a.fmod b) c) (hb : ¬ (b == 0) = true) (h : Q (.int c s.toks) { s with toks := s.toks + 1 }) : wpAny (model prog w) A (binaryOp .Mod (.int a t) (.int b u)) Q E s := by
  cases e; exact AutoIntOps.mod_1 hb h
theorem add_days {la lb : Addr} {its its2 : Array Value} {c n : Int} (F : Fr h₀ L s.heap m) (N : News h₀ L s.heap news) (ha : s.heap.IsList la its) (hb : s.heap.IsList lb its2) (e : IsDays c n (its.toList ++ its2.toList)) (hz : c.toNat + n.toNat + 7 ≤ 100)
    (h : ∀ vs, IsDays c n vs → ∀ D h', Fr h₀ L h' m → News h₀ L h' ((D, listOf (List.toArray vs) 0) :: news) → (∀ p ∈ news, p.1 < D) → Q (.ref D) { s with heap := h' }) : wpAny (model prog w) A (binaryOp .Add (.ref la) (.ref lb)) Q E s :=
  kmk_add_lit F N ha hb rfl (h _ e) (by have := e.1; rw [List.length_append] at this; rw [this]; exact Nat.le_trans hz (by decide))
theorem rep_right {l : Addr} {vs : List Value} {k : Nat} {x : Int} (F : Fr h₀ L s.heap m) (N : News h₀ L s.heap news) (hm : (l, listOf vs.toArray k) ∈ news) (hlo : -(2 ^ 63 : Int) ≤ x) (hhi : x < 2 ^ 63) (hsz : vs.length * x.toNat ≤ 2 ^ 24)
    (h : ∀ D h', Fr h₀ L h' m → News h₀ L h' ((D, listOf (List.replicate x.toNat vs).flatten.toArray 0) :: news) → (∀ p ∈ news, p.1 < D) → Q (.ref D) { s with heap := h' }) : wpAny (model prog w) A (binaryOp .Mult (.int x u) (.ref l)) Q E s := by
  refine mul_list_r F N (N _ hm).1 hlo hhi (by simpa using hsz) fun h' F' N' => ?_
  rw [listMul_foldl_if] at N'
  exact h _ _ F' N' fun p hp => Heap.lt_size (N p hp).1
/-- a comprehension over a range of any step -/
def SrcC (prog : Program) (w : World) (A : Around) (h₀ : Heap) (L : Addr) (m : Str → Option Value) (env : Env) (elt : PySem.Expr) (x : Str) (scope : Scope) (cl : List (Str × Addr)) (Fin : Shared → List Value → List (Addr × Obj) → Prop) (xv : Value) (s₁ : Shared) : Prop :=
  ∃ r a b c t u v n news, xv = .ref r ∧ A.handled = none ∧ Fr h₀ L s₁.heap m ∧ News h₀ L s₁.heap news ∧ IsRange s₁.heap r a b c t u v ∧ Builtin.Range.small a b c = true ∧ Builtin.Range.rangeSize a b c = ((n : Nat) : Int) ∧ n ≤ sizeLine ∧
    ∀ s₂ : Shared, (∃ h, s₂ = { s₁ with heap := h }) → LCg.CompRest prog w A h₀ L m env elt x scope cl s₂ (fun _ => True) (fun i v => ∃ t, v = .int (a + (i : Int) * c) t) (Fin s₂) n 0 [] news
theorem SrcC.intro {elt : PySem.Expr} {x : Str} {scope : Scope} {cl : List (Str × Addr)} {Fin : Shared → List Value → List (Addr × Obj) → Prop} {r : Addr} {a b c : Int} {t u v : Tok} {n : Nat} {s₁ : Shared}
    (hh : A.handled = none) (F : Fr h₀ L s₁.heap m) (N : News h₀ L s₁.heap news) (hr : IsRange s₁.heap r a b c t u v) (hsm : Builtin.Range.small a b c = true) (hn : Builtin.Range.rangeSize a b c = ((n : Nat) : Int)) (hsz : n ≤ sizeLine)
    (h : ∀ g, LCg.CompRest prog w A h₀ L m env elt x scope cl { s₁ with heap := g } (fun _ => True) (fun i v => ∃ t, v = .int (a + (i : Int) * c) t) (Fin { s₁ with heap := g }) n 0 [] news) :
    SrcC prog w A h₀ L m env elt x scope cl Fin (.ref r) s₁ := ⟨r, a, b, c, t, u, v, n, news, rfl, hh, F, N, hr, hsm, hn, hsz, fun _ ⟨g, e⟩ => e ▸ h g⟩
theorem stepped {I : Addr} (hh : A.handled = none) (a c : Int) (n : Nat) : Walks prog w A I [I] [I] n (fun i v => ∃ t, v = .int (a + (i : Int) * c) t) (fun i h => IsRangeIter h I (a + (i : Nat) * c) ((n : Int) - (i : Nat)) c) :=
  let W := (Walks.range (prog := prog) (w := w) hh I a c n).bound
  { sub := W.sub, frame := W.frame, done := W.done, self := W.self,
    item := fun i s Q E hi st hQ => W.item i s Q E hi st fun v h' tk hP => hQ v h' tk hP.2 }
theorem comp_range {elt iter : PySem.Expr} {x : Str} {px : Pos} {scope : Scope} {cl : List (Str × Addr)} {pos : Pos} (_F₀ : Fr h₀ L s.heap m)
    (hclos : closureFor scope env = pure cl) (hcell : ∀ y ∈ scope.names, y.2 ≠ .cell) (hkind : scope.kind = .function)
    (hnames : ∀ y ∈ scope.names, y.2 = .local → scope.names.lookup y.1 = some .local) (hx : scope.names.lookup x = some .local)
    (h : wpAny (model prog w) A (eval iter env) (SrcC prog w A h₀ L m env elt x scope cl (fun s₂ => LCg.FinE h₀ L m s₂ Q)) E s)
    (hs : ∀ x, foldedSetIterable iter env x = pure x := by intro _; rfl) :
    wpAny (model prog w) A (eval (.ListComp elt [⟨.Name x px, iter, [], 0⟩] scope pos) env) Q E s := by
  rw [eval_ListComp]
  refine wpAny_comprehension_free (use := none) rfl hs hclos hkind hnames (wpAny_mono h (fun xv s₁ h₁ => ?_) fun _ _ e => e)
  obtain ⟨r, a, b, c, t, u, v, n, news, rfl, hh, F, N, hr, hsm, hn, hsz, R⟩ := h₁
  refine wpAny_pyIter_range hr hsm ?_
  refine LCg.block_U (stepped hh a c n) hsz (fun i h st => ⟨_, st⟩) (fun i h h' o nw st e e' _ _ _ => ?_) hcell hkind hx ?_ (fun b hb => ?_)
    (F.keeps fun _ _ e => Heap.get?_push_of_some _ e) (N.grown fun _ _ e => Heap.get?_push_of_some _ e) (Nat.ne_of_lt F.ns.lt) (next_is_new F) (fun p hp => Nat.ne_of_lt (Heap.lt_size (N p hp).1)) trivial (R _ ⟨_, rfl⟩) ?_
  · have st' : h.get? s₁.heap.objs.size = some _ := st
    show h'.get? s₁.heap.objs.size = some _
    rw [e', ← e]; exact st'
  · show IsRangeIter _ _ _ _ _
    rw [hn]
    simpa using Heap.get?_push_size _ rfl
  · rw [List.mem_singleton.mp hb]
    show s₁.heap.objs.size < (s₁.heap.push _).objs.size
    rw [Heap.size_push]; exact Nat.lt_succ_self _
  · intro D C h tk m' ys news' F' N' o1 hn hC₀ hD₀ hCL hDL hCD offC fin
    refine ⟨m', hn, fun h'' hs'' => fin D h'' tk (F'.change hs'' hCL hC₀) (fun p hp => ?_) o1⟩
    refine ⟨hs''.extBut _ _ ?_ (N' p hp).1, (N' p hp).2⟩
    rcases List.mem_cons.mp hp with rfl | hp
    · exact Ne.symm hCD
    · exact offC p hp
end
theorem range_one (n : Int) : Builtin.Range.rangeSize 1 (1 + n) 1 = (n.toNat : Int) := by
  rw [rangeSize_nat, show 1 + n - 1 = n by omega]
theorem days_size {c n : Int} {vs : List Value} (h : IsDays c n vs) (hz : c.toNat + n.toNat + 7 ≤ 100) : vs.toArray.size ≤ sizeLine := by
  rw [List.size_toArray, h.1]
  exact Nat.le_trans hz (by decide)
theorem flat_size {c : Int} {us : List Value} {n : Int} (hu : IntsAre us (rangeKs 1 n.toNat)) (hz : c.toNat + n.toNat + 7 ≤ 100) : (List.replicate c.toNat [Value.none]).flatten.length + us.length ≤ sizeLine := by
  rw [rep_flat, hu.length, rangeKs_length, List.length_replicate]
  exact Nat.le_trans (by omega) (show 100 ≤ sizeLine by decide)
local macro_rules | `(tactic| walk_at "binaryOp Mod int int") => `(tactic| (refine' mod_e ?k1 ?k2 ?_; (case k1 => assumption); (case k2 => decide); (try dsimp only)))
local macro_rules | `(tactic| walk_at "binaryOp Mult ref int") => `(tactic| (k_here; (with_reducible show wpAny _ _ (binaryOp Operator.Mult (Value.ref _) (Value.int _ _)) _ _ _); k_dflt (refine' KMa.mul ?F ?N ?l ?lo ?hi ?z (Eq.refl _) ?_; (case F => k_asm); (case N => k_asm); (case l => is_list); (case lo => first | omega | decide); (case hi => first | omega | decide); (case z => (simp only [List.length_cons, List.length_nil]; first | decide | omega)); k_whole); intro D' h' F' N' l1; (try k_lt l1); (try k_sweep)))
local macro_rules | `(tactic| walk_at "binaryOp Mult int ref") => `(tactic| (k_here; (with_reducible show wpAny _ _ (binaryOp Operator.Mult (Value.int _ _) (Value.ref _)) _ _ _); k_dflt (refine' rep_right ?F ?N ?l ?lo ?hi ?z ?_; (case F => k_asm); (case N => k_asm); (case l => k_mem); (case lo => decide); (case hi => decide); (case z => decide)); intro D' h' F' N' l1; (try k_lt l1); (try k_sweep)))
local macro_rules | `(tactic| walk_at "call type:list") => `(tactic| (k_here; (with_reducible show wpAny _ _ (call (Value.type _) [Value.ref _]) _ _ _); (rename IsRange _ _ _ _ _ _ _ _ => rgX); k_dflt (refine' kll_range ?k0 ?k1 ?k2 rgX ?k4 (range_one _) ?k6 ?_; (case k0 => exact rfl); (case k1 => k_asm); (case k2 => k_asm); (case k4 => exact small_one (by decide) (by decide) (by omega) (by omega)); (case k6 => omega)); intro D' vs' c' h' tk' F' N' l1 hI'; (try k_lt l1); (try k_sweep)))
local macro_rules | `(tactic| walk_at "binaryOp Add ref ref") => `(tactic| (k_here; (with_reducible show wpAny _ _ (binaryOp _ (Value.ref _) (Value.ref _)) _ _ _); k_dflt (refine' kmk_add_lit ?F ?N ?a ?b (Eq.refl _) ?_ ?z; (case F => k_asm); (case N => k_asm); (case a => kmk_list); (case b => kmk_list); (case z => exact flat_size (by assumption) (by omega))); intro D' h' F' N' l1; (try k_lt l1); (try k_sweep)))
local macro_rules | `(tactic| walk_at "binaryOp Add ref ref") => `(tactic| (k_here; (with_reducible show wpAny _ _ (binaryOp _ (Value.ref _) (Value.ref _)) _ _ _); k_dflt (refine' add_days ?F ?N ?a ?b ?e ?z ?_; (case F => k_asm); (case N => k_asm); (case a => kmk_list); (case b => kmk_list); (case e => exact days_of (by assumption) (by assumption) (by assumption)); (case z => omega)); intro vs' hD' D' h' F' N' l1; (try k_lt l1); (try k_sweep)))
local macro_rules | `(tactic| walk_at "eval ListComp") => `(tactic| (k_here; lcf_look; k_dflt (refine comp_range (_F₀ := by k_asm) (by with_unfolding_all rfl) (by decide) (by rfl) (by decide) (by rfl) ?_)))
local macro_rules | `(tactic| walk_at "SrcC") => `(tactic| (k_here; k_dflt (refine SrcC.intro (by rfl) (by k_asm) (by k_asm) (by assumption) (by assumption) (by assumption) (by decide) ?_; intro g'; lcg_lit)))
local macro_rules | `(tactic| walk_at "subscriptTail Name Slice ref ref") => `(tactic| (k_here; (with_reducible show wpAny _ _ (subscriptTail _ (PySem.Expr.Slice _ _ none _) (Value.ref _) (Value.ref _)) _ _ _); k_dflt (refine' kms_slice_lit ?F ?N ?l ?p ?q (Eq.refl _) ?_ ?s ?t ?z; (case F => k_asm); (case N => k_asm); (case l => kmk_list); (case p => kmk_part); (case q => kmk_part); (case s => with_unfolding_all rfl); (case t => kmk_pure); (case z => exact days_size (by assumption) (by omega))); intro D' h' F' N' l1; (try k_lt l1); (try k_sweep)))
theorem ne_next {L' : Addr} {news : List (Addr × Obj)} (h : ∀ p ∈ news, p.1 < L') : ∀ p ∈ news, p.1 ≠ L' + 1 := fun p hp => Nat.ne_of_lt (Nat.lt_succ_of_lt (h p hp))
local macro_rules | `(tactic| k_all) => `(tactic| exact ne_next (by assumption))
theorem comp_end {h₀ : Heap} {L I C D E : Addr} {m : Str → Option Value} {s₁ : Shared} {oI oC oD o : Obj} {S : List (Addr × Obj) → Prop} {R : Value → List (Addr × Obj) → Prop} {y : Value} {h' : Heap} {tk : Nat} {rest : List (Addr × Obj)} {X : Prop}
    (F : Fr h₀ L h' m) (N : News h₀ L h' ((E, o) :: (I, oI) :: (C, oC) :: (D, oD) :: rest)) (lt : I < E ∧ C < E ∧ D < E ∧ X) (off : LCg.Off3 I C D rest) (hS : S ((E, o) :: rest)) (r : R y ((E, o) :: rest)) :
    LCg.CompEnd h₀ L m s₁ I oI C oC D oD S R y { s₁ with heap := h', toks := tk } :=
  LCg.CompEnd.intro F N ((E, o) :: rest) (fun p hp => by
    rcases List.mem_cons.mp hp with rfl | hp
    · exact .tail _ (.head _)
    rcases List.mem_cons.mp hp with rfl | hp
    · exact .tail _ (.tail _ (.head _))
    rcases List.mem_cons.mp hp with rfl | hp
    · exact .tail _ (.tail _ (.tail _ (.head _)))
    rcases List.mem_cons.mp hp with rfl | hp
    · exact .head _
    exact .tail _ (.tail _ (.tail _ (.tail _ hp)))) ⟨⟨Nat.ne_of_gt lt.1, Nat.ne_of_gt lt.2.1, Nat.ne_of_gt lt.2.2.1⟩, off⟩ hS r
local macro_rules | `(tactic| walk_at "CompRest") => `(tactic| (with_unfolding_all first
  | (refine LCg.CompRest.succ ?_; intro v' I' oI' C' oC' D' m' h' tk' E' hv' hC' hx' F' N' off' ne'; (obtain ⟨t9', hv9'⟩ := hv'; subst hv9'))
  | refine LCg.CompRest.zero ?_))
local macro_rules | `(tactic| walk_at "CompEnd") => `(tactic| (k_dflt (refine' comp_end ?F ?N ?l ?o trivial ?_; (case F => k_asm); (case N => k_asm); (case o => with_reducible assumption); (case l => with_reducible assumption))))
theorem row_end {c n x y : Int} {r : Nat} {vs : List Value} {E : Addr} {h₀ h : Heap} {L : Addr} {news : List (Addr × Obj)} (N : News h₀ L h news) (hm : (E, listOf (kms_pick vs (some x) (some y)).toArray 0) ∈ news) (hD : IsDays c n vs) (hx : x = 7 * (r : Int)) (hy : y = 7 * (r : Int) + 7) (hc : 0 ≤ c) (hn : 0 ≤ n) (hr : 7 * (r : Int) ≤ c + n) :
    ReadsX h (.ref E) (.list (rowD c n r)) := row_readsX (pick_cells hD hx hy hc hn hr) (N _ hm).1
abbrev RetCal (news : List (Addr × Obj)) (d : PyData) (h₀ : Heap) (L : Addr) (m : Str → Option Value) (s : Shared) (Q : Value → Shared → Prop) : Prop :=
  ∀ (q : Addr) (h' : Heap) (tk' : Nat), Fr h₀ L h' m → News h₀ L h' news → ReadsX h' (.ref q) d → Q (.ref q) { s with heap := h', toks := tk' }
set_option maxRecDepth 100000 in
set_option maxHeartbeats 2000000 in
theorem helper_cl {w : World} {t u : Tok} {sw n c : Int} {R : Nat} {news : List (Addr × Obj)} (hc : Eqn ((sw + 1).fmod 7) c) (hc0 : 0 ≤ c) (hc6 : c ≤ 6) (hn0 : 0 ≤ n) (hn : n ≤ 31) (hR1 : 7 * (R : Int) < c + n + 7) (hR2 : c + n ≤ 7 * (R : Int)) (hR5 : R = 5 ∨ R = 6) :
    Cl w 5 54 [.int sw t, .int n u] news (RetCal news (calD c n R)) := by
  intro p loose mean mg mb dp un gd cn cs a ccd cl outer A₀ base h₀ L m s Q E B F X N T hk hd hu hret
  have hsm : Builtin.Range.small 0 (c + n) 7 = true := by
    have h0 : Builtin.Range.rangeSize 0 (c + n) 7 = (R : Int) := by
      unfold Builtin.Range.rangeSize
      rw [if_pos (by decide)]
      split <;> omega
    unfold Builtin.Range.small
    rw [h0]
    simp only [Builtin.Range.rangeFitsLong, Bool.and_eq_true, Bool.or_eq_true, decide_eq_true_eq, beq_iff_eq, show (7 : Int) > 0 by decide, if_true]
    omega
  rcases hR5 with rfl | rfl
  · have hsz : Builtin.Range.rangeSize 0 (c + n) 7 = ((5 : Nat) : Int) := by
      unfold Builtin.Range.rangeSize
      rw [if_pos (by decide), if_pos (by omega)]
      omega
    w_top off; refine wpAny_call ?_
    k_dflt (refine' code_defC ?k1 ?k2 ?k3 ?k4 ?k5 ?kA ?kF ?kK ?k6 ?k7 ?k8 ?k9 ?kB ?kD ?_ ?c2 ?c3 ?c4; (case kA => exact rfl); (case kF => exact rfl); (case kK => assumption); (case k1 => k_asm); (case k2 => k_asm); (case k3 => k_asm); (case k4 => k_asm); (case k5 => k_asm); (case k6 => k_is); (case k7 => k_is); (case k8 => ktr_room); (case k9 => exact BindsTo.of_eq rfl); (case kB => exact rfl); (case kD => decide +kernel); (case c2 => exact rfl); (case c3 => exact rfl); (case c4 => exact rfl); k_whole; intro g' L' h' tk' cells' FG' F' N' Y' B' X' T' l1; (try k_lt l1); k_cells Y'; (try simp only [List.cons_append, List.nil_append] at N'); (try dsimp only); (try k_lift B'); (try k_fold))
    k_steps
    rename IsDays _ _ _ => hDy
    rename News _ _ _ _ => N9
    k_dflt (refine hret _ _ _ (by k_asm) (News.some_of N9 (fun p hp => by repeat (first | exact hp | refine List.mem_cons_of_mem _ ?_))) ?_)
    rw [calD_five]
    k_dflt (refine ReadsX.list (N9 _ (.head _)).1 ?_)
    refine ReadsXs.cons ?_ ?_
    · k_dflt (refine' row_end N9 ?z1 hDy ?z2 ?z3 hc0 hn0 ?z4; (case z1 => k_mem); (case z2 => first | rfl | omega); (case z3 => first | rfl | omega); (case z4 => omega))
    refine ReadsXs.cons ?_ ?_
    · k_dflt (refine' row_end N9 ?z1 hDy ?z2 ?z3 hc0 hn0 ?z4; (case z1 => k_mem); (case z2 => first | rfl | omega); (case z3 => first | rfl | omega); (case z4 => omega))
    refine ReadsXs.cons ?_ ?_
    · k_dflt (refine' row_end N9 ?z1 hDy ?z2 ?z3 hc0 hn0 ?z4; (case z1 => k_mem); (case z2 => first | rfl | omega); (case z3 => first | rfl | omega); (case z4 => omega))
    refine ReadsXs.cons ?_ ?_
    · k_dflt (refine' row_end N9 ?z1 hDy ?z2 ?z3 hc0 hn0 ?z4; (case z1 => k_mem); (case z2 => first | rfl | omega); (case z3 => first | rfl | omega); (case z4 => omega))
    refine ReadsXs.cons ?_ ?_
    · k_dflt (refine' row_end N9 ?z1 hDy ?z2 ?z3 hc0 hn0 ?z4; (case z1 => k_mem); (case z2 => first | rfl | omega); (case z3 => first | rfl | omega); (case z4 => omega))
    exact ReadsXs.nil
  · have hsz : Builtin.Range.rangeSize 0 (c + n) 7 = ((6 : Nat) : Int) := by
      unfold Builtin.Range.rangeSize
      rw [if_pos (by decide), if_pos (by omega)]
      omega
    w_top off; refine wpAny_call ?_
    k_dflt (refine' code_defC ?k1 ?k2 ?k3 ?k4 ?k5 ?kA ?kF ?kK ?k6 ?k7 ?k8 ?k9 ?kB ?kD ?_ ?c2 ?c3 ?c4; (case kA => exact rfl); (case kF => exact rfl); (case kK => assumption); (case k1 => k_asm); (case k2 => k_asm); (case k3 => k_asm); (case k4 => k_asm); (case k5 => k_asm); (case k6 => k_is); (case k7 => k_is); (case k8 => ktr_room); (case k9 => exact BindsTo.of_eq rfl); (case kB => exact rfl); (case kD => decide +kernel); (case c2 => exact rfl); (case c3 => exact rfl); (case c4 => exact rfl); k_whole; intro g' L' h' tk' cells' FG' F' N' Y' B' X' T' l1; (try k_lt l1); k_cells Y'; (try simp only [List.cons_append, List.nil_append] at N'); (try dsimp only); (try k_lift B'); (try k_fold))
    k_steps
    rename IsDays _ _ _ => hDy
    rename News _ _ _ _ => N9
    k_dflt (refine hret _ _ _ (by k_asm) (News.some_of N9 (fun p hp => by repeat (first | exact hp | refine List.mem_cons_of_mem _ ?_))) ?_)
    rw [calD_six]
    k_dflt (refine ReadsX.list (N9 _ (.head _)).1 ?_)
    refine ReadsXs.cons ?_ ?_
    · k_dflt (refine' row_end N9 ?z1 hDy ?z2 ?z3 hc0 hn0 ?z4; (case z1 => k_mem); (case z2 => first | rfl | omega); (case z3 => first | rfl | omega); (case z4 => omega))
    refine ReadsXs.cons ?_ ?_
    · k_dflt (refine' row_end N9 ?z1 hDy ?z2 ?z3 hc0 hn0 ?z4; (case z1 => k_mem); (case z2 => first | rfl | omega); (case z3 => first | rfl | omega); (case z4 => omega))
    refine ReadsXs.cons ?_ ?_
    · k_dflt (refine' row_end N9 ?z1 hDy ?z2 ?z3 hc0 hn0 ?z4; (case z1 => k_mem); (case z2 => first | rfl | omega); (case z3 => first | rfl | omega); (case z4 => omega))
    refine ReadsXs.cons ?_ ?_
    · k_dflt (refine' row_end N9 ?z1 hDy ?z2 ?z3 hc0 hn0 ?z4; (case z1 => k_mem); (case z2 => first | rfl | omega); (case z3 => first | rfl | omega); (case z4 => omega))
    refine ReadsXs.cons ?_ ?_
    · k_dflt (refine' row_end N9 ?z1 hDy ?z2 ?z3 hc0 hn0 ?z4; (case z1 => k_mem); (case z2 => first | rfl | omega); (case z3 => first | rfl | omega); (case z4 => omega))
    refine ReadsXs.cons ?_ ?_
    · k_dflt (refine' row_end N9 ?z1 hDy ?z2 ?z3 hc0 hn0 ?z4; (case z1 => k_mem); (case z2 => first | rfl | omega); (case z3 => first | rfl | omega); (case z4 => omega))
    exact ReadsXs.nil
local macro_rules | `(tactic| walk_at "call ref") => `(tactic| k_dflt (refine' jwday_cl ?mnx ?mn1 ?mn2 ?mnB ?mnF ?mnX ?mnN ?mnT ?mnk ?mnd ?mnu ?_; (case mnx => with_reducible assumption); (case mn1 => omega); (case mn2 => omega); (case mnB => k_asm); (case mnF => k_asm); (case mnX => k_asm); (case mnN => k_asm); (case mnT => k_asm); (case mnk => first | exact rfl | assumption); (case mnd => ktr_room); (case mnu => ktr_units); intro t9 h9 tk9 F9 N9; (try dsimp only); (try k_fold)))
local macro_rules | `(tactic| walk_at "call ref") => `(tactic| k_dflt (refine' mlen_cl ?mnf ?mn1 ?mn2 ?mnB ?mnF ?mnX ?mnN ?mnT ?mnk ?mnd ?mnu ?_; (case mnf => with_reducible assumption); (case mn1 => omega); (case mn2 => omega); (case mnB => k_asm); (case mnF => k_asm); (case mnX => k_asm); (case mnN => k_asm); (case mnT => k_asm); (case mnk => first | exact rfl | assumption); (case mnd => ktr_room); (case mnu => ktr_units); intro t9 h9 tk9 F9 N9; (try dsimp only); (try k_fold)))
local macro_rules | `(tactic| walk_at "call ref") => `(tactic| k_dflt (refine' helper_cl ?mnc ?mn1 ?mn2 ?mn3 ?mn4 ?mn5 ?mn6 ?mn7 ?mnB ?mnF ?mnX ?mnN ?mnT ?mnk ?mnd ?mnu ?_; (case mnc => with_reducible assumption); (case mn5 => with_reducible assumption); (case mn6 => with_reducible assumption); (case mn7 => with_reducible assumption); (case mn1 => with_reducible assumption); (case mn2 => with_reducible assumption); (case mn3 => with_reducible assumption); (case mn4 => with_reducible assumption); (case mnB => k_asm); (case mnF => k_asm); (case mnX => k_asm); (case mnN => k_asm); (case mnT => k_asm); (case mnk => first | exact rfl | assumption); (case mnd => ktr_room); (case mnu => ktr_units); intro q9 h9 tk9 F9 N9 rd9; (try dsimp only); (try k_fold)))
set_option maxRecDepth 100000 in
set_option maxHeartbeats 2000000 in
theorem monthcal_cl {w : World} {y mo N c : Int} {R : Nat} {b : Bool} {t u : Tok} {ea : Addr} {news : List (Addr × Obj)} (h1 : Is113 w ea news y mo 1 (2 * N - 1)) (h2 : Is92 w ea news y b) (hm1 : 1 ≤ mo) (hm2 : mo ≤ 12) (hN1 : -2 ^ 28 ≤ N) (hN2 : N ≤ 2 ^ 28)
    (hc : Eqn ((N % 7 + 1).fmod 7) c) (hc0 : 0 ≤ c) (hc6 : c ≤ 6) (hR1 : 7 * (R : Int) < c + mlZ mo b + 7) (hR2 : c + mlZ mo b ≤ 7 * (R : Int)) (hR5 : R = 5 ∨ R = 6) :
    Cl w 36 148 [.int y t, .int mo u, .ref ea] news (RetCal news (calD c (mlZ mo b) R)) := by
  intro p loose mean mg mb dp un gd cn cs a ccd cl outer A₀ base h₀ L m s Q E B F X N' T hk hd hu hret
  have hl : 0 ≤ mlZ mo b ∧ mlZ mo b ≤ 31 := by unfold mlZ; repeat' split <;> omega
  obtain ⟨hl1, hl2⟩ := hl
  w_top off; refine wpAny_call ?_; k_dflt cell_enter; k_steps
  all_goals exact hret _ _ _ (by k_asm) (by k_asm) (by assumption)
theorem monthcal_w {w : World} {y mo N c n : Int} {R : Nat} {b : Bool} {t u : Tok} {ea : Addr} {news big : List (Addr × Obj)} (e : Eqn (mlZ mo b) n) (h1 : Is113 w ea news y mo 1 (2 * N - 1)) (h2 : Is92 w ea news y b) (hm1 : 1 ≤ mo) (hm2 : mo ≤ 12) (hN1 : -10000000 ≤ N) (hN2 : N ≤ 10000000)
    (hc : Eqn ((N % 7 + 1).fmod 7) c) (hc0 : 0 ≤ c) (hc6 : c ≤ 6) (hn1 : 29 ≤ n) (hn2 : n ≤ 31) (hR1 : 7 * (R : Int) < c + n + 7) (hR2 : c + n ≤ 7 * (R : Int)) (hs : ∀ p ∈ news, p ∈ big) :
    Cl w 36 148 [.int y t, .int mo u, .ref ea] big (RetCal big (calD c n R)) := by
  cases e
  have q1 : -2 ^ 28 ≤ N := by omega
  have q2 : N ≤ 2 ^ 28 := by omega
  have q3 : R = 5 ∨ R = 6 := by omega
  intro p loose mean mg mb dp un gd cn cs a ccd cl outer A₀ base h₀ L m s Q E
  exact monthcal_cl (h1.wide hs) (h2.wide hs) hm1 hm2 q1 q2 hc hc0 hc6 hR1 hR2 q3
def nones7 : List Value := [.none, .none, .none, .none, .none, .none, .none]
theorem below_of {q : Addr} {l : List (Addr × Obj)} (h : AllLt q l) : ∀ p ∈ l, p.1 < q := by
  induction l with
  | nil => intro p hp; cases hp
  | cons x r ih =>
    intro p hp
    unfold AllLt at h
    rcases List.mem_cons.mp hp with rfl | hp
    · exact h.1
    · exact ih h.2 p hp
/-- the rows laid so far: each a leaf's row of its own -/
def RowsIn (news : List (Addr × Obj)) (c n : Int) (refs : List Value) : Prop := ∀ j v, refs[j]? = some v → ∃ a vs k, v = .ref a ∧ (a, listOf (List.toArray vs) k) ∈ news ∧ CellsV vs (fun k => cellD c n (7 * j + k)) 7
theorem RowsIn.mono {news news' : List (Addr × Obj)} {c n : Int} {refs : List Value} (h : RowsIn news c n refs) (hs : ∀ p ∈ news, p ∈ news') : RowsIn news' c n refs := fun j v hj =>
  let ⟨a, vs, k, e, hm, hc⟩ := h j v hj; ⟨a, vs, k, e, hs _ hm, hc⟩
theorem RowsIn.snoc {news : List (Addr × Obj)} {c n : Int} {refs : List Value} {a : Addr} {vs : List Value} {k : Nat} (h : RowsIn news c n refs) (hm : (a, listOf (List.toArray vs) k) ∈ news) (hc : CellsV vs (fun k => cellD c n (7 * refs.length + k)) 7) : RowsIn news c n (refs ++ [Value.ref a]) := by
  intro j v hj
  rcases Nat.lt_or_ge j refs.length with h1 | h1
  · rw [List.getElem?_append_left h1] at hj
    exact h j v hj
  · rw [List.getElem?_append_right h1] at hj
    have h2 : j = refs.length := by
      rcases Nat.lt_or_ge (j - refs.length) 1 with h3 | h3
      · omega
      · rw [List.getElem?_eq_none (by simpa using h3)] at hj
        cases hj
    subst h2
    rw [Nat.sub_self] at hj
    cases hj
    exact ⟨a, vs, k, rfl, hm, hc⟩
theorem reads_each (hp : Heap) : ∀ (vs : List Value) (f : Nat → PyData), (∀ k v, vs[k]? = some v → ReadsX hp v (f k)) → ReadsXs hp vs ((List.range vs.length).map f)
  | [], _, _ => .nil
  | v :: r, f, h => by
    have h1 := reads_each hp r (fun k => f (k + 1)) fun k v hk => h (k + 1) v hk
    rw [List.length_cons, List.range_succ_eq_map, List.map_cons, List.map_map]
    exact .cons (h 0 v rfl) h1
theorem RowsIn.reads {news : List (Addr × Obj)} {c n : Int} {refs : List Value} {h₀ h : Heap} {L rA : Addr} {k : Nat} (hr : RowsIn news c n refs) (N : News h₀ L h news) (hm : (rA, listOf refs.toArray k) ∈ news) : ReadsX h (.ref rA) (calD c n refs.length) :=
  .list (N _ hm).1 (reads_each h refs _ fun j v hj => by
    obtain ⟨a, vs, k, rfl, hm, hc⟩ := hr j v hj
    exact row_readsX hc (N _ hm).1)
/-- at the address rA what is laid reads as d, over any ledger that bears it and tl -/
def RdL (rA : Addr) (o : Obj) (tl : List (Addr × Obj)) (d : PyData) : Prop := ∀ (h₁ : Heap) (L₁ : Addr) (g₁ : Heap) (news : List (Addr × Obj)), (∀ p ∈ (rA, o) :: tl, p ∈ news) → News g₁ L₁ h₁ news → ReadsX h₁ (.ref rA) d
theorem RdL.use {rA : Addr} {o : Obj} {tl news : List (Addr × Obj)} {d : PyData} {h₁ g₁ : Heap} {L₁ : Addr} (h : RdL rA o tl d) (N : News g₁ L₁ h₁ news) (hs : ∀ p ∈ (rA, o) :: tl, p ∈ news) : ReadsX h₁ (.ref rA) d := h _ _ _ _ hs N
/-- where the leaf's laying stands before its i-th day (from 0): the row at hand and how many are laid -/
structure LaySt (c n : Int) (i : Nat) (cur : List Value) (r : Nat) : Prop where
  going : (i : Int) < n → 7 * (r : Int) ≤ c + i ∧ c + i < 7 * (r : Int) + 7 ∧ CellsV cur (fun k => cellD c i (7 * r + k)) 7
  over : (i : Int) = n → c + n ≤ 7 * (r : Int) ∧ 7 * (r : Int) < c + n + 7
theorem nones_cells {c i : Int} {r : Nat} (h : c + i ≤ 7 * (r : Int)) : CellsV nones7 (fun k => cellD c i (7 * r + k)) 7 := by
  refine ⟨rfl, ?_⟩
  intro k v hk
  have hv : v = .none := by
    have := List.mem_of_getElem? hk
    unfold nones7 at this
    simpa using this
  subst hv
  show CellV .none (cellD c i (7 * r + k))
  unfold cellD
  rw [if_neg (by omega)]
  exact .none
theorem lay_start {c n : Int} (h0 : 0 ≤ c) (h6 : c ≤ 6) (hn : 0 < n) : LaySt c n 0 nones7 0 := by
  refine ⟨fun _ => ⟨by omega, by omega, ?_⟩, fun h => by omega⟩
  refine ⟨rfl, ?_⟩
  intro k v hk
  have hv : v = .none := by
    have := List.mem_of_getElem? hk
    unfold nones7 at this
    simpa using this
  subst hv
  show CellV .none (cellD c ((0 : Nat) : Int) (7 * 0 + k))
  unfold cellD
  rw [if_neg (by omega)]
  exact .none
theorem set_cells {c : Int} {i r : Nat} {cur : List Value} {col : Int} {t : Tok} (h : CellsV cur (fun k => cellD c i (7 * r + k)) 7) (h1 : 7 * (r : Int) ≤ c + i) (h2 : c + i < 7 * (r : Int) + 7) (hcol : col = c + i - 7 * r) :
    CellsV (cur.set col.toNat (.int (1 + (i : Int)) t)) (fun k => cellD c ((i + 1 : Nat) : Int) (7 * r + k)) 7 := by
  refine ⟨by rw [List.length_set]; exact h.1, ?_⟩
  intro k v hk
  by_cases e : col.toNat = k
  · subst e
    rw [List.getElem?_set_self (by rw [h.1]; omega)] at hk
    cases hk
    show CellV _ (cellD c ((i + 1 : Nat) : Int) (7 * r + col.toNat))
    unfold cellD
    rw [if_pos (by omega)]
    have e2 : ((7 * r + col.toNat : Nat) : Int) - c + 1 = 1 + (i : Int) := by omega
    rw [e2]
    exact .int _ _
  · rw [List.getElem?_set_ne e] at hk
    have := h.2 k v hk
    have hk7 : k < 7 := by
      have := (List.getElem?_eq_some_iff.mp hk).1
      rw [h.1] at this
      exact this
    have e3 : cellD c ((i + 1 : Nat) : Int) (7 * r + k) = cellD c i (7 * r + k) := by
      unfold cellD
      by_cases h3 : c ≤ ((7 * r + k : Nat) : Int) ∧ ((7 * r + k : Nat) : Int) < c + i
      · rw [if_pos h3, if_pos (by omega)]
      · rw [if_neg h3, if_neg (by omega)]
    show CellV v (cellD c ((i + 1 : Nat) : Int) (7 * r + k))
    rw [e3]
    exact this
theorem full_cells {c n : Int} {i r : Nat} {vs : List Value} (h : CellsV vs (fun k => cellD c ((i + 1 : Nat) : Int) (7 * r + k)) 7) (hn : ((i + 1 : Nat) : Int) ≤ n) (hf : c + i = 7 * (r : Int) + 6 ∨ ((i + 1 : Nat) : Int) = n) : CellsV vs (fun k => cellD c n (7 * r + k)) 7 := by
  refine ⟨h.1, ?_⟩
  intro k v hk
  have := h.2 k v hk
  have hk7 : k < 7 := by
    have := (List.getElem?_eq_some_iff.mp hk).1
    rw [h.1] at this
    exact this
  have e3 : cellD c ((i + 1 : Nat) : Int) (7 * r + k) = cellD c n (7 * r + k) := by
    unfold cellD
    by_cases h3 : c ≤ ((7 * r + k : Nat) : Int) ∧ ((7 * r + k : Nat) : Int) < c + ((i + 1 : Nat) : Int)
    · rw [if_pos h3, if_pos (by omega)]
    · rw [if_neg h3, if_neg (by omega)]
  show CellV v (cellD c n (7 * r + k))
  rw [← e3]
  exact this
theorem lay_stay {c n col : Int} {i r : Nat} {cur : List Value} {t : Tok} (h : LaySt c n i cur r) (hi : (i : Int) < n) (hcol : col = (c + i) % 7) (h6 : ¬ col = 6) (hl : ¬ 1 + (i : Int) = n) : LaySt c n (i + 1) (cur.set col.toNat (.int (1 + (i : Int)) t)) r := by
  obtain ⟨h1, h2, h3⟩ := h.going hi
  refine ⟨fun _ => ⟨by omega, by omega, ?_⟩, fun h => by omega⟩
  exact set_cells h3 h1 h2 (by omega)
theorem lay_next {c n col : Int} {i r : Nat} {cur : List Value} {t : Tok} (h : LaySt c n i cur r) (hi : (i : Int) < n) (hcol : col = (c + i) % 7) (h6 : col = 6 ∨ 1 + (i : Int) = n) :
    LaySt c n (i + 1) nones7 (r + 1) ∧ CellsV (cur.set col.toNat (.int (1 + (i : Int)) t)) (fun k => cellD c n (7 * r + k)) 7 := by
  obtain ⟨h1, h2, h3⟩ := h.going hi
  have e : col = c + i - 7 * r := by omega
  refine ⟨⟨fun _ => ⟨by omega, by omega, nones_cells (by omega)⟩, fun h => by omega⟩, full_cells (set_cells h3 h1 h2 e) (by omega) (by omega)⟩
section
variable {prog : Program} {w : World} {A : Around} {E : Value → Shared → Prop} {s : Shared} {env : Env} {h₀ : Heap} {x : Str} {body : List Stmt} {Q : Flow → Shared → Prop}
/-- the invariant of the law's loop over a month's days -/
def LayInv (c n : Int) (x yr yc : Str) (rA : Addr) (cst : List (Addr × Obj)) (m₀ : Str → Option Value) (i : Nat) (m : Str → Option Value) (nx : List (Addr × Obj)) : Prop :=
  ∃ rowA cur kc refs k tl, nx = (rowA, listOf (List.toArray cur) kc) :: (rA, listOf (List.toArray refs) k) :: tl ∧ (∀ p ∈ cst, p ∈ tl) ∧ rA ≠ rowA ∧ (∀ p ∈ tl, p.1 ≠ rowA) ∧ (∀ p ∈ tl, p.1 ≠ rA) ∧ RowsIn tl c n refs ∧ LaySt c n i cur refs.length ∧
    cur.length = 7 ∧ refs.length ≤ i ∧ m yr = some (.ref rowA) ∧ ∀ z, z ≠ x → z ≠ yr → z ≠ yc → m z = m₀ z
/-- what a turn of it brings -/
def LayEnd (h₀ : Heap) (L : Addr) (m₀ : Str → Option Value) (x yr yc : Str) (rowA rA : Addr) (cur : List Value) (kc : Nat) (refs : List Value) (k : Nat) (rest : List (Addr × Obj)) (col one n : Int) (s : Shared) (f : Flow) (s₂ : Shared) : Prop :=
  f = .next ∧ ∃ h' tk m' t, s₂ = { s with heap := h', toks := tk } ∧ Fr h₀ L h' m' ∧ (∀ z, z ≠ x → z ≠ yr → z ≠ yc → m' z = m₀ z) ∧
    ((¬ col = 6 ∧ ¬ one = n ∧ m' yr = some (.ref rowA) ∧ News h₀ L h' ((rowA, listOf (cur.set col.toNat (.int one t)).toArray kc) :: (rA, listOf (List.toArray refs) k) :: rest)) ∨
     ((col = 6 ∨ one = n) ∧ ∃ newA k' k₂, m' yr = some (.ref newA) ∧ News h₀ L h' ((newA, listOf (List.toArray nones7) k₂) :: (rowA, listOf (cur.set col.toNat (.int one t)).toArray kc) :: (rA, listOf (refs ++ [Value.ref rowA]).toArray k') :: rest) ∧ rowA < newA ∧ rA < newA ∧ ∀ p ∈ rest, p.1 < newA))
theorem col_eq {num day c N : Int} {i : Nat} (hN : num - day + 1 = N) (hc : Eqn ((N % 7 + 1).fmod 7) c) : (num - day + 1 + (1 + (i : Int))).fmod 7 = (c + i) % 7 := by
  have := hc.out
  rw [fm7] at this ⊢
  omega
theorem lay_end_stay {L rowA rA : Addr} {m₀ m' : Str → Option Value} {x yr yc : Str} {cur : List Value} {kc : Nat} {refs : List Value} {k tk : Nat} {rest : List (Addr × Obj)} {col one n : Int} {h' : Heap} {t : Tok} (F : Fr h₀ L h' m') (N : News h₀ L h' ((rowA, listOf (cur.set col.toNat (.int one t)).toArray kc) :: (rA, listOf (List.toArray refs) k) :: rest))
    (hm : ∀ z, z ≠ x → z ≠ yr → z ≠ yc → m' z = m₀ z) (hr : m' yr = some (.ref rowA)) (h6 : ¬ col = 6) (hl : ¬ one = n) : LayEnd h₀ L m₀ x yr yc rowA rA cur kc refs k rest col one n s .next { s with heap := h', toks := tk } :=
  ⟨rfl, h', tk, m', t, rfl, F, hm, .inl ⟨h6, hl, hr, N⟩⟩
theorem lay_end_next {L rowA rA newA : Addr} {m₀ m' : Str → Option Value} {x yr yc : Str} {cur : List Value} {kc : Nat} {refs : List Value} {k k' k₂ tk : Nat} {rest : List (Addr × Obj)} {col one n : Int} {h' : Heap} {t : Tok} (F : Fr h₀ L h' m') (N : News h₀ L h' ((newA, listOf (List.toArray nones7) k₂) :: (rowA, listOf (cur.set col.toNat (.int one t)).toArray kc) :: (rA, listOf (refs ++ [Value.ref rowA]).toArray k') :: rest))
    (hm : ∀ z, z ≠ x → z ≠ yr → z ≠ yc → m' z = m₀ z) (hr : m' yr = some (.ref newA)) (hc : col = 6 ∨ one = n) (lt : rowA < newA ∧ rA < newA ∧ AllLt newA rest) : LayEnd h₀ L m₀ x yr yc rowA rA cur kc refs k rest col one n s .next { s with heap := h', toks := tk } :=
  ⟨rfl, h', tk, m', t, rfl, F, hm, .inr ⟨hc, newA, k', k₂, hr, N, lt.1, lt.2.1, fun p hp => below_of lt.2.2 p hp⟩⟩
theorem set_any {L D : Addr} {m : Str → Option Value} {kn : Nat} {vs : List Value} {rest : List (Addr × Obj)} {k : Int} {t : Tok} {v : Value} {Q : Unit → Shared → Prop} (F : Fr h₀ L s.heap m) (N : News h₀ L s.heap ((D, listOf (List.toArray vs) kn) :: rest)) (hne : ∀ p ∈ rest, p.1 ≠ D) (h0 : 0 ≤ k) (h1 : k < 7) (hl : vs.length = 7)
    (h : ∀ h', Fr h₀ L h' m → News h₀ L h' ((D, listOf (vs.set k.toNat v).toArray kn) :: rest) → Q () { s with heap := h' }) : wpAny (model prog w) A (setItem (.ref D) (.int k t) v) Q E s := by
  have z := N _ (.head _)
  refine ki_setAt z.1 h0 (by omega) (by rw [List.size_toArray, hl]; exact h1) (h _ (F.change (Heap.SameBut.update ..) z.2.1 z.2.2) (ki_turn (pre := []) _ N (fun _ h => (nomatch h)) hne ?_ ?_))
  · show vs.toArray.setIfInBounds k.toNat v = (vs.set k.toNat v).toArray
    apply Array.toList_inj.mp
    simp
  · simp
theorem append_any {L P D : Addr} {m : Str → Option Value} {kn : Nat} {o : Obj} {vs : List Value} {rest : List (Addr × Obj)} {v : Value} {Q : Value → Shared → Prop} (F : Fr h₀ L s.heap m) (N : News h₀ L s.heap ((P, o) :: (D, listOf (List.toArray vs) kn) :: rest)) (hp : P ≠ D) (hne : ∀ p ∈ rest, p.1 ≠ D) (hl : vs.length ≤ 100)
    (h : ∀ h', Fr h₀ L h' m → News h₀ L h' ((P, o) :: (D, listOf (vs ++ [v]).toArray (kn + 1)) :: rest) → Q .none { s with heap := h' }) : wpAny (model prog w) A (call (.builtin "list.append") [.ref D, v]) Q E s := by
  refine append_K F N (.tail hp (.head hne)) (fun h' F' N' => h h' F' ?_) (by rw [List.size_toArray]; exact Nat.le_trans hl (by decide))
  rw [List.push_toArray] at N'
  exact N'
set_option maxHeartbeats 1000000 in
theorem rows_loop {r rA rowA : Addr} {n c N num day : Int} {t₀ u₀ v₀ : Tok} {m₀ : Str → Option Value} {cst : List (Addr × Obj)} {yr yc : Str} {kc kr : Nat} {lenA : Addr} {lenO : Obj} (_hl : m₀ (Str.ofString "lengths") = some (.ref lenA)) (he : (lenA, lenO) ∈ cst)
    (hh : A.handled = none) (hr : IsRange s.heap r 1 (n + 1) 1 t₀ u₀ v₀) (hn1 : 0 < n) (hn2 : n ≤ 31) (hc : Eqn ((N % 7 + 1).fmod 7) c) (hc0 : 0 ≤ c) (hc6 : c ≤ 6) (hN : num - day + 1 = N)
    (F : Fr h₀ env.locals s.heap m₀) (N₀ : News h₀ env.locals s.heap ((rowA, listOf (List.toArray nones7) kc) :: (rA, listOf #[] kr) :: cst)) (a1 : rA ≠ rowA) (a2 : ∀ p ∈ cst, p.1 ≠ rowA) (a3 : ∀ p ∈ cst, p.1 ≠ rA) (hrow : m₀ yr = some (.ref rowA)) (hxr : yr ≠ x)
    (turn : ∀ (i : Nat) (col : Int) (rowA : Addr) (cur : List Value) (kc : Nat) (refs : List Value) (k : Nat) (rest : List (Addr × Obj)) (u : Str → Option Value) (t : Tok) (h : Heap) (tk : Nat), (i : Int) < n → Eqn ((num - day + 1 + (1 + (i : Int))).fmod 7) col → 0 ≤ col → col ≤ 6 → cur.length = 7 → refs.length ≤ i → rA ≠ rowA → rowA ≠ rA → (∀ p ∈ (rA, listOf (List.toArray refs) k) :: (lenA, lenO) :: rest, p.1 ≠ rowA) → (∀ p ∈ (lenA, lenO) :: rest, p.1 ≠ rA) →
      Fr h₀ env.locals h (fun y => if y = x then some (.int (1 + (i : Int)) t) else if y = yr then some (.ref rowA) else if y = yc then u y else m₀ y) → News h₀ env.locals h ((rowA, listOf (List.toArray cur) kc) :: (rA, listOf (List.toArray refs) k) :: (lenA, lenO) :: rest) →
      wpAny (model prog w) A (execs body env) (LayEnd h₀ env.locals m₀ x yr yc rowA rA cur kc refs k ((lenA, lenO) :: rest) col (1 + (i : Int)) n { s with heap := h, toks := tk }) E { s with heap := h, toks := tk })
    (done : ∀ (rowA : Addr) (refs : List Value) (k : Nat) (tl : List (Addr × Obj)) (u : Str → Option Value) h tk, (∀ p ∈ cst, p ∈ tl) → c + n ≤ 7 * (refs.length : Int) → 7 * (refs.length : Int) < c + n + 7 → RdL rA (listOf (List.toArray refs) k) tl (calD c n refs.length) →
      Fr h₀ env.locals h (fun y => if y = x then u y else if y = yr then some (.ref rowA) else if y = yc then u y else m₀ y) → News h₀ env.locals h ((rA, listOf (List.toArray refs) k) :: (cst ++ tl)) → Q .next { s with heap := h, toks := tk }) :
    wpAny (model prog w) A (pyIter (.ref r)) (fun it s₂ => LoopAtV prog w A h₀ env x body Q E it s₂) E s := by
  have hsz : Builtin.Range.rangeSize 1 (n + 1) 1 = (n.toNat : Int) := by rw [rangeSize_nat, show n + 1 - 1 = n by omega]
  refine wpAny_pyIter_range hr (small_one (by decide) (by decide) (by omega) (by omega)) ?_
  have W : Walks prog w A s.heap.objs.size [s.heap.objs.size] [s.heap.objs.size] n.toNat (fun i v => i < n.toNat ∧ ∃ t, v = .int (1 + i * 1) t)
      (fun i h => IsRangeIter h s.heap.objs.size (1 + (i : Nat) * 1) ((n.toNat : Int) - (i : Nat)) 1) := (Walks.range hh _ 1 1 n.toNat).bound
  refine kdr_loop (fun i m nx => LayInv c n x yr yc rA cst m₀ i m nx) W (fun _ h => h) (fun _ h => h) ?_ ?_ ?_ ?_ (by show IsRangeIter _ _ _ _ _; rw [hsz]; simpa using Heap.get?_push_size _ rfl) (F.push _) (fun p hp => ⟨Heap.get?_push_of_some _ (N₀ p hp).1, (N₀ p hp).2⟩)
    ⟨rowA, nones7, kc, [], kr, cst, rfl, fun _ h => h, a1, a2, a3, fun _ _ h => (nomatch h), lay_start hc0 hc6 hn1, rfl, Nat.le_refl _, hrow, fun _ _ _ _ => rfl⟩ ?_ ?_
  · intro i h hi b hb
    rw [List.mem_singleton.mp hb]
    exact ⟨_, hi⟩
  · intro hm
    exact absurd F.ns.lt ((List.mem_singleton.mp hm) ▸ Nat.lt_irrefl _)
  · intro b hb
    rw [List.mem_singleton.mp hb]
    exact next_is_new F
  · intro p hp hI
    exact absurd (Heap.lt_size (N₀ p hp).1) ((List.mem_singleton.mp hI) ▸ Nat.lt_irrefl _)
  · rintro i v m₁ nx h tk own hi ⟨_, t, rfl⟩ hoff ⟨rowA, cur, kc, refs, k, tl, rfl, b1, b2, b3, b4, b5, b6, b6', b6'', b7, b8⟩ F₁ N₁
    have hin : (i : Int) < n := by omega
    have e1 : (1 : Int) + (i : Int) * 1 = 1 + (i : Int) := by omega
    rw [e1] at F₁
    have ec := col_eq (i := i) hN hc
    have hoR : ∀ p ∈ own, p.1 ≠ rowA := fun p hp => hoff p hp _ (.head _)
    have hoA : ∀ p ∈ own, p.1 ≠ rA := fun p hp => hoff p hp _ (.tail _ (.head _))
    have hoT : ∀ p ∈ own, ∀ q ∈ tl, p.1 ≠ q.1 := fun p hp q hq => hoff p hp _ (.tail _ (.tail _ (List.mem_map.mpr ⟨q, hq, rfl⟩)))
    have em : (fun y => if y = x then some (Value.int (1 + (i : Int)) t) else m₁ y) = (fun y => if y = x then some (.int (1 + (i : Int)) t) else if y = yr then some (.ref rowA) else if y = yc then m₁ y else m₀ y) := by
      funext z
      by_cases h1 : z = x
      · rw [if_pos h1, if_pos h1]
      · rw [if_neg h1, if_neg h1]
        by_cases h2 : z = yr
        · subst h2
          rw [if_pos rfl, b7]
        · rw [if_neg h2]
          by_cases h3 : z = yc
          · rw [if_pos h3]
          · rw [if_neg h3]
            exact b8 z h1 h2 h3
    rw [em] at F₁
    have sub : ∀ p ∈ (lenA, lenO) :: (tl ++ own), p ∈ tl ++ own := fun p hp => (List.mem_cons.mp hp).elim (fun h => List.mem_append.mpr (.inl (b1 p (h ▸ he)))) id
    have N₂ : News h₀ env.locals h ((rowA, listOf (List.toArray cur) kc) :: (rA, listOf (List.toArray refs) k) :: ((lenA, lenO) :: (tl ++ own))) := fun p hp => by
      rcases List.mem_cons.mp hp with rfl | hp
      · exact N₁ _ (.head _)
      rcases List.mem_cons.mp hp with rfl | hp
      · exact N₁ _ (.tail _ (.head _))
      exact N₁ _ (.tail _ (.tail _ (sub p hp)))
    have r1 : ∀ p ∈ (lenA, lenO) :: (tl ++ own), p.1 ≠ rowA := fun p hp => (List.mem_append.mp (sub p hp)).elim (b3 p) (hoR p)
    have r2 : ∀ p ∈ (lenA, lenO) :: (tl ++ own), p.1 ≠ rA := fun p hp => (List.mem_append.mp (sub p hp)).elim (b4 p) (hoA p)
    refine wpAny_mono (turn i ((c + i) % 7) rowA cur kc refs k (tl ++ own) m₁ t h tk hin (Eqn.of ec) (by omega) (by omega) b6' b6'' b2 (Ne.symm b2) (fun p hp => by
        rcases List.mem_cons.mp hp with rfl | hp
        · exact b2
        · exact r1 p hp) r2 F₁ N₂) (fun f s₂ hp => ?_) fun _ _ e => e
    obtain ⟨rfl, h', tk', m', t', rfl, F', hm', hor⟩ := hp
    have low : ∀ p ∈ tl ++ own, p ∈ (lenA, lenO) :: (tl ++ own) := fun p hp => .tail _ hp
    rcases hor with ⟨g1, g2, g3, g4⟩ | ⟨g1, newA, k', k₂, g2, g3, g4, g5, g6⟩
    · refine ⟨h', tk', m', _, (rowA, listOf (cur.set ((c + (i : Int)) % 7).toNat (.int (1 + (i : Int)) t')).toArray kc) :: (rA, listOf (List.toArray refs) k) :: tl, rfl, F', g4, fun p hp => ?_, fun p hp => .tail _ (.tail _ (low p (List.mem_append.mpr (.inr hp)))), fun p hp b hb => hoff p hp b (by simpa using hb), ?_⟩
      · rcases List.mem_cons.mp hp with rfl | hp
        · exact .head _
        rcases List.mem_cons.mp hp with rfl | hp
        · exact .tail _ (.head _)
        exact .tail _ (.tail _ (low p (List.mem_append.mpr (.inl hp))))
      · exact ⟨rowA, _, kc, refs, k, tl, rfl, b1, b2, b3, b4, b5, lay_stay b6 hin rfl g1 g2, by rw [List.length_set]; exact b6', by omega, g3, hm'⟩
    · obtain ⟨q1, q2⟩ := lay_next (t := t') b6 hin rfl g1
      have lt : ∀ p ∈ tl ++ own, p.1 < newA := fun p hp => g6 p (low p hp)
      have tr : ∀ p ∈ (rowA, listOf (cur.set ((c + (i : Int)) % 7).toNat (.int (1 + (i : Int)) t')).toArray kc) :: tl, p.1 ≠ rA ∧ p.1 < newA := fun p hp => by
        rcases List.mem_cons.mp hp with rfl | hp
        · exact ⟨Ne.symm b2, g4⟩
        · exact ⟨b4 p hp, lt p (List.mem_append.mpr (.inl hp))⟩
      refine ⟨h', tk', m', _, (newA, listOf (List.toArray nones7) k₂) :: (rA, listOf (refs ++ [Value.ref rowA]).toArray k') :: ((rowA, listOf (cur.set ((c + (i : Int)) % 7).toNat (.int (1 + (i : Int)) t')).toArray kc) :: tl), rfl, F', g3, fun p hp => ?_, fun p hp => .tail _ (.tail _ (.tail _ (low p (List.mem_append.mpr (.inr hp))))), fun p hp b hb => ?_, ?_⟩
      · rcases List.mem_cons.mp hp with rfl | hp
        · exact .head _
        rcases List.mem_cons.mp hp with rfl | hp
        · exact .tail _ (.tail _ (.head _))
        rcases List.mem_cons.mp hp with rfl | hp
        · exact .tail _ (.head _)
        exact .tail _ (.tail _ (.tail _ (low p (List.mem_append.mpr (.inl hp)))))
      · obtain ⟨q, hq, rfl⟩ := List.mem_map.mp hb
        rcases List.mem_cons.mp hq with rfl | hq
        · exact Nat.ne_of_lt (lt p (List.mem_append.mpr (.inr hp)))
        rcases List.mem_cons.mp hq with rfl | hq
        · exact hoA p hp
        rcases List.mem_cons.mp hq with rfl | hq
        · exact hoR p hp
        exact hoT p hp q hq
      · refine ⟨newA, nones7, k₂, refs ++ [Value.ref rowA], k', _, rfl, fun p hp => .tail _ (b1 p hp), Nat.ne_of_lt g5, fun p hp => Nat.ne_of_lt (tr p hp).2, fun p hp => (tr p hp).1, ?_, ?_, rfl, ?_, g2, hm'⟩
        · exact (b5.mono fun p hp => .tail _ hp).snoc (.head _) q2
        · rw [List.length_append]
          exact q1
        · rw [List.length_append]
          show refs.length + 1 ≤ i + 1
          omega
  · rintro m₁ nx h tk ⟨rowA, cur, kc, refs, k, tl, rfl, b1, b2, b3, b4, b5, b6, b6', b6'', b7, b8⟩ F₁ N₁
    obtain ⟨o1, o2⟩ := b6.over (by omega)
    have em : m₁ = (fun y => if y = x then m₁ y else if y = yr then some (.ref rowA) else if y = yc then m₁ y else m₀ y) := by
      funext z
      by_cases h1 : z = x
      · rw [if_pos h1]
      · rw [if_neg h1]
        by_cases h2 : z = yr
        · subst h2
          rw [if_pos rfl, b7]
        · rw [if_neg h2]
          by_cases h3 : z = yc
          · rw [if_pos h3]
          · rw [if_neg h3]
            exact b8 z h1 h2 h3
    rw [em] at F₁
    have N₂ : News h₀ env.locals h ((rA, listOf (List.toArray refs) k) :: (cst ++ tl)) := fun p hp => by
      rcases List.mem_cons.mp hp with rfl | hp
      · exact N₁ _ (.tail _ (.head _))
      rcases List.mem_append.mp hp with hp | hp
      · exact N₁ _ (.tail _ (.tail _ (b1 p hp)))
      · exact N₁ _ (.tail _ (.tail _ hp))
    exact done rowA refs k tl m₁ h tk b1 o1 o2 (fun h₁ L₁ g₁ news hs N => (b5.mono fun p hp => hs p (.tail _ hp)).reads N (hs _ (.head _))) F₁ N₂
end
theorem first_pos {Y S n : Int} {xs : List Int} (h : Y ≤ n) (h2 : n ≤ Y + 8) : S + 365 * (n - Y) + (List.take (if 8 < n - Y then 8 else n - Y).toNat xs).sum + (if n - Y - 8 > 0 then n - Y - 8 else 0).fdiv 4 = firstZ Y S xs n := by
  rw [if_neg (show ¬ 8 < n - Y by omega), if_neg (show ¬ n - Y - 8 > 0 by omega)]
  unfold firstZ
  rw [if_pos h, Int.zero_fdiv, Int.add_zero]
theorem first_neg {Y S n : Int} {xs : List Int} (h : ¬ Y ≤ n) (h2 : Y - 8 ≤ n) (hl : 16 ≤ xs.length) :
    S + 365 * (n - Y) - (List.take (min (8 + if 8 < -(n - Y) then 8 else -(n - Y)).toNat xs.length - 8) (List.drop 8 xs)).sum - (if -(n - Y) - 8 > 0 then -(n - Y) - 8 else 0).fdiv 4 = firstZ Y S xs n := by
  rw [if_neg (show ¬ 8 < -(n - Y) by omega), if_neg (show ¬ -(n - Y) - 8 > 0 by omega)]
  unfold firstZ
  rw [if_neg h, Int.zero_fdiv, Int.sub_zero]
  have e : min (8 + -(n - Y)).toNat xs.length - 8 = (Y - n).toNat := by omega
  rw [e]
def EqF7 (w : World) (ea : Addr) (news : List (Addr × Obj)) (f : Int → Int) (lo hi : Int) : Prop :=
  (∃ oc od fd sl, (ea, (⟨oc, od, .func fd, sl⟩ : Obj)) ∈ news) ∧ ∀ big, (∀ p ∈ news, p ∈ big) → ∀ (n : Int) (t : Tok), lo ≤ n → n ≤ hi → Cl w 7 ea [.int n t] big (RetI big (f n))
theorem EqF7.up {w : World} {ea : Addr} {news : List (Addr × Obj)} {f : Int → Int} {lo hi : Int} (h : EqF7 w ea news f lo hi) : EqFun w ea news f lo hi :=
  ⟨h.1, fun big hb n t h1 h2 _ _ _ _ _ _ _ _ _ _ _ _ _ _ _ _ _ _ _ _ _ _ B F X N T hk hd hu hret => h.2 big hb n t h1 h2 B F X N T hk (by omega) (by omega) hret⟩
theorem EqF7.at {w : World} {ea : Addr} {news big : List (Addr × Obj)} {f : Int → Int} {lo hi : Int} {h₀ h : Heap} {L : Addr} (e : EqF7 w ea news f lo hi) (N : News h₀ L h big) (hs : ∀ p ∈ news, p ∈ big) : FnAt ea h :=
  let ⟨⟨oc, od, fd, sl, hm⟩, _⟩ := e
  ⟨oc, od, fd, sl, (N _ (hs _ hm)).1⟩
theorem EqF7.call {w : World} {ea : Addr} {news big : List (Addr × Obj)} {f : Int → Int} {lo hi n : Int} {t : Tok} (h : EqF7 w ea news f lo hi) (hs : ∀ p ∈ news, p ∈ big) (h1 : lo ≤ n) (h2 : n ≤ hi) : Cl w 7 ea [.int n t] big (RetI big (f n)) := h.2 big hs n t h1 h2
theorem EqF7.wide {w : World} {ea : Addr} {news big : List (Addr × Obj)} {f : Int → Int} {lo hi : Int} (h : EqF7 w ea news f lo hi) (hs : ∀ p ∈ news, p ∈ big) : EqF7 w ea big f lo hi :=
  ⟨let ⟨a, b, c, d, hm⟩ := h.1; ⟨a, b, c, d, hs _ hm⟩, fun b hb n t => h.2 b (fun p hp => hb p (hs p hp)) n t⟩
theorem eqfun_first {w : World} {ea cy cs co oa : Addr} {news : List (Addr × Obj)} {Y S : Int} {qual : Str} {params : Arguments} {body : List Stmt} {scope : Scope} {clos : List (Str × Addr)} {doc pm : Value} {c' : Addr} {ctv : Value}
    {oy os oo oc : Obj} {ty ts tq : Tok} {vs : List Value} {xs : List Int} {vs' : Array Value} {h₀ h : Heap} {L : Addr} (_N : News h₀ L h news) (_X : (hd.heap_39 w.params).In h₀)
    (hm : (ea, fnMade (Str.ofString "first") qual params body scope clos doc pm c' ctv) ∈ news)
    (_l1 : clos.lookup (Str.ofString "year") = some cy) (h1 : (cy, oy) ∈ news) (_d1 : oy.data = .cell (some (.int Y ty)))
    (_l2 : clos.lookup (Str.ofString "start") = some cs) (h2 : (cs, os) ∈ news) (_d2 : os.data = .cell (some (.int S ts)))
    (_l3 : clos.lookup (Str.ofString "odd") = some co) (h3 : (co, oo) ∈ news) (_d3 : oo.data = .cell (some (.ref oa))) (h4 : (oa, W.listOf vs.toArray 0) ∈ news) (_hi : IntsAre vs xs)
    (h5 : (c', oc) ∈ news) (_d5 : oc.data = .fields vs') (_d6 : vs'[1]? = some (.str qual tq))
    (hw : ∀ (big : List (Addr × Obj)) (n : Int) (t : Tok), Y - 8 ≤ n → n ≤ Y + 8 →
      Cl w 7 ea [.int n t] ((ea, fnMade (Str.ofString "first") qual params body scope clos doc pm c' ctv) :: (cy, oy) :: (cs, os) :: (co, oo) :: (oa, W.listOf vs.toArray 0) :: (c', oc) :: big) (RetI big (firstZ Y S xs n))) :
    EqF7 w ea news (firstZ Y S xs) (Y - 8) (Y + 8) := by
  refine ⟨⟨_, _, _, _, hm⟩, ?_⟩
  intro big hb n t hlo hhi p loose mean mg mb dp un gd cn cs' a ccd cl outer A₀ base h₀ L m s Q E B F X N T hk hd hu hret
  refine hw big n t hlo hhi B F X (fun p hp => ?_) T hk hd hu hret
  rcases List.mem_cons.mp hp with rfl | hp
  · exact N _ (hb _ hm)
  rcases List.mem_cons.mp hp with rfl | hp
  · exact N _ (hb _ h1)
  rcases List.mem_cons.mp hp with rfl | hp
  · exact N _ (hb _ h2)
  rcases List.mem_cons.mp hp with rfl | hp
  · exact N _ (hb _ h3)
  rcases List.mem_cons.mp hp with rfl | hp
  · exact N _ (hb _ h4)
  rcases List.mem_cons.mp hp with rfl | hp
  · exact N _ (hb _ h5)
  exact N _ hp
theorem eqfun_eve {w : World} {ea fa cf : Addr} {news : List (Addr × Obj)} {f : Int → Int} {lo hi : Int} {qual : Str} {params : Arguments} {body : List Stmt} {scope : Scope} {clos : List (Str × Addr)} {doc pm : Value} {c' : Addr} {ctv : Value}
    {of oc : Obj} {tq : Tok} {vs' : Array Value} (hF : EqF7 w fa news f lo hi)
    (hm : (ea, fnMade (Str.ofString "eve") qual params body scope clos doc pm c' ctv) ∈ news)
    (_l1 : clos.lookup (Str.ofString "first") = some cf) (h1 : (cf, of) ∈ news) (_d1 : of.data = .cell (some (.ref fa)))
    (h5 : (c', oc) ∈ news) (_d5 : oc.data = .fields vs') (_d6 : vs'[1]? = some (.str qual tq))
    (hw : ∀ (big : List (Addr × Obj)) (n : Int) (t : Tok), EqF7 w fa big f lo hi → lo ≤ n → n ≤ hi →
      Cl w 9 ea [.int n t] ((ea, fnMade (Str.ofString "eve") qual params body scope clos doc pm c' ctv) :: (cf, of) :: (c', oc) :: big) (RetI big (f n - 1))) :
    EqFun w ea news (fun n => f n - 1) lo hi := by
  refine ⟨⟨_, _, _, _, hm⟩, ?_⟩
  intro big hb n t hlo hhi p loose mean mg mb dp un gd cn cs' a ccd cl outer A₀ base h₀ L m s Q E B F X N T hk hd hu hret
  refine hw big n t (hF.wide hb) hlo hhi B F X (fun p hp => ?_) T hk hd hu hret
  rcases List.mem_cons.mp hp with rfl | hp
  · exact N _ (hb _ hm)
  rcases List.mem_cons.mp hp with rfl | hp
  · exact N _ (hb _ h1)
  rcases List.mem_cons.mp hp with rfl | hp
  · exact N _ (hb _ h5)
  exact N _ hp
theorem with_first {P : Prop} {w : World} {ea cy cs co oa : Addr} {news : List (Addr × Obj)} {Y S : Int} {qual : Str} {params : Arguments} {body : List Stmt} {scope : Scope} {clos : List (Str × Addr)} {doc pm : Value} {c' : Addr} {ctv : Value}
    {oy os oo oc : Obj} {ty ts tq : Tok} {vs : List Value} {xs : List Int} {vs' : Array Value} {h₀ h : Heap} {L : Addr} (_N : News h₀ L h news) (_X : (hd.heap_39 w.params).In h₀)
    (hm : (ea, fnMade (Str.ofString "first") qual params body scope clos doc pm c' ctv) ∈ news)
    (_l1 : clos.lookup (Str.ofString "year") = some cy) (h1 : (cy, oy) ∈ news) (_d1 : oy.data = .cell (some (.int Y ty)))
    (_l2 : clos.lookup (Str.ofString "start") = some cs) (h2 : (cs, os) ∈ news) (_d2 : os.data = .cell (some (.int S ts)))
    (_l3 : clos.lookup (Str.ofString "odd") = some co) (h3 : (co, oo) ∈ news) (_d3 : oo.data = .cell (some (.ref oa))) (h4 : (oa, W.listOf vs.toArray 0) ∈ news) (_hi : IntsAre vs xs)
    (h5 : (c', oc) ∈ news) (_d5 : oc.data = .fields vs') (_d6 : vs'[1]? = some (.str qual tq))
    (hw : ∀ (big : List (Addr × Obj)) (n : Int) (t : Tok), Y - 8 ≤ n → n ≤ Y + 8 →
      Cl w 7 ea [.int n t] ((ea, fnMade (Str.ofString "first") qual params body scope clos doc pm c' ctv) :: (cy, oy) :: (cs, os) :: (co, oo) :: (oa, W.listOf vs.toArray 0) :: (c', oc) :: big) (RetI big (firstZ Y S xs n)))
    (h9 : EqF7 w ea news (firstZ Y S xs) (Y - 8) (Y + 8) → P) : P :=
  h9 (eqfun_first _N _X hm _l1 h1 _d1 _l2 h2 _d2 _l3 h3 _d3 h4 _hi h5 _d5 _d6 hw)
theorem with_eve {P : Prop} {w : World} {ea fa cf : Addr} {news : List (Addr × Obj)} {f : Int → Int} {lo hi : Int} {qual : Str} {params : Arguments} {body : List Stmt} {scope : Scope} {clos : List (Str × Addr)} {doc pm : Value} {c' : Addr} {ctv : Value}
    {of oc : Obj} {tq : Tok} {vs' : Array Value} (hF : EqF7 w fa news f lo hi)
    (hm : (ea, fnMade (Str.ofString "eve") qual params body scope clos doc pm c' ctv) ∈ news)
    (_l1 : clos.lookup (Str.ofString "first") = some cf) (h1 : (cf, of) ∈ news) (_d1 : of.data = .cell (some (.ref fa)))
    (h5 : (c', oc) ∈ news) (_d5 : oc.data = .fields vs') (_d6 : vs'[1]? = some (.str qual tq))
    (hw : ∀ (big : List (Addr × Obj)) (n : Int) (t : Tok), EqF7 w fa big f lo hi → lo ≤ n → n ≤ hi →
      Cl w 9 ea [.int n t] ((ea, fnMade (Str.ofString "eve") qual params body scope clos doc pm c' ctv) :: (cf, of) :: (c', oc) :: big) (RetI big (f n - 1)))
    (h9 : EqFun w ea news (fun n => f n - 1) lo hi → P) : P :=
  h9 (eqfun_eve hF hm _l1 h1 _d1 h5 _d5 _d6 hw)
theorem with_good {P : Prop} {w : World} {fa ea : Addr} {news : List (Addr × Obj)} {Y S : Int} {xs : List Int} (hF : EqF7 w fa news (firstZ Y S xs) (Y - 8) (Y + 8)) (hE : EqFun w ea news (fun n => firstZ Y S xs n - 1) (Y - 8) (Y + 8)) (hx : ∀ v ∈ xs, 0 ≤ v ∧ v ≤ 1)
    (h : ∀ f, Good Y S f → (365 ≤ f (Y + 1) - S ∧ f (Y + 1) - S ≤ 366) → EqFun w fa news f (Y - 8) (Y + 8) → EqFun w ea news (fun n => f n - 1) (Y - 8) (Y + 8) → P) : P :=
  have hg := first_good (Y := Y) (S := S) hx
  h _ hg (by have := hg.step Y (by omega) (by omega); have := hg.val; omega) hF.up hE
theorem odd_01 {l : List Int} : ∀ v ∈ List.map (fun k : Int => k.fmod 2) l ++ [0, 0, 0, 1, 0, 0, 0, 1, 0, 0, 0, 1, 0, 0, 0, 1], 0 ≤ v ∧ v ≤ 1 := by
  intro v hv
  rcases List.mem_append.mp hv with h | h
  · obtain ⟨k, _, rfl⟩ := List.mem_map.mp h
    rw [fm2]
    omega
  · simp at h
    omega
theorem with_bundle {G : Prop} {w : World} {ea fa : Addr} {news : List (Addr × Obj)} {Y S P mm dd : Int} {f : Int → Int} (hm1 : 1 ≤ mm) (hm2 : mm ≤ 12) (hd : dd = P + 1 - mZ mm) (hd1 : 1 ≤ dd) (ht : ¬ (pLens (f (Y + 1) - S - 336)).getD (mm - 1).toNat 0 < dd)
    (hE : EqFun w ea news (fun n => f n - 1) (Y - 8) (Y + 8)) (hF : EqFun w fa news f (Y - 8) (Y + 8))
    (hg : Good Y S f) (hL : 365 ≤ f (Y + 1) - S ∧ f (Y + 1) - S ≤ 366) (hS : janZ (Y + 1) - 306 + 13 ≤ S ∧ S ≤ janZ (Y + 1) - 306 + 27) (hY : -2000 ≤ Y ∧ Y ≤ 10000) (hP : 0 ≤ P ∧ P < f (Y + 1) - S)
    (h : ∀ gy gm gd c, Bundle w ea fa news Y S P mm dd (decide (f (Y + 1) - S = 366)) gy gm gd → Eqn (mlZ mm (decide (f (Y + 1) - S = 366))) ((pLens (f (Y + 1) - S - 336)).getD (mm - 1).toNat 0) → 29 ≤ (pLens (f (Y + 1) - S - 336)).getD (mm - 1).toNat 0 → (pLens (f (Y + 1) - S - 336)).getD (mm - 1).toNat 0 ≤ 31 →
      Eqn (((S + mZ mm) % 7 + 1).fmod 7) c → 0 ≤ c → c ≤ 6 → S + P - dd + 1 = S + mZ mm → 1 ≤ mm → mm ≤ 12 → G) : G := by
  obtain ⟨gy, gm, gd, hB⟩ := bundle hE hF hg hS hY hP hm1 hm2 hd hd1 (p_end hm1 hm2 ht) rfl
  have hr := pl_range hm1 hm2 (b := f (Y + 1) - S - 336) (by omega)
  have hc := fm7 ((S + mZ mm) % 7 + 1)
  exact h gy gm gd (((S + mZ mm) % 7 + 1) % 7) hB (Eqn.of (pl_ml hm1 hm2 hL)) hr.1 hr.2 (Eqn.of hc) (by omega) (by omega) (by omega) hm1 hm2
theorem Bundle.b7 {w : World} {ea fa : Addr} {news : List (Addr × Obj)} {Y S P mm dd : Int} {b : Bool} {gy gm gd : Int} (h : Bundle w ea fa news Y S P mm dd b gy gm gd) : ExIs106 w ea news (2 * (S + P) - 1) (Y - 621) (S - 2) := h.a7
theorem fmod_range (a : Int) {k : Int} (hk : 0 < k) : 0 ≤ a.fmod k ∧ a.fmod k < k := by
  rw [Int.fmod_eq_emod_of_nonneg _ (Int.le_of_lt hk)]
  exact ⟨Int.emod_nonneg _ (Int.ne_of_gt hk), Int.emod_lt_of_pos _ hk⟩
section
variable {M : Model} {A : Around} {E : Value → Shared → Prop} {s : Shared} {env : Env} {x : Str} {t : Tok} {Q : Unit → Shared → Prop} {v : Int}
theorem gen_year (h : ∀ Y : Int, -2000 ≤ Y ∧ Y ≤ 10000 → wpAny M A (storeName env x (.int Y t)) Q E s) : wpAny M A (storeName env x (.int (Int.fmod v 12001 - 2000) t)) Q E s :=
  h _ (by have := fmod_range (k := 12001) v (by decide); omega)
theorem gen_place {k : Int} (hk : 0 < k) (h : ∀ P : Int, 0 ≤ P ∧ P < k → wpAny M A (storeName env x (.int P t)) Q E s) : wpAny M A (storeName env x (.int (Int.fmod v k) t)) Q E s :=
  h _ (fmod_range v hk)
theorem gen_start {z : Int} (h : ∀ S : Int, z - 306 + 13 ≤ S ∧ S ≤ z - 306 + 27 → wpAny M A (storeName env x (.int S t)) Q E s) : wpAny M A (storeName env x (.int (z - 306 + 13 + Int.fmod v 15) t)) Q E s :=
  h _ (by have := fmod_range (k := 15) v (by decide); omega)
end
local macro_rules | `(tactic| walk_at "call ref") => `(tactic| k_extra "stop")
local macro_rules | `(tactic| walk_at "call ref") => `(tactic| k_dflt (refine' Is120.call ?mnf ?mnx ?mns ?mnB ?mnF ?mnX ?mnN ?mnT ?mnk ?mnd ?mnu ?_; (case mnx => with_reducible assumption); (case mnf => with_reducible assumption); (case mnB => k_asm); (case mnF => k_asm); (case mnX => k_asm); (case mnN => k_asm); (case mns => (intro p hp; repeat (first | exact hp | refine List.mem_cons_of_mem _ ?_))); (case mnT => k_asm); (case mnk => first | exact rfl | assumption); (case mnd => ktr_room); (case mnu => ktr_units); intro q9 t9 u9 v9 h9 tk9 F9 N9 l9; (try dsimp only); (try k_fold)))
local macro_rules | `(tactic| walk_at "call ref") => `(tactic| k_dflt (refine' Is113.call ?mnf ?mns ?mnB ?mnF ?mnX ?mnN ?mnT ?mnk ?mnd ?mnu ?_; (case mnf => with_reducible assumption); (case mnB => k_asm); (case mnF => k_asm); (case mnX => k_asm); (case mnN => k_asm); (case mns => (intro p hp; repeat (first | exact hp | refine List.mem_cons_of_mem _ ?_))); (case mnT => k_asm); (case mnk => first | exact rfl | assumption); (case mnd => ktr_room); (case mnu => ktr_units); intro x9 t9 h9 tk9 hx9 F9 N9; (try dsimp only); (try k_fold)))
local macro_rules | `(tactic| walk_at "call ref") => `(tactic| k_dflt (refine' Is92.call ?mnf ?mns ?mnB ?mnF ?mnX ?mnN ?mnT ?mnk ?mnd ?mnu ?_; (case mnf => with_reducible assumption); (case mnB => k_asm); (case mnF => k_asm); (case mnX => k_asm); (case mnN => k_asm); (case mns => (intro p hp; repeat (first | exact hp | refine List.mem_cons_of_mem _ ?_))); (case mnT => k_asm); (case mnk => first | exact rfl | assumption); (case mnd => ktr_room); (case mnu => ktr_units); intro h9 tk9 F9 N9; (try dsimp only); (try k_fold)))
local macro_rules | `(tactic| walk_at "call ref") => `(tactic| k_dflt (refine' ExIs106.call ?mnf ?mnx ?mns ?mnB ?mnF ?mnX ?mnN ?mnT ?mnk ?mnd ?mnu ?_; (case mnx => with_reducible assumption); (case mnf => with_reducible assumption); (case mnB => k_asm); (case mnF => k_asm); (case mnX => k_asm); (case mnN => k_asm); (case mns => (intro p hp; repeat (first | exact hp | refine List.mem_cons_of_mem _ ?_))); (case mnT => k_asm); (case mnk => first | exact rfl | assumption); (case mnd => ktr_room); (case mnu => ktr_units); intro q9 t9 u9 h9 tk9 F9 N9 l9; (try dsimp only); (try k_fold)))
local macro_rules | `(tactic| walk_at "call ref") => `(tactic| k_dflt (refine' fromg_w ?mnv ?mn1 ?mn2 ?mnf ?mns ?mnB ?mnF ?mnX ?mnN ?mnT ?mnk ?mnd ?mnu ?_; (case mnf => with_reducible assumption); (case mnv => with_reducible assumption); (case mn1 => with_reducible assumption); (case mn2 => with_reducible assumption); (case mnB => k_asm); (case mnF => k_asm); (case mnX => k_asm); (case mnN => k_asm); (case mns => (intro p hp; repeat (first | exact hp | refine List.mem_cons_of_mem _ ?_))); (case mnT => k_asm); (case mnk => first | exact rfl | assumption); (case mnd => ktr_room); (case mnu => ktr_units); intro q9 t9 u9 v9 h9 tk9 F9 N9 l9; (try dsimp only); (try k_fold)))
local macro_rules | `(tactic| walk_at "call ref") => `(tactic| k_dflt (refine' tog_w ?mnf ?mng ?mnv ?mn1 ?mn2 ?mns ?mnB ?mnF ?mnX ?mnN ?mnT ?mnk ?mnd ?mnu ?_; (case mnf => with_reducible assumption); (case mng => with_reducible assumption); (case mnv => with_reducible assumption); (case mn1 => with_reducible assumption); (case mn2 => with_reducible assumption); (case mnB => k_asm); (case mnF => k_asm); (case mnX => k_asm); (case mnN => k_asm); (case mns => (intro p hp; repeat (first | exact hp | refine List.mem_cons_of_mem _ ?_))); (case mnT => k_asm); (case mnk => first | exact rfl | assumption); (case mnd => ktr_room); (case mnu => ktr_units); intro q9 t9 u9 v9 h9 tk9 F9 N9 l9; (try dsimp only); (try k_fold)))
local macro_rules | `(tactic| walk_at "call ref") => `(tactic| k_dflt (refine' mlen_e ?mne ?mnf ?mn1 ?mn2 ?mns ?mnB ?mnF ?mnX ?mnN ?mnT ?mnk ?mnd ?mnu ?_; (case mne => with_reducible assumption); (case mnf => with_reducible assumption); (case mn1 => omega); (case mn2 => omega); (case mnB => k_asm); (case mnF => k_asm); (case mnX => k_asm); (case mnN => k_asm); (case mns => (intro p hp; repeat (first | exact hp | refine List.mem_cons_of_mem _ ?_))); (case mnT => k_asm); (case mnk => first | exact rfl | assumption); (case mnd => ktr_room); (case mnu => ktr_units); intro t9 h9 tk9 F9 N9; (try dsimp only); (try k_fold)))
local macro_rules | `(tactic| walk_at "call ref") => `(tactic| k_dflt (refine' lawdate_cl ?mnv ?mnn ?mnB ?mnF ?mnX ?mnN ?mnT ?mnk ?mnd ?mnu ?_; (case mnn => with_reducible assumption); (case mnv => with_reducible assumption); (case mnB => k_asm); (case mnF => k_asm); (case mnX => k_asm); (case mnN => k_asm); (case mnT => k_asm); (case mnk => first | exact rfl | assumption); (case mnd => ktr_room); (case mnu => ktr_units); intro q9 t9 u9 v9 h9 tk9 F9 N9 l9; (try dsimp only); (try k_fold)))
local macro_rules | `(tactic| walk_at "call ref") => `(tactic| k_dflt (refine' monthcal_w ?mne ?mn1 ?mn2 ?mn3 ?mn4 ?mn5 ?mn6 ?mnc ?mn7 ?mn8 ?mn9 ?mn10 ?mnr1 ?mnr2 ?mns ?mnB ?mnF ?mnX ?mnN ?mnT ?mnk ?mnd ?mnu ?_; (case mn1 => with_reducible assumption); (case mn2 => with_reducible assumption); (case mne => with_reducible assumption); (case mn3 => with_reducible assumption); (case mn4 => with_reducible assumption); (case mn5 => with_reducible assumption); (case mn6 => with_reducible assumption); (case mnc => with_reducible assumption); (case mnr1 => with_reducible assumption); (case mnr2 => with_reducible assumption); (case mn7 => with_reducible assumption); (case mn8 => with_reducible assumption); (case mn9 => with_reducible assumption); (case mn10 => with_reducible assumption); (case mnB => k_asm); (case mnF => k_asm); (case mnX => k_asm); (case mnN => k_asm); (case mns => (intro p hp; repeat (first | exact hp | refine List.mem_cons_of_mem _ ?_))); (case mnT => k_asm); (case mnk => first | exact rfl | assumption); (case mnd => ktr_room); (case mnu => ktr_units); intro q9 h9 tk9 F9 N9 rd9; (try dsimp only); (try k_fold)))
local macro_rules | `(tactic| walk_at "compareOp Eq ref ref") => `(tactic| (k_here; k_dflt (refine' cal_eq ?r1 (RdL.use ?rd ?rn ?rs) ?hu ?_; (case r1 => with_reducible assumption); (case rd => with_reducible assumption); (case rn => k_asm); (case rs => (refine List.forall_mem_cons.mpr ⟨.head _, ?_⟩; intro p hp; repeat (first | exact hp | refine List.mem_cons_of_mem _ ?_))); (case hu => ke_room))))
local macro_rules | `(tactic| walk_at "subscriptTail Name Constant ref int") => `(tactic| (k_here; k_dflt (refine' item_tupleT ?t ?a ?b ?c ?d ?_; (case t => exact News.isTup (by k_asm) (by k_mem)); (case a => decide); (case b => decide); (case c => rfl); (case d => rfl))))
local macro_rules | `(tactic| walk_at "setItem ref int") => `(tactic| (k_here; (with_reducible show wpAny _ _ (setItem (Value.ref _) (Value.int _ _) (Value.int _ _)) _ _ _); k_dflt (refine' set_any ?F ?N ?ne ?h0 ?h1 ?hl ?_; (case F => k_asm); (case N => k_asm); (case ne => with_reducible assumption); (case h0 => with_reducible assumption); (case h1 => omega); (case hl => with_reducible assumption)); intro h' F' N'))
local macro_rules | `(tactic| walk_at "call builtin:list.append") => `(tactic| (k_here; k_dflt (refine' append_any ?F ?N ?ne ?h0 ?hl ?_; (case F => k_asm); (case N => k_asm); (case ne => with_reducible assumption); (case h0 => with_reducible assumption); (case hl => omega)); intro h' F' N'))
local macro_rules | `(tactic| walk_at "storeName int") => `(tactic| k_extra "store")
local macro_rules | `(tactic| walk_at "call ref") => `(tactic| k_dflt (refine' EqF7.call ?mnf ?mns ?mnh5 ?mnh6 ?mnB ?mnF ?mnX ?mnN ?mnT ?mnk ?mnd ?mnu ?_; (case mnf => with_reducible assumption); (case mnB => k_asm); (case mnF => k_asm); (case mnX => k_asm); (case mnN => k_asm); (case mns => (intro p hp; first | exact hp | exact List.mem_cons_of_mem _ hp | exact List.mem_cons_of_mem _ (List.mem_cons_of_mem _ hp) | exact List.mem_cons_of_mem _ (List.mem_cons_of_mem _ (List.mem_cons_of_mem _ hp)) | exact List.mem_cons_of_mem _ (List.mem_cons_of_mem _ (List.mem_cons_of_mem _ (List.mem_cons_of_mem _ hp))))); (case mnh5 => omega); (case mnh6 => omega); (case mnT => k_asm); (case mnk => first | exact rfl | assumption); (case mnd => ktr_room); (case mnu => ktr_units); intro t9 h9 tk9 F9 N9; (try dsimp only); (try k_fold)))
local macro_rules | `(tactic| walk_at "callWith ref") => `(tactic| k_dflt (refine' callWith_F (EqF7.at ?mnf ?mnN ?mns) ?_ ?mn1 ?mn2; (case mnf => with_reducible assumption); (case mnN => k_asm); (case mns => (intro p hp; first | exact hp | exact List.mem_cons_of_mem _ hp | exact List.mem_cons_of_mem _ (List.mem_cons_of_mem _ hp) | exact List.mem_cons_of_mem _ (List.mem_cons_of_mem _ (List.mem_cons_of_mem _ hp)) | exact List.mem_cons_of_mem _ (List.mem_cons_of_mem _ (List.mem_cons_of_mem _ (List.mem_cons_of_mem _ hp))))); (case mn1 => exact rfl); (case mn2 => exact rfl)))
local macro_rules | `(tactic| walk_at "FnAt") => `(tactic| k_dflt (refine' EqF7.at ?mnf ?mnN ?mns; (case mnf => with_reducible assumption); (case mnN => k_asm); (case mns => (intro p hp; first | exact hp | exact List.mem_cons_of_mem _ hp | exact List.mem_cons_of_mem _ (List.mem_cons_of_mem _ hp) | exact List.mem_cons_of_mem _ (List.mem_cons_of_mem _ (List.mem_cons_of_mem _ hp)) | exact List.mem_cons_of_mem _ (List.mem_cons_of_mem _ (List.mem_cons_of_mem _ (List.mem_cons_of_mem _ hp)))))))
local macro_rules | `(tactic| walk_at "callWith ref") => `(tactic| (k_here; k_dflt (refine' callWith_K ?k1 ?k2 ?_; (case k1 => k_asm); (case k2 => k_is); k_whole)))
local macro_rules | `(tactic| walk_at "eval Name") => `(tactic| (k_here; k_dflt (refine' nameX_L ?F ?v ?_ ?a ?b; (case F => k_asm); (case a => rfl); (case b => rfl); (case v => rfl); k_whole)))
local macro_rules | `(tactic| walk_at "call ref") => `(tactic| k_extra "own call")
set_option maxRecDepth 100000 in
set_option maxHeartbeats 8000000 in
theorem law_holds : PySem.Challenge.rw_ak5011_01.Holds := hd (by
  k_go0
  (all_goals try k_fold)
  k_with_none
  k_with "store" => (refine gen_year ?_; intro Y hY)
  k_with "store" => (refine gen_start ?_; intro S hS)
  k_with "own call" => (
    (with_reducible show wpAny _ _ (PySem.call (Value.ref _) [Value.int (Y + 1) _]) _ _ _)
    rename News _ _ _ _ => N0
    refine' with_first N0 (Y := Y) (S := S) ?ax ?ahm ?al1 ?ah1 ?ad1 ?al2 ?ah2 ?ad2 ?al3 ?ah3 ?ad3 ?ah4 ?ahi ?ah5 ?ad5 ?ad6 ?ahw ?_
    case ax => k_asm
    case ahm => k_dflt k_mem
    case al1 => k_dflt (exact rfl)
    case ah1 => k_dflt k_mem
    case ad1 => k_dflt assumption
    case al2 => k_dflt (exact rfl)
    case ah2 => k_dflt k_mem
    case ad2 => k_dflt assumption
    case al3 => k_dflt (exact rfl)
    case ah3 => k_dflt k_mem
    case ad3 => k_dflt assumption
    case ah4 => k_dflt k_mem
    case ahi => k_dflt assumption
    case ah5 => k_dflt k_mem
    case ad5 => k_dflt assumption
    case ad6 => k_dflt assumption
    case ahw =>
      intro big n t hlo hhi p loose mean mg mb dp un gd cn cs' a ccd cl outer A₀ base h₀ L m s Q E B F X N T hk hd hu hret
      refine wpAny_call ?_
      k_dflt (refine' code_nest ?z1 ?z2 ?z3 ?z4 ?z5 ?zA ?zF ?zK ?z6 ?z7 ?z8 ?z9 ?zB ?_ ?y2 ?y3 ?y4 ?y5; (case zA => exact rfl); (case zF => exact rfl); (case zK => assumption); (case z1 => k_asm); (case z2 => k_asm); (case z3 => k_asm); (case z4 => k_asm); (case z5 => k_asm); (case z6 => k_mem); (case z7 => exact codeRec_news (by k_asm) (by k_mem) (by assumption) (by assumption)); (case z8 => ktr_room); (case z9 => exact BindsTo.of_eq rfl); (case y5 => decide); (case zB => exact locs rfl); (case y2 => exact rfl); (case y3 => exact rfl); (case y4 => exact rfl); k_whole; intro g' L' h' FG' F' N' B' X' T'; (try dsimp only); (try k_lift B'); (try k_fold))
      k_dflt k_steps
      all_goals (refine cb_retI (fun t' h1 tk1 F1 N1 => hret t' h1 tk1 F1 (News.some_of N1 (fun p hp => ?_))) ?_ (by k_asm) (by k_asm))
      all_goals first
        | exact first_pos (by omega) (by omega)
        | exact first_neg (by omega) (by omega) (by simp only [List.length_append, List.length_cons, List.length_nil]; omega)
        | (repeat (first | exact hp | refine List.mem_cons_of_mem _ ?_))
    intro hF
    rename News _ _ _ _ => N0
    refine' with_eve hF ?bhm ?bl1 ?bh1 ?bd1 ?bh5 ?bd5 ?bd6 ?bhw ?_
    case bhm => k_dflt k_mem
    case bl1 => k_dflt (exact rfl)
    case bh1 => k_dflt k_mem
    case bd1 => k_dflt assumption
    case bh5 => k_dflt k_mem
    case bd5 => k_dflt assumption
    case bd6 => k_dflt assumption
    case bhw =>
      clear hF
      intro big n t hF7 hlo hhi p loose mean mg mb dp un gd cn cs' a ccd cl outer A₀ base h₀ L m s Q E B F X N T hk hd hu hret
      refine wpAny_call ?_
      k_dflt (refine' code_nest ?z1 ?z2 ?z3 ?z4 ?z5 ?zA ?zF ?zK ?z6 ?z7 ?z8 ?z9 ?zB ?_ ?y2 ?y3 ?y4 ?y5; (case zA => exact rfl); (case zF => exact rfl); (case zK => assumption); (case z1 => k_asm); (case z2 => k_asm); (case z3 => k_asm); (case z4 => k_asm); (case z5 => k_asm); (case z6 => k_mem); (case z7 => exact codeRec_news (by k_asm) (by k_mem) (by assumption) (by assumption)); (case z8 => ktr_room); (case z9 => exact BindsTo.of_eq rfl); (case y5 => decide); (case zB => exact locs rfl); (case y2 => exact rfl); (case y3 => exact rfl); (case y4 => exact rfl); k_whole; intro g' L' h' FG' F' N' B' X' T'; (try dsimp only); (try k_lift B'); (try k_fold))
      k_dflt k_steps
      all_goals first
        | (k_dflt (refine hret _ _ _ (by k_asm) (News.some_of (by k_asm) (fun p hp => ?_))); exact List.mem_cons_of_mem _ (List.mem_cons_of_mem _ (List.mem_cons_of_mem _ hp)))
    intro hE
    refine with_good hF hE odd_01 ?_
    clear hF hE
    intro f hGd hLen hF hE
    k_dflt (refine' EqFun.call hF ?xs (by omega) (by omega) ?xB ?xF ?xX ?xN ?xT ?xk ?xd ?xu ?_; (case xB => k_asm); (case xF => k_asm); (case xX => k_asm); (case xN => k_asm); (case xs => exact fun p hp => hp); (case xT => k_asm); (case xk => first | exact rfl | assumption); (case xd => ktr_room); (case xu => ktr_units); intro t9 h9 tk9 F9 N9; (try dsimp only); (try k_fold)))
  k_with "store" => (refine gen_place (k := f (Y + 1) - S) (by omega) ?_; intro P hP)
  k_with "exec While Compare cons nil" => ((have km1 : mZ 1 = 0 := (by unfold mZ; simp)); k_while (fun (_ : List Int) dd mm => 1 ≤ mm ∧ mm ≤ 12 ∧ dd = P + 1 - mZ mm ∧ 1 ≤ dd) (fun (_ : List Int) _ mm => (13 - mm).toNat) "day" "month")
  k_with "state" => k_dflt (exact p_turn (P := P) (b := f (Y + 1) - S - 336) (by omega) ⟨by assumption, by assumption, by assumption, by assumption⟩ (by assumption))
  k_with "own call" => (
    (with_reducible show wpAny _ _ (PySem.call (Value.ref 162) [Value.int (S + P) _]) _ _ _)
    (fail_if_success (rename Bundle _ _ _ _ _ _ _ _ _ _ _ _ _ => hB))
    k_dflt (refine' with_bundle (P := P) ?q1 ?q2 ?q3 ?q4 ?q5 hE hF hGd hLen hS hY hP ?_; (case q3 => assumption); (case q1 => assumption); (case q2 => assumption); (case q4 => assumption); (case q5 => assumption))
    intro gy gm gd cc hB hml hn1 hn2 hcc hc0 hc6 hN hmm1 hmm2
    dsimp only [pLens] at hml hn1 hn2
    repeat (rename _ ∧ _ => z; clear z)
    repeat (rename List.length _ = _ => z; clear z)
    have hB1 := hB.val
    have hB2 := hB.num
    have hB3 := hB.gy1
    have hB4 := hB.gy2
    have hB5 := hB.sp1
    have hB6 := hB.sp2
    have hB7 := hB.sm1
    have hB8 := hB.sm2
    have hC1 := hB.a1
    have hC2 := hB.a2
    have hC3 := hB.a3
    have hC4 := hB.a4
    have hC5 := hB.a5
    have hC6 := hB.a6
    have hC7 := hB.b7
    have hC8 := hB.a8
    k_dflt (refine' lawdate_cl hB1 hB2 ?xB ?xF ?xX ?xN ?xT ?xk ?xd ?xu ?_; (case xB => k_asm); (case xF => k_asm); (case xX => k_asm); (case xN => k_asm); (case xT => k_asm); (case xk => first | exact rfl | assumption); (case xd => ktr_room); (case xu => ktr_units); intro q9 t9 u9 v9 h9 tk9 F9 N9 l9; (try dsimp only); (try k_fold)))
  k_with "pyIter ref" => (
    (with_reducible show wpAny _ _ (PySem.pyIter (Value.ref _)) _ _ _)
    (rename Mine.Bundle _ _ _ _ _ _ _ _ _ _ _ _ _ => hB)
    (rename Fr _ _ _ _ => FL)
    (rename News _ _ _ _ => NL)
    (rename IsRange _ _ _ _ _ _ _ _ => rgL)
    k_dflt (refine' rows_loop (yr := Str.ofString "row") (yc := Str.ofString "column") ?lhl ?lhe ?lhh rgL ?ln1 hn2 hcc hc0 hc6 hN FL NL ?la1 ?la2 ?la3 ?lrow ?lxr ?lturn ?_; (case lhl => exact rfl); (case lhe => k_mem); (case lhh => exact rfl); (case ln1 => omega); (case la1 => k_ne); (case la2 => k_all); (case la3 => k_all); (case lrow => exact rfl); (case lxr => decide))
    case lturn =>
      revert hn2 hmm1 hmm2
      repeat (rename _ ∧ _ => z; clear z)
      repeat (rename _ ≤ _ => z; clear z)
      repeat (rename List.length _ = _ => z; clear z)
      repeat (rename IntsAre _ _ => z; clear z)
      intro hn2 hmm1 hmm2
      intro i col rowA cur kc refs k rest u t h tk hi hcol hq0 hq6 hcl hrl ne1 ne2 ne3 ne4 F N
      (try dsimp only at F)
      k_dflt k_steps
      all_goals first
        | (k_dflt (refine lay_end_next (by k_asm) (by k_asm) ?_ (by exact rfl) (by first | exact .inl (by assumption) | exact .inr (by assumption)) (by assumption)); (intro z z1 z2 z3; simp only [if_neg z1, if_neg z2, if_neg z3]))
        | (k_dflt (refine lay_end_stay (by k_asm) (by k_asm) ?_ (by exact rfl) (by assumption) (by assumption)); (intro z z1 z2 z3; simp only [if_neg z1, if_neg z2, if_neg z3]))
    intro rowA refs k tl u h tk hsub ho1 ho2 rdL F N
    simp only [List.cons_append, List.nil_append] at N
    (try dsimp only at F)
    have hD4 : Is92 _ _ tl _ _ := hC4.wide (fun p hp => hsub p (by repeat (first | exact hp | refine List.mem_cons_of_mem _ ?_)))
    have hD8 : Is113 _ _ tl _ _ _ _ := hC8.wide (fun p hp => hsub p (by repeat (first | exact hp | refine List.mem_cons_of_mem _ ?_))))
  k_steps)
end Mine
theorem PySem.Challenge.cw_ak5011_01_holds : PySem.Challenge.rw_ak5011_01.Holds :=
  Mine.law_holds
