import PyProof.Rows.All
import Wide.All
import OpenK.AllK
import Wide.FinOn
import PySem.Challenge.RW_bd6016_01
set_option Elab.async false
section
open PySem PySem.W PyProof.Rows
set_option maxRecDepth 100000
set_option maxHeartbeats 8000000
namespace EasterW
open_top hd for PySem.Challenge.rw_bd6016_01
end EasterW
end

section
open PySem PySem.Float64

set_option exponentiation.threshold 3000
set_option maxRecDepth 100000
namespace EasterW

theorem rep (M : Nat) (h1 : 1 ≤ M) (h2 : M ≤ 2 ^ 53) : ∃ k q, 2 ^ 52 < q ∧ q ≤ 2 ^ 53 ∧ q * 2 ^ k = M * 2 ^ 1074 := by
  by_cases hM : M = 1
  · subst hM
    exact ⟨1021, 2 ^ 53, by decide, by decide, by rw [← Nat.pow_add]⟩
  · have hne : M - 1 ≠ 0 := by omega
    have hlo := (Nat.le_log2 hne (k := (M - 1).log2)).mp (Nat.le_refl _)
    have hhi := (Nat.log2_lt hne (k := (M - 1).log2 + 1)).mp (Nat.lt_succ_self _)
    generalize (M - 1).log2 = j at *
    have hj : j < 53 := by
      have : 2 ^ j < 2 ^ 53 := by omega
      exact (Nat.pow_lt_pow_iff_right (by decide)).mp this
    refine ⟨1022 + j, M * 2 ^ (52 - j), ?_, ?_, ?_⟩
    · have : 2 ^ 52 = 2 ^ j * 2 ^ (52 - j) := by rw [← Nat.pow_add]; congr 1; omega
      rw [this]
      exact Nat.mul_lt_mul_of_pos_right (by omega) (Nat.two_pow_pos _)
    · have : 2 ^ 53 = 2 ^ (j + 1) * 2 ^ (52 - j) := by rw [← Nat.pow_add]; congr 1; omega
      rw [this]
      exact Nat.mul_le_mul_right _ (by omega)
    · rw [Nat.mul_assoc, ← Nat.pow_add]
      congr 2
      omega

theorem near_abs {n d t P : Nat} (hd : 0 < d) (hn : n + d < 2 ^ 53) (hP : 0 < P)
    (hrep : ∀ M, 1 ≤ M → M ≤ 2 ^ 53 → ∃ k q, 2 ^ 52 < q ∧ q ≤ 2 ^ 53 ∧ q * 2 ^ k = M * P)
    (hR : ∀ t', dist (n * P) (d * V t) ≤ dist (n * P) (d * V t')) : V t / P = n / d := by
  have hN := Nat.div_add_mod n d
  have hr := Nat.mod_lt n hd
  have hNle : n / d ≤ n := Nat.div_le_self n d
  generalize hq : n / d = N at *
  generalize n % d = r at *
  have key : N * P ≤ V t ∧ V t < (N + 1) * P := by
    constructor
    · by_cases h0 : N = 0
      · subst h0; rw [Nat.zero_mul]; exact Nat.zero_le _
      · obtain ⟨k, q, hq1, hq2, hqk⟩ := hrep N (by omega) (by omega)
        have hv := V_at (k := k) (q := q) hq2 (.inl (by omega))
        have := hR (k * 2 ^ 52 + q)
        rw [hv, hqk] at this
        have hW : n * P = d * (N * P) + r * P := by rw [← Nat.mul_assoc, ← Nat.add_mul, hN]
        refine Nat.le_of_not_lt fun hlt => ?_
        have h3 : d * V t < d * (N * P) := Nat.mul_lt_mul_of_pos_left hlt hd
        clear hqk hv hR hrep
        unfold dist at this
        omega
    · obtain ⟨k, q, hq1, hq2, hqk⟩ := hrep (N + 1) (by omega) (by omega)
      have hv := V_at (k := k) (q := q - 1) (by omega) (.inl (by omega))
      have := hR (k * 2 ^ 52 + (q - 1))
      rw [hv] at this
      refine Nat.lt_of_not_le fun hle => ?_
      rw [← hqk] at hle
      have e1 : (q - 1) * 2 ^ k + 2 ^ k = q * 2 ^ k := by
        rw [← Nat.succ_mul]; congr 1; omega
      have h4 : d * (q * 2 ^ k) ≤ d * V t := Nat.mul_le_mul_left d hle
      have h5 : d * ((q - 1) * 2 ^ k) + d * 2 ^ k = d * (q * 2 ^ k) := by rw [← e1, Nat.mul_add]
      have h6 : n * P + (d - r) * P = d * (q * 2 ^ k) := by
        rw [hqk, ← Nat.mul_assoc, ← Nat.add_mul, Nat.mul_add, Nat.mul_one]
        congr 1
        omega
      have h7 : 1 * P ≤ (d - r) * P := Nat.mul_le_mul_right _ (by omega)
      rw [Nat.one_mul] at h7
      have hk : 0 < 2 ^ k := Nat.two_pow_pos k
      have hdk : 0 < d * 2 ^ k := Nat.mul_pos hd hk
      have h8 : 2 * P ≤ d * 2 ^ k := by
        clear e1 hle hv hqk hR hrep
        generalize (d - r) * P = R at *
        generalize n * P = W at *
        generalize d * V t = X at *
        generalize d * (q * 2 ^ k) = Y at *
        generalize d * ((q - 1) * 2 ^ k) = Z at *
        generalize d * 2 ^ k = S at *
        unfold dist at this
        omega
      have h9 : 2 * P * q ≤ d * (N + 1) * P := by
        calc 2 * P * q ≤ d * 2 ^ k * q := Nat.mul_le_mul_right q h8
          _ = d * (q * 2 ^ k) := by ac_rfl
          _ = d * (N + 1) * P := by rw [hqk, Nat.mul_assoc]
      have h10 : 2 * q ≤ d * (N + 1) := by
        refine Nat.le_of_mul_le_mul_right (c := P) ?_ hP
        calc 2 * q * P = 2 * P * q := by ac_rfl
          _ ≤ _ := h9
      rw [Nat.mul_add, Nat.mul_one] at h10
      omega
  exact Nat.div_eq_of_lt_le key.1 key.2

theorem near {n d : Nat} (hd : 0 < d) (hn : n + d < 2 ^ 53) (hov : roundMag n d < infMag) : V (roundMag n d) / 2 ^ 1074 = n / d :=
  near_abs hd hn (Nat.two_pow_pos _) rep fun t' => (roundMag_right hd hov t').1

theorem frac_fits {n d : Nat} (hd : 0 < d) (hn : n + d < 2 ^ 53) : roundMag n d < infMag := by
  refine Nat.lt_of_le_of_ne (W.roundMag_le n d) fun e => ?_
  have h := (roundMag_over hd).mp e
  have h1 : 1 * ((2 ^ 54 - 1) * 2 ^ 2045) ≤ d * ((2 ^ 54 - 1) * 2 ^ 2045) := Nat.mul_le_mul_right _ hd
  have h2 : n * 2 ^ 1074 ≤ 2 ^ 53 * 2 ^ 1074 := Nat.mul_le_mul_right _ (by omega)
  have h3 : 2 * (2 ^ 53 * 2 ^ 1074) < 1 * ((2 ^ 54 - 1) * 2 ^ 2045) := by decide +kernel
  omega

theorem floor_mag {m : Nat} {e : Int} (he : -1074 ≤ e) : floorOf false m e = ((m * 2 ^ (e + 1074).toNat / 2 ^ 1074 : Nat) : Int) := by
  unfold floorOf sgn
  simp only [Bool.false_eq_true, if_false]
  split
  · have h1 : (e + 1074).toNat = e.toNat + 1074 := by omega
    rw [h1, Nat.pow_add, ← Nat.mul_assoc, Nat.mul_div_cancel _ (Nat.two_pow_pos _)]
    simp
  · have h1 : 1074 = (e + 1074).toNat + (-e).toNat := by omega
    have h2 : m * 2 ^ (e + 1074).toNat / 2 ^ 1074 = m / 2 ^ (-e).toNat := by
      rw [show (2 : Nat) ^ 1074 = 2 ^ (e + 1074).toNat * 2 ^ (-e).toNat by rw [← Nat.pow_add, ← h1], ← Nat.div_div_eq_div_mul, Nat.mul_div_cancel _ (Nat.two_pow_pos _)]
    rw [h2]
    rw [show ((2 : Int) ^ (-e).toNat) = ((2 ^ (-e).toNat : Nat) : Int) by simp]
    rw [Int.fdiv_eq_ediv_of_nonneg _ (Int.natCast_nonneg _)]
    rfl

theorem trunc_pos {n d : Nat} (hd : 0 < d) (hn : n + d < 2 ^ 53) : PySem.Flt.toInt truncOf (ofFrac false n d) = ((n / d : Nat) : Int) := by
  have hf := frac_fits hd hn
  obtain ⟨m, e, hdec, hm⟩ := decode_pack false hf
  have he := decode_ge hdec
  have hdec2 : decode (ofFrac false n d) = .fin false m e := by unfold ofFrac; exact hdec
  rw [PySem.Flt.toInt_fin hdec2]
  unfold truncOf
  rw [if_neg Bool.false_ne_true, floor_mag he, hm, near hd hn hf]

theorem trunc_neg {n d : Nat} (hd : 0 < d) (hn : n + d < 2 ^ 53) : PySem.Flt.toInt truncOf (ofFrac true n d) = -((n / d : Nat) : Int) := by
  have hf := frac_fits hd hn
  obtain ⟨m, e, hdec, hm⟩ := decode_pack true hf
  have he := decode_ge hdec
  have hdec2 : decode (ofFrac true n d) = .fin true m e := by unfold ofFrac; exact hdec
  rw [PySem.Flt.toInt_fin hdec2]
  unfold truncOf ceilOf
  rw [if_pos rfl]
  show -floorOf false m e = _
  rw [floor_mag he, hm, near hd hn hf]

theorem trunc_frac {a b : Int} (hb : 0 < b) (hn : a.natAbs + b.natAbs < 2 ^ 53) : PySem.Flt.toInt truncOf (ofFrac (decide (a < 0) != decide (b < 0)) a.natAbs b.natAbs) = a.tdiv b := by
  have e2 : decide (b < 0) = false := by simp; omega
  rw [e2]
  by_cases h : a < 0
  · have e1 : decide (a < 0) = true := by simpa using h
    rw [e1]
    rw [show (true != false) = true from rfl, trunc_neg (by omega) hn]
    obtain ⟨x, rfl⟩ : ∃ x : Nat, a = -(x : Int) := ⟨a.natAbs, by omega⟩
    obtain ⟨y, rfl⟩ : ∃ y : Nat, b = (y : Int) := ⟨b.natAbs, by omega⟩
    simp [Int.neg_tdiv]
  · have e1 : decide (a < 0) = false := by simp; omega
    rw [e1]
    rw [show (false != false) = false from rfl, trunc_pos (by omega) hn]
    obtain ⟨x, rfl⟩ : ∃ x : Nat, a = (x : Int) := ⟨a.natAbs, by omega⟩
    obtain ⟨y, rfl⟩ : ∃ y : Nat, b = (y : Int) := ⟨b.natAbs, by omega⟩
    simp
end EasterW
end

section
open PySem PySem.W PySem.Calls PyProof.Rows
set_option maxRecDepth 100000
namespace EasterW

theorem frac_fin (s : Bool) {n d : Nat} (hd : 0 < d) (hn : n + d < 2 ^ 53) : ∃ m e, Float64.decode (Float64.ofFrac s n d) = .fin s m e := by
  obtain ⟨m, e, h, _⟩ := Float64.decode_pack s (frac_fits hd hn)
  exact ⟨m, e, by unfold Float64.ofFrac; exact h⟩

theorem tdiv_nonneg {a b q : Int} (h0 : 0 ≤ a) (e : q = a.tdiv b) : q = a / b := by rw [e, Int.tdiv_eq_ediv_of_nonneg h0]

theorem tdiv_any {a b q : Int} (e : q = a.tdiv b) : (0 ≤ a → q = a / b) ∧ (a < 0 → q = -(-a / b)) := by
  refine ⟨fun h => tdiv_nonneg h e, fun h => ?_⟩
  have : a = -(-a) := by omega
  rw [e, this, Int.neg_tdiv, Int.neg_neg, Int.tdiv_eq_ediv_of_nonneg (by omega)]

section
variable {prog : Program} {w : World} {A : Around} {E : Value → Shared → Prop} {s : Shared} {t u : Tok} {Q : Value → Shared → Prop} {a b : Int}

theorem trunc_step (hA : A.handled = none) (hb : 0 < b) (hn : a.natAbs + b.natAbs < 2 ^ 53) (h : ∀ q : Int, q = a.tdiv b → Q (.int q s.toks) { s with toks := s.toks + 1 }) :
    wpAny (model prog w) A (call (.builtin "math.trunc") [.float (Float64.ofFrac (decide (a < 0) != decide (b < 0)) a.natAbs b.natAbs) t]) Q E s := by
  obtain ⟨m, e, hd⟩ := frac_fin (decide (a < 0) != decide (b < 0)) (n := a.natAbs) (d := b.natAbs) (by omega) hn
  refine Flt.call_trunc_float hA (fun c => ?_) (fun c => ?_) (fun _ => ?_)
  · unfold Float64.isNaN at c; rw [hd] at c; cases c
  · unfold Float64.isInf at c; rw [hd] at c; cases c
  · exact h _ (trunc_frac hb hn)

theorem trunc_step0 (hA : A.handled = none) (h0 : 0 ≤ a) (hb : 0 < b) (hn : a + b < 2 ^ 53) (h : ∀ q : Int, q = a / b → Q (.int q s.toks) { s with toks := s.toks + 1 }) :
    wpAny (model prog w) A (call (.builtin "math.trunc") [.float (Float64.ofFrac (decide (a < 0) != decide (b < 0)) a.natAbs b.natAbs) t]) Q E s :=
  trunc_step hA hb (by omega) fun q e => h q (tdiv_nonneg h0 e)

theorem trunc_step1 (hA : A.handled = none) (hb : 0 < b) (hn : a.natAbs + b.natAbs < 2 ^ 53) (h : ∀ q : Int, (0 ≤ a → q = a / b) ∧ (a < 0 → q = -(-a / b)) → Q (.int q s.toks) { s with toks := s.toks + 1 }) :
    wpAny (model prog w) A (call (.builtin "math.trunc") [.float (Float64.ofFrac (decide (a < 0) != decide (b < 0)) a.natAbs b.natAbs) t]) Q E s :=
  trunc_step hA hb hn fun q e => h q (tdiv_any e)

theorem trunc_step29 (hA : A.handled = none) (h0 : 1 ≤ b) (h1 : b ≤ 30) (h : ∀ q : Int, 0 ≤ q ∧ q ≤ 29 ∧ (b = 30 → q = 0) ∧ (b = 29 → q = 1) → Q (.int q s.toks) { s with toks := s.toks + 1 }) :
    wpAny (model prog w) A (call (.builtin "math.trunc") [.float (Float64.ofFrac (decide ((29 : Int) < 0) != decide (b < 0)) (29 : Int).natAbs b.natAbs) t]) Q E s := by
  refine trunc_step0 hA (by decide) (by omega) (by omega) fun q e => h q ?_
  subst e
  refine ⟨Int.ediv_nonneg (by decide) (by omega), Int.ediv_le_self _ (by decide), fun h => ?_, fun h => ?_⟩
  · subst h; rfl
  · subst h; rfl

theorem mul_bit (h0 : 0 ≤ a) (h1 : a ≤ 1) (h : ∀ p : Int, (a = 0 → p = 0) ∧ (a = 1 → p = b) → Q (.int p s.toks) { s with toks := s.toks + 1 }) :
    wpAny (model prog w) A (binaryOp .Mult (.int a t) (.int b u)) Q E s := by
  refine mul_int (h _ ⟨fun e => by rw [e, Int.zero_mul], fun e => by rw [e, Int.one_mul]⟩) (IntMulOk.of_left (intBits_le_64 (by omega) (by omega)))
end
end EasterW
end

section
namespace EasterW

def rSun (y : Int) : Int := (3 * (y / 100) + 3) / 4
def rAge (y : Int) : Int := (19 * (y % 19) + (15 + rSun y - (8 * (y / 100) + 13) / 25)) % 30
def rFull (y : Int) : Int := 21 + rAge y - (rAge y + y % 19 / 11) / 29
def rFirst (y : Int) : Int := 7 - (y + y / 4 + 2 - rSun y) % 7
def rP (y : Int) : Int := rFull y + 7 - (rFull y - rFirst y) % 7
@[irreducible] def rM (y : Int) : Int := if rP y ≤ 31 then 3 else 4
@[irreducible] def rD (y : Int) : Int := if rP y ≤ 31 then rP y else rP y - 31

theorem rAge_bd (y : Int) : 0 ≤ rAge y ∧ rAge y ≤ 29 := by unfold rAge; omega

/-- how `_easter_western` walks through the full moon's place -/
theorem west_i {y c n19 k c4 m q30 : Int} (hy : 1583 ≤ y) (hc : c = y / 100) (hn : n19 = y / 19)
    (hk : (0 ≤ c - 17 → k = (c - 17) / 25) ∧ (c - 17 < 0 → k = -(-(c - 17) / 25))) (hc4 : c4 = c / 4) (hm : m = (c - k) / 3)
    (hq : q30 = (c - c4 - m + 19 * (y - 19 * n19) + 15) / 30) : c - c4 - m + 19 * (y - 19 * n19) + 15 - 30 * q30 = rAge y := by
  have h1 : y - 19 * n19 = y % 19 := by omega
  have h2 : c - c4 = rSun y := by unfold rSun; omega
  have h3 : m = (8 * c + 13) / 25 := by
    clear hq h1 h2 hc4 hn
    by_cases h : c < 17
    · have : c = 15 ∨ c = 16 := by omega
      have hk0 : k = 0 := by omega
      omega
    · have hk' := hk.1 (by omega)
      clear hk hc hy
      obtain ⟨j, r, hj, hr0, hr1⟩ : ∃ j r : Int, c = 17 + 25 * j + r ∧ 0 ≤ r ∧ r ≤ 24 := ⟨(c - 17) / 25, (c - 17) % 25, by omega, by omega, by omega⟩
      have hkj : k = j := by omega
      subst hkj
      have e1 : m = 8 * k + (17 + r) / 3 := by omega
      have e2 : (8 * c + 13) / 25 = 8 * k + (149 + 8 * r) / 25 := by omega
      rw [e1, e2]
      omega
  unfold rAge
  rw [h1] at hq ⊢
  rw [← hc]
  omega

theorem west_full {y g age a a' b q p1 q3 p2 p : Int} (hg : 0 ≤ g ∧ g ≤ 18) (ha : 0 ≤ age ∧ age ≤ 29) (h1 : a = age / 28) (h1' : a' = age / 28)
    (hq : 0 ≤ q ∧ q ≤ 29 ∧ (age + 1 = 30 → q = 0) ∧ (age + 1 = 29 → q = 1)) (hp1 : (a' = 0 → p1 = 0) ∧ (a' = 1 → p1 = q)) (hq3 : q3 = (21 - g) / 11)
    (hp2 : (p1 = 0 → p2 = 0) ∧ (p1 = 1 → p2 = q3)) (hp : (a = 0 → p = 0) ∧ (a = 1 → p = 1 - p2)) : age - p = age - (age + g / 11) / 29 := by
  subst h1 h1' hq3
  by_cases h : age < 28
  · omega
  · have : age = 28 ∨ age = 29 := by omega
    rcases this with rfl | rfl
    · have e : q = 1 := by omega
      have : g < 11 ∨ 11 ≤ g := by omega
      omega
    · have e : q = 0 := by omega
      have : g < 11 ∨ 11 ≤ g := by omega
      omega

theorem west_place {y c c4 i y4 q7 : Int} (hc : c = y / 100) (hc4 : c4 = c / 4) (hy4 : y4 = y / 4) (hi : 21 + i = rFull y)
    (hq : q7 = (y + y4 + i + 2 - c + c4) / 7) : i - (y + y4 + i + 2 - c + c4 - 7 * q7) + 28 = rP y := by
  have h2 : c - c4 = rSun y := by unfold rSun; omega
  unfold rP rFirst
  rw [← hi]
  generalize rSun y = s at *
  clear hc hc4 hi
  omega

theorem rFull_bd (y : Int) : 21 ≤ rFull y ∧ rFull y ≤ 49 := by
  unfold rFull
  have := rAge_bd y
  generalize rAge y = a at *
  omega
theorem rP_bd (y : Int) : 22 ≤ rP y ∧ rP y ≤ 56 := by
  unfold rP
  have := rFull_bd y
  omega

theorem west_month {y L q44 : Int} (hL : L + 28 = rP y) (hq : q44 = (L + 40) / 44) : 3 + q44 = rM y := by
  unfold rM
  have := rP_bd y
  split <;> omega
theorem west_day {y L q44 q4 : Int} (hL : L + 28 = rP y) (hq : q44 = (L + 40) / 44) (h4 : q4 = (3 + q44) / 4) : L + 28 - 31 * q4 = rD y := by
  unfold rD
  have := rP_bd y
  split <;> omega

theorem rMD (y : Int) : (rM y = 3 ∧ 22 ≤ rD y ∧ rD y ≤ 31) ∨ (rM y = 4 ∧ 1 ≤ rD y ∧ rD y ≤ 25) := by
  unfold rM rD
  have := rP_bd y
  split <;> omega

theorem far (y q : Int) : rP (y + 5700000 * q) = rP y := by
  have h1 : (y + 5700000 * q) / 100 = y / 100 + 57000 * q := by omega
  have h2 : (y + 5700000 * q) % 19 = y % 19 := by omega
  have h3 : rSun (y + 5700000 * q) = rSun y + 42750 * q := by unfold rSun; rw [h1]; omega
  have h4 : rAge (y + 5700000 * q) = rAge y := by
    have h4' : (8 * (y / 100 + 57000 * q) + 13) / 25 = (8 * (y / 100) + 13) / 25 + 18240 * q := by omega
    unfold rAge
    rw [h1, h2, h3, h4']
    generalize (8 * (y / 100) + 13) / 25 = v
    generalize rSun y = s
    generalize y % 19 = g
    omega
  have h5 : rFull (y + 5700000 * q) = rFull y := by unfold rFull; rw [h2, h4]
  have h6 : rFirst (y + 5700000 * q) = rFirst y := by unfold rFirst; rw [h3]; omega
  unfold rP
  rw [h5, h6]
theorem farM (y q : Int) : rM (y + 5700000 * q) = rM y := by unfold rM; rw [far]
theorem farD (y q : Int) : rD (y + 5700000 * q) = rD y := by unfold rD; rw [far]

theorem now : rM 2025 = 4 ∧ rD 2025 = 20 := by unfold rM rD; decide +kernel

def early : List Int := [1598, 1693, 1761, 1818, 2285, 2353, 2437, 2505, 2972]
def late : List Int := [1666, 1734, 1886, 1943, 2038, 2190, 2258, 2326, 2410, 2573, 2630, 2782, 2877, 2945]

def nSun (y : Nat) : Nat := (3 * (y / 100) + 3) / 4
def nAge (y : Nat) : Nat := (19 * (y % 19) + (15 + nSun y - (8 * (y / 100) + 13) / 25)) % 30
def nFull (y : Nat) : Nat := 21 + nAge y - (nAge y + y % 19 / 11) / 29
def nFirst (y : Nat) : Nat := 7 - (y + y / 4 + 2 - nSun y) % 7
def nP (y : Nat) : Nat := nFull y + 7 - (nFull y - nFirst y) % 7
theorem nSun_is (y : Nat) : rSun (y : Int) = (nSun y : Nat) := by unfold rSun nSun; omega
theorem nAge_is (y : Nat) : rAge (y : Int) = (nAge y : Nat) := by
  have h : (8 * (y / 100) + 13) / 25 ≤ 15 + nSun y := by unfold nSun; omega
  unfold rAge nAge
  rw [nSun_is]
  generalize nSun y = s at *
  have h1 : ((y : Int) / 100) = ((y / 100 : Nat) : Int) := by omega
  have h2 : ((y : Int) % 19) = ((y % 19 : Nat) : Int) := by omega
  rw [h1, h2]
  generalize y / 100 = a at *
  generalize y % 19 = g at *
  have h3 : (8 * (a : Int) + 13) / 25 = (((8 * a + 13) / 25 : Nat) : Int) := by omega
  rw [h3]
  generalize (8 * a + 13) / 25 = v at *
  omega
theorem nFull_is (y : Nat) : rFull (y : Int) = (nFull y : Nat) := by
  unfold rFull nFull
  rw [nAge_is]
  generalize nAge y = a
  omega
theorem nFirst_is (y : Nat) : rFirst (y : Int) = (nFirst y : Nat) := by
  have h : nSun y ≤ y + 2 := by unfold nSun; omega
  unfold rFirst nFirst
  rw [nSun_is]
  generalize nSun y = s at *
  omega
theorem nP_is (y : Nat) : rP (y : Int) = (nP y : Nat) := by
  have h : 21 ≤ nFull y := by have := (rFull_bd (y : Int)).1; rw [nFull_is] at this; omega
  have h' : nFirst y ≤ 7 := by unfold nFirst; omega
  unfold rP nP
  rw [nFull_is, nFirst_is]
  generalize nFull y = a at *
  generalize nFirst y = b at *
  omega

def nEarly : List Nat := [1598, 1693, 1761, 1818, 2285, 2353, 2437, 2505, 2972]
def nLate : List Nat := [1666, 1734, 1886, 1943, 2038, 2190, 2258, 2326, 2410, 2573, 2630, 2782, 2877, 2945]
def nHas : List Nat → Nat → Bool
  | [], _ => false
  | a :: r, n => Nat.beq a n || nHas r n
theorem nHas_iff {n : Nat} : ∀ {l : List Nat}, nHas l n = true ↔ n ∈ l
  | [] => by simp [nHas]
  | a :: r => by
    rw [nHas, Bool.or_eq_true, nHas_iff, List.mem_cons, Nat.beq_eq]
    exact ⟨fun h => h.imp Eq.symm id, fun h => h.imp Eq.symm id⟩
def nAlike (a b : Bool) : Bool := cond a b (!b)
theorem nAlike_eq {a b : Bool} (h : nAlike a b = true) : a = b := by
  unfold nAlike at h
  cases a <;> cases b <;> first | rfl | cases h
def nRow (n : Nat) : Bool := nAlike (Nat.beq (nP n) 22) (nHas nEarly n) && nAlike (Nat.beq (nP n) 56) (nHas nLate n)
def nRows : Nat → Nat → Bool
  | 0, _ => true
  | k + 1, n => nRow (n + k) && nRows k n
theorem nRows_at : ∀ (k n : Nat), nRows k n = true → ∀ j, j < k → nRow (n + j) = true
  | 0, _, _, j, hj => absurd hj (Nat.not_lt_zero _)
  | k + 1, n, h, j, hj => by
    rw [nRows, Bool.and_eq_true] at h
    by_cases e : j = k
    · rw [e]; exact h.1
    · exact nRows_at k n h.2 j (by omega)
theorem table1 : nRows 354 1583 = true := by decide +kernel
theorem table2 : nRows 354 1937 = true := by decide +kernel
theorem table3 : nRows 354 2291 = true := by decide +kernel
theorem table4 : nRows 356 2645 = true := by decide +kernel
theorem row_at {n : Nat} (h0 : 1583 ≤ n) (h1 : n ≤ 3000) : nRow n = true := by
  by_cases a : n < 1937
  · have := nRows_at _ _ table1 (n - 1583) (by omega)
    rwa [Nat.add_sub_cancel' h0] at this
  · by_cases b : n < 2291
    · have := nRows_at _ _ table2 (n - 1937) (by omega)
      rwa [Nat.add_sub_cancel' (by omega)] at this
    · by_cases c : n < 2645
      · have := nRows_at _ _ table3 (n - 2291) (by omega)
        rwa [Nat.add_sub_cancel' (by omega)] at this
      · have := nRows_at _ _ table4 (n - 2645) (by omega)
        rwa [Nat.add_sub_cancel' (by omega)] at this
theorem early_is (n : Nat) : n ∈ nEarly ↔ (n : Int) ∈ early := by
  simp only [nEarly, early, List.mem_cons, List.not_mem_nil, or_false]
  omega
theorem late_is (n : Nat) : n ∈ nLate ↔ (n : Int) ∈ late := by
  simp only [nLate, late, List.mem_cons, List.not_mem_nil, or_false]
  omega

theorem first_day {y : Int} (h0 : 1583 ≤ y) (h1 : y ≤ 3000) : (rM y = 3 ∧ rD y = 22) ↔ y ∈ early := by
  obtain ⟨n, rfl⟩ : ∃ n : Nat, y = (n : Int) := ⟨y.toNat, by omega⟩
  have h := row_at (n := n) (by omega) (by omega)
  have hb := rP_bd (n : Int)
  have : (rM (n : Int) = 3 ∧ rD (n : Int) = 22) ↔ rP (n : Int) = 22 := by unfold rM rD; split <;> omega
  rw [this, ← early_is, nP_is, ← nHas_iff]
  rw [nRow, Bool.and_eq_true] at h
  rw [← nAlike_eq h.1, Nat.beq_eq]
  omega
theorem last_day {y : Int} (h0 : 1583 ≤ y) (h1 : y ≤ 3000) : (rM y = 4 ∧ rD y = 25) ↔ y ∈ late := by
  obtain ⟨n, rfl⟩ : ∃ n : Nat, y = (n : Int) := ⟨y.toNat, by omega⟩
  have h := row_at (n := n) (by omega) (by omega)
  have hb := rP_bd (n : Int)
  have : (rM (n : Int) = 4 ∧ rD (n : Int) = 25) ↔ rP (n : Int) = 56 := by unfold rM rD; split <;> omega
  rw [this, ← late_is, nP_is, ← nHas_iff]
  rw [nRow, Bool.and_eq_true] at h
  rw [← nAlike_eq h.2, Nat.beq_eq]
  omega
end EasterW
end

section
open PySem PySem.W PySem.Calls PyProof.Rows
set_option maxRecDepth 100000
set_option maxHeartbeats 8000000
namespace EasterW

local macro_rules | `(tactic| walk_at "call builtin:math.trunc") => `(tactic| (k_here; (with_reducible show wpAny _ _ (call _ [Value.float _ _]) _ _ _); k_dflt (first
  | (refine' EasterW.trunc_step29 ?hA ?h0 ?h1 ?_; (case hA => rfl); (case h0 => omega); (case h1 => omega); intro q9 hq9; (try dsimp only))
  | (refine' EasterW.trunc_step0 ?hA ?h0 ?hb ?hn ?_; (case hA => rfl); (case hb => omega); (case h0 => omega); (case hn => omega); intro q9 hq9; (try dsimp only))
  | (refine' EasterW.trunc_step1 ?hA ?hb ?hn ?_; (case hA => rfl); (case hb => omega); (case hn => omega); intro q9 hq9; (try dsimp only)))))
local macro_rules | `(tactic| walk_at "binaryOp Mult int int") => `(tactic| (k_here; k_dflt (refine' EasterW.mul_bit ?h0 ?h1 ?_; (case h0 => omega); (case h1 => omega); intro p9 hp9; (try dsimp only))))

abbrev EwRet (h₀ : Heap) (L : Addr) (m : Str → Option Value) (news : List (Addr × Obj)) (s : Shared) (Q : Value → Shared → Prop) (x1 x2 x3 : Int) : Prop :=
  ∀ (D : Addr) (t1 t2 t3 : Tok) (c : Nat) (h' : Heap) (tk' : Nat), Fr h₀ L h' m → News h₀ L h' ((D, ({ cls := .type "tuple", data := .seq #[.int x1 t1, .int x2 t2, .int x3 t3] c } : Obj)) :: news) → (∀ p ∈ news, p.1 < D) → Q (.ref D) { s with heap := h', toks := tk' }

def EwClaim (w : World) (f : Addr) (vs : List Value) (pre : Prop) (x1 x2 x3 : Int) : Prop :=
  ∀ (loose : List Str) (mean : ExcName → Option Value) (mg mb : Str → Option Value) (news : List (Addr × Obj)) (dp un : Nat) (gd : Option (List Code)) (cn : Str) (cs : Scope) (a : Addr) (ccd : Value) (cl : List (Str × Addr)) (outer : List Env) (A₀ : Around) (base h₀ : Heap) (L : Addr) (m : Str → Option Value) (s : Shared) (Q E : Value → Shared → Prop),
    Below A₀ base outer h₀ → Fr h₀ L s.heap m → (hd.heap_39 w.params).In h₀ → News h₀ L s.heap news → Top hd.view_39 loose mean mg mb h₀ → cs.kind = .function →
    pre → dp + 2 < recursionLimit → un + 16 < cLine → EwRet h₀ L m news s Q x1 x2 x3 →
      wpAny (model Challenge.rw_bd6016_01.row.prog w) (ktrTop dp un gd cn cs L a ccd cl outer) (call (.ref f) vs) Q E s

theorem ew_ret {h₀ h' : Heap} {L D : Addr} {m : Str → Option Value} {news : List (Addr × Obj)} {s : Shared} {Q : Value → Shared → Prop} {x1 x2 x3 y1 y2 y3 : Int} {t1 t2 t3 : Tok} {c tk' : Nat} (hret : EwRet h₀ L m news s Q x1 x2 x3)
    (F : Fr h₀ L h' m) (N : News h₀ L h' ((D, ({ cls := .type "tuple", data := .seq #[.int y1 t1, .int y2 t2, .int y3 t3] c } : Obj)) :: news)) (l : ∀ p ∈ news, p.1 < D) (e : y1 = x1 ∧ y2 = x2 ∧ y3 = x3) : Q (.ref D) { s with heap := h', toks := tk' } := by
  obtain ⟨rfl, rfl, rfl⟩ := e
  exact hret D t1 t2 t3 c h' tk' F N l

theorem west_end {y c n19 k c4 m q30 a a' q p1 q3 p2 p y4 c4' q7 q44 qm : Int} (hy : 1583 ≤ y) (hc : c = y / 100) (hn : n19 = y / 19)
    (hk : (0 ≤ c - 17 → k = (c - 17) / 25) ∧ (c - 17 < 0 → k = -(-(c - 17) / 25))) (hc4 : c4 = c / 4) (hm : m = (c - k) / 3)
    (hq : q30 = (c - c4 - m + 19 * (y - 19 * n19) + 15) / 30)
    (hp : (a = 0 → p = 0) ∧ (a = 1 → p = 1 - p2)) (hp2 : (p1 = 0 → p2 = 0) ∧ (p1 = 1 → p2 = q3)) (hp1 : (a' = 0 → p1 = 0) ∧ (a' = 1 → p1 = q))
    (h1 : a = (c - c4 - m + 19 * (y - 19 * n19) + 15 - 30 * q30) / 28) (h1' : a' = (c - c4 - m + 19 * (y - 19 * n19) + 15 - 30 * q30) / 28)
    (hq2 : 0 ≤ q ∧ q ≤ 29 ∧ (c - c4 - m + 19 * (y - 19 * n19) + 15 - 30 * q30 + 1 = 30 → q = 0) ∧ (c - c4 - m + 19 * (y - 19 * n19) + 15 - 30 * q30 + 1 = 29 → q = 1))
    (hq3 : q3 = (21 - (y - 19 * n19)) / 11)
    (hy4 : y4 = y / 4) (hc4' : c4' = c / 4)
    (h7 : q7 = (y + y4 + (c - c4 - m + 19 * (y - 19 * n19) + 15 - 30 * q30 - p) + 2 - c + c4') / 7)
    (h44 : q44 = (c - c4 - m + 19 * (y - 19 * n19) + 15 - 30 * q30 - p - (y + y4 + (c - c4 - m + 19 * (y - 19 * n19) + 15 - 30 * q30 - p) + 2 - c + c4' - 7 * q7) + 40) / 44)
    (hqm : qm = (3 + q44) / 4) :
    3 + q44 = rM y ∧ c - c4 - m + 19 * (y - 19 * n19) + 15 - 30 * q30 - p - (y + y4 + (c - c4 - m + 19 * (y - 19 * n19) + 15 - 30 * q30 - p) + 2 - c + c4' - 7 * q7) + 28 - 31 * qm = rD y := by
  have hi := west_i hy hc hn hk hc4 hm hq
  have hg : y - 19 * n19 = y % 19 := by omega
  rw [hi] at h1 h1' hq2 h7 h44 ⊢
  rw [hg] at hq3
  have hf := west_full (y := y) (b := 0) (g := y % 19) (by omega) (rAge_bd y) h1 h1' hq2 hp1 hq3 hp2 hp
  have hfull : 21 + (rAge y - p) = rFull y := by rw [hf]; unfold rFull; omega
  have hpl := west_place hc hc4' hy4 hfull h7
  exact ⟨west_month hpl h44, west_day hpl h44 hqm⟩

theorem western (w : World) (y : Int) (tk : Tok) : EwClaim w 122 [.int y tk] (1583 ≤ y ∧ y < 2 ^ 42) y (rM y) (rD y) := by
  unfold EwClaim
  k_fill
  intro loose mean mg mb news dp un gd cn cs a ccd cl outer A₀ base h₀ L m s Q E B F X N T hk hp hd1 hu hret
  obtain ⟨hp1, hp2⟩ := hp
  refine wpAny_call ?_
  k_dflt cell_enter
  k_steps
  all_goals (
    refine ew_ret hret (by assumption) (by assumption) (by assumption) ⟨rfl, ?e⟩
    case e => exact west_end hp1 (by with_reducible assumption) (by with_reducible assumption) (by with_reducible assumption) (by with_reducible assumption) (by with_reducible assumption) (by with_reducible assumption) (by with_reducible assumption) (by with_reducible assumption) (by with_reducible assumption) (by with_reducible assumption) (by with_reducible assumption) (by with_reducible assumption) (by with_reducible assumption) (by with_reducible assumption) (by with_reducible assumption) (by with_reducible assumption) (by with_reducible assumption) (by with_reducible assumption))
end EasterW
end

section
open PySem PySem.W PySem.Calls PyProof.Rows
set_option maxRecDepth 100000
set_option maxHeartbeats 8000000
namespace EasterW

theorem reck_eq (y : Int) : 21 + (19 * y.fmod 19 + (15 + (3 * y.fdiv 100 + 3).fdiv 4 - (8 * y.fdiv 100 + 13).fdiv 25)).fmod 30 -
      ((19 * y.fmod 19 + (15 + (3 * y.fdiv 100 + 3).fdiv 4 - (8 * y.fdiv 100 + 13).fdiv 25)).fmod 30 + (y.fmod 19).fdiv 11).fdiv 29 + 7 -
    (21 + (19 * y.fmod 19 + (15 + (3 * y.fdiv 100 + 3).fdiv 4 - (8 * y.fdiv 100 + 13).fdiv 25)).fmod 30 -
        ((19 * y.fmod 19 + (15 + (3 * y.fdiv 100 + 3).fdiv 4 - (8 * y.fdiv 100 + 13).fdiv 25)).fmod 30 + (y.fmod 19).fdiv 11).fdiv 29 -
      (7 - (y + y.fdiv 4 + 2 - (3 * y.fdiv 100 + 3).fdiv 4).fmod 7)).fmod 7 = rP y := by
  simp only [Int.fdiv_eq_ediv_of_nonneg _ (show (0 : Int) ≤ 100 by decide), Int.fdiv_eq_ediv_of_nonneg _ (show (0 : Int) ≤ 4 by decide), Int.fdiv_eq_ediv_of_nonneg _ (show (0 : Int) ≤ 25 by decide), Int.fdiv_eq_ediv_of_nonneg _ (show (0 : Int) ≤ 11 by decide), Int.fdiv_eq_ediv_of_nonneg _ (show (0 : Int) ≤ 29 by decide),
    Int.fmod_eq_emod_of_nonneg _ (show (0 : Int) ≤ 19 by decide), Int.fmod_eq_emod_of_nonneg _ (show (0 : Int) ≤ 30 by decide), Int.fmod_eq_emod_of_nonneg _ (show (0 : Int) ≤ 7 by decide)]
  unfold rP rFull rFirst rAge rSun
  rfl
theorem reck_march {y e : Int} (he : e = rP y) (h : e ≤ 31) : 3 = rM y ∧ e = rD y := by
  subst he
  unfold rM rD
  rw [if_pos h, if_pos h]
  exact ⟨rfl, rfl⟩
theorem reck_april {y e : Int} (he : e = rP y) (h : ¬ e ≤ 31) : 4 = rM y ∧ e - 31 = rD y := by
  subst he
  unfold rM rD
  rw [if_neg h, if_neg h]
  exact ⟨rfl, rfl⟩

theorem reckoned (w : World) (y : Int) (tk : Tok) : EwClaim w 158 [.int y tk] (1583 ≤ y ∧ y < 2 ^ 42) y (rM y) (rD y) := by
  unfold EwClaim
  k_fill
  intro loose mean mg mb news dp un gd cn cs a ccd cl outer A₀ base h₀ L m s Q E B F X N T hk hp hd1 hu hret
  obtain ⟨hp1, hp2⟩ := hp
  refine wpAny_call ?_
  k_dflt cell_enter
  k_steps
  all_goals (
    refine ew_ret hret (by assumption) (by assumption) (by assumption) ⟨rfl, ?e⟩
    case e => first | exact reck_march (reck_eq y) (by with_reducible assumption) | exact reck_april (reck_eq y) (by with_reducible assumption))
end EasterW
end

section
open PySem PySem.W PySem.Calls PyProof.Rows
set_option maxRecDepth 100000
set_option maxHeartbeats 8000000
namespace EasterW
abbrev VlRet (h₀ : Heap) (L : Addr) (m : Str → Option Value) (news : List (Addr × Obj)) (s : Shared) (Q : Value → Shared → Prop) (R : Tok → Value) : Prop :=
  ∀ (t : Tok) (h' : Heap) (tk' : Nat), Fr h₀ L h' m → News h₀ L h' news → Q (R t) { s with heap := h', toks := tk' }
def VlClaim (w : World) (k : Nat) (f : Addr) (vs : List Value) (pre : Prop) (R : Tok → Value) : Prop :=
  ∀ (loose : List Str) (mean : ExcName → Option Value) (mg mb : Str → Option Value) (news : List (Addr × Obj)) (dp un : Nat) (gd : Option (List Code)) (cn : Str) (cs : Scope) (a : Addr) (ccd : Value) (cl : List (Str × Addr)) (outer : List Env) (A₀ : Around) (base h₀ : Heap) (L : Addr) (m : Str → Option Value) (s : Shared) (Q E : Value → Shared → Prop),
    Below A₀ base outer h₀ → Fr h₀ L s.heap m → (hd.heap_39 w.params).In h₀ → News h₀ L s.heap news → Top hd.view_39 loose mean mg mb h₀ → cs.kind = .function →
    pre → dp + k < recursionLimit → un + 8 * k < cLine → VlRet h₀ L m news s Q R →
      wpAny (model Challenge.rw_bd6016_01.row.prog w) (ktrTop dp un gd cn cs L a ccd cl outer) (call (.ref f) vs) Q E s

theorem VlClaim.use {w : World} {k : Nat} {f : Addr} {vs : List Value} {pre : Prop} {R : Tok → Value} (C : VlClaim w k f vs pre R) {loose : List Str} {mean : ExcName → Option Value} {mg mb : Str → Option Value} {news : List (Addr × Obj)} {dp un : Nat} {gd : Option (List Code)} {cn : Str} {cs : Scope} {a : Addr} {ccd : Value} {cl : List (Str × Addr)} {outer : List Env} {A₀ : Around} {base h₀ : Heap} {L : Addr} {m : Str → Option Value} {s : Shared} {Q E : Value → Shared → Prop}
    (B : Below A₀ base outer h₀) (F : Fr h₀ L s.heap m) (X : (hd.heap_39 w.params).In h₀) (N : News h₀ L s.heap news) (T : Top hd.view_39 loose mean mg mb h₀) (hk : cs.kind = .function)
    (hp : pre) (hd : dp + k < recursionLimit) (hu : un + 8 * k < cLine) (ret : VlRet h₀ L m news s Q R) :
    wpAny (model Challenge.rw_bd6016_01.row.prog w) (ktrTop dp un gd cn cs L a ccd cl outer) (call (.ref f) vs) Q E s :=
  C loose mean mg mb news dp un gd cn cs a ccd cl outer A₀ base h₀ L m s Q E B F X N T hk hp hd hu ret

theorem vl_drop {h₀ h : Heap} {L : Addr} {news news' : List (Addr × Obj)} (N : News h₀ L h news') (hs : ∀ p ∈ news, p ∈ news') : News h₀ L h news := fun p hp => N p (hs p hp)
theorem vl_int {h₀ h' : Heap} {L : Addr} {m : Str → Option Value} {news : List (Addr × Obj)} {s : Shared} {Q : Value → Shared → Prop} {x y : Int} {t : Tok} {tk' : Nat}
    (hret : VlRet h₀ L m news s Q (fun t => .int x t)) (F : Fr h₀ L h' m) (N : News h₀ L h' news) (e : y = x) : Q (.int y t) { s with heap := h', toks := tk' } := by
  subst e
  exact hret t h' tk' F N
theorem vl_bool {h₀ h' : Heap} {L : Addr} {m : Str → Option Value} {news : List (Addr × Obj)} {s : Shared} {Q : Value → Shared → Prop} {x y : Bool} {tk' : Nat}
    (hret : VlRet h₀ L m news s Q (fun _ => .bool x)) (F : Fr h₀ L h' m) (N : News h₀ L h' news) (e : y = x) : Q (.bool y) { s with heap := h', toks := tk' } := by
  subst e
  exact hret 0 h' tk' F N

@[irreducible] def rJan (y : Int) : Int := 1721426 + 146097 * ((y - 1) / 400) + 365 * ((y - 1) % 400) + (y - 1) % 400 / 4 - (y - 1) % 400 / 100
theorem jan_eq (y : Int) : 1721426 + 146097 * (y - 1).fdiv 400 + 365 * (y - 1).fmod 400 + ((y - 1).fmod 400).fdiv 4 - ((y - 1).fmod 400).fdiv 100 = rJan y := by
  unfold rJan
  simp only [Int.fdiv_eq_ediv_of_nonneg _ (show (0 : Int) ≤ 400 by decide), Int.fdiv_eq_ediv_of_nonneg _ (show (0 : Int) ≤ 100 by decide), Int.fdiv_eq_ediv_of_nonneg _ (show (0 : Int) ≤ 4 by decide), Int.fmod_eq_emod_of_nonneg _ (show (0 : Int) ≤ 400 by decide)]

theorem january (w : World) (y : Int) (tk : Tok) : VlClaim w 1 165 [.int y tk] (1583 ≤ y ∧ y < 2 ^ 42) (fun t => .int (rJan y) t) := by
  unfold VlClaim
  k_fill
  intro loose mean mg mb news dp un gd cn cs a ccd cl outer A₀ base h₀ L m s Q E B F X N T hk hp hd1 hu hret
  obtain ⟨hp1, hp2⟩ := hp
  refine wpAny_call ?_
  k_dflt cell_enter
  k_steps
  all_goals (
    refine vl_int hret (by assumption) ?en ?e
    case en => first | assumption | exact vl_drop (by assumption) (by kcj_all)
    case e => exact jan_eq y)

theorem first_seven (y : Int) : (rP y + y + y / 4 + 2 - rSun y) % 7 = 0 := by
  unfold rP rFirst
  generalize rFull y = f
  generalize rSun y = s
  omega
theorem rule_sunday {y lp n : Int} (hl : lp = if y % 4 = 0 ∧ (y % 100 ≠ 0 ∨ y % 400 = 0) then 29 else 28) (hn : n = rJan y + 31 + lp + rP y - 1) : n % 7 = 6 := by
  have h := first_seven y
  have hs : rSun y = y / 100 - y / 400 := by unfold rSun; omega
  rw [hs] at h
  unfold rJan at hn
  generalize rP y = P at *
  clear hs
  obtain ⟨r, u, v, hy, hu0, hu1, hv0, hv1⟩ : ∃ r u v : Int, y = 400 * r + 100 * u + v ∧ 0 ≤ u ∧ u ≤ 3 ∧ 0 ≤ v ∧ v ≤ 99 := ⟨y / 400, y % 400 / 100, y % 100, by omega, by omega, by omega, by omega, by omega⟩
  have e1 : y / 100 = 4 * r + u := by omega
  have e2 : y / 400 = r := by omega
  have e3 : y / 4 = 100 * r + 25 * u + v / 4 := by omega
  rw [e1, e2, e3] at h
  have f1 : y % 4 = v % 4 := by omega
  have f2 : y % 100 = v := by omega
  have f3 : y % 400 = 100 * u + v := by omega
  rw [f1, f2, f3] at hl
  by_cases h0 : v = 0
  · by_cases h00 : u = 0
    · rw [if_pos (by omega)] at hl
      have g1 : (y - 1) / 400 = r - 1 := by omega
      have g2 : (y - 1) % 400 = 399 := by omega
      rw [g1, g2] at hn
      omega
    · rw [if_neg (by omega)] at hl
      have g1 : (y - 1) / 400 = r := by omega
      have g2 : (y - 1) % 400 = 100 * u - 1 := by omega
      have g3 : (100 * u - 1) / 4 = 25 * u - 1 := by omega
      have g4 : (100 * u - 1) / 100 = u - 1 := by omega
      rw [g1, g2, g3, g4] at hn
      omega
  · have g1 : (y - 1) / 400 = r := by omega
    have g2 : (y - 1) % 400 = 100 * u + v - 1 := by omega
    have g4 : (100 * u + v - 1) / 100 = u := by omega
    by_cases h4 : v % 4 = 0
    · rw [if_pos (by omega)] at hl
      have g3 : (100 * u + v - 1) / 4 = 25 * u + v / 4 - 1 := by omega
      rw [g1, g2, g3, g4] at hn
      omega
    · rw [if_neg (by omega)] at hl
      have g3 : (100 * u + v - 1) / 4 = 25 * u + v / 4 := by omega
      rw [g1, g2, g3, g4] at hn
      omega

theorem sun_end {y mo da n : Int} (lp : Int) (hmo : mo = rM y) (hda : da = rD y) (hl : lp = if y.fmod 4 = 0 ∧ (y.fmod 100 ≠ 0 ∨ y.fmod 400 = 0) then 29 else 28) (hn : n = rJan y + 31 + lp + da - 1 + if mo = 4 then 31 else 0) : (n.fmod 7 == 6) = true := by
  rw [Int.fmod_eq_emod_of_nonneg _ (show (0 : Int) ≤ 4 by decide), Int.fmod_eq_emod_of_nonneg _ (show (0 : Int) ≤ 100 by decide), Int.fmod_eq_emod_of_nonneg _ (show (0 : Int) ≤ 400 by decide)] at hl
  have hd : (da + if mo = 4 then 31 else 0) = rP y := by
    subst hmo hda
    unfold rM rD
    by_cases h : rP y ≤ 31
    · rw [if_pos h, if_pos h]; simp
    · rw [if_neg h, if_neg h]; simp
  have h := rule_sunday (n := n) hl (by omega)
  rw [Int.fmod_eq_emod_of_nonneg _ (show (0 : Int) ≤ 7 by decide), h]
  rfl

local macro_rules | `(tactic| walk_at "call ref") => `(tactic| (k_here; k_dflt (refine' VlClaim.use (january _ _ _) ?k1 ?k2 ?k3 ?k4 ?k5 ?kK ?kp ?kd ?ku ?_; (case k1 => k_asm); (case k2 => k_asm); (case k3 => k_asm); (case k4 => k_asm); (case k5 => k_asm); (case kK => first | exact rfl | assumption); (case kp => first | assumption | (refine ⟨?_, ?_⟩ <;> first | assumption | omega)); (case kd => ktr_room); (case ku => ktr_units)); intro t9 h9 tk9 F9 N9; (try dsimp only); (try k_fold); walk_say "JANUARY"))
theorem sunday (w : World) (y mo da : Int) (tk tk2 tk3 : Tok) : VlClaim w 2 172 [.int y tk, .int mo tk2, .int da tk3] ((1583 ≤ y ∧ y < 2 ^ 42) ∧ mo = rM y ∧ da = rD y) (fun _ => .bool true) := by
  unfold VlClaim
  k_fill
  intro loose mean mg mb news dp un gd cn cs a ccd cl outer A₀ base h₀ L m s Q E B F X N T hk hp hd1 hu hret
  obtain ⟨⟨hp1, hp2⟩, hmo, hda⟩ := hp
  refine wpAny_call ?_
  k_dflt cell_enter
  k_steps
  all_goals (
    refine vl_bool hret (by assumption) ?en ?e
    case en => first | assumption | exact vl_drop (by assumption) (by kcj_all)
    case e => first
      | (refine sun_end 29 hmo hda ?hl ?hn; (case hl => split <;> omega); (case hn => split <;> omega); done)
      | (refine sun_end 28 hmo hda ?hl ?hn; (case hl => split <;> omega); (case hn => split <;> omega); done))
end EasterW
end

section
open PySem PySem.W PySem.Calls PyProof.Rows
set_option maxRecDepth 100000
set_option maxHeartbeats 8000000
namespace EasterW

theorem EwClaim.use {w : World} {f : Addr} {vs : List Value} {pre : Prop} {x1 x2 x3 : Int} (C : EwClaim w f vs pre x1 x2 x3) {loose : List Str} {mean : ExcName → Option Value} {mg mb : Str → Option Value} {news : List (Addr × Obj)} {dp un : Nat} {gd : Option (List Code)} {cn : Str} {cs : Scope} {a : Addr} {ccd : Value} {cl : List (Str × Addr)} {outer : List Env} {A₀ : Around} {base h₀ : Heap} {L : Addr} {m : Str → Option Value} {s : Shared} {Q E : Value → Shared → Prop}
    (B : Below A₀ base outer h₀) (F : Fr h₀ L s.heap m) (X : (hd.heap_39 w.params).In h₀) (N : News h₀ L s.heap news) (T : Top hd.view_39 loose mean mg mb h₀) (hk : cs.kind = .function)
    (hp : pre) (hd : dp + 2 < recursionLimit) (hu : un + 16 < cLine) (ret : EwRet h₀ L m news s Q x1 x2 x3) :
    wpAny (model Challenge.rw_bd6016_01.row.prog w) (ktrTop dp un gd cn cs L a ccd cl outer) (call (.ref f) vs) Q E s :=
  C loose mean mg mb news dp un gd cn cs a ccd cl outer A₀ base h₀ L m s Q E B F X N T hk hp hd hu ret

theorem western_far (w : World) (y q : Int) (tk : Tok) : EwClaim w 122 [.int (y + 5700000 * q) tk] (1583 ≤ y + 5700000 * q ∧ y + 5700000 * q < 2 ^ 42) (y + 5700000 * q) (rM y) (rD y) := by
  have h := western w (y + 5700000 * q) tk
  rw [farM, farD] at h
  exact h

theorem known (y : Int) : (rM y = 3 ∨ rM y = 4) ∧ (rM y = 3 → 22 ≤ rD y ∧ rD y ≤ 31) ∧ (rM y = 4 → 1 ≤ rD y ∧ rD y ≤ 25) := by
  have := rMD y
  omega

theorem western_now (w : World) (tk : Tok) : EwClaim w 122 [.int 2025 tk] True 2025 4 20 := by
  have h := western w 2025 tk
  rw [now.1, now.2] at h
  intro _ _ _ _ _ _ _ _ _ _ _ _ _ _ _ _ _ _ _ _ _ _ B F X N T hk _ hd hu ret
  exact h _ _ _ _ _ _ _ _ _ _ _ _ _ _ _ _ _ _ _ _ _ _ B F X N T hk ⟨by decide, by decide⟩ hd hu ret

theorem use_west {w : World} {y : Int} {tk : Tok} {loose : List Str} {mean : ExcName → Option Value} {mg mb : Str → Option Value} {news : List (Addr × Obj)} {dp un : Nat} {gd : Option (List Code)} {cn : Str} {cs : Scope} {a : Addr} {ccd : Value} {cl : List (Str × Addr)} {outer : List Env} {A₀ : Around} {base h₀ : Heap} {L : Addr} {m : Str → Option Value} {s : Shared} {Q E : Value → Shared → Prop}
    (B : Below A₀ base outer h₀) (F : Fr h₀ L s.heap m) (X : (hd.heap_39 w.params).In h₀) (N : News h₀ L s.heap news) (T : Top hd.view_39 loose mean mg mb h₀) (hk : cs.kind = .function)
    (hp : 1583 ≤ y ∧ y < 2 ^ 42) (hd : dp + 2 < recursionLimit) (hu : un + 16 < cLine) (ret : ((rM y = 3 ∨ rM y = 4) ∧ (rM y = 3 → 22 ≤ rD y ∧ rD y ≤ 31) ∧ (rM y = 4 → 1 ≤ rD y ∧ rD y ≤ 25)) → EwRet h₀ L m news s Q y (rM y) (rD y)) :
    wpAny (model Challenge.rw_bd6016_01.row.prog w) (ktrTop dp un gd cn cs L a ccd cl outer) (call (.ref 122) [.int y tk]) Q E s :=
  (western w y tk).use B F X N T hk hp hd hu (ret (known y))

theorem mod_letter {prog : Program} {w : World} {A : Around} {E : Value → Shared → Prop} {s : Shared} {t u : Tok} {Q : Value → Shared → Prop} {a b : Int} (M : Int) (h0 : 0 < b) (hM : b ≤ M)
    (h : ∀ r : Int, 0 ≤ r → r < b → r < M → Q (.int r s.toks) { s with toks := s.toks + 1 }) : wpAny (model prog w) A (binaryOp .Mod (.int a t) (.int b u)) Q E s := by
  have e := Int.fmod_eq_emod_of_nonneg a (Int.le_of_lt h0)
  refine mod_int' (by omega) (h _ ?_ ?_ ?_)
  · rw [e]; exact Int.emod_nonneg _ (by omega)
  · rw [e]; exact Int.emod_lt_of_pos _ h0
  · rw [e]; exact Int.lt_of_lt_of_le (Int.emod_lt_of_pos _ h0) hM

theorem cut_tuple {prog : Program} {w : World} {A : Around} {E : Value → Shared → Prop} {s : Shared} {h₀ : Heap} {L : Addr} {m : Str → Option Value} {news : List (Addr × Obj)} {value slice : PySem.Expr} {t : Addr} {items : Array Value} {l : List Value} {a : Nat} {u : Tok} {Q : Value → Shared → Prop}
    (F : Fr h₀ L s.heap m) (N : News h₀ L s.heap news) (ht : IsTup s.heap t items) (h1 : 1 ≤ a) (ha : a ≤ items.size) (hsz : items.size ≤ sizeLine) (e : items.toList.drop a = l)
    (h : ∀ D h', Fr h₀ L h' m → News h₀ L h' ((D, ({ cls := .type "tuple", data := .seq l.toArray } : Obj)) :: news) → (∀ p ∈ news, p.1 < D) → Q (.ref D) { s with heap := h' })
    (hs : subscripted slice false (.ref t) (.ref s.heap.objs.size) = operate [.ref s.heap.objs.size, .ref t] (getItem (.ref t) (.ref s.heap.objs.size)))
    (hg : ∀ r, letTemporaryGo value (.ref t) r = pure ()) :
    wpAny (model prog w) A (subscriptTail value slice (.ref t) (.ref s.heap.objs.size)) Q E { s with heap := s.heap.push { cls := .type "slice", data := .fields #[.int a u, .none, .none] } } := by
  subst e
  exact slice_tuple_from F N ht h1 ha (fun h' F' N' => h _ h' F' N' fun p hp => Nat.lt_succ_of_lt (Heap.lt_size (N p hp).1)) hs hg hsz

theorem any_iff {y : Int} {l : List Int} : (l.any fun x => x == y) = true ↔ y ∈ l := by
  rw [List.any_eq_true]
  constructor
  · rintro ⟨x, hx, e⟩
    rw [beq_iff_eq] at e
    exact e ▸ hx
  · intro h
    exact ⟨y, h, by rw [beq_iff_eq]⟩
theorem same_bool {a b : Bool} (h : a = true ↔ b = true) : a = b := by cases a <;> cases b <;> simp_all
theorem first_bool {y : Int} (h0 : 1583 ≤ y) (h1 : y ≤ 3000) : (rM y == 3 && rD y == 22) = ([1598, 1693, 1761, 1818, 2285, 2353, 2437, 2505, 2972].any fun x => x == y) := by
  refine same_bool ?_
  rw [any_iff, Bool.and_eq_true, beq_iff_eq, beq_iff_eq]
  exact first_day h0 h1
theorem last_bool {y : Int} (h0 : 1583 ≤ y) (h1 : y ≤ 3000) : (rM y == 4 && rD y == 25) = ([1666, 1734, 1886, 1943, 2038, 2190, 2258, 2326, 2410, 2573, 2630, 2782, 2877, 2945].any fun x => x == y) := by
  refine same_bool ?_
  rw [any_iff, Bool.and_eq_true, beq_iff_eq, beq_iff_eq]
  exact last_day h0 h1
theorem ne_same {prog : Program} {w : World} {A : Around} {E : Value → Shared → Prop} {s : Shared} {Q : Value → Shared → Prop} {a b : Bool} (e : a = b) (h : Q (.bool false) s) : wpAny (model prog w) A (compareOp .NotEq (.bool a) (.bool b)) Q E s := by
  subst e
  refine ne_bool ?_
  simpa using h

structure JoinMark : Prop where
  mark :: (one : True)
def JoinEnd (h₀ : Heap) (L : Addr) (nm : Str) (m : Str → Option Value) (news : List (Addr × Obj)) (s : Shared) (fl : Flow) (s' : Shared) : Prop :=
  ∃ (r : Int) (t : Tok) (h' : Heap) (tk' : Nat), fl = .next ∧ s' = { s with heap := h', toks := tk' } ∧ 1583 ≤ r ∧ r < 2 ^ 40 ∧ Fr h₀ L h' (fun y => if y = nm then some (.int r t) else m y) ∧ News h₀ L h' news
theorem join_start {M : Model} {A : Around} {E : Value → Shared → Prop} {s : Shared} {h₀ : Heap} {L : Addr} {m : Str → Option Value} {news : List (Addr × Obj)} {cm : Sem Flow} {Q : Flow → Shared → Prop} (nm : Str) (_F : Fr h₀ L s.heap m) (_N : News h₀ L s.heap news)
    (hA : JoinMark → wpAny M A cm (fun fl s' => JoinEnd h₀ L nm m news s fl s') E s)
    (hB : ∀ (r : Int) (t : Tok) (h' : Heap) (tk' : Nat), 1583 ≤ r → r < 2 ^ 40 → Fr h₀ L h' (fun y => if y = nm then some (.int r t) else m y) → News h₀ L h' news → Q .next { s with heap := h', toks := tk' }) : wpAny M A cm Q E s := by
  refine wpAny_mono (hA ⟨trivial⟩) (fun v s₂ hq => ?_) fun _ _ h => h
  obtain ⟨r, t, h', tk', rfl, rfl, h1, h2, F, N⟩ := hq
  exact hB r t h' tk' h1 h2 F N

local macro_rules | `(tactic| walk_at "InvEndN") => `(tactic| (k_here; k_dflt ksr_close))
local macro_rules | `(tactic| walk_at "call ref") => `(tactic| (k_here; (with_reducible show wpAny _ _ (call (Value.ref 122) _) _ _ _); k_dflt (refine' use_west ?k1 ?k2 ?k3 ?k4 ?k5 ?kK ?kp ?kd ?ku ?_; (case k1 => k_asm); (case k2 => k_asm); (case k3 => k_asm); (case k4 => k_asm); (case k5 => k_asm); (case kK => first | exact rfl | assumption); (case kp => first | assumption | (refine ⟨?_, ?_⟩ <;> omega)); (case kd => ktr_room); (case ku => ktr_units)); intro hkn D' t1' t2' t3' c' h' tk' F' N' l1; (try k_lt l1); (try dsimp only); (try k_fold); walk_say "EASTER1"))
local macro_rules | `(tactic| walk_at "callWith ref nil nil") => `(tactic| (k_here; (with_reducible rename Fr _ _ _ _ => kF'); k_dflt (refine' callWith_K0 (Frag.In.keeps (by with_reducible assumption) (Fr.keep kF')) ?k2 ?_; (case k2 => k_is)); walk_say "NOARG"))
local macro_rules | `(tactic| walk_at "ite") => `(tactic| (k_here; (with_reducible show (if ((_ : Int) == _) = true then _ else _)); first
  | ((refine ite_neg ?hc ?_); (case hc => (rw [beq_iff_eq]; omega)); walk_say "NO")
  | ((refine ite_pos ?hc ?_); (case hc => (rw [beq_iff_eq]; omega)); walk_say "YES")))
local macro_rules | `(tactic| walk_at "compareOp NotEq bool bool") => `(tactic| (k_here; k_dflt (first
  | (refine' ne_same (first_bool ?h0 ?h1) ?_; (case h0 => omega); (case h1 => first | assumption | omega))
  | (refine' ne_same (last_bool ?h0 ?h1) ?_; (case h0 => omega); (case h1 => first | assumption | omega))); walk_say "SAME"))
local macro_rules | `(tactic| walk_at "exec If") => `(tactic| (k_here; (fail_if_success (with_reducible rename JoinMark => jm')); (with_reducible show wpAny _ _ (exec (PySem.Stmt.If (PySem.Expr.Compare (PySem.Expr.Name (Str.ofString "kind") _) _ _ _) _ _ _) _) _ _ _); k_dflt (refine' join_start (Str.ofString "start") ?F ?N (fun jm => ?_) ?_; (case F => k_asm); (case N => k_asm)); walk_say "KINDS MEET"))
local macro_rules | `(tactic| walk_at "JoinEnd") => `(tactic| (k_here; k_dflt (refine' ⟨_, _, _, _, rfl, rfl, ?a, ?b, ?c, ?d⟩; (case c => assumption); (case d => assumption); (case a => omega); (case b => omega)); walk_say "KIND"))
local macro_rules | `(tactic| walk_at "forall") => `(tactic| (k_here; (with_reducible show ∀ (r : Int) (t : Tok) (h' : Heap) (tk' : Nat), 1583 ≤ r → r < 2 ^ 40 → _); intro r7 t7 h7 tk7 hr71 hr72 F7 N7; (try dsimp only); (try k_fold)))
local macro_rules | `(tactic| walk_at "call ref") => `(tactic| (k_here; k_dflt (first
  | ((with_reducible show wpAny _ _ (call (Value.ref 122) [Value.int (_ + 5700000 * _) _]) _ _ _); refine' EwClaim.use (western_far _ _ _ _) ?k1 ?k2 ?k3 ?k4 ?k5 ?kK ?kp ?kd ?ku ?_; (case k1 => k_asm); (case k2 => k_asm); (case k3 => k_asm); (case k4 => k_asm); (case k5 => k_asm); (case kK => first | exact rfl | assumption); (case kp => first | assumption | (refine ⟨?_, ?_⟩ <;> omega)); (case kd => ktr_room); (case ku => ktr_units))
  | ((with_reducible show wpAny _ _ (call (Value.ref 122) [Value.int 2025 _]) _ _ _); refine' EwClaim.use (western_now _ _) ?k1 ?k2 ?k3 ?k4 ?k5 ?kK ?kp ?kd ?ku ?_; (case k1 => k_asm); (case k2 => k_asm); (case k3 => k_asm); (case k4 => k_asm); (case k5 => k_asm); (case kK => first | exact rfl | assumption); (case kp => exact True.intro); (case kd => ktr_room); (case ku => ktr_units))
  | ((with_reducible show wpAny _ _ (call (Value.ref 158) _) _ _ _); refine' EwClaim.use (reckoned _ _ _) ?k1 ?k2 ?k3 ?k4 ?k5 ?kK ?kp ?kd ?ku ?_; (case k1 => k_asm); (case k2 => k_asm); (case k3 => k_asm); (case k4 => k_asm); (case k5 => k_asm); (case kK => first | exact rfl | assumption); (case kp => first | assumption | (refine ⟨?_, ?_⟩ <;> omega)); (case kd => ktr_room); (case ku => ktr_units))); intro D' t1' t2' t3' c' h' tk' F' N' l1; (try k_lt l1); (try dsimp only); (try k_fold); walk_say "EASTER"))
local macro_rules | `(tactic| walk_at "call ref") => `(tactic| (k_here; k_dflt (
  (with_reducible show wpAny _ _ (call (Value.ref 172) _) _ _ _); refine' VlClaim.use (sunday _ _ _ _ _ _ _) ?k1 ?k2 ?k3 ?k4 ?k5 ?kK ?kp ?kd ?ku ?_; (case k1 => k_asm); (case k2 => k_asm); (case k3 => k_asm); (case k4 => k_asm); (case k5 => k_asm); (case kK => first | exact rfl | assumption); (case kp => refine ⟨⟨?_, ?_⟩, rfl, rfl⟩ <;> omega); (case kd => ktr_room); (case ku => ktr_units)); intro t9 h9 tk9 F9 N9; (try dsimp only); (try k_fold); walk_say "SUNDAY"))
local macro_rules | `(tactic| walk_at "binaryOp Mod int int") => `(tactic| (k_here; k_dflt (first
  | (refine' mod_letter 10000000000 ?h0 ?hM ?_; (case h0 => decide); (case hM => decide))
  | (refine' mod_letter 1000000000000 ?h0 ?hM ?_; (case h0 => decide); (case hM => decide))); intro r9 hr1 hr2 hr3; (try dsimp only); walk_say "LETTER"))

local macro_rules | `(tactic| walk_at "subscriptTail Name Slice ref ref") => `(tactic| (k_here; (with_reducible show wpAny _ _ (subscriptTail _ (PySem.Expr.Slice _ _ none _) (Value.ref _) (Value.ref _)) _ _ _); k_dflt (refine' cut_tuple (a := 1) ?F ?N ?T ?h1 ?ha ?hz ?he ?_ ?hs ?hg; (case F => k_asm); (case N => k_asm); (case T => exact News.isTup (by k_asm) (by k_mem)); (case h1 => decide); (case ha => exact Nat.le_of_ble_eq_true rfl); (case hz => kmk_size); (case he => exact rfl); (case hs => with_unfolding_all rfl); (case hg => kmk_pure)); intro D' h' F' N' l1; (try k_lt l1); (try k_sweep); walk_say "CUT"))


theorem whole : PySem.Challenge.rw_bd6016_01.Holds := hd (by
  k_with "pyIter ref" => k_search (fun _ => True)
  w_strict k_go)
end EasterW
end

set_option maxRecDepth 100000 in
set_option maxHeartbeats 8000000 in
theorem PySem.Challenge.cw_bd6016_01_holds : PySem.Challenge.rw_bd6016_01.Holds := by
  exact EasterW.whole
